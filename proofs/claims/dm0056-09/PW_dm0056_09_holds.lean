import PyProof.Rows.All
import Wide.All
import OpenK.AllK
import Wide.FinOn
import Open.Tops
import PyProof.DictItems
import KE.KDictList
import KE.KLam
import PyProof.Rows.SortWalk
import PyProof.Rows.SortShell
import KE.KSortTup
import PyProof.Rows.MinMaxN
import PyProof.Rows.SumAny
import PyProof.RulesDelMore
import OpenK.KWalk
import PySem.Challenge.RW_dm0056_09
set_option Elab.async false
set_option linter.all false
set_option tactic.hygienic false
set_option maxRecDepth 100000
set_option compiler.extract_closed false
set_option genCtorIdx false
namespace Mine.Internal
namespace Aq
open Lean
def T(s:String)(l:List Syntax):Syntax:=.node .none (.str `Lean.Parser.Tactic s) l.toArray
def M(s:String)(l:List Syntax):Syntax:=.node .none (.str `Lean.Parser.Term s) l.toArray
def R(s:String)(l:List Syntax):Syntax:=.node .none (.str `Lean.Parser.Tactic.rcasesPat s) l.toArray
def L(l:List Syntax):Syntax:=.node .none `null l.toArray
def a(s:String):Syntax:=.atom .none s
def id(s:String):Syntax:=mkIdent (.str .anonymous s)
def is(s:String)(x:Syntax):Bool:=x.getKind==.str `Lean.Parser.Term s
def mp(f:Syntax->Syntax)(l:List Syntax):List Syntax:=l.foldr (λx r=>f x::r) []
def fm(f:Nat->List Syntax)(n:Nat):List Syntax:=(List.range n).foldr (λi r=>f i++r) []
def sp(s:String)(l:List Syntax):Syntax:=L (l.foldr (λx r=>if r.isEmpty then [x] else x::a s::r) [])
def ar(x:Syntax):List Syntax:=x.getSepArgs.toList
def qs(l:List Syntax):Syntax:=T "tacticSeq" [T "tacticSeq1Indented" [sp ";" l]]
def qp(l:List Syntax):Syntax:=T "paren" [a "(",qs l,a ")"]
def qz(l:List Syntax):Syntax:=T "first" [a "first",L (mp (λx=>.node .none `group (.mk [a "|",qs [x]])) (l++[T "fail" [a "fail",L []]]))]
def qh:Syntax:=M "syntheticHole" [a "?",a "_"]
def ap(f:Syntax)(l:List Syntax):Syntax:=M "app" [f,L l]
def re(x:Syntax):Syntax:=T "refine" [a "refine",x]
def qr(s:String)(l:List Syntax):Syntax:=re (ap (mkIdent (.str `Ar s)) l)
def us:String:="e2_0 e2_1 i2_1 e3_0 e3_1 i3_1 e3_2 i3_2 e4_0 e4_1 i4_1 e4_2 i4_2 e4_3 i4_3 e5_0 e5_1 i5_1 e5_2 i5_2 e5_3 i5_3 e5_4 e6_0 e6_1 e6_2 i6_2 e6_3 i6_3 e6_4 i6_4 e6_5 i6_5 e7_0 i7_1 e7_2 i7_2 e7_3 i7_3 e7_4 i7_4 e8_2 i8_2 e8_3 i8_3 e8_4 i8_4 e9_0 e9_2 e9_3 i9_3 e9_4 i9_4 e9_5 i9_5 e9_7 i9_7 e9_8"
def ql(c:String)(n j:Nat)(l:List Syntax):List Syntax:=
 let x:=c++toString n++"_"++toString (n-j)
 if (us.splitOn " ").contains x then [qr x l] else []
def it(l:List Syntax):Syntax:=T "intro" [a "intro",L l]
def ty(x:Syntax):Syntax:=T "tacticTry_" [a "try",qs [x]]
def cl(x:Syntax):Syntax:=ty (T "clear" [a "clear",L [x]])
def sw(x:Syntax):Syntax:=T "show" [a "show",x]
def ho:Syntax:=M "hole" [a "_"]
def pt(j m:Nat):Syntax:=Nat.repeat (λt=>ap (id "Exists") [M "fun" [a "fun",M "basicFun" [L [ho],L [],a "=>",t]]]) j (Nat.repeat (λt=>ap (id "And") [ho,t]) (m-1) ho)
def mm(o:Option Syntax):MacroM Syntax:=o.elim Macro.throwUnsupported pure
def f1(x:Syntax):Option Syntax:=if x[3].getNumArgs>0||x[1][0].getNumArgs>0 then none else some (qp (mp (λr=>qz [qr (if r[0].getNumArgs==0 then "rwm" else "rwn") [ap r[1] [M "ellipsis" [a ".."]],qh],T "rewriteSeq" [a "rewrite",x[1],T "rwRuleSeq" [a "[",L [r],a "]"],x[3]]]) (ar x[2][1])++[ty (T "withReducible" [a "with_reducible",qs [T "tacticRfl" [a "rfl"]]])]))
def ob(r z:Syntax):Syntax:=T "obtain" [a "obtain",L [r],L [],L [a ":=",L [z]]]
def ot(r:Syntax):Syntax:=
 let y:=r[0][0][0]
 if r[1].getNumArgs==0&&r[0][0].getNumArgs==1&&y.getKind== `Lean.Parser.Tactic.rcasesPat.one&&y[0].getId != `rfl then it [y[0]] else qp [it [id "ζ"],ob r[0] (id "ζ")]
def f2(x:Syntax):Option Syntax:=
 let p:=x[1][0][0]
 let q:=ar p[0][1]
 let n:=q.length
 let t:=x[3][1][0]
 if p.getNumArgs != 1||x[2].getNumArgs != 0||n<2 then none else
 let k:=min n 9
 some (qp (qz (fm (λj=>ql "e" k (j+1) [t,qh]) k)::(if t.isIdent then [cl t] else [])++mp ot (if n<10 then q else q.take 8)++(if n<10 then [] else [qp [it [id "ζ"],ob (x[1][0].setArg 0 (p.setArg 0 (p[0].setArg 1 (sp "," (q.drop 8))))) (id "ζ")]])))
def f3(x:Syntax):Option Syntax:=
 let l:=ar x[1][1]
 let n:=l.length
 if !(is "anonymousCtor" x[1]||x[1].getKind== `«term#[_,]»)||n<2 then none else
 some (qp [sw (ap (id "Exists") [ho]),qz (fm (λi=>
  let k:=9-i
  let b:=l.take (k-1)
  if k==n||2<k&&k<n&&!b.any λs=>(s.find? (is "syntheticHole")).isSome then fm (λj=>mp (λs=>qp (sw (pt (k-j-1) (j+1))::s::(if k==n then [] else [x.setArg 1 (x[1].setArg 1 (sp "," (l.drop (k-1))))]))) (ql "i" k (j+1) (if k==n then l else b++[qh]))) (k-1) else []) 8)])
def f4(x:Syntax):Option Syntax:=
 let y:=x[1][0][1]
 let z:=id "ζ"
 let w:=id "ξ"
 let c (z:Syntax):Syntax:=x.setArg 1 (x[1].setArg 0 (x[1][0].setArg 1 z))
 let g (f:String) (v l:List Syntax):Syntax:=qp (qr f [y,qh]::cl y::it v::l)
 if !y.isIdent||x[1].getNumArgs != 1||x[1][0][0].getNumArgs+x[2].getNumArgs+x[3].getNumArgs != 0 then none else
 some (qz [g "x8" [z] [T "subst" [a "subst",L [z]]],qr "x0" [y],qr "x1" [y],g "x2" [z] [c z],g "x3" [z,w] [c z,c w],qr "x4" [y],qr "x5" [y]])
def dt(s:String):Syntax:=M "dotIdent" [a ".",id s]
def pa:Nat->Syntax->Syntax:=Nat.rec (λs=>s) λ_ f s=>T "rcasesPatMed" [L [if s.getKind== `«term#[_,]» then R "tuple" [a "⟨",sp "," (mp (λr=>T "rcasesPatLo" [f r,L []]) (ar s[1])),a "⟩"] else if is "hole" s then R "ignore" [s] else R "one" [s]]]
end Aq
open Lean in
local macro_rules (kind:=Lean.Parser.Tactic.show)
 |x=>Aq.mm (some (Aq.qz [Aq.T "exact" [Aq.a "exact",x[1]],Aq.re (Aq.M "typeAscription" [Aq.M "hygienicLParen" [Aq.a "(",.node .none `hygieneInfo (.mk [mkIdent .anonymous])],Aq.qh,Aq.a ":",Aq.L [x[1]],Aq.a ")"])]))
open Lean in
local macro_rules (kind:=Lean.Parser.Tactic.rwSeq)
 |x=>Aq.mm (Aq.f1 x)
open Lean in
local macro_rules (kind:=Lean.Parser.Tactic.obtain)
 |x=>Aq.mm (Aq.f2 x)
open Lean in
local macro_rules (kind:=Lean.Parser.Tactic.refine)
 |x=>Aq.mm (Aq.f3 x)
open Lean in
local macro_rules (kind:=Lean.Parser.Tactic.cases)
 |x=>Aq.mm (Aq.f4 x)
open Lean in
local macro_rules (kind:=Lean.Parser.Tactic.apply)
 |x=>Aq.mm (some (Aq.re x[1]))
open Lean in
local macro_rules (kind:=«term%[_|_]»)
 |x=>Aq.mm (if x[3].isNatLit? == some 0 then some ((Aq.ar x[1]).foldr (λe r=>Aq.ap (Aq.dt "cons") [e,r]) (Aq.dt "nil")) else none)
open Lean in
local macro_rules (kind:=Lean.Parser.Tactic.tacticHave__)
 |x=>
  let d:=x[2][0]
  let b:=d[0].getKind== `«term#[_,]»
  Aq.mm (if b||d[0][0].getId== `rfl then some (Aq.T "obtain" [Aq.a "obtain",Aq.L [Aq.pa 9 (if b then d[0] else d[0][0])],Aq.L d[2][0].getArgs.toList,Aq.L [Aq.a ":=",Aq.L [d[4]]]]) else none)
open Lean in
local macro_rules (kind:=Vector.«term#v[_,]»)
 |x=>Aq.mm (some (Aq.ap (mkIdent `List.toArray) [.node .none `«term[_]» (.mk [Aq.a "[",x[1],Aq.a "]"])]))
open Lean in
def Ar.st(x:Syntax):Syntax:=
 let y:=x.rewriteBottomUp λs=>match s with
 |.node _ k a=>.node .none k a
 |.atom _ v=>.atom .none v
 |.ident _ r v p=>.ident .none r v p
 |s=>s
 let d:=y[1]
 let f:=d.getKind== `Lean.Parser.Command.definition
 let a:=d.getKind== `Lean.Parser.Command.abbrev
 let m k l:=((y.setArg 0 ((y[0].setArg 2 mkNullNode).setArg 4 (mkNullNode (.mk [mkNode `Lean.Parser.Command.noncomputable (.mk [mkAtom "noncomputable"])])))).setArg 1 (mkNode k (.mk ([d[0],d[1],d[2],d[3]]++l))))
 if y[0][1].getNumArgs+y[0][4].getNumArgs != 0 then y
 else if f&&d[2][1].getNumArgs != 0&&!(d[2][0].getNumArgs==0&&[`N,`E,`P].contains d[2][1][0][1].getId) then y.setArg 1 (mkNode `Lean.Parser.Command.theorem (.mk [d[0],d[1],mkNode `Lean.Parser.Command.declSig (.mk [d[2][0],d[2][1][0]]),d[3]]))
 else if f||a&&y[0][2].getNumArgs != 0 then m `Lean.Parser.Command.abbrev []
 else if a then m `Lean.Parser.Command.definition [mkNullNode] else y
open Lean in
local macro_rules (kind:=Lean.Parser.Command.declaration)
 |x=>if x.getPos?.isNone||x[1][1][0].getId.getRoot==`PySem then Macro.throwUnsupported else return Ar.st x
open Lean in
local macro_rules (kind:=«term#[_,]»)
 |x=>return mkNode `Lean.Parser.Term.anonymousCtor #[mkAtom "⟨",x[1],mkAtom "⟩"]
def QqV:=PySem.Value->PySem.Shared->Prop
set_option bootstrap.genMatcherCode false
namespace Mine.Z
abbrev aa:=@Nat.sub_add_cancel
abbrev ab:=@PySem.wpAny_bind
abbrev ae:=@PySem.wpAny_pure
abbrev af:=@Option.some.inj
abbrev ah:=@Nat.lt_or_gt_of_ne
abbrev ak:=@List.length_map
abbrev aq:=@List.getElem?_eq_getElem
abbrev au:=@List.mem_singleton
abbrev av:=@List.getElem?_eq_some_iff
abbrev aw:=@List.length_append
abbrev az:=@Nat.le_refl
abbrev bb:=@Nat.zero_le
abbrev bh:=@List.getElem?_append_right
abbrev bq:=@List.append_assoc
abbrev br:=@if_neg
abbrev bw:=@PySem.Heap.get?_push_of_some
abbrev bz:=@Nat.le_of_ble_eq_true
abbrev cf:=@List.drop_eq_getElem_cons
abbrev cg:=@of_decide_eq_true
abbrev cj:=@List.getElem_mem
abbrev cn:=@if_pos
abbrev cp:=@PyProof.Rows.wpS_bind
abbrev cq:=@List.mem_append
abbrev cu:=@List.map_append
abbrev cv:=@Classical.not_and_iff_not_or_not
abbrev cw:=@List.mem_cons
abbrev cy:=@List.getElem?_map
abbrev cz:=@Option.isSome_iff_exists
abbrev dg:=@List.append_nil
abbrev dh:=@PyProof.Rows.wpS_pure
abbrev dj:=@congrArg
abbrev dk:=@List.mem_append_left
abbrev dp:=@List.size_toArray
abbrev dq:=@List.getElem?_append_left
abbrev dt:=@List.mem_append_right
abbrev du:=@PySem.wpAny_mono
abbrev dw:=@PySem.wpAny_holding
abbrev dz:=@List.take_succ_eq_append_getElem
abbrev eg:=@List.mem_map
abbrev eh:=@List.take_append_drop
abbrev fb:=@List.length_take
abbrev fe:=@List.mem_of_getElem?
abbrev fj:=@PySem.Heap.get?_push_size
abbrev fo:=@List.take_length
abbrev fp:=@Bool.and_eq_true
abbrev fq:=@PySem.builtinLookup_eq_fast
abbrev fu:=@List.mem_iff_getElem
abbrev fw:=@decide_eq_false
abbrev fy:=@beq_iff_eq
abbrev gc:=@PySem.wpAny_of_eq
abbrev gf:=@Option.bind_eq_some_iff
abbrev gj:=@List.mem_range
abbrev gp:=@Bool.false_eq_true
abbrev gq:=@Bool.false_ne_true
abbrev gx:=@Option.some.injEq
abbrev gz:=@List.length_drop
abbrev ic:=@decide_eq_true
abbrev ip:=@PySem.typeLookup_type
abbrev ir:=@List.length_cons
abbrev iv:=@List.length_singleton
abbrev iw:=@List.flatMap_cons
abbrev iy:=@List.length_reverse
abbrev jd:=@PySem.wpAny_standAt
abbrev je:=@Nat.lt_of_succ_lt
abbrev jf:=@List.map_map
abbrev jg:=@Bool.not_eq_true'
abbrev jh:=@PySem.Heap.size_push
abbrev jk:=@List.pairwise_singleton
abbrev jl:=@List.getD_eq_getElem?_getD
abbrev jm:=@List.reverse_cons
abbrev jo:=@List.pairwise_append
abbrev jr:=@Option.map_eq_some_iff
abbrev jy:=@List.all_eq_true
abbrev jz:=@PySem.Heap.lt_size
abbrev kc:=@List.length_range
abbrev kg:=@Nat.lt_irrefl
abbrev kh:=@List.map_cons
abbrev kj:=@Nat.ne_of_lt
abbrev km:=@Nat.le_add_right
abbrev kn:=@Classical.byContradiction
abbrev kr:=@List.flatMap_append
abbrev kx:=@congrFun
abbrev ky:=@Nat.zero_add
abbrev kz:=@Nat.le_trans
abbrev lq:=@Nat.lt_or_eq_of_le
abbrev lu:=@List.pairwise_cons
abbrev md:=@if_false
abbrev mi:=@List.reverse_perm
abbrev mj:=@PyProof.Rows.wpS_mono
abbrev mn:=@beq_eq_false_iff_ne
abbrev mw:=@PySem.wpAny_newObj_type
abbrev mx:=@PySem.isSubtype_type
abbrev nc:=@List.mem_reverse
abbrev nu:=@Nat.succ.inj
abbrev nv:=@Nat.le_of_lt
abbrev nz:=@List.mem_of_mem_take
abbrev oe:=@PySem.wpAny_call_entry
abbrev oh:=@Nat.add_sub_cancel_left
abbrev oj:=@List.getElem_take
abbrev oo:=@Nat.sub_le
abbrev pf:=@Nat.lt_or_ge
abbrev pg:=@Prod.mk.inj
abbrev ph:=@decide_eq_decide
abbrev pq:=@List.forIn_nil
abbrev pv:=@Int.lt_or_gt_of_ne
abbrev pz:=@List.getElem?_eq_none
abbrev qi:=@List.forIn_cons
abbrev qo:=@PySem.F.slot_tuple_iterator_next
abbrev qq:=@Int.toNat_natCast
abbrev rh:=@List.Pairwise.imp_of_mem
abbrev rk:=@PyProof.Rows.wpS_forRange
abbrev rt:=@PySem.wpAny_loadPart_at
abbrev ru:=@List.lookup_eq_none_iff
abbrev rv:=@List.drop_zero
abbrev rz:=@List.drop_length
abbrev sd:=@PySem.Heap.get?_none_of_le
abbrev sr:=@PySem.wpAny_rule
abbrev su:=@PySem.wpAny_call
abbrev tc:=@List.eq_nil_of_length_eq_zero
abbrev tg:=@Nat.not_lt
abbrev ti:=@Nat.lt_of_lt_of_le
abbrev ua:=@PySem.wpAny_execs_cons
abbrev ui:=@Prod.mk.injEq
abbrev uj:=@Nat.add_assoc
abbrev uk:=@List.sum_cons
abbrev uq:=@not_or
abbrev uw:=@PySem.Heap.get?_update_other
abbrev vf:=@PySem.codeAny_of_tree
abbrev vh:=@List.exists_cons_of_length_eq_add_one
abbrev vi:=@Int.zero_add
abbrev vj:=@PySem.wpAny_truthy_bool
abbrev vl:=@Option.isNone_iff_eq_none
abbrev vm:=@List.pairwise_iff_getElem
abbrev wg:=@List.getElem?_range
abbrev xd:=@PySem.wpAny_seqItems
abbrev xf:=@Ne.symm
abbrev xg:=@Nat.not_lt_zero
abbrev xh:=@Nat.min_eq_left
abbrev xi:=@Bool.or_eq_true
abbrev xq:=@of_decide_eq_false
abbrev xr:=@Option.isSome_none
abbrev xu:=@List.getElem?_cons_succ
abbrev ye:=@PySem.Heap.SameBut.update
abbrev zc:=@Prod.ext
abbrev zd:=@Bool.eq_false_iff
abbrev ze:=@PySem.codeAny_builtin
abbrev zf:=@PySem.Heap.Ns.of_isNs
abbrev zh:=@PySem.wpAny_load
abbrev zi:=@PySem.call_meets
abbrev zx:=@Nat.succ_le_succ
abbrev zy:=@List.not_mem_nil
abbrev aE:=@List.flatMap_nil
abbrev aO:=@List.cons_append
abbrev bO:=@if_true
abbrev cO:=@Bool.not_true
abbrev dI:=@Nat.le_succ
abbrev dJ:=@List.mem_of_mem_drop
abbrev dY:=@beq_false_of_ne
abbrev eH:=@PySem.Heap.get?_update_self
abbrev eN:=@PySem.entryFor_of_tree
abbrev eO:=@Int.le_of_eq
abbrev fJ:=@le_of_le_of_eq
abbrev fK:=@PySem.codeAny_call_builtin
abbrev fL:=@PyProof.Rows.callWith_type
abbrev fO:=@Option.none_or
abbrev fP:=@List.filter_append
abbrev fQ:=@Int.fmod_eq_emod_of_nonneg
abbrev fR:=@Array.ext_getElem?
abbrev fS:=@PySem.Around.under_plainId
abbrev gG:=@PySem.wpAny_specialOf
abbrev gH:=@List.getElem?_eq_none_iff
abbrev gS:=@decide_eq_true_eq
abbrev gT:=@List.pairwise_map
abbrev gU:=@Classical.not_not
abbrev i5:=@PySem.wpAny_typeOf
abbrev i6:=@PySem.F.slot_list_append
abbrev i7:=@Bool.or_false
abbrev i8:=@PyProof.Rows.wpS_modify
abbrev iX:=@PySem.wpAny_loadPart
abbrev iY:=@decide_eq_false_iff_not
abbrev iZ:=@beq_self_eq_true
abbrev j3:=@Nat.succ_ne_zero
abbrev j4:=@List.lookup_cons
abbrev j5:=@List.isEmpty_iff
abbrev j6:=@List.flatten_nil
abbrev j7:=@List.filter_cons_of_pos
abbrev j8:=@List.filter_cons_of_neg
abbrev j9:=@PySem.Code.quiet_builtin
abbrev jW:=@List.take_of_length_le
abbrev jX:=@List.pairwise_lt_range
abbrev jY:=@List.drop_eq_nil_of_le
abbrev kR:=@PySem.wpAny_field
abbrev kS:=@PySem.Calls.spliced_nil
abbrev lD:=@PySem.signature?_of
abbrev lE:=@Nat.sub_eq_zero_of_le
abbrev lF:=@List.singleton_append
abbrev lG:=@List.perm_append_comm
abbrev lH:=@List.length_filter_le
abbrev lI:=@List.Perm.append_left
abbrev oB:=@PySem.wpAny_callSpecial?_slot
abbrev oC:=@PySem.wpAny_askSetting
abbrev oD:=@List.drop_eq_nil_iff
abbrev qJ:=@List.ne_and_not_mem_of_not_mem_cons
abbrev sU:=@PyProof.Rows.wpS_get
abbrev sV:=@PySem.F.args_tuple_iterator_next_1
abbrev sW:=@PySem.F.entry_tuple_iterator_next
abbrev FW:=@PySem.slot_list_getitem
end Mine.Z
open Mine.Z
section
namespace Ar
set_option genSizeOf false
set_option genInjectivity false
inductive N where
 |v (i:Nat)
 |n (k:Nat)
 |a (x y:N)
 |m (k:Nat) (x:N)
 |r (x:N) (k:Nat)
inductive E where
 |v (i:Nat)
 |n (k:Int)
 |a (x y:E)
 |s (x y:E)
 |m (k:Int) (x:E)
 |r (x:E) (k:Int)
 |g (x:E)
 |t (x:N)
set_option genCtorIdx true in
inductive R where
 |lt|le|eq|ge|gt|ne
inductive P where
 |i (r:R) (x y:E)
 |n (r:R) (x y:N)
 |ff
structure Q where
 r:R
 x:E
 y:E
public abbrev hd (d:α):List α->α
 | []=>d
 |x::_=>x
public abbrev tl:List α->List α
 | []=>[]
 |_::l=>l
public abbrev nth (d:α):Nat->List α->α
 |0=>hd d
 |i+1=>λl=>nth d i (tl l)
public abbrev N.d (k:List Nat):N->Nat
 |.v i=>nth 0 i k
 |.n c=>c
 |.a x y=>x.d k+y.d k
 |.m c x=>c*x.d k
 |.r x c=>x.d k*c
public abbrev E.d (c:List Int)(k:List Nat):E->Int
 |.v i=>nth 0 i c
 |.n j=>j
 |.a x y=>x.d c k+y.d c k
 |.s x y=>x.d c k-y.d c k
 |.m i x=>i*x.d c k
 |.r x i=>x.d c k*i
 |.g x=>- x.d c k
 |.t x=>(x.d k:Int)
public abbrev R.i (a b:Int):R->Prop
 |.lt=>a<b
 |.le=>a<=b
 |.eq=>a=b
 |.ge=>¬a<b
 |.gt=>¬a<=b
 |.ne=>¬a=b
public abbrev R.n (a b:Nat):R->Prop
 |.lt=>a<b
 |.le=>a<=b
 |.eq=>a=b
 |.ge=>¬a<b
 |.gt=>¬a<=b
 |.ne=>¬a=b
public abbrev P.h (c:List Int)(k:List Nat):P->Prop
 |.i r x y=>r.i (x.d c k) (y.d c k)
 |.n r x y=>r.n (x.d k) (y.d k)
 |.ff=>False
def R.n_i {a b:Nat}:(r:R)->r.n a b->r.i (a:Int) (b:Int)
 |.lt=>Int.ofNat_lt.mpr
 |.le=>Int.ofNat_le.mpr
 |.eq=>λh=>dj _ h
 |.ge=>λh e=>h (Int.ofNat_lt.mp e)
 |.gt=>λh e=>h (Int.ofNat_le.mp e)
 |.ne=>λh e=>h (Int.ofNat.inj e)
def R.i_n {a b:Nat}:(r:R)->r.i (a:Int) (b:Int)->r.n a b
 |.lt=>Int.ofNat_lt.mp
 |.le=>Int.ofNat_le.mp
 |.eq=>λh=>Int.ofNat.inj h
 |.ge=>λh e=>h (Int.ofNat_lt.mpr e)
 |.gt=>λh e=>h (Int.ofNat_le.mpr e)
 |.ne=>λh e=>h (dj _ e)
def ad {a b c d:Int}(h:a=c)(e:b=d):a+b=c+d:=h▸e▸rfl
def sb {a b c d:Int}(h:a=c)(e:b=d):a-b=c-d:=h▸e▸rfl
def aac (a b c d:Int):a+b+(c+d)=a+c+(b+d):=by omega
def Q0 {a b:Int}(h:a<0)(e:b<=0):a+b<0:=Int.add_neg_of_neg_of_nonpos h e
def ltd {a b:Int}(h:a<b):0<=b-a+-1:=by omega
abbrev S:List Int->(Nat->Int)->Int
 | []=>λ_=>0
 |y::l=>λf=>f 0*y+S l λj=>f (j+1)
abbrev dl (i j:Nat):Int:=bif Nat.beq i j then 1 else 0
def FN:(l:List Int)->(f g:Nat->Int)->S l (λj=>f j+g j)=S l f+S l g
 | [],_,_=>rfl
 |y::l,f,g=>(ad (Int.add_mul (f 0) (g 0) y) (FN l (λj=>f (j+1)) λj=>g (j+1))).trans (aac _ _ _ _)
def FL (i:Int):(l:List Int)->(f:Nat->Int)->S l (λj=>i*f j)=i*S l f
 | [],_=>(Int.mul_zero i).symm
 |y::l,f=>(ad (Int.mul_assoc i (f 0) y) (FL i l λj=>f (j+1))).trans (Int.mul_add ..).symm
def jU:(l:List Int)->S l (λ_=>0)=0
 | []=>rfl
 |y::l=>(ad (Int.zero_mul y) (jU l)).trans (vi 0)
def zJ:(i:Nat)->(l:List Int)->S l (dl i)=nth 0 i l
 |0,[]=>rfl
 |0,y::l=>(ad (Int.one_mul y) (jU l)).trans (Int.add_zero y)
 |i+1,[]=>zJ i []
 |i+1,y::l=>(ad (Int.zero_mul y) (zJ i l)).trans (vi _)
abbrev up:List Nat->List Int
 | []=>[]
 |x::l=>(x:Int)::up l
def w4:(i:Nat)->(l:List Nat)->nth 0 i (up l)=(nth 0 i l:Nat)
 |0,[]=>rfl
 |0,_::_=>rfl
 |i+1,[]=>w4 i []
 |i+1,_::l=>w4 i l
structure L where
 k:Int
 c:Nat->Int
 n:Nat->Int
abbrev L.d (c k:List Int)(l:L):Int:=l.k+(S c l.c+S k l.n)
abbrev L.add (l m:L):L:=#[l.k+m.k,λj=>l.c j+m.c j,λj=>l.n j+m.n j]
abbrev L.scl (i:Int)(l:L):L:=#[i*l.k,λj=>i*l.c j,λj=>i*l.n j]
abbrev L.num (i:Int):L:=#[i,λ_=>0,λ_=>0]
def L.uV {c k:List Int}(l m:L):(l.add m).d c k=l.d c k+m.d c k:=
 (dj (l.k+m.k+·) ((ad (FN ..) (FN ..)).trans (aac _ _ _ _))).trans (aac _ _ _ _)
def L.nJ {c k:List Int}(i:Int)(l:L):(l.scl i).d c k=i*l.d c k:=
 (dj (i*l.k+·) ((ad (FL ..) (FL ..)).trans (Int.mul_add ..).symm)).trans (Int.mul_add ..).symm
def L.uU {c k:List Int}(i:Int):(L.num i).d c k=i:=
 (dj (i+·) ((ad (jU c) (jU k)).trans (vi 0))).trans (Int.add_zero i)
abbrev N.l:N->L
 |.v i=>#[0,λ_=>0,dl i]
 |.n c=>.num c
 |.a x y=>x.l.add y.l
 |.m c x=>x.l.scl c
 |.r x c=>x.l.scl c
abbrev E.l:E->L
 |.v i=>#[0,dl i,λ_=>0]
 |.n j=>.num j
 |.a x y=>x.l.add y.l
 |.s x y=>x.l.add (y.l.scl (-1))
 |.m i x=>x.l.scl i
 |.r x i=>x.l.scl i
 |.g x=>x.l.scl (-1)
 |.t x=>x.l
def N.l_d {c:List Int}{k:List Nat}:(x:N)->x.l.d c (up k)=(x.d k:Nat)
 |.v i=>(vi _).trans ((ad (jU c) ((zJ i (up k)).trans (w4 i k))).trans (vi _))
 |.n i=>L.uU (i:Int)
 |.a x y=>(L.uV x.l y.l).trans ((ad (N.l_d x) (N.l_d y)))
 |.m i x=>(L.nJ i x.l).trans ((dj ((i:Int)*·) (N.l_d x)))
 |.r x i=>(L.nJ i x.l).trans ((dj ((i:Int)*·) (N.l_d x)).trans (Int.mul_comm ..))
def pD {c k:List Int}(x y:L):(x.add (y.scl (-1))).d c k=x.d c k-y.d c k:=
 (L.uV ..).trans (dj (x.d c k+·) ((L.nJ ..).trans (Int.neg_one_mul _)))
def E.l_d {c:List Int}{k:List Nat}:(x:E)->x.l.d c (up k)=x.d c k
 |.v i=>(vi _).trans ((ad (zJ i c) (jU (up k))).trans (Int.add_zero _))
 |.n i=>L.uU i
 |.a x y=>(L.uV x.l y.l).trans ((ad (E.l_d x) (E.l_d y)))
 |.s x y=>(pD x.l y.l).trans ((sb (E.l_d x) (E.l_d y)))
 |.m i x=>(L.nJ i x.l).trans ((dj (i*·) (E.l_d x)))
 |.r x i=>(L.nJ i x.l).trans ((dj (i*·) (E.l_d x)).trans (Int.mul_comm ..))
 |.g x=>(L.nJ (-1) x.l).trans ((Int.neg_one_mul _).trans (dj (- ·) (E.l_d x)))
 |.t x=>N.l_d x
abbrev R.l (x y:L):R->L
 |.lt=>(y.add (x.scl (-1))).add (.num (-1))
 |.le=>y.add (x.scl (-1))
 |.eq=>y.add (x.scl (-1))
 |.ge=>x.add (y.scl (-1))
 |.gt=>(x.add (y.scl (-1))).add (.num (-1))
 |.ne=>.num 0
def less {c k:List Int}{x y:L}(h:x.d c k<y.d c k):0<=((y.add (x.scl (-1))).add (.num (-1))).d c k:=
 fJ (ltd h) ((L.uV ..).trans (ad (pD y x) (L.uU (-1)))).symm
def R.l_d {c k:List Int}{x y:L}:(r:R)->r.i (x.d c k) (y.d c k)->0<=(r.l x y).d c k
 |.lt=>λh=>less h
 |.le=>λh=>fJ (Int.sub_nonneg_of_le h) (pD y x).symm
 |.eq=>λh=>fJ (Int.sub_nonneg_of_le (eO h)) (pD y x).symm
 |.ge=>λh=>fJ (Int.sub_nonneg_of_le (Int.not_lt.mp h)) (pD x y).symm
 |.gt=>λh=>less (Int.not_le.mp h)
 |.ne=>λ_=>eO (L.uU 0).symm
def R.QF {a b Y Z:Int}(r:R)(W:a=Y)(X:b=Z)(h:r.i Y Z):r.i a b:=by subst W X;show h
abbrev Q.h (c:List Int)(k:List Nat)(q:Q):Prop:=q.r.i (q.x.d c k) (q.y.d c k)
abbrev Q.l (q:Q):L:=q.r.l q.x.l q.y.l
def Q.l_d {c:List Int}{k:List Nat}{q:Q}(h:q.h c k):0<=q.l.d c (up k):=
 R.l_d q.r (R.QF q.r (E.l_d q.x) (E.l_d q.y) h)
abbrev R.e:R->Bool
 |.eq=>true
 |_=>false
def R.e_d {a b:Int}:(r:R)->r.e=true->r.i a b->r=.eq/\a=b
 |.eq=>λ_ h=>#[rfl,h]
 |.lt=>λe=>Bool.noConfusion e
 |.le=>λe=>Bool.noConfusion e
 |.ge=>λe=>Bool.noConfusion e
 |.gt=>λe=>Bool.noConfusion e
 |.ne=>λe=>Bool.noConfusion e
def Q.e_d {c:List Int}{k:List Nat}{q:Q}(e:q.r.e=true)(h:q.h c k):q.l.d c (up k)=0:=by
 have#[r,x,y]:=q;have#[rfl,h]:=R.e_d r e h;show(pD y.l x.l).trans ((sb (E.l_d y) (E.l_d x)).trans (Int.sub_eq_zero_of_eq h.symm))
abbrev P.q:P->Q
 |.i r x y=>#[r,x,y]
 |.n r x y=>#[r,.t x,.t y]
 |.ff=>#[.ne,.n 0,.n 0]
def P.to {c:List Int}{k:List Nat}:{p:P}->p.h c k->p.q.h c k
 |.i _ _ _=>id
 |.n r _ _=>R.n_i r
 |.ff=>False.elim
def P.of {c:List Int}{k:List Nat}:(p:P)->p.q.h c k->p.h c k
 |.i _ _ _=>id
 |.n r _ _=>R.i_n r
 |.ff=>λh=>h rfl
abbrev sum:List Q->List Int->L
 | []=>λ_=>.num 0
 |q::qs=>λms=>(q.l.scl (ms.headD 0)).add (sum qs ms.tail)
abbrev good:List Q->List Int->Bool
 | []=>λ_=>true
 |q::qs=>λms=>(q.r.e||decide (0<=ms.headD 0))&&good qs ms.tail
abbrev All (c:List Int)(k:List Nat):List Q->Prop
 | []=>True
 |q::qs=>q.h c k/\All c k qs
def band {a b:Bool}:(a&&b)=true->a=true/\b=true:=(fp a b).mp
def K7 {c:List Int}{k:List Nat}:(qs:List Q)->(Z:List Int)->good qs Z=true->All c k qs->0<=(sum qs Z).d c (up k)
 | []=>λ_ _ _=>eO (L.uU 0).symm
 |q::qs=>λZ Y h=>fJ
   (Int.add_nonneg (((xi ..).mp (band Y).1).elim
    (λe=>eO ((dj (Z.headD 0*·) (Q.e_d e h.1)).trans (Int.mul_zero _)).symm)
    (λe=>Int.mul_nonneg (cg e) (Q.l_d h.1))) (K7 qs Z.tail (band Y).2 h.2))
   ((L.uV ..).trans (ad (L.nJ ..) rfl)).symm
abbrev zero:List Int->(Nat->Int)->Bool
 | []=>λ_=>true
 |_::l=>λf=>decide (f 0=0)&&zero l λj=>f (j+1)
abbrev LY:List Nat->(Nat->Int)->Bool
 | []=>λ_=>true
 |_::l=>λf=>decide (f 0<=0)&&LY l λj=>f (j+1)
def BG:(l:List Int)->(f:Nat->Int)->zero l f=true->S l f=0
 | []=>λ_ _=>rfl
 |y::l=>λf h=>(ad ((dj (·*y) (cg (band h).1)).trans (Int.zero_mul y)) (BG l _ (band h).2)).trans (vi 0)
def DN:(l:List Nat)->(f:Nat->Int)->LY l f=true->S (up l) f<=0
 | []=>λ_ _=>Int.le_refl _
 |y::l=>λf h=>Int.add_le_add (Int.mul_nonpos_of_nonpos_of_nonneg (cg (band h).1) (Int.natCast_nonneg y)) (DN l _ (band h).2)
abbrev ok (c:List Int)(k:List Nat)(qs:List Q)(ms:List Int):Bool:=
 good qs ms&&(decide ((sum qs ms).k<0)&&(zero c (sum qs ms).c&&LY k (sum qs ms).n))
def PY {c:List Int}{k:List Nat}{qs:List Q}{Z:List Int}(h:ok c k qs Z=true)(W:All c k qs):False:=
 have X:=band (band h).2;have Y:=band X.2
 Int.not_lt.mpr (K7 qs Z (band h).1 W) (Q0 (cg X.1) (Int.le_trans (eO ((ad (BG c _ Y.1) rfl).trans (vi _))) (DN k _ Y.2)))
abbrev R.M1:R->List R
 |.lt=>[.ge]
 |.le=>[.gt]
 |.eq=>[.lt,.gt]
 |.ge=>[.lt]
 |.gt=>[.le]
 |.ne=>[.eq]
def R.neg {a b:Int}:(r:R)->(∀s,s∈r.M1->¬s.i a b)->r.i a b
 |.lt=>λh=>Decidable.not_not.mp (h .ge (.head _))
 |.le=>λh=>Decidable.not_not.mp (h .gt (.head _))
 |.eq=>λh=>Int.le_antisymm (Decidable.not_not.mp (h .gt (.tail _ (.head _)))) (Int.not_lt.mp (h .lt (.head _)))
 |.ge=>λh=>h .lt (.head _)
 |.gt=>λh=>h .le (.head _)
 |.ne=>λh=>h .eq (.head _)
abbrev oks (c:List Int)(k:List Nat)(x y:E)(qs:List Q):List R->List (List Int)->Bool
 | []=>λ_=>true
 |r::rs=>λms=>ok c k (#[r,x,y]::qs) (ms.headD [])&&oks c k x y qs rs ms.tail
def K9 {c:List Int}{k:List Nat}{x y:E}{qs:List Q}(X:All c k qs):(Y:List R)->(Z:List (List Int))->oks c k x y qs Y Z=true->∀s,s∈Y->¬s.i (x.d c k) (y.d c k)
 |_,_,h,_,.head _=>λW=>PY (band h).1 #[W,X]
 |_,Z,h,s,.tail _ m=>K9 X _ Z.tail (band h).2 s m
abbrev chk (c:List Int)(k:List Nat)(g:P)(ps:List P)(ms:List (List Int)):Bool:=
 oks c k g.q.x g.q.y (ps.map P.q) g.q.r.M1 ms
def main {c:List Int}{k:List Nat}{g:P}(Z:List P){Y:List (List Int)}(h:chk c k g Z Y=true)(X:All c k (Z.map P.q)):g.h c k:=
 P.of g (R.neg g.q.r (K9 X g.q.r.M1 Y h))
def M:=List (List Int)
def a0 (c:List Int)(k:List Nat)(g:P)(Z:M)(Y:chk c k g [] Z=true:=by show Ar.y):g.h c k:=main [] Y trivial
def a1 (c:List Int)(k:List Nat)(g:P)(Y:M)(Z:P)(W:Z.h c k)(X:chk c k g [Z] Y=true:=by show Ar.y):g.h c k:=main [Z] X #[P.to W,trivial]
def a2 (c:List Int)(k:List Nat)(g:P)(X:M)(Y Z:P)(T:Y.h c k)(U:Z.h c k)(W:chk c k g [Y,Z] X=true:=by show Ar.y):g.h c k:=main [Y,Z] W #[P.to T,P.to U,trivial]
def a3 (c:List Int)(k:List Nat)(g:P)(W:M)(X Y Z:P)(K:X.h c k)(O:Y.h c k)(T:Z.h c k)(U:chk c k g [X,Y,Z] W=true:=by show Ar.y):g.h c k:=main [X,Y,Z] U #[P.to K,P.to O,P.to T,trivial]
def a4 (c:List Int)(k:List Nat)(g:P)(U:M)(W X Y Z:P)(I:W.h c k)(J:X.h c k)(K:Y.h c k)(O:Z.h c k)(T:chk c k g [W,X,Y,Z] U=true:=by show Ar.y):g.h c k:=main [W,X,Y,Z] T #[P.to I,P.to J,P.to K,P.to O,trivial]
def a5 (c:List Int)(k:List Nat)(g:P)(T:M)(U W X Y Z:P)(G:U.h c k)(H:W.h c k)(I:X.h c k)(J:Y.h c k)(K:Z.h c k)(O:chk c k g [U,W,X,Y,Z] T=true:=by show Ar.y):g.h c k:=main [U,W,X,Y,Z] O #[P.to G,P.to H,P.to I,P.to J,P.to K,trivial]
def a6 (c:List Int)(k:List Nat)(g:P)(O:M)(T U W X Y Z:P)(C:T.h c k)(D:U.h c k)(G:W.h c k)(H:X.h c k)(I:Y.h c k)(J:Z.h c k)(K:chk c k g [T,U,W,X,Y,Z] O=true:=by show Ar.y):g.h c k:=main [T,U,W,X,Y,Z] K #[P.to C,P.to D,P.to G,P.to H,P.to I,P.to J,trivial]
def a7 (c:List Int)(k:List Nat)(g:P)(K:M)(O T U W X Y Z:P)(A:O.h c k)(B:T.h c k)(C:U.h c k)(D:W.h c k)(G:X.h c k)(H:Y.h c k)(I:Z.h c k)(J:chk c k g [O,T,U,W,X,Y,Z] K=true:=by show Ar.y):g.h c k:=main [O,T,U,W,X,Y,Z] J #[P.to A,P.to B,P.to C,P.to D,P.to G,P.to H,P.to I,trivial]
def a8 (c:List Int)(k:List Nat)(g:P)(J:M)(K O T U W X Y Z:P)(x:K.h c k)(z:O.h c k)(A:T.h c k)(B:U.h c k)(C:W.h c k)(D:X.h c k)(G:Y.h c k)(H:Z.h c k)(I:chk c k g [K,O,T,U,W,X,Y,Z] J=true:=by show Ar.y):g.h c k:=main [K,O,T,U,W,X,Y,Z] I #[P.to x,P.to z,P.to A,P.to B,P.to C,P.to D,P.to G,P.to H,trivial]
def y:true=true:=rfl
def N.A:N:=.v 0
def E.A:E:=.v 0
def N.B:N:=.v 1
def E.B:E:=.v 1
def N.C:N:=.v 2
def E.C:E:=.v 2
def N.D:N:=.v 3
def E.D:E:=.v 3
def N.F:N:=.v 4
def N.G:N:=.v 5
def N.H:N:=.v 6
def N.I:N:=.v 7
def N.J:N:=.v 8
def N.K:N:=.v 9
def N.O:N:=.n 0
def E.O:E:=.n 0
def N.U:N:=.n 1
def E.U:E:=.n 1
def N.W:N:=.n 2
def E.W:E:=.n 2
public abbrev P.l (x y:N):P:=.n .lt x y
public abbrev P.il (x y:E):P:=.i .lt x y
public abbrev P.k (x y:N):P:=.n .le x y
public abbrev P.ik (x y:E):P:=.i .le x y
public abbrev P.e (x y:N):P:=.n .eq x y
public abbrev P.ie (x y:E):P:=.i .eq x y
public abbrev P.g (x y:N):P:=.n .ge x y
public abbrev P.ig (x y:E):P:=.i .ge x y
public abbrev P.j (x y:N):P:=.n .gt x y
public abbrev P.ij (x y:E):P:=.i .gt x y
public abbrev P.u (x y:N):P:=.n .ne x y
public abbrev P.iu (x y:E):P:=.i .ne x y
public abbrev E.ng (k:Int):E:=.n (-k)
def NL (x y:Nat):x<=x-y+y:=Nat.sub_le_iff_le_add.mp (az _)
def imp {a b:Prop}(h:a->b):¬a\/b:=(Classical.em a).elim (λx=>.inr (h x)) .inl
def eJ (x k:Nat)(h:0<k):x%k<k/\k*(x/k)+x%k=x:=#[Nat.mod_lt x h,Nat.div_add_mod x k]
def imod (x k:Int)(h:0<k):0<=x%k/\x%k<k/\k*(x/k)+x%k=x:=#[Int.emod_nonneg x (Int.ne_of_gt h),Int.emod_lt_of_pos x h,Int.mul_ediv_add_emod x k]
def ji (x y:Nat):min x y<=x/\min x y<=y/\(x<=min x y\/y<=min x y):=#[Nat.min_le_left x y,Nat.min_le_right x y,(Nat.le_total x y).imp (λh=>Nat.le_min.mpr #[az x,h]) λh=>Nat.le_min.mpr #[h,az y]]
def ton (x:Int):(0<=x/\(x.toNat:Int)=x)\/(x<=0/\x.toNat=0):=
 (Int.le_total 0 x).elim (λh=>.inl #[h,Int.toNat_of_nonneg h]) λh=>.inr #[h,Int.toNat_of_nonpos h]
def nab (x:Int):(0<=x/\(x.natAbs:Int)=x)\/(x<=0/\(x.natAbs:Int)=-x):=
 (Int.le_total 0 x).elim (λh=>.inl #[h,Int.natAbs_of_nonneg h]) λh=>.inr #[h,Int.ofNat_natAbs_of_nonpos h]
def sub {p:Prop}(x y:Nat)(Y:y<=x->x-y+y=x->p)(Z:x<=y->x-y=0->p):p:=
 (Nat.le_total y x).elim (λh=>Y h (aa h)) λh=>Z h (lE h)
@[elab_as_elim] theorem rwm {Z:Sort u}{a b:Z}{p:Z->Prop}(h:a=b)(q:p b):p a:=Eq.rec (motive:=λx _=>p x) q h.symm
@[elab_as_elim] theorem rwn {Z:Sort u}{a b:Z}{p:Z->Prop}(h:b=a)(q:p b):p a:=Eq.rec (motive:=λx _=>p x) q h
def x0 {Z:Type u}{x:Z}{p:Prop}(h:none=some x):p:=Option.noConfusion rfl (heq_of_eq h)
def x1 {Z:Type u}{x:Z}{p:Prop}(h:some x=none):p:=x0 h.symm
def x2 {Z:Type u}{x y:Z}{p:Prop}(h:some x=some y)(k:x=y->p):p:=k (af h)
def x3 {Y:Type u}{Z:Type v}{a b:Y}{c d:Z}{p:Prop}(h:(a,c)=(b,d))(k:a=b->c=d->p):p:=k (dj Prod.fst h) (dj Prod.snd h)
def x4 {p:Prop}(h:false=true):p:=Bool.noConfusion h
def x5 {p:Prop}(h:true=false):p:=Bool.noConfusion h
def x8 {Z:Type u}{a b:Z}{p:Prop}(h:a=b)(k:a=b->p):p:=k h
section
variable {r:Prop}
def e2_0 {p q:Prop}(h:p/\q)(k:p->q->r):r:=k h.1 h.2
def e2_1 {p:A->Prop}(h:∃a,p a)(k:∀a,p a->r):r:=h.elim λa g=>k a g
def i2_1 {p:A->Prop}(a:A)(h:p a):∃a,p a:=#[a,h]
def e3_0 {p q s:Prop}(h:p/\q/\s)(k:p->q->s->r):r:=k h.1 h.2.1 h.2.2
def e3_1 {p q:A->Prop}(h:∃a,p a/\q a)(k:∀a,p a->q a->r):r:=h.elim λa g=>k a g.1 g.2
def i3_1 {p q:A->Prop}(a:A)(h:p a)(i:q a):∃a,p a/\q a:=#[a,h,i]
def e3_2 {p:A->B->Prop}(h:∃a b,p a b)(k:∀a b,p a b->r):r:=h.elim λa g=>g.elim λb g=>k a b g
def i3_2 {p:A->B->Prop}(a:A)(b:B)(h:p a b):∃a b,p a b:=#[a,b,h]
def e4_0 {p q s t:Prop}(h:p/\q/\s/\t)(k:p->q->s->t->r):r:=k h.1 h.2.1 h.2.2.1 h.2.2.2
def e4_1 {p q s:A->Prop}(h:∃a,p a/\q a/\s a)(k:∀a,p a->q a->s a->r):r:=h.elim λa g=>k a g.1 g.2.1 g.2.2
def i4_1 {p q s:A->Prop}(a:A)(h:p a)(i:q a)(j:s a):∃a,p a/\q a/\s a:=#[a,h,i,j]
def e4_2 {p q:A->B->Prop}(h:∃a b,p a b/\q a b)(k:∀a b,p a b->q a b->r):r:=h.elim λa g=>g.elim λb g=>k a b g.1 g.2
def i4_2 {p q:A->B->Prop}(a:A)(b:B)(h:p a b)(i:q a b):∃a b,p a b/\q a b:=#[a,b,h,i]
def e4_3 {p:A->B->C->Prop}(h:∃a b c,p a b c)(k:∀a b c,p a b c->r):r:=h.elim λa g=>g.elim λb g=>g.elim λc g=>k a b c g
def i4_3 {p:A->B->C->Prop}(a:A)(b:B)(c:C)(h:p a b c):∃a b c,p a b c:=#[a,b,c,h]
def e5_0 {p q s t u:Prop}(h:p/\q/\s/\t/\u)(k:p->q->s->t->u->r):r:=k h.1 h.2.1 h.2.2.1 h.2.2.2.1 h.2.2.2.2
def e5_1 {p q s t:A->Prop}(h:∃a,p a/\q a/\s a/\t a)(k:∀a,p a->q a->s a->t a->r):r:=h.elim λa g=>k a g.1 g.2.1 g.2.2.1 g.2.2.2
def i5_1 {p q s t:A->Prop}(a:A)(h:p a)(i:q a)(j:s a)(l:t a):∃a,p a/\q a/\s a/\t a:=#[a,h,i,j,l]
def e5_2 {p q s:A->B->Prop}(h:∃a b,p a b/\q a b/\s a b)(k:∀a b,p a b->q a b->s a b->r):r:=h.elim λa g=>g.elim λb g=>k a b g.1 g.2.1 g.2.2
def i5_2 {p q s:A->B->Prop}(a:A)(b:B)(h:p a b)(i:q a b)(j:s a b):∃a b,p a b/\q a b/\s a b:=#[a,b,h,i,j]
def e5_3 {p q:A->B->C->Prop}(h:∃a b c,p a b c/\q a b c)(k:∀a b c,p a b c->q a b c->r):r:=h.elim λa g=>g.elim λb g=>g.elim λc g=>k a b c g.1 g.2
def i5_3 {p q:A->B->C->Prop}(a:A)(b:B)(c:C)(h:p a b c)(i:q a b c):∃a b c,p a b c/\q a b c:=#[a,b,c,h,i]
def e5_4 {p:A->B->C->D->Prop}(h:∃a b c d,p a b c d)(k:∀a b c d,p a b c d->r):r:=h.elim λa g=>g.elim λb g=>g.elim λc g=>g.elim λd g=>k a b c d g
def e6_0 {p q s t u v:Prop}(h:p/\q/\s/\t/\u/\v)(k:p->q->s->t->u->v->r):r:=k h.1 h.2.1 h.2.2.1 h.2.2.2.1 h.2.2.2.2.1 h.2.2.2.2.2
def e6_1 {p q s t u:A->Prop}(h:∃a,p a/\q a/\s a/\t a/\u a)(k:∀a,p a->q a->s a->t a->u a->r):r:=h.elim λa g=>k a g.1 g.2.1 g.2.2.1 g.2.2.2.1 g.2.2.2.2
def e6_2 {p q s t:A->B->Prop}(h:∃a b,p a b/\q a b/\s a b/\t a b)(k:∀a b,p a b->q a b->s a b->t a b->r):r:=h.elim λa g=>g.elim λb g=>k a b g.1 g.2.1 g.2.2.1 g.2.2.2
def i6_2 {p q s t:A->B->Prop}(a:A)(b:B)(h:p a b)(i:q a b)(j:s a b)(l:t a b):∃a b,p a b/\q a b/\s a b/\t a b:=#[a,b,h,i,j,l]
def e6_3 {p q s:A->B->C->Prop}(h:∃a b c,p a b c/\q a b c/\s a b c)(k:∀a b c,p a b c->q a b c->s a b c->r):r:=h.elim λa g=>g.elim λb g=>g.elim λc g=>k a b c g.1 g.2.1 g.2.2
def i6_3 {p q s:A->B->C->Prop}(a:A)(b:B)(c:C)(h:p a b c)(i:q a b c)(j:s a b c):∃a b c,p a b c/\q a b c/\s a b c:=#[a,b,c,h,i,j]
def e6_4 {p q:A->B->C->D->Prop}(h:∃a b c d,p a b c d/\q a b c d)(k:∀a b c d,p a b c d->q a b c d->r):r:=h.elim λa g=>g.elim λb g=>g.elim λc g=>g.elim λd g=>k a b c d g.1 g.2
def i6_4 {p q:A->B->C->D->Prop}(a:A)(b:B)(c:C)(d:D)(h:p a b c d)(i:q a b c d):∃a b c d,p a b c d/\q a b c d:=#[a,b,c,d,h,i]
def e6_5 {p:A->B->C->D->F->Prop}(h:∃a b c d f,p a b c d f)(k:∀a b c d f,p a b c d f->r):r:=h.elim λa g=>g.elim λb g=>g.elim λc g=>g.elim λd g=>g.elim λf g=>k a b c d f g
def i6_5 {p:A->B->C->D->F->Prop}(a:A)(b:B)(c:C)(d:D)(f:F)(h:p a b c d f):∃a b c d f,p a b c d f:=#[a,b,c,d,f,h]
def e7_0 {p q s t u v w:Prop}(h:p/\q/\s/\t/\u/\v/\w)(k:p->q->s->t->u->v->w->r):r:=k h.1 h.2.1 h.2.2.1 h.2.2.2.1 h.2.2.2.2.1 h.2.2.2.2.2.1 h.2.2.2.2.2.2
def i7_1 {p q s t u v:A->Prop}(a:A)(h:p a)(i:q a)(j:s a)(l:t a)(m:u a)(n:v a):∃a,p a/\q a/\s a/\t a/\u a/\v a:=#[a,h,i,j,l,m,n]
def e7_2 {p q s t u:A->B->Prop}(h:∃a b,p a b/\q a b/\s a b/\t a b/\u a b)(k:∀a b,p a b->q a b->s a b->t a b->u a b->r):r:=h.elim λa g=>g.elim λb g=>k a b g.1 g.2.1 g.2.2.1 g.2.2.2.1 g.2.2.2.2
def i7_2 {p q s t u:A->B->Prop}(a:A)(b:B)(h:p a b)(i:q a b)(j:s a b)(l:t a b)(m:u a b):∃a b,p a b/\q a b/\s a b/\t a b/\u a b:=#[a,b,h,i,j,l,m]
def e7_3 {p q s t:A->B->C->Prop}(h:∃a b c,p a b c/\q a b c/\s a b c/\t a b c)(k:∀a b c,p a b c->q a b c->s a b c->t a b c->r):r:=h.elim λa g=>g.elim λb g=>g.elim λc g=>k a b c g.1 g.2.1 g.2.2.1 g.2.2.2
def i7_3 {p q s t:A->B->C->Prop}(a:A)(b:B)(c:C)(h:p a b c)(i:q a b c)(j:s a b c)(l:t a b c):∃a b c,p a b c/\q a b c/\s a b c/\t a b c:=#[a,b,c,h,i,j,l]
def e7_4 {p q s:A->B->C->D->Prop}(h:∃a b c d,p a b c d/\q a b c d/\s a b c d)(k:∀a b c d,p a b c d->q a b c d->s a b c d->r):r:=h.elim λa g=>g.elim λb g=>g.elim λc g=>g.elim λd g=>k a b c d g.1 g.2.1 g.2.2
def i7_4 {p q s:A->B->C->D->Prop}(a:A)(b:B)(c:C)(d:D)(h:p a b c d)(i:q a b c d)(j:s a b c d):∃a b c d,p a b c d/\q a b c d/\s a b c d:=#[a,b,c,d,h,i,j]
def e8_2 {p q s t u v:A->B->Prop}(h:∃a b,p a b/\q a b/\s a b/\t a b/\u a b/\v a b)(k:∀a b,p a b->q a b->s a b->t a b->u a b->v a b->r):r:=h.elim λa g=>g.elim λb g=>k a b g.1 g.2.1 g.2.2.1 g.2.2.2.1 g.2.2.2.2.1 g.2.2.2.2.2
def i8_2 {p q s t u v:A->B->Prop}(a:A)(b:B)(h:p a b)(i:q a b)(j:s a b)(l:t a b)(m:u a b)(n:v a b):∃a b,p a b/\q a b/\s a b/\t a b/\u a b/\v a b:=#[a,b,h,i,j,l,m,n]
def e8_3 {p q s t u:A->B->C->Prop}(h:∃a b c,p a b c/\q a b c/\s a b c/\t a b c/\u a b c)(k:∀a b c,p a b c->q a b c->s a b c->t a b c->u a b c->r):r:=h.elim λa g=>g.elim λb g=>g.elim λc g=>k a b c g.1 g.2.1 g.2.2.1 g.2.2.2.1 g.2.2.2.2
def i8_3 {p q s t u:A->B->C->Prop}(a:A)(b:B)(c:C)(h:p a b c)(i:q a b c)(j:s a b c)(l:t a b c)(m:u a b c):∃a b c,p a b c/\q a b c/\s a b c/\t a b c/\u a b c:=#[a,b,c,h,i,j,l,m]
def e8_4 {p q s t:A->B->C->D->Prop}(h:∃a b c d,p a b c d/\q a b c d/\s a b c d/\t a b c d)(k:∀a b c d,p a b c d->q a b c d->s a b c d->t a b c d->r):r:=h.elim λa g=>g.elim λb g=>g.elim λc g=>g.elim λd g=>k a b c d g.1 g.2.1 g.2.2.1 g.2.2.2
def i8_4 {p q s t:A->B->C->D->Prop}(a:A)(b:B)(c:C)(d:D)(h:p a b c d)(i:q a b c d)(j:s a b c d)(l:t a b c d):∃a b c d,p a b c d/\q a b c d/\s a b c d/\t a b c d:=#[a,b,c,d,h,i,j,l]
def e9_0 {p q s t u v w k J:Prop}(h:p/\q/\s/\t/\u/\v/\w/\k/\J)(k:p->q->s->t->u->v->w->k->J->r):r:=k h.1 h.2.1 h.2.2.1 h.2.2.2.1 h.2.2.2.2.1 h.2.2.2.2.2.1 h.2.2.2.2.2.2.1 h.2.2.2.2.2.2.2.1 h.2.2.2.2.2.2.2.2
def e9_2 {p q s t u v w:A->B->Prop}(h:∃a b,p a b/\q a b/\s a b/\t a b/\u a b/\v a b/\w a b)(k:∀a b,p a b->q a b->s a b->t a b->u a b->v a b->w a b->r):r:=h.elim λa g=>g.elim λb g=>k a b g.1 g.2.1 g.2.2.1 g.2.2.2.1 g.2.2.2.2.1 g.2.2.2.2.2.1 g.2.2.2.2.2.2
def e9_3 {p q s t u v:A->B->C->Prop}(h:∃a b c,p a b c/\q a b c/\s a b c/\t a b c/\u a b c/\v a b c)(k:∀a b c,p a b c->q a b c->s a b c->t a b c->u a b c->v a b c->r):r:=h.elim λa g=>g.elim λb g=>g.elim λc g=>k a b c g.1 g.2.1 g.2.2.1 g.2.2.2.1 g.2.2.2.2.1 g.2.2.2.2.2
def i9_3 {p q s t u v:A->B->C->Prop}(a:A)(b:B)(c:C)(h:p a b c)(i:q a b c)(j:s a b c)(l:t a b c)(m:u a b c)(n:v a b c):∃a b c,p a b c/\q a b c/\s a b c/\t a b c/\u a b c/\v a b c:=#[a,b,c,h,i,j,l,m,n]
def e9_4 {p q s t u:A->B->C->D->Prop}(h:∃a b c d,p a b c d/\q a b c d/\s a b c d/\t a b c d/\u a b c d)(k:∀a b c d,p a b c d->q a b c d->s a b c d->t a b c d->u a b c d->r):r:=h.elim λa g=>g.elim λb g=>g.elim λc g=>g.elim λd g=>k a b c d g.1 g.2.1 g.2.2.1 g.2.2.2.1 g.2.2.2.2
def i9_4 {p q s t u:A->B->C->D->Prop}(a:A)(b:B)(c:C)(d:D)(h:p a b c d)(i:q a b c d)(j:s a b c d)(l:t a b c d)(m:u a b c d):∃a b c d,p a b c d/\q a b c d/\s a b c d/\t a b c d/\u a b c d:=#[a,b,c,d,h,i,j,l,m]
def e9_5 {p q s t:A->B->C->D->F->Prop}(h:∃a b c d f,p a b c d f/\q a b c d f/\s a b c d f/\t a b c d f)(k:∀a b c d f,p a b c d f->q a b c d f->s a b c d f->t a b c d f->r):r:=h.elim λa g=>g.elim λb g=>g.elim λc g=>g.elim λd g=>g.elim λf g=>k a b c d f g.1 g.2.1 g.2.2.1 g.2.2.2
def i9_5 {p q s t:A->B->C->D->F->Prop}(a:A)(b:B)(c:C)(d:D)(f:F)(h:p a b c d f)(i:q a b c d f)(j:s a b c d f)(l:t a b c d f):∃a b c d f,p a b c d f/\q a b c d f/\s a b c d f/\t a b c d f:=#[a,b,c,d,f,h,i,j,l]
def e9_7 {p q:A->B->C->D->F->G->H->Prop}(h:∃a b c d f y z,p a b c d f y z/\q a b c d f y z)(k:∀a b c d f y z,p a b c d f y z->q a b c d f y z->r):r:=h.elim λa g=>g.elim λb g=>g.elim λc g=>g.elim λd g=>g.elim λf g=>g.elim λy g=>g.elim λz g=>k a b c d f y z g.1 g.2
def i9_7 {p q:A->B->C->D->F->G->H->Prop}(a:A)(b:B)(c:C)(d:D)(f:F)(y:G)(z:H)(h:p a b c d f y z)(i:q a b c d f y z):∃a b c d f y z,p a b c d f y z/\q a b c d f y z:=#[a,b,c,d,f,y,z,h,i]
def e9_8 {p:A->B->C->D->F->G->H->I->Prop}(h:∃a b c d f y z o,p a b c d f y z o)(k:∀a b c d f y z o,p a b c d f y z o->r):r:=h.elim λa g=>g.elim λb g=>g.elim λc g=>g.elim λd g=>g.elim λf g=>g.elim λy g=>g.elim λz g=>g.elim λo g=>k a b c d f y z o g
end
public abbrev M.h:M:=[[1]]
public abbrev M.a:M:=[[1,1]]
public abbrev M.j:M:=[[0,1]]
public abbrev M.w:M:=[[-1,1]]
public abbrev M.y:M:=[[1,-1]]
public abbrev M.b:M:=[[1,1,1]]
public abbrev M.c:M:=[[0,1,1]]
public abbrev M.o:M:=[[1],[1]]
public abbrev M.r:M:=[[-1,-1]]
public abbrev M.d:M:=[[1,1,-1]]
public abbrev M.n:M:=[[1,-1,1]]
public abbrev M.e:M:=[[1,1,1,1]]
public abbrev M.m:M:=[[0,1,1,1]]
public abbrev M.p:M:=[[1,1,1,-1]]
public abbrev M.u:M:=[[1,1,-1,1]]
public abbrev M.k:M:=[[1,1,1,1,1]]
public abbrev M.t:M:=[[1,0],[1,1]]
public abbrev M.F:M:=[[1,1,-1,-1]]
public abbrev M.f:M:=[[1,1],[1,-1]]
public abbrev M.i:M:=[[1,-1],[1,1]]
public abbrev M.D:M:=[[1,1,1,-1,1]]
public abbrev M.g:M:=[[1,0,1],[1,1,0]]
public abbrev M.v:M:=[[0,1,1],[0,1,1]]
public abbrev M.x:M:=[[1,0,0],[1,1,1]]
def N.aN:N:=.n 9
public abbrev M.C:M:=[[1,1,-1],[1,0,1]]
public abbrev M.s:M:=[[1,-1,1],[1,1,-1]]
public abbrev M.z:M:=[[1,1,-1],[1,-1,1]]
public abbrev M.B:M:=[[1,-1,-1],[1,1,1]]
def E.L:E:=.t .A
def E.P:E:=.t .B
def N.aX:N:=.n 300
public abbrev M.l:M:=[[1,1,0,1],[1,0,1,0]]
def N.a4:N:=.n 400000
def N.V:N:=.n 1000000
public abbrev M.q:M:=[[1,-1,1,-1],[1,1,-1,1]]
public abbrev M.A:M:=[[1,1,-1,-1],[1,-1,1,1]]
public abbrev M.E:M:=[[1,-1,1,1],[1,1,-1,-1]]
def E.M:E:=.n (2^63)
def E.Q:E:=.n (2^64)
def N.aD:N:=.m 2 .B
def P.A:P:=.k .A .B
def N.L:N:=.a .A .B
def P.B:P:=.l .A .B
def N.M:N:=.a .A .U
def N.P:N:=.a .B .U
def P.C:P:=.e .A .B
def P.D:P:=.l .O .A
def N.Q:N:=.a .B .C
def N.R:N:=.a .C .D
def P.G:P:=.l .A .C
def P.H:P:=.k .C .B
def P.I:P:=.k .U .A
def P.J:P:=.k .A .C
def N.S:N:=.a .C .U
def N.T:N:=.a .A .D
def N.X:N:=.a .A .C
def N.Y:N:=.a .D .F
def P.M:P:=.l .C .B
def P.N:P:=.e .A .O
def P.R:P:=.l .C .D
def N.Z:N:=.a .D .U
def P.U:P:=.l .B .A
def P.W:P:=.l .B .D
def P.Y:P:=.l .O .B
def P.Z:P:=.k .C .D
def N.a0:N:=.a .C .A
def N.a1:N:=.a .F .U
def P.a2:P:=.k .B .A
def N.a3:N:=.a .O .U
def P.a5:P:=.l .U .A
def N.a5:N:=.a .F .G
def P.a6:P:=.l .O .C
def N.a6:N:=.a .C .B
def N.a8:N:=.a .B .F
def P.aF:P:=.k .A .D
def N.a9:N:=.a .A .F
def P.aH:P:=.l .D .C
def P.aI:P:=.l .B .C
def P.aK:P:=.k .B .C
def P.aL:P:=.e .C .B
def P.aN:P:=.e .B .O
def N.aA:N:=.a .G .U
def N.aC:N:=.a .G .H
def P.aX:P:=.e .B .C
def P.aZ:P:=.g .B .A
def P.b0:P:=.k .C .A
def N.aF:N:=.a .B .A
def P.b2:P:=.g .A .B
def P.bB:P:=.e .C .O
def P.bC:P:=.e .F .O
def N.aG:N:=.a .B .D
def N.aI:N:=.a .F .B
def P.bK:P:=.l .A .O
def P.bM:P:=.k .D .C
def P.bR:P:=.k .B .D
def P.bS:P:=.k .F .C
def P.bT:P:=.e .D .O
def N.aK:N:=.a .F .A
def P.bW:P:=.e .C .D
def P.bX:P:=.g .C .D
def N.aL:N:=.a .F .D
def N.aM:N:=.a .D .C
def P.c7:P:=.e .C .A
def P.c9:P:=.e .D .B
def P.cA:P:=.e .G .O
def P.cB:P:=.l .A .U
def N.aR:N:=.a .F .C
def N.aT:N:=.a .A .G
def P.cG:P:=.k .A .F
def P.cH:P:=.e .B .A
def N.aU:N:=.a .C .F
def P.cI:P:=.l .D .F
def P.cJ:P:=.k .D .B
def P.cK:P:=.k .D .F
def N.aV:N:=.a .A .W
def P.cL:P:=.e .A .C
def P.a8:P:=.ik .O .A
def P.aB:P:=.ie .A .B
def P.aJ:P:=.il .A .B
def P.aT:P:=.ig .A .B
def P.b6:P:=.il .B .A
def P.bI:P:=.ik .A .O
def P.bQ:P:=.ie .C .D
def P.c6:P:=.il .O .A
def P.cP:P:=.ie .B .A
def E.S:E:=.g .P
def P.X:P:=.k .A (.n 63)
def P.a7:P:=.k .B (.n 63)
def P.aR:P:=.k .B (.n 64)
def P.aS:P:=.k .C (.n 63)
def P.b4:P:=.e .A (.n 10)
def P.b5:P:=.e .A (.n 15)
def P.c1:P:=.k .A (.n 64)
def P.cM:P:=.k .D (.n 63)
def P.bP:P:=.ie .L .A
def P.bH:P:=.l .B .a4
def P.cN:P:=.l .A .a4
def P.aD:P:=.l .A .V
def P.b8:P:=.k .A .V
def P.a0:P:=.l .A (.n (2^40))
def P.a4:P:=.l .A (.n (2^60))
def P.cF:P:=.k .A (.n 16777216)
def P.aU:P:=.il .A .M
def N.aS:N:=.a (.m 2 .C) .U
def N.aW:N:=.a .aD .U
def P.F:P:=.k .L .C
def P.K:P:=.l .L .C
def P.O:P:=.k .A .P
def P.Q:P:=.e (.a .D .A) .C
def P.S:P:=.k .M .B
def P.T:P:=.k .A .aF
def P.V:P:=.l .M .B
def P.a1:P:=.e .L .C
def P.a3:P:=.e .A .P
def N.a2:N:=.a .M .B
def N.a7:N:=.a .A .P
def P.aA:P:=.e .M .C
def P.aG:P:=.e .M .B
def P.aM:P:=.l .A .P
def N.aB:N:=.a .L .C
def P.aY:P:=.e .A .Q
def P.b1:P:=.e (.a .G .A) .C
def P.b3:P:=.e .R .F
def P.b9:P:=.k .T .C
def P.bD:P:=.e .Q .D
def P.bF:P:=.k .Y .C
def N.aH:N:=.a .L .U
def P.bG:P:=.l .C (.a .D .B)
def P.bJ:P:=.e .P .A
def P.bL:P:=.e .T .C
def P.bU:P:=.k .A .L
def P.bV:P:=.k .C .P
def P.bY:P:=.k .L .D
def P.bZ:P:=.k .R .B
def P.c0:P:=.k .U .L
def P.c2:P:=.k (.a .O .A) .B
def P.c3:P:=.e (.a .D .G) .F
def P.c4:P:=.e .a8 .D
def P.c5:P:=.k .X .B
def N.aP:N:=.a .A .Q
def N.aQ:N:=.a .B .S
def P.c8:P:=.e .X .D
def P.cD:P:=.e .a0 .B
def E.R:E:=.a .A (.s .B .U)
def P.cS:P:=.k .A (.a .B .O)
def P.cU:P:=.e (.a .G .A) .D
def P.b7:P:=.ie .L (.g .A)
def P.a9:P:=.ik (.g .M) .A
def P.aV:P:=.e .B (.a .A (.n 3))
def N.aJ:N:=.r (.a (.r .B 63) .C) 63
def P.cQ:P:=.e (.a .aD .F) .G
def P.L:P:=.k .a7 .C
def P.aC:P:=.l (.a .M .U) .B
def P.aQ:P:=.k .M .P
def P.bA:P:=.k .L .R
def P.cC:P:=.k .a2 .C
def P.cR:P:=.k .A (.a .P .O)
def P.cT:P:=.k (.a .A .S) .B
def P.cV:P:=.k .U (.a .A .L)
def P.aW:P:=.j (.a (.a .D .A) .B) .aM
def P.aP:P:=.ie (.s (.t .M) .U) .L
def P.bN:P:=.l (.a (.a .A (.m 3 .P)) (.n 20)) .C
end Ar
namespace Mine.Z
abbrev oa:=λ{k0 k1 k2}=>@Ar.a3 [] [k0,k1,k2]
abbrev fc:=λ{k0}=>@Ar.a1 [] [k0]
abbrev iq:=λ{k0 k1}=>@Ar.a2 [] [k0,k1]
abbrev ba:=λ{k0 k1}=>@Ar.a1 [] [k0,k1]
abbrev fh:=λ{k0 k1 k2}=>@Ar.a2 [] [k0,k1,k2]
abbrev zg:=λ{k0 k1 k2 k3}=>@Ar.a4 [] [k0,k1,k2,k3]
abbrev gu:=λ{k0 k1 k2}=>@Ar.a1 [] [k0,k1,k2]
abbrev nR:=λ{k0 k1 k2 k3 k4 k5}=>@Ar.a5 [] [k0,k1,k2,k3,k4,k5]
abbrev qy:=λ{k0 k1 k2 k3 k4}=>@Ar.a2 [] [k0,k1,k2,k3,k4]
abbrev nS:=λ{k0 k1 k2 k3 k4}=>@Ar.a4 [] [k0,k1,k2,k3,k4]
abbrev tq:=λ{c0 c1}=>@Ar.a1 [c0,c1] []
abbrev gh:=λ{k0 k1 k2 k3}=>@Ar.a2 [] [k0,k1,k2,k3]
abbrev mu:=λ{c0}=>@Ar.a1 [c0] []
abbrev mr:=λ{k0 k1 k2 k3 k4}=>@Ar.a3 [] [k0,k1,k2,k3,k4]
abbrev pe:=λ{k0 k1 k2 k3}=>@Ar.a3 [] [k0,k1,k2,k3]
abbrev ow:=λ{k0 k1}=>@Ar.a0 [] [k0,k1]
abbrev nt:=λ{k0}=>@Ar.a0 [] [k0]
abbrev MX:=λ{k0 k1 k2 k3 k4 k5}=>@Ar.a6 [] [k0,k1,k2,k3,k4,k5]
abbrev zv:=@Ar.a0 [] []
abbrev iU:=λ{c0 c1 c2}=>@Ar.a2 [c0,c1,c2] []
abbrev eM:=λ{k0 k1 k2 k3 k4 k5}=>@Ar.a3 [] [k0,k1,k2,k3,k4,k5]
abbrev xO:=λ{k0 k1 k2 k3 k4 k5 k6}=>@Ar.a5 [] [k0,k1,k2,k3,k4,k5,k6]
abbrev FJ:=λ{k0 k1 k2 k3 k4}=>@Ar.a5 [] [k0,k1,k2,k3,k4]
abbrev sO:=λ{k0}=>@Ar.a2 [] [k0]
abbrev lA:=λ{k0 k1 k2 k3}=>@Ar.a1 [] [k0,k1,k2,k3]
abbrev sN:=λ{k0 k1 k2 k3 k4 k5 k6}=>@Ar.a2 [] [k0,k1,k2,k3,k4,k5,k6]
abbrev JQ:=λ{k0 k1 k2 k3 k4 k5 k6}=>@Ar.a3 [] [k0,k1,k2,k3,k4,k5,k6]
abbrev PB:=@Ar.a1 [] []
abbrev OT:=λ{k0 k1 k2 k3 k4 k5 k6 k7 k8 k9}=>@Ar.a6 [] [k0,k1,k2,k3,k4,k5,k6,k7,k8,k9]
abbrev QI:=λ{k0 k1 k2 k3 k4 k5 k6 k7 k8 k9 k10}=>@Ar.a7 [] [k0,k1,k2,k3,k4,k5,k6,k7,k8,k9,k10]
abbrev yw:=λ{k0 k1 k2 k3 k4 k5}=>@Ar.a4 [] [k0,k1,k2,k3,k4,k5]
abbrev vB:=λ{c0 k0 k1}=>@Ar.a2 [c0] [k0,k1]
abbrev OZ:=λ{c0 c1 c2 k0}=>@Ar.a4 [c0,c1,c2] [k0]
abbrev JP:=λ{k0 k1 k2 k3 k4 k5 k6 k7 k8}=>@Ar.a5 [] [k0,k1,k2,k3,k4,k5,k6,k7,k8]
abbrev dD:=λ{c0 k0}=>@Ar.a2 [c0] [k0]
abbrev QO:=λ{k0 k1 k2 k3 k4}=>@Ar.a1 [] [k0,k1,k2,k3,k4]
abbrev QJ:=λ{k0 k1 k2 k3 k4 k5 k6 k7 k8 k9}=>@Ar.a7 [] [k0,k1,k2,k3,k4,k5,k6,k7,k8,k9]
abbrev PC:=λ{c0 c1 c2}=>@Ar.a0 [c0,c1,c2] []
abbrev nT:=λ{c0 c1}=>@Ar.a2 [c0,c1] []
abbrev KR:=λ{c0 c1 k0}=>@Ar.a3 [c0,c1] [k0]
abbrev OX:=λ{c0 c1 c2 k0}=>@Ar.a5 [c0,c1,c2] [k0]
abbrev KS:=λ{c0 k0}=>@Ar.a1 [c0] [k0]
abbrev PA:=λ{c0 k0}=>@Ar.a3 [c0] [k0]
abbrev iS:=λ{c0 c1 c2 c3}=>@Ar.a2 [c0,c1,c2,c3] []
abbrev qE:=λ{c0}=>@Ar.a0 [c0] []
abbrev OU:=λ{k0 k1 k2 k3 k4 k5 k6 k7 k8}=>@Ar.a6 [] [k0,k1,k2,k3,k4,k5,k6,k7,k8]
abbrev MY:=λ{k0 k1}=>@Ar.a3 [] [k0,k1]
abbrev OW:=λ{k0 k1 k2 k3 k4 k5 k6}=>@Ar.a6 [] [k0,k1,k2,k3,k4,k5,k6]
abbrev QK:=λ{k0 k1 k2 k3 k4 k5 k6 k7}=>@Ar.a7 [] [k0,k1,k2,k3,k4,k5,k6,k7]
abbrev QH:=λ{k0 k1 k2 k3 k4 k5 k6 k7}=>@Ar.a8 [] [k0,k1,k2,k3,k4,k5,k6,k7]
abbrev QL:=λ{k0 k1 k2 k3 k4 k5 k6}=>@Ar.a7 [] [k0,k1,k2,k3,k4,k5,k6]
abbrev OY:=λ{k0 k1 k2 k3 k4 k5 k6}=>@Ar.a4 [] [k0,k1,k2,k3,k4,k5,k6]
abbrev FK:=λ{k0 k1 k2 k3 k4 k5}=>@Ar.a2 [] [k0,k1,k2,k3,k4,k5]
abbrev QM:=λ{k0 k1 k2 k3 k4 k5 k6 k7}=>@Ar.a5 [] [k0,k1,k2,k3,k4,k5,k6,k7]
abbrev P0:=λ{c0 k0 k1}=>@Ar.a3 [c0] [k0,k1]
end Mine.Z
end
section
set_option tactic.hygienic true
set_option backward.match.sparseCases false
namespace MP
set_option genSizeOf false
set_option genInjectivity false
open PySem
structure EV where
 ks:List Expr
 s:Str
 k:Nat
 op:BoolOp
 g:List Comprehension×Scope
 b:Option Expr×Option Expr
 c:Const
abbrev vk (ks:List Expr):EV:=#[ks,"",0,.And,([],default),(none,none),.none]
abbrev v0:EV:=vk []
abbrev vw (x:Expr):EV:=Expr.casesOn (motive_1:=λ_=>EV) x
 (λop xs _=>#[xs,"",0,op,([],default),(none,none),.none])
 (λ_ _ _=>v0)
 (λl _ r _=>vk [l,r])
 (λ_ y _=>vk [y])
 (λ_ _ _ _=>v0)
 (λu y z _=>vk [u,y,z])
 (λ_ _ _=>v0)
 (λ_ _ _=>v0)
 (λy gs sc _=>#[[y],"",0,.And,(gs,sc),(none,none),.none])
 (λ_ _ _ _=>v0)
 (λy z gs sc _=>#[[y,z],"",0,.And,(gs,sc),(none,none),.none])
 (λ_ _ _ _=>v0)
 (λ_ _=>v0)
 (λ_ _=>v0)
 (λ_ _=>v0)
 (λl _ r _=>vk (l::r))
 (λf xs _ _=>vk (f::xs))
 (λ_ _ _ _=>v0)
 (λ_ _=>v0)
 (λc k _=>#[[],"",k,.And,([],default),(none,none),c])
 (λy _ _=>vk [y])
 (λy z _=>vk [y,z])
 (λ_ _=>v0)
 (λy _=>#[[],y,0,.And,([],default),(none,none),.none])
 (λxs _=>vk xs)
 (λxs k _=>#[xs,"",k,.And,([],default),(none,none),.none])
 (λl h st _=>#[st.toList,"",0,.And,([],default),(l,h),.none])
abbrev iN (k:Nat)(x:Expr):Bool:=Nat.beq x.ctorIdx k
abbrev kids (x:Expr):List Expr:=(vw x).ks
abbrev kid (i:Nat)(x:Expr):Expr:=(kids x).getD i default
abbrev om (x:Expr):Str:=(vw x).s
abbrev exK (x:Expr):Nat:=(vw x).k
abbrev z7 (x:Expr):Str:=match (vw x).c with
 |.str t=>t
 |_=>""
structure SV where
 es:List Expr
 b:List Stmt
 c:List Stmt
abbrev s0:SV:=#[[],[],[]]
abbrev sw (x:Stmt):SV:=Stmt.casesOn (motive_2:=λ_=>SV) x
 (λ_ _ _ _ _ _ _ _ _ _=>s0)
 (λ_ _ _ _ _ _ _ _ _ _=>s0)
 (λ_ _ _ b _ _ _ _ _ _ _=>#[[],b,[]])
 (λe _=>#[e.toList,[],[]])
 (λts _=>#[ts,[],[]])
 (λts e _=>#[e::ts,[],[]])
 (λ_ _ _ _ _ _ _=>s0)
 (λt _ e _=>#[[e,t],[],[]])
 (λ_ _ _ _ _=>s0)
 (λt e b _ _=>#[[e,t],b,[]])
 (λ_ _ _ _ _=>s0)
 (λe b _ _=>#[[e],b,[]])
 (λe b c _=>#[[e],b,c])
 (λ_ _ _=>s0)
 (λ_ _ _=>s0)
 (λ_ _ _=>s0)
 (λ_ _ _=>s0)
 (λ_ _ _ _ _=>s0)
 (λ_ _ _ _ _=>s0)
 (λ_ _ _=>s0)
 (λ_ _=>s0)
 (λ_ _ _ _=>s0)
 (λ_ _=>s0)
 (λ_ _=>s0)
 (λe _=>#[[e],[],[]])
 (λ_=>s0)
 (λ_=>s0)
 (λ_=>s0)
abbrev eI (x:Stmt):List Expr:=(sw x).es
abbrev st0 (x:Stmt):Expr:=(eI x).headD default
end MP
end
section
set_option backward.match.sparseCases false
open PySem PySem.W PyProof.Rows
set_option maxHeartbeats 0
namespace Mine
public abbrev pw:Program:=PySem.Challenge.pw_dm0056_09
public abbrev an:Option Value:=some (Value.ref 6)
public abbrev p0:Pos:=#[0,0,0,0]
public abbrev TB:String->Option Builtin:=PySem.W.Fast.tw14364793385576792824
def goT:=PySem.W.Fast.tw10295753902157049106
def NO:=PySem.W.Fast.tw10110043849684766642
public abbrev LZ:Builtin:=PySem.W.Fast.tw4202317264376624991
public abbrev B0:List Frame:=[topFrame p0]
abbrev jP (x:Stmt):Str:=MP.z7 (MP.st0 ((MP.sw x).b.headD default))
abbrev QD (d:Str)(x:Stmt):Stmt:=.Expr (.Constant (.str d) (MP.exK (MP.st0 x)) (MP.st0 x).pos) x.pos
abbrev JA (d:Str):Stmt->Stmt
 |.ClassDef n b k bo dl tp sc ts bd sa pos=>.ClassDef n b k (bo.modify 0 (QD d)) dl tp sc ts bd sa pos
 |s=>s
abbrev KQ (i:Nat)(d:Str)(p:Program):Program:={p with main:={p.main with body:=p.main.body.modify i (JA d)}}
abbrev Ds:{s:String // jP (pw.main.body.getD 5 default)=Str.ofString s}:=#[_,rfl]
abbrev KP:{cs:List Char // String.ofList cs=Ds.1}:=#[_,rfl]
abbrev OG:Str:=#[(PySem.W.R.mapR Char.toNat KP.1).toArray]
def JB:jP (pw.main.body.getD 5 default)=OG:=by
 rw[Ds.2,<- KP.2,Fast.ofString_ofList,PySem.W.R.mapR_eq];rfl
abbrev pwF:Program:=KQ 5 OG pw
def LP:pwF=pw:=by
 have h:KQ 5 (jP (pw.main.body.getD 5 default)) pw=pw:=by kernel_rfl
 rw[JB]at h;show h
abbrev S0 (w:World)(os:OsState):Shared:=#[boot_heap w.params,#[[]],boot_drawn,boot_toks,os]
public abbrev bE:List Stmt:=behindTheImports pw
public abbrev bF:List Stmt:=behindTheImports pwF
def OR:bF=bE:=dj behindTheImports LP
public abbrev J6:Env:={scope:=pw.main.scope,locals:=mainNs,globals:=mainNs,cells:=[],code:=Value.ref 13,frame:=some 14}
public abbrev cE:Code:=Code.body bE J6
abbrev X0 (w:World)(os:OsState):Option (Shared×Thread):=topGo TB pw w 11 an 12 (S0 w os) (topStub pw)
abbrev ob (w:World)(os:OsState)(i:Nat):Obj:=((X0 w os).elim (S0 w os) (·.1)).heap.objs.toList.getD i default
abbrev T4 (w:World)(os:OsState):BT:=
 .node (ob w os 0)
  (.node (ob w os 1) (.node (ob w os 3) (.node (ob w os 7) .nil .nil) (.node (ob w os 11) .nil .nil)) (.node (ob w os 5) (.node (ob w os 9) .nil .nil) (.node (ob w os 13) .nil .nil)))
  (.node (ob w os 2) (.node (ob w os 4) (.node (ob w os 8) .nil .nil) (.node (ob w os 12) .nil .nil)) (.node (ob w os 6) (.node (ob w os 10) .nil .nil) (.node (ob w os 14) .nil .nil)))
abbrev S4 (w:World)(os:OsState):SharedT:={tree:=T4 w os,n:=15,life:={},gens:=#[[]],drawn:={},toks:=187,os:=os}
def pre:(λw os=>topGo TB pw w 11 an 12 (S0 w os) (topStub pw))=λw os=>some ((S4 w os).abs,#[denote TB cE,cE,p0,B0]):=by kernel_rfl
def blk:(λw os=>segRun TB pw w 11 an 1 1 (S4 w os).abs (blockOf bE J6 cE p0 B0))=λw os=>some (Flow.next,(S4 w os).abs,cE,p0):=by kernel_rfl
def fin:(λw c q s=>topRun TB pw w 11 an 2 s #[doneF .next,c,q,B0])=λw c q s=>some s:=by kernel_rfl
end Mine
end
section
set_option backward.match.sparseCases false
open PySem PySem.W PyProof.Rows
set_option maxHeartbeats 0
namespace Mine
abbrev yW (as:Array Nat)(p:Nat->Bool)(start stop:Nat):Bool:=
 match Nat.beq start 0,Nat.beq stop as.size with
 |true,true=>PySem.W.R.anyR as.toList p
 |_,_=>Array.any as p start stop
def wV:@Array.any Nat=yW:=by
 funext as p start stop
 unfold yW;split
 ·rename_i Y Z;have U:=Nat.eq_of_beq_eq_true Y;have X:=Nat.eq_of_beq_eq_true Z;subst U X;rw[<- PySem.W.R.anyR_eq,Array.any_toList]
 ·rfl
abbrev th0:Thread:=piecesOf bF J6 cE p0 B0
abbrev XA (w:World)(os:OsState):Option (SharedT×Thread):=goT TB pw w 11 an 1 1966 (S4 w os) th0
abbrev sA (w:World)(os:OsState):SharedT:=(XA w os).elim (S4 w os) (·.1)
abbrev tA (w:World)(os:OsState):Thread:=(XA w os).elim th0 (·.2)
abbrev i3 (t:Thread):Args:=match t.code with|.builtin _ a=>a|_=>{}
def atA:(λw os=>((XA w os).isSome,(tA w os).cur))=λw os=>(true,LZ (i3 (tA w os))):=by kernel_rfl
end Mine
end
section
set_option backward.match.sparseCases false
namespace MP
set_option genSizeOf false
open PySem
set_option genCtorIdx true in
inductive Key where
 |int (i:Int)
 |str (s:Str)
 deriving DecidableEq
variable {α:Type}{i:Addr}{f:Addr->Prop}{vs:List V}
inductive V where
 |none
 |bool (b:Bool)
 |int (i:Int)
 |str (s:Str)
 |L (a:Addr)
 |dct (a:Addr)
 |set (a:Addr)
 |obj (a:Addr)
 |T (xs:List V)
 |mt (xs:List V)
 |hY (a:Addr)
 |iI (a:Addr)
 |clo (k:Nat) (cs:List V)
 |ro (ns:List Int)
abbrev V.rO:V->Option Key
 |.int i=>some (.int i)
 |.str s=>some (.str s)
 |_=>Option.none
abbrev Key.v:Key->V
 |.int i=>.int i
 |.str s=>.str s
structure St where
 L:Addr->Option (List V)
 D:Addr->Option (List (Key×V))
 S:Addr->Option (List Key)
 I:Addr->Option (Addr×(Nat->Option V))
 Z:Addr->Option Obj
def Fr:=Nat->Option V
abbrev upd {α:Type}(f:Nat->Option α)(i:Nat)(v:α):Nat->Option α:=λj=>if j=i then some v else f j
def cm (f:Nat->Option α)(i:Nat)(v:α):upd f i v i=some v:=by simp[upd]
def er {f:Nat->Option α}{i j:Nat}{v:α}(h:j≠i):upd f i v j=f j:=by simp[upd,h]
abbrev St.di (σ:St)(a:Addr)(xs:List V):St:={σ with L:=upd σ.L a xs}
abbrev clr {α:Type}(f:Nat->Option α)(i:Nat):Nat->Option α:=λj=>if j=i then none else f j
def nM {f:Nat->Option α}{i j:Nat}{v:α}(h:clr f i j=some v):j≠i/\f j=some v:=by
 unfold clr at h;by_cases q:j=i
 ·rw[cn q]at h;cases h
 ·rw[br q]at h;apply#[q,h]
abbrev St.sg (σ:St)(a:Addr)(es:List (Key×V)):St:={σ with D:=upd σ.D a es,Z:=clr σ.Z a}
abbrev St.yl (σ:St)(a:Addr)(ks:List Key):St:={σ with S:=upd σ.S a ks,Z:=clr σ.Z a}
abbrev St.jw (σ:St)(a:Addr)(d:Addr)(f:Nat->Option V):St:={σ with I:=upd σ.I a (d,f)}
abbrev St.dom (σ:St)(b:Addr):Prop:=(σ.L b).isSome\/(σ.D b).isSome\/(σ.S b).isSome\/(σ.I b).isSome\/(σ.Z b).isSome\/∃a f,σ.I a=some (b,f)
set_option genInjectivity false
set_option genCtorIdx true in
inductive Bop where
 |add|sub|mul|fdiv|mod|pow
set_option genCtorIdx true in
inductive Cop where
 |eq|ne|lt|le|gt|ge|is|isNot|isIn|notIn
set_option genCtorIdx true in
inductive BM where
 |append
 |pop
 |insert|extend
 |sort
 |index|count|get|setdefault|add
set_option genCtorIdx true in
inductive BF where
 |len
 |set
 |divmod
 |maxL
 |sum
 |sorted
inductive Tg where
 |v (x:Nat)
 |T (xs:List Nat)
mutual
inductive Ex where
 |none
 |bool (b:Bool)
 |int (i:Int)
 |str (s:Str)
 |l (x:Nat)
 |b (op:Bop) (a b:Ex)
 |neg (a:Ex)
 |not (a:Ex)
 |and (a b:Ex)
 |or (a b:Ex)
 |c (op:Cop) (a b:Ex)
 |I (c a b:Ex)
 |L (es:Exs)
 |T (es:Exs)
 |dct0
 |call (f:Nat) (es:Exs)
 |meth (e:Ex) (m:Nat) (es:Exs)
 |attr (e:Ex) (a:Nat)
 |g (e:Ex)
 |h (e:Ex)
 |bm (k:BM) (e:Ex) (es:Exs)
 |bf (k:BF) (es:Exs)
 |w (f:Nat) (es:Exs)
 |sub (e i:Ex)
 |slc (e lo hi:Ex)
 |K (fv:List (Nat×Nat)) (it:It) (t:Tg) (cs:Exs) (more:Gens)
 |n (es:Exs)
 |N (a b c:Ex)
 |M (e:Ex)
 |dead
inductive Exs where
 |nil
 |cons (e:Ex) (es:Exs)
inductive It where
 |rng1 (e:Ex)
 |rng2 (a b:Ex)
 |enum (e:Ex)
 |seq (e:Ex)
inductive Gens where
 |elt (e:Ex)
 |cons (it:It) (t:Tg) (cs:Exs) (more:Gens)
end
inductive Tgt where
 |v (x:Nat)
 |attr (o:Ex) (a:Nat)
 |sub (o i:Ex)
 |T (xs:List Nat)
mutual
inductive Stm where
 |a (ts:List Tgt) (e:Ex)
 |aug (x:Nat) (op:Bop) (e:Ex)
 |expr (e:Ex)
 |C (c:Ex) (t e:qa)
 |loop (c:Ex) (b:qa)
 |each (t:Tg) (it:It) (b:qa)
 |ret (e:Ex)
 |brk
 |cont
 |pass
 |dead
inductive qa where
 |nil
 |cons (s:Stm) (ss:qa)
end
set_option genCtorIdx true in
inductive Fl where
 |next|brk|cont
 |ret (v:V)
abbrev eL (σ:St):Nat->V->Option PyData
 |_,.none=>some .none
 |_,.bool b=>some (.bool b)
 |_,.int i=>some (.int i)
 |_,.str s=>if PyData.strOk s then some (.str s) else Option.none
 |n+1,.T xs=>(xs.mapM (eL σ n)).map .tuple
 |n+1,.L a=>(σ.L a).bind λxs=>(xs.mapM (eL σ n)).map .list
 |_,_=>Option.none
abbrev bx:Nat:=1000000
abbrev EA (a b:Int):Prop:=a.natAbs<2^60\/b.natAbs<2^60
abbrev vInt:V->Option Int
 |.int i=>some i|_=>none
abbrev vStr:V->Option Str
 |.str i=>some i|_=>none
abbrev kU:V->Option Addr
 |.L i=>some i|_=>none
abbrev GB:V->Option Addr
 |.dct i=>some i|_=>none
abbrev L5:V->Option Addr
 |.obj i=>some i|_=>none
abbrev vRo:V->Option (List Int)
 |.ro i=>some i|_=>none
abbrev L2:V->Option (List V)
 |.T i=>some i|_=>none
def jn {x:α}{p:Prop}(h:none=some x):p:=by cases h
def sf {v:V}{i:Int}(h:vInt v=some i):v=.int i:=by
 cases v<;>first|show dj _ (af h)|show jn h
def fT {v:V}{i:Str}(h:vStr v=some i):v=.str i:=by
 cases v<;>first|show dj _ (af h)|show jn h
def iA {v:V}(h:kU v=some i):v=.L i:=by
 cases v<;>first|show dj _ (af h)|show jn h
def GA {v:V}(h:GB v=some i):v=.dct i:=by
 cases v<;>first|show dj _ (af h)|show jn h
def xX {v:V}(h:L5 v=some i):v=.obj i:=by
 cases v<;>first|show dj _ (af h)|show jn h
def L4 {v:V}{i:List Int}(h:vRo v=some i):v=.ro i:=by
 cases v<;>first|show dj _ (af h)|show jn h
def G9 {v:V}{i:List V}(h:L2 v=some i):v=.T i:=by
 cases v<;>first|show dj _ (af h)|show jn h
abbrev zk (v:V)(f:Int->Prop):Prop:=match v with
 |.int i=>f i
 |_=>False
def uf {v:V}{f:Int->Prop}(h:zk v f):∃i,v=.int i/\f i:=by
 cases v<;>first|refine⟨_,rfl,h⟩|show False.elim h
abbrev ym (v:V)(f:Addr->Prop):Prop:=match v with
 |.L i=>f i
 |_=>False
def ue {v:V}(h:ym v f):∃i,v=.L i/\f i:=by
 cases v<;>first|refine⟨_,rfl,h⟩|show False.elim h
abbrev pN (v:V)(f:Addr->Prop):Prop:=match v with
 |.dct i=>f i
 |_=>False
def iK {v:V}(h:pN v f):∃i,v=.dct i/\f i:=by
 cases v<;>first|refine⟨_,rfl,h⟩|show False.elim h
abbrev onSet (v:V)(f:Addr->Prop):Prop:=match v with
 |.set i=>f i
 |_=>False
def HV {v:V}(h:onSet v f):∃i,v=.set i/\f i:=by
 cases v<;>first|refine⟨_,rfl,h⟩|show False.elim h
abbrev on0 (vs:List V)(p:Prop):Prop:=match vs with
 | []=>p
 |_::_=>False
abbrev on1 (vs:List V)(f:V->Prop):Prop:=match vs with
 | []=>False
 |v::r=>on0 r (f v)
abbrev on2 (vs:List V)(f:V->V->Prop):Prop:=match vs with
 | []=>False
 |v::r=>on1 r (f v)
abbrev on3 (vs:List V)(f:V->V->V->Prop):Prop:=match vs with
 | []=>False
 |v::r=>on2 r (f v)
def yG {p:Prop}(h:on0 vs p):vs=[]/\p:=by
 cases vs
 ·apply#[rfl,h]
 ·show False.elim h
def iL {f:V->Prop}(h:on1 vs f):∃v,vs=[v]/\f v:=by
 cases vs with
 |nil=>show False.elim h
 |cons v r=>have#[rfl,h]:=yG (p:=f v) h;apply#[v,rfl,h]
def kF {f:V->V->Prop}(h:on2 vs f):∃v u,vs=[v,u]/\f v u:=by
 cases vs with
 |nil=>show False.elim h
 |cons v r=>have#[u,rfl,h]:=iL (f:=f v) h;apply#[v,u,rfl,h]
def NS {f:V->V->V->Prop}(h:on3 vs f):∃v u z,vs=[v,u,z]/\f v u z:=by
 cases vs with
 |nil=>show False.elim h
 |cons v r=>have#[u,z,rfl,h]:=kF (f:=f v) h;apply#[v,u,z,rfl,h]
abbrev vG (op:Bop)(a b:Int)(σ:St)(Q:V->St->Prop):Prop:=match op with
 |.add=>Q (.int (a+b)) σ
 |.sub=>Q (.int (a-b)) σ
 |.mul=>EA a b/\Q (.int (a*b)) σ
 |.fdiv=>b≠0/\b.natAbs<2^60/\Q (.int (a.fdiv b)) σ
 |.mod=>b≠0/\Q (.int (a.fmod b)) σ
 |.pow=>0<=b/\b<=1000/\a.natAbs<2^64/\Q (.int (a^b.toNat)) σ
abbrev itemsOf (a:V)(σ:St):Option (List V):=match kU a with
 |some l=>σ.L l
 |none=>(vRo a).map λns=>ns.map V.int
abbrev K1 (a:V)(b:Addr)(σ:St)(Q:V->St->Prop):Prop:=∃xs ys,itemsOf a σ=some xs/\σ.L b=some ys/\xs.length+ys.length<=bx/\∀c,σ.L c=Option.none->Q (.L c) (σ.di c (xs++ys))
abbrev JY (a:Addr)(n:Int)(σ:St)(Q:V->St->Prop):Prop:=∃xs,σ.L a=some xs/\xs.length*n.toNat<=bx/\n.natAbs<2^60/\∀c,σ.L c=Option.none->Q (.L c) (σ.di c ((List.replicate n.toNat xs).flatten))
abbrev gI (op:Bop)(a b:V)(σ:St)(Q:V->St->Prop):Prop:=match vInt a,vInt b with
 |some i,some j=>vG op i j σ Q
 |none,some n=>match op,kU a with
  |.mul,some l=>JY l n σ Q
  |_,_=>False
 |none,none=>match op,kU b with
  |.add,some m=>K1 a m σ Q
  |_,_=>False
 |_,_=>False
def tE {op:Bop}{a b:V}{σ:St}{Q:V->St->Prop}(h:gI op a b σ Q):(∃i j,a=.int i/\b=.int j/\vG op i j σ Q)\/(op=.mul/\∃l n,a=.L l/\b=.int n/\JY l n σ Q)\/(op=.add/\∃m,b=.L m/\K1 a m σ Q):=by
 unfold gI at h;cases O:vInt a with
 |some i =>
  cases U:vInt b with
  |some j=>rw[O,U]at h;show .inl #[i,j,sf O,sf U,h]
  |none=>rw[O,U]at h;show h.elim
 |none =>
  cases U:vInt b with
  |some j =>
   rw[O,U]at h;cases W:kU a with
   |none=>rw[W]at h;cases op<;>show h.elim
   |some l =>
    rw[W]at h;cases op with
    |mul=>show .inr (.inl #[rfl,l,j,iA W,sf U,h])
    |_=>show h.elim
  |none =>
   rw[O,U]at h;cases W:kU b with
   |none=>rw[W]at h;cases op<;>show h.elim
   |some m =>
    rw[W]at h;cases op with
    |add=>show .inr (.inr #[rfl,m,iA W,h])
    |_=>show h.elim
abbrev xW (a b:V)(σ:St)(K:Bool->Prop):Prop:=∃d e,eL σ 6 a=some d/\eL σ 6 b=some e/\K (PyData.eqv d e)
abbrev tC (a b:V)(σ:St)(K:Bool->Prop):Prop:=match vInt a with
 |some i=>match vInt b with
  |some j=>K (i==j)
  |none=>xW a b σ K
 |none=>match vStr a with
  |some x=>match vStr b with
   |some y=>K (x==y)
   |none=>xW a b σ K
  |none=>xW a b σ K
def lU {a b:V}{σ:St}{K:Bool->Prop}(h:tC a b σ K):(∃i j,a=.int i/\b=.int j/\K (i==j))\/(∃x y,a=.str x/\b=.str y/\K (x==y))\/xW a b σ K:=by
 unfold tC at h;cases O:vInt a with
 |some i =>
  rw[O]at h;cases W:vInt b with
  |some j=>rw[W]at h;show .inl #[i,j,sf O,sf W,h]
  |none=>rw[W]at h;show .inr (.inr h)
 |none =>
  rw[O]at h;cases U:vStr a with
  |none=>rw[U]at h;show .inr (.inr h)
  |some x =>
   rw[U]at h;cases W:vStr b with
   |some y=>rw[W]at h;show .inr (.inl #[x,y,fT U,fT W,h])
   |none=>rw[W]at h;show .inr (.inr h)
abbrev isNone:V->Bool
 |.none=>true
 |_=>false
abbrev K0 (b:Addr)(v:V)(σ:St)(K:Bool->Prop):Prop:=match v with
 |.L a=>(σ.L a).isSome/\(σ.L b).isSome/\K (a==b)
 |.none=>K false
 |_=>False
abbrev FY (v w:V)(σ:St)(K:Bool->Prop):Prop:=match w with
 |.none=>K (isNone v)
 |.L b=>K0 b v σ K
 |_=>False
abbrev FZ (a b:V)(σ:St)(K:Bool->Prop):Prop:=zk a λi=>ym b λl=>∃ns:List Int,σ.L l=some (ns.map V.int)/\K (ns.contains i)
abbrev PX (op:Cop)(a b:Int)(K:Bool->Prop):Prop:=match op with
 |.lt=>K (decide (a<b))
 |.le=>K (decide (a<=b))
 |.gt=>K (decide (b<a))
 |.ge=>K (decide (b<=a))
 |_=>False
abbrev JZ (op:Cop)(a b:V)(K:Bool->Prop):Prop:=zk a λi=>zk b λj=>PX op i j K
abbrev zj:Cop->V->V->St->(Bool->Prop)->Prop
 |.eq,a,b,σ,K=>tC a b σ K
 |.ne,a,b,σ,K=>tC a b σ λr=>K (!r)
 |.is,a,b,σ,K=>FY a b σ K
 |.isNot,a,b,σ,K=>FY a b σ λr=>K (!r)
 |.isIn,a,b,σ,K=>FZ a b σ K
 |.notIn,a,b,σ,K=>FZ a b σ λr=>K (!r)
 |op,a,b,σ,K=>JZ op a b K
abbrev ux:V->St->(Bool->Prop)->Prop
 |.none,_,K=>K false
 |.bool b,_,K=>K b
 |.int i,_,K=>K (i != 0)
 |.str s,_,K=>s.cps.size<=bx/\K (s.cps.size != 0)
 |.L a,σ,K=>∃xs,σ.L a=some xs/\K (!xs.isEmpty)
 |.ro ns,_,K=>ns.length<=bx/\K (!ns.isEmpty)
 |.clo _ _,_,K=>K true
 |_,_,_=>False
abbrev jt (n:Nat)(i:Int):Int:=if i<0 then i+n else i
abbrev iz (n:Nat)(i:Int):Nat:=min n (jt n i).toNat
abbrev t4 (a b:V)(σ:St)(K:V->Prop):Prop:=match a with
 |.L a=>zk b λi=>∃xs v,σ.L a=some xs/\0<=jt xs.length i/\xs[(jt xs.length i).toNat]?=some v/\K v
 |.ro ns=>zk b λi=>∃n,ns.length<=bx/\0<=jt ns.length i/\ns[(jt ns.length i).toNat]?=some n/\K (.int n)
 |.T xs=>zk b λi=>∃v,i.natAbs<2^60/\0<=jt xs.length i/\xs[(jt xs.length i).toNat]?=some v/\K v
 |.dct a=>∃es kk v,σ.D a=some es/\b.rO=some kk/\es.lookup kk=some v/\K v
 |_=>False
abbrev n4 (d:Nat):V->Option Int
 |.none=>some d
 |.int i=>some i
 |_=>Option.none
abbrev JX (a lo hi:V)(σ:St)(Q:V->St->Prop):Prop:=match a with
 |.L a=>∃xs i j,σ.L a=some xs/\n4 0 lo=some i/\n4 xs.length hi=some j/\i.natAbs<2^60/\j.natAbs<2^60 /\
   ∀c,σ.L c=Option.none->Q (.L c) (σ.di c ((xs.take (iz xs.length j)).drop (iz xs.length i)))
 |.ro ns=>∃i j,ns.length<=bx/\n4 0 lo=some i/\n4 ns.length hi=some j/\i.natAbs<2^60/\j.natAbs<2^60 /\
   ∀c,σ.L c=Option.none->Q (.L c) (σ.di c (((ns.take (iz ns.length j)).drop (iz ns.length i)).map V.int))
 |_=>False
abbrev putD (es:List (Key×V))(k:Key)(v:V):List (Key×V):=
 if es.any (λe=>e.1==k) then es.map (λe=>if e.1=k then (k,v) else e) else es++[(k,v)]
abbrev ke:List Int->List Int->Bool
 |a::as,b::bs=>if a=b then ke as bs else decide (a<b)
 |_,_=>false
abbrev iT (t:List Int):V:=.T (t.map V.int)
abbrev tI (t:Int×Int×Int):V:=.T [.int t.1,.int t.2.1,.int t.2.2]
abbrev mtV (t:Int×Int×Int):V:=.mt [.int t.1,.int t.2.1,.int t.2.2]
abbrev leT (s t:Int×Int×Int):Bool:=!ke [t.1,t.2.1,t.2.2] [s.1,s.2.1,s.2.2]
abbrev L0 (k:BM)(v:V)(vs:List V)(σ:St)(Q:V->St->Prop):Prop:=match k with
 |.append=>ym v λa=>on1 vs λx=>∃xs,σ.L a=some xs/\xs.length<bx/\Q .none (σ.di a (xs++[x]))
 |.pop=>ym v λa=>on0 vs (∃xs x,σ.L a=some (xs++[x])/\Q x (σ.di a xs))
 |.insert=>ym v λa=>on2 vs λz x=>zk z λi=>∃xs,σ.L a=some xs/\xs.length<bx/\0<=i/\i<2^60/\Q .none (σ.di a (xs.take (iz xs.length i)++x::xs.drop (iz xs.length i)))
 |.extend=>ym v λa=>on1 vs λx=>ym x λb=>∃xs ys,a≠b/\σ.L a=some xs/\σ.L b=some ys/\xs.length+ys.length<=bx/\Q .none (σ.di a (xs++ys))
 |.sort=>ym v λa=>on0 vs (∃ts:List (Int×Int×Int),σ.L a=some (ts.map mtV)/\Q .none (σ.di a ((ts.mergeSort leT).map mtV)))
 |.index=>ym v λa=>on1 vs λx=>zk x λi=>∃ns:List Int,σ.L a=some (ns.map V.int)/\i∈ns/\Q (.int (ns.idxOf i)) σ
 |.count=>False
 |.get=>pN v λa=>on2 vs λk d=>∃es kk,σ.D a=some es/\k.rO=some kk/\Q ((es.lookup kk).getD d) σ
 |.setdefault=>pN v λa=>on2 vs λk d=>∃es kk,σ.D a=some es/\k.rO=some kk/\es.length<bx/\Q ((es.lookup kk).getD d) (σ.sg a (if (es.lookup kk).isSome then es else es++[(kk,d)]))
 |.add=>False
abbrev MW (k:BM)(v:V)(σ:St):Prop:=match k with
 |.get=>pN v λa=>(σ.D a).isSome=true
 |.setdefault=>pN v λa=>(σ.D a).isSome=true
 |.add=>onSet v λa=>(σ.S a).isSome=true
 |_=>ym v λa=>(σ.L a).isSome=true
abbrev NB (v:V)(σ:St)(Q:V->St->Prop):Prop:=match v with
 |.L a=>∃xs,σ.L a=some xs/\Q (.int xs.length) σ
 |.T xs=>xs.length<=bx/\Q (.int xs.length) σ
 |.ro ns=>ns.length<=bx/\Q (.int ns.length) σ
 |.dct a=>∃es,σ.D a=some es/\Q (.int es.length) σ
 |_=>False
abbrev tF (k:BF)(vs:List V)(σ:St)(Q:V->St->Prop):Prop:=match k with
 |.len=>on1 vs λv=>NB v σ Q
 |.set=>on0 vs (∀c,σ.S c=Option.none->σ.D c=Option.none->Q (.set c) (σ.yl c []))
 |.divmod=>on2 vs λv u=>zk v λa=>zk u λb=>b≠0/\b.natAbs<2^60/\Q (.T [.int (a.fdiv b),.int (a.fmod b)]) σ
 |.maxL=>on1 vs λv=>ym v λa=>∃ns:List Int,σ.L a=some (ns.map V.int)/\ns≠[]/\∀m∈ns,(∀n∈ns,n<=m)->Q (.int m) σ
 |.sum=>on1 vs λv=>ym v λa=>∃ns:List Int,σ.L a=some (ns.map V.int)/\Q (.int ns.sum) σ
 |.sorted=>on1 vs λv=>ym v λa=>∃(ts:List (List Int)) (k:Nat),k≠0/\σ.L a=some (ts.map iT)/\(∀t∈ts,t.length=k)/\∀ts':List (List Int),ts'.Perm ts->ts'.Pairwise (λx y=>ke y x=false)->∀c,σ.L c=Option.none->Q (.L c) (σ.di c (ts'.map iT))
abbrev GC:V->St->Option (List V)
 |.T vs,_=>some vs
 |.mt vs,_=>some vs
 |.L a,σ=>σ.L a
 |_,_=>Option.none
abbrev gv:List Nat->List V->Fr->Fr
 |x::xs,v::vs,ρ=>gv xs vs (upd ρ x v)
 |_,_,ρ=>ρ
abbrev qg:Tg->V->St->Fr->(Fr->Prop)->Prop
 |.v x,v,_,ρ,K=>K (upd ρ x v)
 |.T xs,v,σ,ρ,K=>∃vs,GC v σ=some vs/\xs.length=vs.length/\K (gv xs vs ρ)
abbrev te (a b:Int):List V:=(List.range (b-a).toNat).map λi:Nat=>V.int (a+i)
def Cal:=Nat->List V->St->(V->St->Prop)->Prop
abbrev MZ (f:V)(vs:List V)(C:Cal)(nclo:Nat)(σ:St)(Q:V->St->Prop):Prop:=match f with
 |.hY a=>on2 vs λk d=>∃es kk,σ.D a=some es/\k.rO=some kk/\Q ((es.lookup kk).getD d) σ
 |.iI a=>on1 vs λk=>∃ks kk,σ.S a=some ks/\k.rO=some kk/\Q (.bool (decide (kk∈ks))) σ
 |.clo k cs=>C (nclo+k) (vs++cs) σ Q
 |_=>False
abbrev jQ (fv:List (Nat×Nat))(ρ:Fr):Fr:=λi=>(fv.lookup i).bind ρ
abbrev kY:List V->(St->Prop)->(V->Fr->List V->St->(Fr->List V->St->Prop)->Prop)->Fr->List V->St->(Fr->List V->St->Prop)->Prop
 | [],G,_,ρ,acc,σ,K=>G σ/\K ρ acc σ
 |v::vs,G,T,ρ,acc,σ,K=>G σ/\T v ρ acc σ λρ acc σ=>kY vs G T ρ acc σ K
abbrev BH (v:V)(σ:St)(K:List V->(St->Prop)->St->Prop):Prop:=match v with
 |.L a=>∃xs,σ.L a=some xs/\K xs (λτ=>τ.L a=some xs) σ
 |.T xs=>K xs (λ_=>True) σ
 |_=>False
mutual
noncomputable def wpE (C:Cal):Ex->Fr->St->(V->St->Prop)->Prop
 |.none,_,σ,Q=>Q .none σ
 |.bool b,_,σ,Q=>Q (.bool b) σ
 |.int i,_,σ,Q=>Q (.int i) σ
 |.str s,_,σ,Q=>Q (.str s) σ
 |.l x,ρ,σ,Q=>∃v,ρ x=some v/\Q v σ
 |.b op a b,ρ,σ,Q=>wpE C a ρ σ λva σ=>wpE C b ρ σ λvb σ=>gI op va vb σ Q
 |.neg a,ρ,σ,Q=>wpE C a ρ σ λv σ=>∃i,v=.int i/\Q (.int (-i)) σ
 |.not a,ρ,σ,Q=>wpE C a ρ σ λv σ=>ux v σ λb=>Q (.bool !b) σ
 |.and a b,ρ,σ,Q=>wpE C a ρ σ λv σ=>ux v σ λt=>if t then wpE C b ρ σ Q else Q v σ
 |.or a b,ρ,σ,Q=>wpE C a ρ σ λv σ=>ux v σ λt=>if t then Q v σ else wpE C b ρ σ Q
 |.c op a b,ρ,σ,Q=>wpE C a ρ σ λva σ=>wpE C b ρ σ λvb σ=>zj op va vb σ λr=>Q (.bool r) σ
 |.I c a b,ρ,σ,Q=>wpT C c ρ σ λt σ=>if t then wpE C a ρ σ Q else wpE C b ρ σ Q
 |.L es,ρ,σ,Q=>vg C es ρ σ λvs σ=>vs.length<=bx/\∀c,σ.L c=Option.none->Q (.L c) (σ.di c vs)
 |.T es,ρ,σ,Q=>vg C es ρ σ λvs σ=>vs.length<=bx/\Q (.T vs) σ
 |.dct0,_,σ,Q=>∀c,σ.D c=Option.none->Q (.dct c) (σ.sg c [])
 |.call f es,ρ,σ,Q=>vg C es ρ σ λvs σ=>C f vs σ Q
 |.meth e m es,ρ,σ,Q=>wpE C e ρ σ λv σ=>∃a,v=.obj a/\(σ.I a).isSome/\vg C es ρ σ λvs σ=>C m (v::vs) σ Q
 |.attr e x,ρ,σ,Q=>wpE C e ρ σ λv σ=>∃a d f u,v=.obj a/\σ.I a=some (d,f)/\f x=some u/\Q u σ
 |.g e,ρ,σ,Q=>wpE C e ρ σ λv σ=>∃a,v=.dct a/\(σ.D a).isSome/\Q (.hY a) σ
 |.h e,ρ,σ,Q=>wpE C e ρ σ λv σ=>∃a,v=.set a/\(σ.S a).isSome/\Q (.iI a) σ
 |.bm k e es,ρ,σ,Q=>wpE C e ρ σ λv σ=>MW k v σ/\vg C es ρ σ λvs σ=>L0 k v vs σ Q
 |.bf k es,ρ,σ,Q=>vg C es ρ σ λvs σ=>tF k vs σ Q
 |.w f es,ρ,σ,Q=>∃v,ρ f=some v/\vg C es ρ σ λvs σ=>MZ v vs C 1000 σ Q
 |.sub e i,ρ,σ,Q=>wpE C e ρ σ λv σ=>wpE C i ρ σ λj σ=>t4 v j σ λr=>Q r σ
 |.slc e lo hi,ρ,σ,Q=>wpE C e ρ σ λv σ=>wpE C lo ρ σ λa σ=>wpE C hi ρ σ λb σ=>JX v a b σ Q
 |.K fv it t cs more,ρ,σ,Q=>t9 C it ρ σ λvs G σ =>
   kY vs G (λv ρ' acc σ K=>qg t v σ ρ' λρ'=>wh C cs ρ' σ λok σ=>if ok then uy C more ρ' acc σ K else K ρ' acc σ) (jQ fv ρ) [] σ
    λ_ acc σ=>∀c,σ.L c=Option.none->Q (.L c) (σ.di c acc)
 |.n es,ρ,σ,Q=>vg C es ρ σ λvs σ=>∀a d,σ.I a=Option.none->C 0 (.obj a::vs) (σ.jw a d λ_=>Option.none) λv σ=>v=.none/\Q (.obj a) σ
 |.N a b c,ρ,σ,Q=>wpE C a ρ σ λx σ=>wpE C b ρ σ λy σ=>wpE C c ρ σ λz σ=>Q (.mt [x,y,z]) σ
 |.M e,ρ,σ,Q=>wpE C e ρ σ λv σ=>∃a,∃ts:List (List V),v=.L a/\σ.L a=some (ts.map V.T)/\(∀t∈ts,t.length=3)/\∀c,σ.L c=Option.none->Q (.L c) (σ.di c (ts.map V.mt))
 |.dead,_,_,_=>False
noncomputable def wpT (C:Cal):Ex->Fr->St->(Bool->St->Prop)->Prop
 |.not a,ρ,σ,Q=>wpT C a ρ σ λb σ=>Q (!b) σ
 |.and a b,ρ,σ,Q=>wpT C a ρ σ λt σ=>if t then wpT C b ρ σ Q else Q false σ
 |.or a b,ρ,σ,Q=>wpT C a ρ σ λt σ=>if t then Q true σ else wpT C b ρ σ Q
 |.c op a b,ρ,σ,Q=>wpE C a ρ σ λva σ=>wpE C b ρ σ λvb σ=>zj op va vb σ λr=>Q r σ
 |.I c a b,ρ,σ,Q=>wpT C c ρ σ λt σ=>if t then wpT C a ρ σ Q else wpT C b ρ σ Q
 |.l x,ρ,σ,Q=>∃v,ρ x=some v/\ux v σ λb=>Q b σ
 |.int i,_,σ,Q=>Q (i != 0) σ
 |.bool b,_,σ,Q=>Q b σ
 |.attr e x,ρ,σ,Q=>wpE C e ρ σ λv σ=>∃a d f u,v=.obj a/\σ.I a=some (d,f)/\f x=some u/\ux u σ λb=>Q b σ
 |.w f es,ρ,σ,Q=>∃v,ρ f=some v/\vg C es ρ σ λvs σ=>MZ v vs C 1000 σ λr σ=>ux r σ λb=>Q b σ
 |.sub e i,ρ,σ,Q=>wpE C e ρ σ λv σ=>wpE C i ρ σ λj σ=>t4 v j σ λr=>ux r σ λb=>Q b σ
 |.b op a b,ρ,σ,Q=>wpE C a ρ σ λva σ=>wpE C b ρ σ λvb σ=>gI op va vb σ λr σ=>ux r σ λb=>Q b σ
 |_,_,_,_=>False
noncomputable def vg (C:Cal):Exs->Fr->St->(List V->St->Prop)->Prop
 |.nil,_,σ,Q=>Q [] σ
 |.cons e es,ρ,σ,Q=>wpE C e ρ σ λv σ=>vg C es ρ σ λvs σ=>Q (v::vs) σ
noncomputable def wh (C:Cal):Exs->Fr->St->(Bool->St->Prop)->Prop
 |.nil,_,σ,Q=>Q true σ
 |.cons e es,ρ,σ,Q=>wpT C e ρ σ λb σ=>if b then wh C es ρ σ Q else Q false σ
noncomputable def t9 (C:Cal):It->Fr->St->(List V->(St->Prop)->St->Prop)->Prop
 |.rng1 e,ρ,σ,K=>wpE C e ρ σ λv σ=>∃n:Int,v=.int n/\n.natAbs<2^40/\K (te 0 n) (λ_=>True) σ
 |.rng2 a b,ρ,σ,K=>wpE C a ρ σ λv σ=>wpE C b ρ σ λu σ=>∃m n:Int,v=.int m/\u=.int n/\m.natAbs<2^40/\n.natAbs<2^40/\K (te m n) (λ_=>True) σ
 |.enum e,ρ,σ,K=>wpE C e ρ σ λv σ=>∃a xs,v=.L a/\σ.L a=some xs/\K (xs.zipIdx.map λp=>V.T [.int p.2,p.1]) (λτ=>τ.L a=some xs) σ
 |.seq e,ρ,σ,K=>wpE C e ρ σ λv σ=>BH v σ K
noncomputable def uy (C:Cal):Gens->Fr->List V->St->(Fr->List V->St->Prop)->Prop
 |.elt e,ρ,acc,σ,K=>wpE C e ρ σ λv σ=>acc.length<bx/\K ρ (acc++[v]) σ
 |.cons it t cs more,ρ,acc,σ,K=>t9 C it ρ σ λvs G σ =>
   kY vs G (λv ρ acc σ K=>qg t v σ ρ λρ=>wh C cs ρ σ λok σ=>if ok then uy C more ρ acc σ K else K ρ acc σ) ρ acc σ K
end
abbrev zN (u k v:V)(σ:St)(K:St->Prop):Prop:=pN u λa=>∃es kk,σ.D a=some es/\k.rO=some kk/\es.length<bx/\K (σ.sg a (putD es kk v))
abbrev JW (C:Cal):Tgt->V->Fr->St->(Fr->St->Prop)->Prop
 |.v x,v,ρ,σ,K=>K (upd ρ x v) σ
 |.attr o a,v,ρ,σ,K=>wpE C o ρ σ λu σ=>∃x d f,u=.obj x/\σ.I x=some (d,f)/\K ρ (σ.jw x d (upd f a v))
 |.sub o i,v,ρ,σ,K=>wpE C o ρ σ λu σ=>wpE C i ρ σ λj σ=>zN u j v σ λσ=>K ρ σ
 |.T xs,v,ρ,σ,K=>qg (.T xs) v σ ρ λρ=>K ρ σ
abbrev jA (C:Cal):List Tgt->V->Fr->St->(Fr->St->Prop)->Prop
 | [],_,ρ,σ,K=>K ρ σ
 |t::ts,v,ρ,σ,K=>JW C t v ρ σ λρ σ=>jA C ts v ρ σ K
abbrev L1 (a b:Addr)(σ:St)(Q:V->St->Prop):Prop:=∃xs ys,a≠b/\σ.L a=some xs/\σ.L b=some ys/\xs.length+ys.length<=bx/\Q (.L a) (σ.di a (xs++ys))
abbrev K3 (op:Bop)(v u:V)(σ:St)(Q:V->St->Prop):Prop:=match v with
 |.L a=>ym u λb=>match op with
  |.add=>L1 a b σ Q
  |_=>False
 |.int a=>zk u λb=>vG op a b σ Q
 |_=>False
abbrev yN (T:(Fr->St->Prop)->Fr->St->Prop):Nat->Fr->St->Prop
 |0,_,_=>False
 |n+1,ρ,σ=>T (yN T n) ρ σ
abbrev wR:List V->(St->Prop)->(V->Fr->St->(Fr->St->Prop)->Prop)->Fr->St->(Fr->St->Prop)->Prop
 | [],G,_,ρ,σ,K=>G σ/\K ρ σ
 |v::vs,G,T,ρ,σ,K=>G σ/\T v ρ σ λρ σ=>wR vs G T ρ σ K
abbrev iB (again:Fr->St->Prop)(K:Fl->Fr->St->Prop):Fl->Fr->St->Prop
 |.next,ρ,σ=>again ρ σ
 |fl,ρ,σ=>K fl ρ σ
abbrev wk (again:Fr->St->Prop)(K:Fl->Fr->St->Prop):Fl->Fr->St->Prop
 |.next,ρ,σ=>again ρ σ
 |.cont,ρ,σ=>again ρ σ
 |.brk,ρ,σ=>K .next ρ σ
 |.ret v,ρ,σ=>K (.ret v) ρ σ
mutual
noncomputable def wpS (C:Cal):Stm->Fr->St->(Fl->Fr->St->Prop)->Prop
 |.a ts e,ρ,σ,K=>wpE C e ρ σ λv σ=>jA C ts v ρ σ λρ σ=>K .next ρ σ
 |.aug x op e,ρ,σ,K=>∃v,ρ x=some v/\wpE C e ρ σ λu σ=>K3 op v u σ λr σ=>K .next (upd ρ x r) σ
 |.expr e,ρ,σ,K=>wpE C e ρ σ λv σ=>v=.none/\K .next ρ σ
 |.C c t e,ρ,σ,K=>wpT C c ρ σ λb σ=>if b then gw C t ρ σ K else gw C e ρ σ K
 |.loop c b,ρ,σ,K=>∃n,yN (λagain ρ σ=>wpT C c ρ σ λt σ=>if t then gw C b ρ σ (wk again K) else K .next ρ σ) n ρ σ
 |.each t it b,ρ,σ,K=>t9 C it ρ σ λvs G σ=>wR vs G (λv ρ σ k=>qg t v σ ρ λρ=>gw C b ρ σ (wk k K)) ρ σ λρ σ=>K .next ρ σ
 |.ret e,ρ,σ,K=>wpE C e ρ σ λv σ=>K (.ret v) ρ σ
 |.brk,ρ,σ,K=>K .brk ρ σ
 |.cont,ρ,σ,K=>K .cont ρ σ
 |.pass,ρ,σ,K=>K .next ρ σ
 |.dead,_,_,_=>False
noncomputable def gw (C:Cal):qa->Fr->St->(Fl->Fr->St->Prop)->Prop
 |.nil,ρ,σ,K=>K .next ρ σ
 |.cons s ss,ρ,σ,K=>wpS C s ρ σ (iB (λρ σ=>gw C ss ρ σ K) K)
end
structure Fn where
 n:Nat
 dflt:List V
 body:qa
abbrev i3 (f:Fn)(vs:List V):List V:=vs++f.dflt.drop (f.dflt.length-(f.n-vs.length))
abbrev frameOf (f:Fn)(vs:List V):Fr:=λi=>(i3 f vs)[i]?
abbrev AG (Q:V->St->Prop):Fl->Fr->St->Prop
 |.ret v,_,σ=>Q v σ
 |.next,_,σ=>Q .none σ
 |_,_,_=>False
abbrev ku (P:Nat->Option Fn):Nat->Cal
 |0,_,_,_,_=>False
 |d+1,f,vs,σ,Q=>∃fn,P f=some fn/\vs.length<=fn.n/\fn.n<=vs.length+fn.dflt.length/\gw (ku P d) fn.body (frameOf fn vs) σ (AG Q)
end MP
end
section
namespace MP
open PySem PyProof.Rows
abbrev N3 (l:List Nat):Prop:=l.Pairwise (·<·)
structure Tbl (led:Bool)(t:SetTable):Prop where
 led:t.led=led
 nod:t.dummies=#v[]
 rise:N3 t.place.toList
def N3.at {xs:Array Nat}(h:N3 xs.toList){i j x y:Nat}(O:xs[i]?=some x)(U:xs[j]?=some y)(W:i<j):x<y:=by
 have#[a,I]:=Array.getElem?_eq_some_iff.mp O;have#[b,J]:=Array.getElem?_eq_some_iff.mp U;have:=vm.mp h i j (by simpa using a) (by simpa using b) W;simp only[Array.getElem_toList]at this;rw[I,J]at this;show this
end MP
end
section
namespace MP
set_option genSizeOf false
set_option genInjectivity false
open PySem
structure Stc where
 prog:Program
 w:World
 hb:Heap
 cM:Addr
 cS:Addr
 attrs:List Str
 gl:Str->Option Value
 cap:Str->Bool
 clo:Nat->List V->Addr->Prop
abbrev Frz (o:Obj):Prop:=
 (o.cls≠.type "list"/\∃xs n,o.data=.seq xs n)\/((o.cls=.type "builtin_function_or_method"\/o.cls=.type "method-wrapper")/\∃vs,o.data=.fields vs)\/∃fd,o.data=.func fd
mutual
noncomputable def VR (G:Stc)(h:Heap):V->Value->Prop
 |.none=>λw=>w=.none
 |.bool b=>λw=>w=.bool b
 |.int i=>λw=>∃t,w=.int i t
 |.str s=>λw=>∃t,w=.str s t
 |.L a=>λw=>w=.ref a
 |.dct a=>λw=>w=.ref a
 |.set a=>λw=>w=.ref a
 |.obj a=>λw=>w=.ref a
 |.T xs=>λw=>∃a ws n,w=.ref a/\IsT h a ws.toArray n/\VRs G h xs ws
 |.mt xs=>λw=>∃a ws n dd,w=.ref a/\h.get? a=some {cls:=.ref G.cM,dict:=dd,data:=.seq ws.toArray n,slots:=#v[]}/\VRs G h xs ws
 |.hY a=>λw=>∃q o,w=.ref q/\h.get? q=some o/\o.cls=.type "builtin_function_or_method"/\o.data=.fields #v[.builtin "dict.get",.ref a]
 |.iI a=>λw=>∃q o,w=.ref q/\h.get? q=some o/\o.cls=.type "builtin_function_or_method"/\o.data=.fields #v[.builtin "set.__contains__",.ref a]
 |.clo k cs=>λw=>∃a o,w=.ref a/\G.clo k cs a/\G.hb.get? a=some o/\o.cls=.type "function"
 |.ro ns=>λw=>∃a ws n,w=.ref a/\IsL G.hb a ws.toArray n/\PyProof.Rows.IntsAre ws ns
noncomputable def VRs (G:Stc)(h:Heap):List V->List Value->Prop
 | []=>λws=>ws=[]
 |v::vs=>λws=>∃w us,ws=w::us/\VR G h v w/\VRs G h vs us
end
section
variable {xs:List V}{ws:List Value}{n:Nat}{o:Obj}{v:V}{w:Value}{es:List (Key×V)}{ks:List Key}{X:List Addr}{b d:Addr}{f:Nat->Option V}
variable {G:Stc}{h:Heap}
def VR.none:VR G h .none .none:=rfl
def VR.bool (b:Bool):VR G h (.bool b) (.bool b):=rfl
def VR.int (i:Int)(t:Tok):VR G h (.int i) (.int i t):=#[t,rfl]
def VR.str (s:Str)(t:Tok):VR G h (.str s) (.str s t):=#[t,rfl]
def VR.L (a:Addr):VR G h (.L a) (.ref a):=rfl
def VR.dct (a:Addr):VR G h (.dct a) (.ref a):=rfl
def VR.set (a:Addr):VR G h (.set a) (.ref a):=rfl
def VR.obj (a:Addr):VR G h (.obj a) (.ref a):=rfl
def VR.T {a:Addr}(g:IsT h a ws.toArray n)(r:VRs G h xs ws):VR G h (.T xs) (.ref a):=#[a,ws,n,rfl,g,r]
def VR.mt {a:Addr}{dd:Option Addr}(g:h.get? a=some {cls:=.ref G.cM,dict:=dd,data:=.seq ws.toArray n,slots:=#v[]})(r:VRs G h xs ws):VR G h (.mt xs) (.ref a):=#[a,ws,n,dd,rfl,g,r]
def VR.hY {q a:Addr}(g:h.get? q=some o)(c:o.cls=.type "builtin_function_or_method")(d:o.data=.fields #v[.builtin "dict.get",.ref a]):VR G h (.hY a) (.ref q):=#[q,o,rfl,g,c,d]
def VR.iI {q a:Addr}(g:h.get? q=some o)(c:o.cls=.type "builtin_function_or_method")(d:o.data=.fields #v[.builtin "set.__contains__",.ref a]):VR G h (.iI a) (.ref q):=#[q,o,rfl,g,c,d]
def VR.ro {a:Addr}{ns:List Int}(g:IsL G.hb a ws.toArray n)(r:PyProof.Rows.IntsAre ws ns):VR G h (.ro ns) (.ref a):=#[a,ws,n,rfl,g,r]
def VRs.nil:VRs G h [] []:=rfl
def VRs.cons {vs:List V}(a:VR G h v w)(r:VRs G h vs ws):VRs G h (v::vs) (w::ws):=#[w,ws,rfl,a,r]
end
abbrev kf (h h':Heap):Prop:=∀b o,h.get? b=some o->Frz o->h'.get? b=some o
mutual
theorem VR.mono {G:Stc}{h h':Heap}(hk:kf h h'):{v:V}->{w:Value}->VR G h v w->VR G h' v w
 |.none=>λx=>x
 |.bool _=>λx=>x
 |.int _=>λx=>x
 |.str _=>λx=>x
 |.L _=>λx=>x
 |.dct _=>λx=>x
 |.set _=>λx=>x
 |.obj _=>λx=>x
 |.T _=>λW=>by have#[a,ws,n,e,g,r]:=W;apply#[a,ws,n,e,hk _ _ g (.inl #[show Value.type "tuple" ≠ .type "list" by decide,_,_,rfl]),VRs.mono hk r]
 |.mt _=>λW=>by have#[a,ws,n,dd,e,g,r]:=W;apply#[a,ws,n,dd,e,hk _ _ g (.inl #[λx=>(nomatch x),_,_,rfl]),VRs.mono hk r]
 |.hY _=>λW=>by have#[q,o,e,g,c,d]:=W;apply#[q,o,e,hk _ _ g (.inr (.inl #[.inl c,_,d])),c,d]
 |.iI _=>λW=>by have#[q,o,e,g,c,d]:=W;apply#[q,o,e,hk _ _ g (.inr (.inl #[.inl c,_,d])),c,d]
 |.clo _ _=>λx=>x
 |.ro _=>λx=>x
theorem VRs.mono {G:Stc}{h h':Heap}(hk:kf h h'):{vs:List V}->{ws:List Value}->VRs G h vs ws->VRs G h' vs ws
 | []=>λx=>x
 |_::_=>λW=>by have#[w,us,e,a,r]:=W;apply#[w,us,e,VR.mono hk a,VRs.mono hk r]
end
def VR.inv {G:Stc}{h:Heap}(x:VR G h v w):VR G h v w:=x
section
variable {G:Stc}{h:Heap}
def VRs.length:{vs:List V}->{ws:List Value}->VRs G h vs ws->vs.length=ws.length
 | []=>λe=>e▸rfl
 |_::_=>λW=>by have#[_,_,e,_,r]:=W;show e▸dj (·+1) (VRs.length r)
def VRs.get {vs:List V}(x:VRs G h vs ws){i:Nat}(e:vs[i]?=some v):∃w,ws[i]?=some w/\VR G h v w:=by
 induction vs generalizing ws i with
 |nil=>cases e
 |cons u vs W =>
  have#[w,us,q,a,r]:=x;subst q;cases i with
  |zero=>refine#[w,rfl,af e▸a]
  |succ i=>show W r e
def VRs.append:{vs us:List V}->{ws xs:List Value}->VRs G h vs ws->VRs G h us xs->VRs G h (vs++us) (ws++xs)
 | []=>λe b=>e▸b
 |_::_=>λW b=>by have#[_,_,e,a,r]:=W;show e▸.cons a (VRs.append r b)
def VRs.take:{vs:List V}->{ws:List Value}->(n:Nat)->VRs G h vs ws->VRs G h (vs.take n) (ws.take n)
 | []=>λn e=>by have rfl:=e;rw[List.take_nil,List.take_nil];rfl
 |_::_=>λn x=>by
  cases n with
  |zero=>show .nil
  |succ n=>have#[_,_,rfl,a,r]:=x;show .cons a (VRs.take n r)
def VRs.drop:{vs:List V}->{ws:List Value}->(n:Nat)->VRs G h vs ws->VRs G h (vs.drop n) (ws.drop n)
 | []=>λn e=>by have rfl:=e;rw[List.drop_nil,List.drop_nil];rfl
 |_::_=>λn x=>by
  cases n with
  |zero=>show x
  |succ n=>have#[_,_,rfl,_,r]:=x;show VRs.drop n r
def VRs.reverse:{vs:List V}->{ws:List Value}->VRs G h vs ws->VRs G h vs.reverse ws.reverse
 | []=>λe=>by subst e;show .nil
 |_::_=>λW=>by have#[_,_,e,a,r]:=W;subst e;rw[jm,jm];show VRs.append (VRs.reverse r) %[a|0]
end
def nE {prog:Program}{w:World}{A:Around}{E:QqV}{s:Shared}{a:Int}{t:Tok}{b:Str}{u:Tok}{Q:Bool->Shared->Prop}(h:Q false s):wpAny (model prog w) A (eqBool (.int a t) (.str b u)) Q E s:=by
 unfold eqBool;show ab (PySem.EqMixed.eq_int_str (vj h))
def nD {prog:Program}{w:World}{A:Around}{E:QqV}{s:Shared}{a:Str}{t:Tok}{b:Int}{u:Tok}{Q:Bool->Shared->Prop}(h:Q false s):wpAny (model prog w) A (eqBool (.str a t) (.int b u)) Q E s:=by
 unfold eqBool;show ab (PySem.EqMixed.eq_str_int (vj h))
abbrev yR:Key->Value->Bool
 |.int i,v=>Value.isInt i v
 |.str s,v=>Value.isStrOf s v
abbrev keyHash (w:World):Key->Int
 |.int i=>hashInt i
 |.str s=>hashStr w s
def rp {k:Key}{v:Value}(h:yR k v=true):(∃i t,k=.int i/\v=.int i t)\/∃s t,k=.str s/\v=.str s t:=by
 cases k with
 |int i=>have#[t,rfl]:=Value.isInt_shape h;show .inl #[i,t,rfl,rfl]
 |str s=>have#[t,rfl]:=Value.isStrOf_shape h;show .inr #[s,t,rfl,rfl]
abbrev keyKind (prog:Program)(w:World):KeyKind prog w Key where
 is:=yR
 hash:=keyHash w
 inj:=λv a b ha hb=>by
  rcases rp ha with ⟨i,t,rfl,rfl⟩|⟨x,t,rfl,rfl⟩<;>rcases rp hb with ⟨j,u,rfl,e⟩|⟨y,u,rfl,e⟩<;>cases e<;>rfl
 byValue:=λk v h=>by rcases rp h with ⟨i,t,rfl,rfl⟩|⟨x,t,rfl,rfl⟩<;>rfl
 pyHash:=λhv h=>by
  rcases rp hv with ⟨i,t,rfl,rfl⟩|⟨x,t,rfl,rfl⟩
  ·show wpAny_pyHash_int h
  ·show wpAny_pyHash_str h
 eqBool:=λhu hv h=>by
  rcases rp hu with ⟨i,t,rfl,rfl⟩|⟨x,t,rfl,rfl⟩<;>rcases rp hv with ⟨j,u,rfl,rfl⟩|⟨y,u,rfl,rfl⟩
  ·apply wpAny_eqBool_int ?_;simpa[Bool.beq_eq_decide_eq] using h
  ·show nE (by simpa using h)
  ·show nD (by simpa using h)
  ·show wpAny_eqBool_str (by simpa using h)
 «strs»:=λk x t v h=>by
  rcases rp h with ⟨i,u,rfl,e⟩|⟨y,u,rfl,e⟩
  ·skip
   cases e
  ·cases e;cases v<;>rfl
public abbrev Stc.kk (G:Stc):KeyKind G.prog G.w Key:=keyKind G.prog G.w
abbrev DRs (G:Stc)(h:Heap):List (Key×V)->List (Key×Value)->Prop
 | []=>λds=>ds=[]
 |e::es=>λds=>∃w us,ds=(e.1,w)::us/\VR G h e.2 w/\DRs G h es us
def DRs.nil {G:Stc}{h:Heap}:DRs G h [] []:=rfl
def DRs.cons {G:Stc}{h:Heap}{k:Key}{ds:List (Key×Value)}(a:VR G h v w)(r:DRs G h es ds):DRs G h ((k,v)::es) ((k,w)::ds):=#[w,ds,rfl,a,r]
def DRs.mono {G:Stc}{h h':Heap}(hk:kf h h'):{es:List (Key×V)}->{ds:List (Key×Value)}->DRs G h es ds->DRs G h' es ds
 | []=>λx=>x
 |_::_=>λW=>by have#[w,us,e,a,r]:=W;apply#[w,us,e,a.mono hk,r.mono hk]
abbrev OV (G:Stc)(h:Heap):Option V->Option Value->Prop
 |none,none=>True
 |some v,some w=>VR G h v w
 |_,_=>False
def OV.mono {G:Stc}{h h':Heap}(hk:kf h h'){v:Option V}{w:Option Value}(x:OV G h v w):OV G h' v w:=by
 cases v<;>cases w<;>first|show x|show VR.mono hk x
structure fH (G:Stc)(h:Heap)(a d:Addr)(f:Nat->Option V):Prop where
 here:∃o,h.get? a=some o/\o.cls=.ref G.cS/\o.dict=some d/\∀c,o.data≠.cls c
 ns:∃m,h.Ns1 d m/\(∀i x,G.attrs[i]?=some x->OV G h (f i) (m x))/\∀x,x∉G.attrs->m x=none
 ne:d≠a
public abbrev Stc.led (G:Stc):Bool:=!G.w.params.followText "set-order"
abbrev qF (G:Stc)(h:Heap)(a:Addr)(ks:List Key):Prop:=
 ∃o es ep t,h.get? a=some o/\o.ExactSet/\o.data=.set es ep t/\ElemsOf G.kk es.toList/\(∀k,decide (k∈ks)=true↔∃e∈es.toList,G.kk.is k e.2=true) /\
  es.size<scanBound/\t.fits es.size=true/\es.size=ks.length/\Tbl G.led t
def qF.of {G:Stc}{h:Heap}{a:Addr}(x:qF G h a ks):h.SetOf G.kk a (λk=>decide (k∈ks)) ks.length:=by
 have#[o,es,ep,t,h1,z,B,I,J,O,U,W,_]:=x;apply#[o,es,ep,t,h1,z,B,I,J,O,U,W]
structure Rel (G:Stc)(σ:St)(h:Heap):Prop where
 L:∀a xs,σ.L a=some xs->∃ws n,IsL h a ws.toArray n/\VRs G h xs ws
 D:∀a es,σ.D a=some es->∃ds,h.DictOf G.kk a ds/\DRs G h es ds
 S:∀a ks,σ.S a=some ks->qF G h a ks
 I:∀a d f,σ.I a=some (d,f)->fH G h a d f
 Z:∀a o,σ.Z a=some o->h.get? a=some o/\((σ.D a).isSome\/(σ.S a).isSome)
 Ll:∀a xs,σ.L a=some xs->xs.length<=bx
 Dl:∀a es,σ.D a=some es->es.length<=bx
 inj:∀a a' d f f',σ.I a=some (d,f)->σ.I a'=some (d,f')->a=a'
 apart:∀a d f,σ.I a=some (d,f)->σ.D d=none
 sep:∀a d f a' d' f',σ.I a=some (d,f)->σ.I a'=some (d',f')->a≠d'
 new:∀b,σ.dom b->G.hb.get? b=none
 base:∀b o,G.hb.get? b=some o->h.get? b=some o
structure Evo (X:List Addr)(σ:St)(h:Heap)(σ':St)(h':Heap):Prop where
 keep:∀b o,h.get? b=some o->¬σ.dom b->b∉X->h'.get? b=some o
 frz:kf h h'
 dom:∀b,σ'.dom b->σ.dom b\/h.get? b=none
 there:∀b o,h.get? b=some o->∃o',h'.get? b=some o'
def Evo.refl (X:List Addr)(σ:St)(h:Heap):Evo X σ h σ h:=#[λ_ _ e _ _=>e,λ_ _ e _=>e,λ_ d=>.inl d,λ_ o e=>#[o,e]]
def Evo.trans {σ σ₁ σ₂:St}{h h₁ W:Heap}(x:Evo X σ h σ₁ h₁)(y:Evo X σ₁ h₁ σ₂ W):Evo X σ h σ₂ W:=by
 apply#[λb o e nd O=>y.keep b o (x.keep b o e nd O) (λd=>?_) O,λb o e f=>y.frz b o (x.frz b o e f) f,λb d=>?_,λb o e=>?_]
 ·rcases x.dom b d with d|d
  ·show nd d
  ·rw[e]at d;cases d
 ·rcases y.dom b d with d|d
  ·show x.dom b d
  ·cases hq:h.get? b with
   |none=>show .inr rfl
   |some o=>have#[o',J]:=x.there b o hq;rw[J]at d;cases d
 ·have#[U,e₁]:=x.there b o e;show y.there b U e₁
def Evo.more {Y:List Addr}{σ σ':St}{h h':Heap}(x:Evo X σ h σ' h')(O:∀b∈X,b∈Y):Evo Y σ h σ' h':=
 #[λb o e nd W=>x.keep b o e nd λU=>W (O b U),x.frz,x.dom,x.there]
def Evo.less {Y:List Addr}{σ σ':St}{h h':Heap}(x:Evo X σ h σ' h')(O:∀b∈X,b∈Y\/h.get? b=none):Evo Y σ h σ' h':=
 #[λb o e nd W=>x.keep b o e nd λU=>(O b U).elim W λq=>(by rw[e]at q;cases q),x.frz,x.dom,x.there]
def zl {xs:Array Value}(c:o.cls=.type "list")(d:o.data=.seq xs n):¬Frz o:=by
 rintro (⟨h,_⟩|⟨_,_,h⟩|⟨_,h⟩)
 ·show h c
 ·rw[d]at h;cases h
 ·rw[d]at h;cases h
def ur {es:Array DictEntry}(d:o.data=.dict es n):¬Frz o:=by
 rintro (⟨_,_,_,h⟩|⟨_,_,h⟩|⟨_,h⟩)<;>(rw[d]at h;cases h)
def sF {v:Option Value}(d:o.data=.cell v):¬Frz o:=by
 rintro (⟨_,_,_,h⟩|⟨_,_,h⟩|⟨_,h⟩)<;>(rw[d]at h;cases h)
def wo {h h':Heap}{a:Addr}(W:Heap.SameBut a h h')(U:∀o,h.get? a=some o->¬Frz o):kf h h':=λb o e f=>by
 by_cases hb:b=a
 ·subst hb;show absurd f (U o e)
 ·rw[W.2 b hb];show e
def zp {h h':Heap}{a:Addr}{o':Obj}(W:Heap.SameBut a h h')(U:h'.get? a=some o'):∀b o,h.get? b=some o->∃o',h'.get? b=some o':=λb o e=>by
 by_cases hb:b=a
 ·subst hb;apply#[_,U]
 ·apply#[o,by rw[W.2 b hb];show e]
def none_at_size (h:Heap):h.get? h.objs.size=none:=by
 cases hq:h.get? h.objs.size with
 |none=>rfl
 |some o=>show absurd (jz hq) (kg _)
def Rel.sh {G:Stc}{σ:St}{h:Heap}(R:Rel G σ h)(d:σ.dom b):∃o,h.get? b=some o:=by
 rcases d with d|d|d|d|d|⟨a,f,d⟩
 ·have#[xs,e]:=cz.mp d;have#[ws,n,W,_]:=R.L b xs e;apply#[_,W]
 ·have#[xs,e]:=cz.mp d;have#[ds,#[o,es,ep,W,_,dd,_],_]:=R.D b xs e;apply#[o,W]
 ·have#[xs,e]:=cz.mp d;have#[o,es,ep,t,W,_,dd,_]:=R.S b xs e;apply#[o,W]
 ·have#[#[d,f],e]:=cz.mp d;have#[o,W,_]:=(R.I b d f e).here;apply#[o,W]
 ·have#[o,e]:=cz.mp d;apply#[o,(R.Z b o e).1]
 ·have#[m,#[o',es,ep,U,dd,_],_]:=(R.I a b f d).ns;apply#[o',U]
def Rel.same {G:Stc}{σ:St}{h h':Heap}(R:Rel G σ h)(hk:∀b o,h.get? b=some o->σ.dom b->h'.get? b=some o)(O:kf h h')(hb:∀b o,G.hb.get? b=some o->h'.get? b=some o):Rel G σ h' where
 L:=λa xs e=>by
  have#[ws,n,W,v]:=R.L a xs e;apply#[ws,n,hk a _ W (.inl (by rw[e];rfl)),v.mono O]
 D:=λa xs e=>by
  have#[ds,#[o,es,ep,W,r],v]:=R.D a xs e;apply#[ds,#[o,es,ep,hk a o W (.inr (.inl (by rw[e];rfl))),r],v.mono O]
 S:=λa xs e=>by
  have#[o,es,ep,t,W,r]:=R.S a xs e;apply#[o,es,ep,t,hk a o W (.inr (.inr (.inl (by rw[e];rfl)))),r]
 I:=λa d f e=>by
  have#[#[o,W,r],#[m,#[o',es,ep,U,B],v,J],ne]:=R.I a d f e;have dd:σ.dom d:=.inr (.inr (.inr (.inr (.inr #[a,f,e]))));apply#[#[o,hk a o W (.inr (.inr (.inr (.inl (by rw[e];rfl))))),r],#[m,#[o',es,ep,hk d o' U dd,B],λi x z=>(v i x z).mono O,J],ne]
 Z:=λa o e=>#[hk a o (R.Z a o e).1 (.inr (.inr (.inr (.inr (.inl (by rw[e];rfl)))))),(R.Z a o e).2]
 Ll:=R.Ll
 Dl:=R.Dl
 inj:=R.inj
 apart:=R.apart
 sep:=R.sep
 new:=R.new
 base:=hb
def Rel.push {G:Stc}{σ:St}{h:Heap}(R:Rel G σ h)(o:Obj):Rel G σ (h.push o):=
 R.same (λ_ _ e _=>bw o e) (λ_ _ e _=>bw o e) λb o' e=>bw o (R.base b o' e)
def Evo.push (X:List Addr)(σ:St)(h:Heap)(o:Obj):Evo X σ h σ (h.push o):=
 #[λ_ _ e _ _=>bw o e,λ_ _ e _=>bw o e,λ_ d=>.inl d,λ_ o' e=>#[o',bw o e]]
def dB {σ:St}{a:Addr}(d:(σ.di a xs).dom b):σ.dom b\/b=a:=by
 by_cases h:b=a
 ·show .inr h
 ·apply .inl ?_;rcases d with d|d
  ·show .inl (by simpa[St.di,upd,h] using d)
  ·show .inr d
def nH {σ:St}{a:Addr}{xs:List (Key×V)}(d:(σ.sg a xs).dom b):σ.dom b\/b=a:=by
 by_cases h:b=a
 ·show .inr h
 ·apply .inl ?_;rcases d with d|d|d
  ·show .inl d
  ·show .inr (.inl (by simpa[St.sg,upd,h] using d))
  ·show .inr (.inr (by simpa[St.sg,clr,h] using d))
def uT {σ:St}{a:Addr}{xs:List Key}(d:(σ.yl a xs).dom b):σ.dom b\/b=a:=by
 by_cases h:b=a
 ·show .inr h
 ·apply .inl ?_;rcases d with d|d|d|d
  ·show .inl d
  ·show .inr (.inl d)
  ·show .inr (.inr (.inl (by simpa[St.yl,upd,h] using d)))
  ·show .inr (.inr (.inr (by simpa[St.yl,clr,h] using d)))
def iP {σ:St}{a:Addr}(hd:(σ.jw a d f).dom b):σ.dom b\/b=a\/b=d:=by
 by_cases h:b=a
 ·show .inr (.inl h)
 ·by_cases h':b=d
  ·show .inr (.inr h')
  ·apply .inl ?_;rcases hd with q|q|q|q|q|⟨c,g,q⟩
   ·show .inl q
   ·show .inr (.inl q)
   ·show .inr (.inr (.inl q))
   ·show .inr (.inr (.inr (.inl (by simpa[St.jw,upd,h] using q))))
   ·show .inr (.inr (.inr (.inr (.inl q))))
   ·apply .inr (.inr (.inr (.inr (.inr #[c,g,?_]))));by_cases W:c=a
    ·simp only[St.jw,upd,W,bO,gx,ui]at q;show absurd q.1.symm h'
    ·simpa[St.jw,upd,W] using q
structure At (a:Addr)(h h':Heap):Prop where
 other:∀b o,b≠a->h.get? b=some o->h'.get? b=some o
 here:∃o,h'.get? a=some o
 yH:∀o,h.get? a=some o->¬Frz o
def At.frz {a:Addr}{h h':Heap}(x:At a h h'):kf h h':=λb o e f=>x.other b o (λhb=>x.yH o (hb▸e) f) e
def At.there {a:Addr}{h h':Heap}(x:At a h h'):∀b o,h.get? b=some o->∃o',h'.get? b=some o':=λb o e=>by
 by_cases hb:b=a
 ·subst hb;show x.here
 ·apply#[o,x.other b o hb e]
def At.push (h:Heap)(W:o.isFreed=false:=by rfl):At h.objs.size h (h.push o):=
 #[λ_ _ _ e=>bw o e,#[o,fj _ W],λo' e=>by rw[none_at_size]at e;cases e]
def At.vZ {a:Addr}{h h':Heap}{o':Obj}(U:Heap.SameBut a h h')(J:h.get? a=some o)(O:¬Frz o)(W:h'.get? a=some o'):At a h h':=
 #[λb _ hb e=>by rw[U.2 b hb];show e,#[o',W],λ_ e=>by rw[J]at e;cases e;show O]
section
variable {G:Stc}{σ:St}{h h':Heap}{a:Addr}
def Rel.atL (R:Rel G σ h)(x:At a h h')(hb:b≠a)(e:σ.L b=some xs):∃ws n,IsL h' b ws.toArray n/\VRs G h' xs ws:=by
 have#[ws,n,W,v]:=R.L b xs e;apply#[ws,n,x.other b _ hb W,v.mono x.frz]
def Rel.atD (R:Rel G σ h)(x:At a h h')(hb:b≠a)(e:σ.D b=some es):∃ds,h'.DictOf G.kk b ds/\DRs G h' es ds:=by
 have#[ds,#[o,W,ep,U,r],v]:=R.D b es e;apply#[ds,#[o,W,ep,x.other b o hb U,r],v.mono x.frz]
def Rel.atS (R:Rel G σ h)(x:At a h h')(hb:b≠a)(e:σ.S b=some ks):qF G h' b ks:=by
 have#[o,W,ep,t,U,r]:=R.S b ks e;apply#[o,W,ep,t,x.other b o hb U,r]
def Rel.atI (R:Rel G σ h)(x:At a h h')(hb:b≠a)(hd:d≠a)(e:σ.I b=some (d,f)):fH G h' b d f:=by
 have#[#[o,B,r],#[m,#[o',es,ep,W,O],v,U],ne]:=R.I b d f e;apply#[#[o,x.other b o hb B,r],#[m,#[o',es,ep,x.other d o' hd W,O],λi y J=>(v i y J).mono x.frz,U],ne]
def Rel.sE (R:Rel G σ h)(e:σ.L a=some xs):∃o,h.get? a=some o/\o.cls=.type "list":=by
 have#[ws,n,W,_]:=R.L a xs e;apply#[_,W,rfl]
def Rel.EY (R:Rel G σ h)(e:σ.D a=some es):∃o,h.get? a=some o/\o.cls=.type "dict":=by
 have#[ds,#[o,U,ep,W,c,_],_]:=R.D a es e;apply#[o,W,c.1]
def Rel.EX (R:Rel G σ h)(e:σ.S a=some ks):∃o,h.get? a=some o/\o.cls=.type "set":=by
 have#[o,U,ep,t,W,c,_]:=R.S a ks e;apply#[o,W,c.1]
def Rel.MS (R:Rel G σ h)(e:σ.I a=some (d,f)):∃o,h.get? a=some o/\o.cls=.ref G.cS:=by
 have#[o,W,c,_]:=(R.I a d f e).here;apply#[o,W,c]
def Rel.EU (R:Rel G σ h)(e:σ.I a=some (d,f)):∃o es ep,h.get? d=some o/\o.data=.dict es ep:=by
 have#[m,#[o',es,ep,W,dd,_],_]:=(R.I a d f e).ns;apply#[o',es,ep,W,dd]
def Rel.NW (R:Rel G σ h)(e:σ.L b=some xs)(O:σ.I a=some (d,f)):d≠b:=by
 rintro rfl;have#[o,es,ep,U,hd]:=R.EU O;have#[ws,n,W,_]:=R.L _ _ e;have rfl:=af (U.symm.trans W);cases hd
def Rel.M4 (R:Rel G σ h){xs:List Key}(e:σ.S b=some xs)(z:σ.I a=some (d,f)):d≠b:=by
 rintro rfl;have#[o,es,ep,O,hd]:=R.EU z;have#[o',J,B,t',W,_,U,_]:=R.S _ _ e;rw[O]at W;cases W;rw[hd]at U;cases U
def Rel.DO (R:Rel G σ h)(e:h.get? b=none)(U:σ.I a=some (d,f)):d≠b:=by
 rintro rfl;have#[o,es,ep,W,hd]:=R.EU U;rw[W]at e;cases e
def Rel.QG (R:Rel G σ h)(e:σ.Z b=some o):(∃o,h.get? b=some o/\o.cls=.type "dict")\/∃o,h.get? b=some o/\o.cls=.type "set":=
 (R.Z b o e).2.imp (λq=>by
  have#[x,q]:=cz.mp q;show R.EY q) λq=>by
  have#[x,q]:=cz.mp q;show R.EX q
def Rel.atZ (R:Rel G σ h)(x:At a h h')(n:∀b o,σ.Z b=some o->b≠a):∀b o,σ.Z b=some o->h'.get? b=some o/\((σ.D b).isSome\/(σ.S b).isSome):=λb o e=>#[x.other b o (n b o e) (R.Z b o e).1,(R.Z b o e).2]
def Rel.putL (R:Rel G σ h)(x:At a h h')(B:σ.L a=none->h.get? a=none)(hl:IsL h' a ws.toArray n)(hv:VRs G h xs ws)(hz:xs.length<=bx):Rel G (σ.di a xs) h':=by
 have old:∀b o,h.get? b=some o->∀c:Value,o.cls=c->c≠.type "list"->b≠a:=λb o e c hc O hb=>by
  subst hb;cases U:σ.L b with
  |none=>rw[B U]at e;cases e
  |some ys=>have#[o',J,c']:=R.sE U;rw[e]at J;cases J;show O (hc.symm.trans c')
 have W:∀b c,(∃o,h.get? b=some o/\o.cls=c)->c≠.type "list"->b≠a:=λb c z O=>by have#[o,ho,hc]:=z;show old b o ho c hc O
 apply⟨λb ys e=>?_,λb es e=>R.atD x (W b _ (R.EY e) (by decide)) e,λb ks e=>R.atS x (W b _ (R.EX e) (by decide)) e,
  λb d f e=>R.atI x (W b _ (R.MS e) (λq=>nomatch q)) (by
   cases U:σ.L a with
   |none=>show R.DO (B U) e
   |some ys=>show R.NW U e) e,R.atZ x λb o e=>(R.QG e).elim (λq=>W b _ q (by decide)) λq=>W b _ q (by decide),λb ys e=>?_,R.Dl,R.inj,R.apart,R.sep,λb d=>?_,λb o e=>?_⟩
 ·by_cases hb:b=a
  ·subst hb;simp only[St.di,cm,gx]at e;subst e;apply#[ws,n,hl,hv.mono x.frz]
  ·simp only[St.di,er hb]at e;show R.atL x hb e
 ·by_cases hb:b=a
  ·subst hb;simp only[St.di,cm,gx]at e;show e▸hz
  ·simp only[St.di,er hb]at e;show R.Ll b ys e
 ·rcases dB d with d|rfl
  ·show R.new b d
  ·cases U:G.hb.get? b with
   |none=>rfl
   |some o =>
    cases I:σ.L b with
    |none=>have:=R.base b o U;rw[B I]at this;cases this
    |some ys=>have:=R.new b (.inl (by rw[I];rfl));rw[U]at this;cases this
 ·apply x.other b o (λhb=>?_) (R.base b o e);subst hb;cases I:σ.L b with
  |none=>have:=R.base b o e;rw[B I]at this;cases this
  |some ys=>have:=R.new b (.inl (by rw[I];rfl));rw[e]at this;cases this
def Evo.putL (x:At a h h')(U:σ.L a=none->h.get? a=none)(xs:List V):Evo X σ h (σ.di a xs) h':=by
 apply#[λb o e nd _=>x.other b o (λhb=>?_) e,x.frz,λb d=>?_,x.there]
 ·subst hb;cases W:σ.L b with
  |none=>rw[U W]at e;cases e
  |some ys=>show nd (.inl (by rw[W];rfl))
 ·rcases dB d with d|rfl
  ·show .inl d
  ·cases W:σ.L b with
   |none=>show .inr (U W)
   |some ys=>show .inl (.inl (by rw[W];rfl))
def Rel.putD (R:Rel G σ h)(x:At a h h')(hn:σ.D a=none->h.get? a=none)(hi:∀b f,σ.I b≠some (a,f)){xs:List (Key×V)}{ds:List (Key×Value)}(hl:h'.DictOf G.kk a ds)(hv:DRs G h xs ds)(hz:xs.length<=bx):Rel G (σ.sg a xs) h':=by
 have old:∀b o,h.get? b=some o->∀c:Value,o.cls=c->c≠.type "dict"->b≠a:=λb o e c hc U hb=>by
  subst hb;cases O:σ.D b with
  |none=>rw[hn O]at e;cases e
  |some ys=>have#[o',J,c']:=R.EY O;rw[e]at J;cases J;show U (hc.symm.trans c')
 have W:∀b c,(∃o,h.get? b=some o/\o.cls=c)->c≠.type "dict"->b≠a:=λb c z U=>by have#[o,ho,hc]:=z;show old b o ho c hc U
 apply⟨λb es e=>R.atL x (W b _ (R.sE e) (by decide)) e,λb ys e=>?_,λb ks e=>R.atS x (W b _ (R.EX e) (by decide)) e,
  λb d f e=>R.atI x (W b _ (R.MS e) (λq=>nomatch q)) (λhd=>hi b f (hd▸e)) e,λb o e=>(by
   have#[hb,e]:=nM e;have#[q,r]:=R.Z b o e;apply#[x.other b o hb q,?_];show(upd σ.D a xs b).isSome=true\/_;rw[er hb];show r),R.Ll,λb ys e=>?_,R.inj,λb d f e=>?_,R.sep,λb d=>?_,λb o e=>?_⟩
 ·by_cases hb:b=a
  ·clear W old;subst hb;simp only[St.sg,cm,gx]at e;subst e;apply#[ds,hl,hv.mono x.frz]
  ·simp only[St.sg,er hb]at e;show R.atD x hb e
 ·by_cases hb:b=a
  ·subst hb;simp only[St.sg,cm,gx]at e;show e▸hz
  ·simp only[St.sg,er hb]at e;show R.Dl b ys e
 ·have hd:d≠a:=λhd=>hi b f (hd▸e);simp only[St.sg,er hd];show R.apart b d f e
 ·rcases nH d with d|rfl
  ·show R.new b d
  ·cases O:G.hb.get? b with
   |none=>rfl
   |some o =>
    cases B:σ.D b with
    |none=>have:=R.base b o O;rw[hn B]at this;cases this
    |some ys=>have:=R.new b (.inr (.inl (by rw[B];rfl)));rw[O]at this;cases this
 ·apply x.other b o (λhb=>?_) (R.base b o e);subst hb;cases B:σ.D b with
  |none=>have:=R.base b o e;rw[hn B]at this;cases this
  |some ys=>have:=R.new b (.inr (.inl (by rw[B];rfl)));rw[e]at this;cases this
def Evo.putD (x:At a h h')(U:σ.D a=none->h.get? a=none)(xs:List (Key×V)):Evo X σ h (σ.sg a xs) h':=by
 apply#[λb o e nd _=>x.other b o (λhb=>?_) e,x.frz,λb d=>?_,x.there]
 ·subst hb;cases W:σ.D b with
  |none=>rw[U W]at e;cases e
  |some ys=>show nd (.inr (.inl (by rw[W];rfl)))
 ·rcases nH d with d|rfl
  ·show .inl d
  ·cases W:σ.D b with
   |none=>show .inr (U W)
   |some ys=>show .inl (.inr (.inl (by rw[W];rfl)))
def Rel.LQ (R:Rel G σ h)(x:At a h h')(B:σ.S a=none->h.get? a=none){xs:List Key}(hl:qF G h' a xs):Rel G (σ.yl a xs) h':=by
 have old:∀b o,h.get? b=some o->∀c:Value,o.cls=c->c≠.type "set"->b≠a:=λb o e c hc O hb=>by
  subst hb;cases U:σ.S b with
  |none=>rw[B U]at e;cases e
  |some ys=>have#[o',J,c']:=R.EX U;rw[e]at J;cases J;show O (hc.symm.trans c')
 have W:∀b c,(∃o,h.get? b=some o/\o.cls=c)->c≠.type "set"->b≠a:=λb c z O=>by have#[o,ho,hc]:=z;show old b o ho c hc O
 apply⟨λb es e=>R.atL x (W b _ (R.sE e) (by decide)) e,λb ks e=>R.atD x (W b _ (R.EY e) (by decide)) e,λb ys e=>?_,
  λb d f e=>R.atI x (W b _ (R.MS e) (λq=>nomatch q)) (by
   cases U:σ.S a with
   |none=>show R.DO (B U) e
   |some ys=>show R.M4 U e) e,λb o e=>(by
   have#[hb,e]:=nM e;have#[q,r]:=R.Z b o e;apply#[x.other b o hb q,?_];show _\/(upd σ.S a xs b).isSome=true;rw[er hb];show r),R.Ll,R.Dl,R.inj,R.apart,R.sep,λb d=>?_,λb o e=>?_⟩
 ·by_cases hb:b=a
  ·clear W old;subst hb;simp only[St.yl,cm,gx]at e;subst e;show hl
  ·simp only[St.yl,er hb]at e;show R.atS x hb e
 ·rcases uT d with d|rfl
  ·show R.new b d
  ·cases U:G.hb.get? b with
   |none=>rfl
   |some o =>
    cases I:σ.S b with
    |none=>have:=R.base b o U;rw[B I]at this;cases this
    |some ys=>have:=R.new b (.inr (.inr (.inl (by rw[I];rfl))));rw[U]at this;cases this
 ·apply x.other b o (λhb=>?_) (R.base b o e);subst hb;cases I:σ.S b with
  |none=>have:=R.base b o e;rw[B I]at this;cases this
  |some ys=>have:=R.new b (.inr (.inr (.inl (by rw[I];rfl))));rw[e]at this;cases this
def Evo.LQ (x:At a h h')(U:σ.S a=none->h.get? a=none)(xs:List Key):Evo X σ h (σ.yl a xs) h':=by
 apply#[λb o e nd _=>x.other b o (λhb=>?_) e,x.frz,λb d=>?_,x.there]
 ·subst hb;cases W:σ.S b with
  |none=>rw[U W]at e;cases e
  |some ys=>show nd (.inr (.inr (.inl (by rw[W];rfl))))
 ·rcases uT d with d|rfl
  ·show .inl d
  ·cases W:σ.S b with
   |none=>show .inr (U W)
   |some ys=>show .inl (.inr (.inr (.inl (by rw[W];rfl))))
def Rel.LR (R:Rel G σ h){f':Nat->Option V}(e:σ.I a=some (d,f))(x:At d h h')(hl:fH G h' a d f'):Rel G (σ.jw a d f') h':=by
 have aj:d≠a:=hl.ne;have U:∀c d' g,(σ.jw a d f').I c=some (d',g)->∃B,σ.I c=some (d',B):=λc d' g q=>by
  by_cases hc:c=a
  ·subst hc;simp only[St.jw,cm,gx,ui]at q;apply#[f,q.1▸e]
  ·apply#[g,by simpa[St.jw,upd,hc] using q]
 apply⟨λb es W=>R.atL x (R.NW W e).symm W,λb ks W=>R.atD x (λhb=>?_) W,λb ys W=>R.atS x (R.M4 W e).symm W,λb d' g W=>?_,R.atZ x λb o W hb=>((R.Z b o W).2.elim (λq=>(by subst hb;rw[R.apart a b f e]at q;cases q)) λq=>(by
  have#[ks,q]:=cz.mp q;show R.M4 q e hb.symm)),R.Ll,R.Dl,λb b' d' g g' e1 e2=>?_,λb d' g W=>?_,λb d' g b' ai g' e1 e2=>?_,λb hd=>?_,λb o W=>?_⟩
 ·subst hb;have z:σ.D b=some ks:=W;rw[R.apart a b f e]at z;cases z
 ·by_cases hb:b=a
  ·subst hb;simp only[St.jw,cm,gx,ui]at W;have#[rfl,rfl]:=W;show hl
  ·simp only[St.jw,er hb]at W;show R.atI x (R.sep _ _ _ _ _ _ W e) (λhd=>hb (R.inj b a d g f (hd▸W) e)) W
 ·have#[J,q1]:=U b d' g e1;have#[O,q2]:=U b' d' g' e2;show R.inj b b' d' J O q1 q2
 ·by_cases hb:b=a
  ·clear hl;subst hb;simp only[St.jw,cm,gx,ui]at W;show W.1▸R.apart b d f e
  ·show R.apart b d' g (by simpa[St.jw,upd,hb] using W)
 ·have#[J,q1]:=U b d' g e1;have#[O,q2]:=U b' ai g' e2;show R.sep _ _ _ _ _ _ q1 q2
 ·have ha:σ.dom a:=.inr (.inr (.inr (.inl (by rw[e];rfl))));have ag:σ.dom d:=.inr (.inr (.inr (.inr (.inr #[a,f,e]))));rcases iP hd with q|rfl|rfl
  ·show R.new b q
  ·show R.new _ ha
  ·show R.new _ ag
 ·apply x.other b o (λhb=>?_) (R.base b o W);clear U;subst hb;have:=R.new b (.inr (.inr (.inr (.inr (.inr #[a,f,e])))));rw[W]at this;cases this
def Evo.LR (W:Nat->Option V)(e:σ.I a=some (d,f))(x:At d h h'):Evo X σ h (σ.jw a d W) h':=by
 apply#[λb o U nd _=>x.other b o (λhb=>nd (hb▸.inr (.inr (.inr (.inr (.inr #[a,f,e])))))) U,x.frz,λb hd=>.inl ?_,x.there];rcases iP hd with q|rfl|rfl
 ·show q
 ·show .inr (.inr (.inr (.inl (by rw[e];rfl))))
 ·show .inr (.inr (.inr (.inr (.inr #[a,f,e]))))
def Rel.M0 (R:Rel G σ h)(ha:h.get? a=none)(hd:h.get? d=none)(ai:d≠a)(hk:∀b o,h.get? b=some o->h'.get? b=some o)(hl:fH G h' a d λ_=>none):Rel G (σ.jw a d λ_=>none) h':=by
 have B:=R.same (λb o e _=>hk b o e) (λb o e _=>hk b o e) λb o e=>hk b o (R.base b o e);have W:∀b,h.get? b=none->¬σ.dom b:=λb hb q=>by have#[o,ho]:=R.sh q;rw[hb]at ho;cases ho
 have ag:∀b g,σ.I b≠some (d,g):=λb g q=>W d hd (.inr (.inr (.inr (.inr (.inr #[b,g,q])))));have ao:σ.I a=none:=by
  cases hq:σ.I a with
  |none=>rfl
  |some p=>show absurd (.inr (.inr (.inr (.inl (by rw[hq];rfl))))) (W a ha)
 have base:∀c d' g,(σ.jw a d λ_=>none).I c=some (d',g)->(c=a/\d'=d)\/(c≠a/\σ.I c=some (d',g)):=λc d' g q=>by
  by_cases J:c=a
  ·subst J;simp only[St.jw,cm,gx,ui]at q;show .inl #[rfl,q.1.symm]
  ·show .inr #[J,by simpa[St.jw,upd,J] using q]
 apply#[B.L,B.D,B.S,λb d' g e'=>?_,B.Z,R.Ll,R.Dl,λb b' d' g g' e1 e2=>?_,λb d' g e'=>?_,λb d' g b' aj g' e1 e2=>?_,λb q=>?_,B.base]
 ·by_cases hb:b=a
  ·subst hb;simp only[St.jw,cm,gx,ui]at e';have#[rfl,rfl]:=e';show hl
  ·show B.I b d' g (by simpa[St.jw,upd,hb] using e')
 ·rcases base b d' g e1 with ⟨rfl,rfl⟩|⟨_,O⟩<;>rcases base b' d' g' e2 with ⟨h1,h2⟩|⟨_,z⟩
  ·show h1.symm
  ·show absurd z (ag _ _)
  ·show absurd (h2▸O) (ag _ _)
  ·show R.inj b b' d' g g' O z
 ·rcases base b d' g e' with ⟨rfl,rfl⟩|⟨_,O⟩
  ·show σ.D d'=none;cases hq:σ.D d' with
   |none=>rfl
   |some p=>show absurd (.inr (.inl (by rw[hq];rfl))) (W d' hd)
  ·show R.apart b d' g O
 ·have U:∀c d' g,σ.I c=some (d',g)->σ.dom c/\σ.dom d':=λc d' g q=>#[.inr (.inr (.inr (.inl (by rw[q];rfl)))),.inr (.inr (.inr (.inr (.inr #[c,g,q]))))];rcases base b d' g e1 with ⟨rfl,rfl⟩|⟨_,O⟩<;>rcases base b' aj g' e2 with ⟨h1,h2⟩|⟨_,z⟩
  ·rw[h2];show ai.symm
  ·rintro rfl;show W _ ha (U _ _ _ z).2
  ·rw[h2];rintro rfl;show W _ hd (U _ _ _ O).1
  ·show R.sep _ _ _ _ _ _ O z
 ·have fresh:∀c,h.get? c=none->G.hb.get? c=none:=λc J=>by
   cases hq:G.hb.get? c with
   |none=>rfl
   |some o=>rw[R.base c o hq]at J;cases J
  rcases iP q with q|rfl|rfl
  ·show R.new b q
  ·show fresh _ ha
  ·show fresh _ hd
def Evo.M0 (f:Nat->Option V)(W:h.get? a=none)(hd:h.get? d=none)(hk:∀b o,h.get? b=some o->h'.get? b=some o):Evo X σ h (σ.jw a d f) h':=by
 apply#[λb o e _ _=>hk b o e,λb o e _=>hk b o e,λb q=>?_,λb o e=>#[o,hk b o e]];rcases iP q with q|rfl|rfl
 ·show .inl q
 ·show .inr W
 ·show .inr hd
end
end MP
end
section
namespace MP
open PySem PyProof.Rows
variable {env:Env}{ρ:Fr}{h:Heap}{Q:V->St->Prop}{w:Value}{b:Bool}
structure AOk (A:Around)(d:Nat):Prop where
 handled:A.handled=none
 depth:A.depth+3*d+20<recursionLimit
 units:A.units+30*d+300<cLine
structure dH (env:Env):Prop where
 kind:env.scope.kind=.function
 nd:(env.scope.names.map (·.1)).Nodup
 globals:env.globals=mainGlobals
 builtins:env.builtins=builtinsNs
structure FR (G:Stc)(σ:St)(env:Env)(ρ:Fr)(h:Heap):Prop where
 ns:∃m,h.Ns env.locals m/\∀i x,env.scope.names[i]?=some (x,.local)->OV G h (ρ i) (m x)
 cells:∀(i:Nat) (x:Str) (k:NameKind),env.scope.names[i]?=some (x,k)->k=.cell\/k=.free->∃c w,env.cells.lookup x=some c/\h.IsCell c w/\OV G h (ρ i) w/\¬σ.dom c/\c≠env.locals/\(G.cap x=false->G.hb.get? c=none)
 inj:∀(i j:Nat) (x y:Str) (k k':NameKind) (c:Addr),env.scope.names[i]?=some (x,k)->env.scope.names[j]?=some (y,k')->(k=.cell\/k=.free)->(k'=.cell\/k'=.free)->env.cells.lookup x=some c->env.cells.lookup y=some c->i=j
 loc:¬σ.dom env.locals
 notfrz:∀o,h.get? env.locals=some o->¬Frz o
 new:G.hb.get? env.locals=none
 allc:∀p∈env.cells,∃o,h.get? p.2=some o
def FR.evo {G:Stc}{σ σ':St}{h':Heap}(F:FR G σ env ρ h)(x:Evo [] σ h σ' h'):FR G σ' env ρ h':=by
 have#[m,#[o,es,ep,J,r],hm]:=F.ns;have O:=x.keep _ _ J F.loc (by simp);have W:∀b o,h.get? b=some o->¬σ.dom b->¬σ'.dom b:=λb o e nd d=>(x.dom b d).elim nd λq=>by rw[e]at q;cases q
 apply#[#[m,#[o,es,ep,O,r],λi y e=>(hm i y e).mono x.frz],λi y k e hk=>?_,F.inj,W _ _ J F.loc,λz e=>?_,F.new,λp hp=>by have#[o,e]:=F.allc p hp;show x.there _ o e]
 ·have#[c,w,h1,#[B,U,hd],h3,I,h5]:=F.cells i y k e hk;apply#[c,w,h1,#[B,x.keep _ _ U I (by simp),hd],h3.mono x.frz,W _ _ U I,h5]
 ·rw[O]at e;cases e;show F.notfrz o J
structure Go (X:List Addr)(σ:St)(s:Shared)(σ':St)(s':Shared):Prop where
 e:Evo X σ s.heap σ' s'.heap
 g:s'.gens=s.gens
 o:s'.os=s.os
inductive jx (G:Stc)(X:List Addr)(σ:St)(s:Shared)(Q:V->St->Prop)(w:Value)(s':Shared):Prop
 |mk (v:V) (σ':St):Q v σ'->VR G s'.heap v w->Rel G σ' s'.heap->Go X σ s σ' s'->jx G X σ s Q w s'
inductive mv (G:Stc)(X:List Addr)(σ:St)(s:Shared)(Q:Bool->St->Prop)(b:Bool)(s':Shared):Prop
 |mk (σ':St):Q b σ'->Rel G σ' s'.heap->Go X σ s σ' s'->mv G X σ s Q b s'
inductive FO (G:Stc)(X:List Addr)(σ:St)(s:Shared)(Q:List V->St->Prop)(ws:List Value)(s':Shared):Prop
 |mk (vs:List V) (σ':St):Q vs σ'->VRs G s'.heap vs ws->Rel G σ' s'.heap->Go X σ s σ' s'->FO G X σ s Q ws s'
section
variable {G:Stc}{X:List Addr}{σ σ₁ σ₂:St}{s s₁ s₂:Shared}{tk:Nat}{M:Model}{A:Around}{E:QqV}
def Go.refl:Go X σ s σ s:=#[Evo.refl _ _ _,rfl,rfl]
def Go.trans (x:Go X σ s σ₁ s₁)(y:Go X σ₁ s₁ σ₂ s₂):Go X σ s σ₂ s₂:=#[x.e.trans y.e,y.g.trans x.g,y.o.trans x.o]
def Go.frz (x:Go X σ s σ₁ s₁):kf s.heap s₁.heap:=x.e.frz
def Go.keep (x:Go X σ s σ₁ s₁):∀b o,s.heap.get? b=some o->¬σ.dom b->b∉X->s₁.heap.get? b=some o:=x.e.keep
def Go.dom (x:Go X σ s σ₁ s₁):∀b,σ₁.dom b->σ.dom b\/s.heap.get? b=none:=x.e.dom
def Go.there (x:Go X σ s σ₁ s₁):∀b o,s.heap.get? b=some o->∃o',s₁.heap.get? b=some o':=x.e.there
def Go.new (x:Go X σ s σ₁ s₁){b:Addr}(e:s₁.heap.get? b=none):s.heap.get? b=none:=by
 cases hq:s.heap.get? b with
 |none=>rfl
 |some o=>have#[o',W]:=x.there _ _ hq;rw[e]at W;cases W
def Go.more {Y:List Addr}(x:Go X σ s σ₁ s₁)(W:∀b∈X,b∈Y):Go Y σ s σ₁ s₁:=#[x.e.more W,x.g,x.o]
def Go.less {Y:List Addr}(x:Go X σ s σ₁ s₁)(W:∀b∈X,b∈Y\/s.heap.get? b=none):Go Y σ s σ₁ s₁:=#[x.e.less W,x.g,x.o]
def Go.to {W:Drawn}(x:Go X σ s σ₁ s₁)(y:Evo X σ₁ s₁.heap σ₂ h):Go X σ s σ₂ #[h,s₁.gens,W,tk,s₁.os]:=#[x.e.trans y,x.g,x.o]
def Go.tok (x:Go X σ s σ₁ s₁):Go X σ s σ₁ {s₁ with toks:=tk}:=#[x.e,x.g,x.o]
def jx.back {s':Shared}(x:Go X σ s σ₁ s₁):jx G X σ₁ s₁ Q w s'->jx G X σ s Q w s'
 |⟨v,σ',q,vr,r,e⟩=>#[v,σ',q,vr,r,x.trans e]
def mv.back {Q:Bool->St->Prop}{s':Shared}(x:Go X σ s σ₁ s₁):mv G X σ₁ s₁ Q b s'->mv G X σ s Q b s'
 |⟨σ',q,r,e⟩=>#[σ',q,r,x.trans e]
def Go.back {t:Sem Value}(x:Go X σ s σ₁ s₁)(h:wpAny M A t (jx G X σ₁ s₁ Q) E s₂):wpAny M A t (jx G X σ s Q) E s₂:=du h (λ_ _=>jx.back x) λ_ _ x=>x
def Go.v9 {t:Sem Bool}{Q:Bool->St->Prop}(x:Go X σ s σ₁ s₁)(h:wpAny M A t (mv G X σ₁ s₁ Q) E s₂):wpAny M A t (mv G X σ s Q) E s₂:=du h (λ_ _=>mv.back x) λ_ _ x=>x
def jx.here {v:V}(q:Q v σ)(vr:VR G s.heap v w)(r:Rel G σ s.heap):jx G X σ s Q w {s with toks:=tk}:=#[v,σ,q,vr,r,Evo.refl _ _ _,rfl,rfl]
def jx.d8 {v:V}(q:Q v σ)(vr:VR G s.heap v w)(r:Rel G σ s.heap):jx G X σ s Q w s:=#[v,σ,q,vr,r,.refl]
def mv.here {Q:Bool->St->Prop}(q:Q b σ)(r:Rel G σ s.heap):mv G X σ s Q b s:=#[σ,q,r,.refl]
def mv.d8 {Q:Bool->St->Prop}(q:Q b σ)(r:Rel G σ s.heap):mv G X σ s Q b {s with toks:=tk}:=#[σ,q,r,Evo.refl _ _ _,rfl,rfl]
end
public abbrev Stc.M (G:Stc):Model:=model G.prog G.w
structure Cx (G:Stc)(sc:Scope)(d:Nat)(A:Around)(env:Env)(ρ:Fr)(σ:St)(s:Shared):Prop where
 ao:AOk A d
 es:env.scope=sc
 eo:dH env
 F:FR G σ env ρ s.heap
 R:Rel G σ s.heap
def Cx.go {G:Stc}{sc:Scope}{d:Nat}{A:Around}{σ σ₁:St}{s s₁:Shared}(c:Cx G sc d A env ρ σ s)(r:Rel G σ₁ s₁.heap)(x:Go [] σ s σ₁ s₁):Cx G sc d A env ρ σ₁ s₁:=#[c.ao,c.es,c.eo,c.F.evo x.e,r]
def Cx.at {G:Stc}{sc:Scope}{d:Nat}{A:Around}{W:Fr}{σ σ₁:St}{s s₁:Shared}(c:Cx G sc d A env ρ σ s)(F:FR G σ₁ env W s₁.heap)(R:Rel G σ₁ s₁.heap):Cx G sc d A env W σ₁ s₁:=#[c.ao,c.es,c.eo,F,R]
abbrev gi (G:Stc)(C:Cal)(sc:Scope)(d:Nat)(e:Ex)(ex:Expr):Prop:=
 ∀⦃A E env ρ σ Q s⦄,Cx G sc d A env ρ σ s->wpE C e ρ σ Q->wpAny G.M A (eval ex env) (jx G [] σ s Q) E s
abbrev uv (G:Stc)(C:Cal)(sc:Scope)(d:Nat)(e:Ex)(ex:Expr):Prop:=
 ∀⦃A E env ρ σ Q s⦄,Cx G sc d A env ρ σ s->wpT C e ρ σ Q->wpAny G.M A (isTrue ex env (eval ex env)) (mv G [] σ s Q) E s
abbrev qk (G:Stc)(C:Cal)(sc:Scope)(d:Nat)(es:Exs)(exs:List Expr):Prop:=
 ∀⦃A E env ρ σ Q s pos⦄,Cx G sc d A env ρ σ s->vg C es ρ σ Q->wpAny G.M A (spliced (backTo pos (starEach exs env))) (FO G [] σ s Q) E s
section
variable {G:Stc}{A:Around}{E:QqV}{s:Shared}{σ:St}{α:Type}
def rn {t:Sem Value}{P:V->St->Prop}{R:QqV}(h:wpAny G.M A t (jx G [] σ s P) E s)
  (k:∀v σ₁ s₁ w,P v σ₁->VR G s₁.heap v w->Rel G σ₁ s₁.heap->Go [] σ s σ₁ s₁->R w s₁):wpAny G.M A t R E s:=
 du h (λ_ _ W=>by have#[v,σ',q,vr,r,x]:=W;show k v σ' _ _ q vr r x) λ_ _ x=>x
def oN {t:Sem Bool}{P:Bool->St->Prop}{R:Bool->Shared->Prop}(h:wpAny G.M A t (mv G [] σ s P) E s)
  (k:∀b σ₁ s₁,P b σ₁->Rel G σ₁ s₁.heap->Go [] σ s σ₁ s₁->R b s₁):wpAny G.M A t R E s:=
 du h (λ_ _ W=>by have#[σ',q,r,x]:=W;show k _ σ' _ q r x) λ_ _ x=>x
def oM {t:Sem (List Value)}{P:List V->St->Prop}{R:List Value->Shared->Prop}(h:wpAny G.M A t (FO G [] σ s P) E s)
  (k:∀vs σ₁ s₁ ws,P vs σ₁->VRs G s₁.heap vs ws->Rel G σ₁ s₁.heap->Go [] σ s σ₁ s₁->R ws s₁):wpAny G.M A t R E s:=
 du h (λ_ _ W=>by have#[v,σ',q,vr,r,x]:=W;show k v σ' _ _ q vr r x) λ_ _ x=>x
end
def o8 {G:Stc}{σ:St}{a:Addr}{xs:List V}{ws:List Value}(R:Rel G σ h)(e:σ.L a=some xs)(v:VRs G h xs ws):ws.length<=bx:=v.length▸R.Ll a xs e
def AO {n:Nat}(h:n<=bx):(n:Int)<2^63:=Int.lt_of_le_of_lt (Int.ofNat_le.mpr h) (by decide)
def M3 (n:Nat):((n:Int) != 0)=(n != 0):=by
 cases n<;>rfl
def pW {α W:Type}{ws:List α}{ns:List W}(q:ws.length=ns.length):ws.toArray.isEmpty=ns.isEmpty:=by
 cases ws<;>cases ns<;>first|rfl|cases q
set_option maxRecDepth 100000 in
def zX {prog:Program}{w:World}{A:Around}{E:QqV}{s:Shared}{a:Addr}{o:Obj}{Q:Bool->Shared->Prop}(U:s.heap.get? a=some o)(O:o.cls=.type "function")(h:Q true s):wpAny (model prog w) A (truthy (.ref a)) Q E s:=by
 have W:s.TypeIs (.ref a) "function":=#[o,U,O];unfold truthy
 first
  |refine ab (wpAny_callSpecial?_none (name:=Str.ofString "__bool__") W (by rw[ip,fq];kernel_rfl) ?_)
  |refine ab (ae (ab (wpAny_callSpecial?_none (name:=Str.ofString "__bool__") W (by rw[ip,fq];kernel_rfl) ?_)))
 first
  |refine ab (gG (name:=Str.ofString "__len__") (r:=none) W (by rw[ip,fq];kernel_rfl) ?_)
  |refine ab (ae (ab (gG (name:=Str.ofString "__len__") (r:=none) W (by rw[ip,fq];kernel_rfl) ?_)))
 show ae h
def fU {G:Stc}{A:Around}{E:QqV}{s:Shared}{σ:St}{v:V}{K:Bool->Prop}(R:Rel G σ s.heap)(vr:VR G s.heap v w)(h:ux v σ K){Q:Bool->Shared->Prop}
  (k:∀b tk,K b->Q b {s with toks:=tk}):wpAny G.M A (truthy w) Q E s:=by
 cases v
 case none=>have rfl:=vr;show truthy_none (k _ s.toks h)
 case bool=>have rfl:=vr;show vj (k _ s.toks h)
 case int=>have#[t,rfl]:=vr;show truthy_int (k _ s.toks h)
 case str =>
  have#[t,rfl]:=vr;show PySem.P.truthy_str (Int.not_le.mpr (AO h.1)) (k _ _ (by rw[M3];show h.2))
 case L =>
  have rfl:=vr;have#[xs,e,hk]:=h;have#[ws,n,W,U]:=R.L _ xs e;show wpAny_truthy_list W.isList (AO (o8 R e U)) (k _ _ (by rw[pW U.length.symm];show hk))
 case ro =>
  have#[a,ws,n,rfl,g,r]:=vr;show wpAny_truthy_list #[_,R.base _ _ g,rfl,_,rfl] (AO (kz (Nat.le_of_eq r.length) h.1)) (k _ _ (by rw[pW r.length];show h.2))
 case clo =>
  have#[a,o,rfl,_,O,J]:=vr;show zX (R.base _ _ O) J (k _ s.toks h)
 all_goals first|show False.elim h|show False.elim vr
abbrev binOp:Bop->Operator
 |.add=>.Add|.sub=>.Sub|.mul=>.Mult|.fdiv=>.FloorDiv|.mod=>.Mod|.pow=>.Pow
abbrev kN:Cop->CmpOp
 |.eq=>.Eq|.ne=>.NotEq|.lt=>.Lt|.le=>.LtE|.gt=>.Gt|.ge=>.GtE|.is=>.Is|.isNot=>.IsNot|.isIn=>.In|.notIn=>.NotIn
def log2_lt_of {b:Int}(h:b.natAbs<2^60):b.natAbs.log2<9000:=by
 by_cases h0:b.natAbs=0
 ·rw[h0];decide +kernel
 ·have:=(Nat.log2_lt h0).mpr h;(show fc (.l .A (.n 9000)) .a (.l .A (.n 60)) this)
section
variable {G:Stc}{A:Around}{E:QqV}{s:Shared}{σ:St}
def lZ {op:Bop}{a b:Int}{t u:Tok}(R:Rel G σ s.heap)(h:gI op (.int a) (.int b) σ Q):wpAny G.M A (binaryOp (binOp op) (.int a t) (.int b u)) (jx G [] σ s Q) E s:=by
 cases op with
 |add=>show add_int (jx.here h (.int _ _) R)
 |sub=>show sub_int (jx.here h (.int _ _) R)
 |mul =>
  apply mul_int (jx.here h.2 (.int _ _) R) ?_;rcases h.1 with q|q
  ·show IntMulOk.of_left (intBits_le_64 ((Ar.nab _).elim (λW=>(mu (.il (.g .Q) .A) .a .a8 W.1)) λW=>(dD (.il (.g .Q) .A) .d .a4 .b7 q W.2)) ((Ar.nab _).elim (λW=>(dD (.il .A .Q) .d .a4 .bP q W.2)) λW=>(mu (.il .A .Q) .a .bI W.1)))
  ·show IntMulOk.of_right (intBits_le_64 ((Ar.nab _).elim (λW=>(mu (.il (.g .Q) .A) .a .a8 W.1)) λW=>(dD (.il (.g .Q) .A) .d .a4 .b7 q W.2)) ((Ar.nab _).elim (λW=>(dD (.il .A .Q) .d .a4 .bP q W.2)) λW=>(mu (.il .A .Q) .a .bI W.1)))
 |fdiv=>show floordiv_int h.1 (jx.here h.2.2 (.int _ _) R) (.inl (PyProof.noPylong_of_log2 (log2_lt_of h.2.1)))
 |mod=>show mod_int' h.1 (jx.here h.2 (.int _ _) R)
 |pow =>
  have#[h0,J,O,U]:=h;show pow_int_small h0 (mu (.ik .A (.n 1000000)) .a (.ik .A (.n 1000)) J) O (jx.here U (.int _ _) R)
end
section
variable {k:Nat}{pos:Pos}{x e₁:Expr}{a b:Ex}{rest xs:List Expr}
variable {G:Stc}{C:Cal}{sc:Scope}{d:Nat}
def CC:gi G C sc d .none (.Constant .none k pos):=λ_ _ _ _ _ _ _ c h=>Constant_none (jx.d8 h .none c.R)
def CP {b:Bool}:gi G C sc d (.bool b) (.Constant (.bool b) k pos):=λ_ _ _ _ _ _ _ c h=>Constant_bool (jx.d8 h (.bool b) c.R)
def H8 {i:Int}:gi G C sc d (.int i) (.Constant (.int i) k pos):=λ_ _ _ _ _ _ _ c h=>wpAny_Constant_int (jx.here h (.int _ _) c.R)
def GQ {x:Str}:gi G C sc d (.str x) (.Constant (.str x) k pos):=λ_ _ _ _ _ _ _ c h=>by
 show wpAny _ _ (mkText x) _ _ _;show wpAny_mkText (jx.here h (.str _ _) c.R)
def wi {names:List (Str×NameKind)}(nd:(names.map (·.1)).Nodup):∀{i:Nat} {x:Str} {k:NameKind},names[i]?=some (x,k)->names.lookup x=some k:=by
 induction names with
 |nil=>intro i x k e;simp at e
 |cons p r U =>
  intro i x k e;have#[y,k']:=p;simp only[kh,List.nodup_cons]at nd;cases i with
  |zero=>simp only[List.getElem?_cons_zero,gx,ui]at e;have#[rfl,rfl]:=e;simp
  |succ i =>
   simp only[xu]at e;have W:x≠y:=λq=>nd.1 (by
    subst q;show eg.mpr #[(x,k),fe e,rfl])
   rw[j4,mn.mpr W];show U nd.2 e
abbrev isVar (k:NameKind):Bool:=k==.local||k==.cell||k==.free
abbrev jq (x:Str):Bool:=!(x==("__debug__":Str))&&!(x==("__classdict__":Str))
def iG {A:Around}{E:QqV}{env:Env}{ρ:Fr}{σ:St}{s:Shared}{i:Nat}{x:Str}{k:NameKind}{v:V}{Q:QqV}(J:dH env)(F:FR G σ env ρ s.heap)
  (hi:env.scope.names[i]?=some (x,k)) (hk:isVar k=true) (B:jq x=true) (z:ρ i=some v) (h:∀w,VR G s.heap v w->Q w s):wpAny G.M A (loadName env x) Q E s:=by
 have W:env.kindOf x=some k:=wi J.nd hi;simp only[jq,fp,jg]at B;have get:∀{w:Option Value},OV G s.heap (ρ i) w->∃O,w=some O/\VR G s.heap v O:=λ{w} o=>by
  rw[z]at o;cases w with
  |none=>show o.elim
  |some O=>refine#[O,rfl,o]
 cases k with
 | «local» =>
  have#[m,hn,hm]:=F.ns;have#[O,e,vr]:=get (hm i x hi);show wpAny_loadName_local J.kind W hn e (h O vr)
 |cell =>
  have#[c,w,I,U,o,_,_,_]:=F.cells i x _ hi (.inl rfl);have#[O,rfl,vr]:=get o;show wpAny_loadName_cell J.kind W I U (h O vr)
 |free =>
  have#[c,w,I,U,o,_,_,_]:=F.cells i x _ hi (.inr rfl);have#[O,rfl,vr]:=get o;show wpAny_loadName_free J.kind W I U (h O vr) B.2
 |_=>cases hk
def lL {i:Nat}{x:Str}{k:NameKind}(J:sc.names[i]?=some (x,k))(hk:isVar k=true)(U:jq x=true):gi G C sc d (.l i) (.Name x pos):=λ_ _ _ _ _ _ _ c h=>by
 have#[v,O,q]:=h;have W:(x==("__debug__":Str))=false:=by simp only[jq,fp,jg]at U;show U.1
 show wpAny_Name (iG c.eo c.F (by rw[c.es];show J) hk U O λw vr=>jx.d8 q vr c.R) W
def GW (W:gi G C sc d a x):gi G C sc d (.neg a) (.UnaryOp .USub x pos):=λ_ _ _ _ _ _ _ c h =>
 UnaryOp_ (rn (W c h) λv σ₁ s₁ w q vr r x=>by
  have#[i,rfl,q]:=q;have#[t,rfl]:=vr;show PyProof.Rows.neg_int (jx.back x (jx.here q (.int _ _) r)))
def GV (U:gi G C sc d a x):gi G C sc d (.not a) (.UnaryOp .Not x pos):=λ_ _ _ _ _ _ _ c h =>
 UnaryOp_ (rn (U c h) λv σ₁ s₁ w q vr r x=>not_of (fU r vr q λb W q=>jx.back x (jx.here q (.bool _) r)))
def snd_and {W:Expr}(O:gi G C sc d a e₁)(hb:gi G C sc d b (.BoolOp .And (W::rest) pos)):gi G C sc d (.and a b) (.BoolOp .And (e₁::W::rest) pos):=λ_ _ _ _ _ _ _ c h =>
 BoolOp_and (rn (O c h) λv σ₁ s₁ w q vr r x=>fU r vr q λt U q=>by
  cases t with
  |true=>show x.tok.back (hb (c.go r x.tok) q)
  |false=>show jx.back x (jx.here q vr r))
def LD {W:Expr}(O:gi G C sc d a e₁)(hb:gi G C sc d b (.BoolOp .Or (W::rest) pos)):gi G C sc d (.or a b) (.BoolOp .Or (e₁::W::rest) pos):=λ_ _ _ _ _ _ _ c h =>
 BoolOp_or (rn (O c h) λv σ₁ s₁ w q vr r x=>fU r vr q λt U q=>by
  cases t with
  |false=>show x.tok.back (hb (c.go r x.tok) q)
  |true=>show jx.back x (jx.here q vr r))
def GZ {c:Ex}{y z:Expr}(W:uv G C sc d c x)(U:gi G C sc d a y)(hb:gi G C sc d b z):gi G C sc d (.I c a b) (.IfExp x y z pos):=λ_ _ _ _ _ _ _ c h =>
 IfExp_ (oN (W c h) λt σ₁ s₁ q r x=>by
  cases t with
  |true=>show x.back (U (c.go r x) q)
  |false=>show x.back (hb (c.go r x) q))
def CS (U:uv G C sc d a x):uv G C sc d (.not a) (.UnaryOp .Not x pos):=λ_ _ _ _ _ _ _ c h =>
 isTrue_not (du (U c h) (λ_ _ W=>by have#[a,q,r,x]:=W;apply#[a,q,r,x]) λ_ _ x=>x)
def CV (W:uv G C sc d a e₁)(hb:uv G C sc d b (.BoolOp .And rest pos)):uv G C sc d (.and a b) (.BoolOp .And (e₁::rest) pos):=λ_ _ _ _ _ _ _ c h =>
 isTrue_and (oN (W c h) λt σ₁ s₁ q r x=>by
  cases t with
  |true=>show x.v9 (hb (c.go r x) q)
  |false=>show mv.back x (mv.here q r))
def HJ (W:uv G C sc d a e₁)(hb:uv G C sc d b (.BoolOp .Or rest pos)):uv G C sc d (.or a b) (.BoolOp .Or (e₁::rest) pos):=λ_ _ _ _ _ _ _ c h =>
 isTrue_or (oN (W c h) λt σ₁ s₁ q r x=>by
  cases t with
  |false=>show x.v9 (hb (c.go r x) q)
  |true=>show mv.back x (mv.here q r))
def CT {c:Ex}{y z:Expr}(W:uv G C sc d c x)(U:uv G C sc d a y)(hb:uv G C sc d b z):uv G C sc d (.I c a b) (.IfExp x y z pos):=λ_ _ _ _ _ _ _ c h =>
 isTrue_IfExp (oN (W c h) λt σ₁ s₁ q r x=>by
  cases t with
  |true=>show x.v9 (U (c.go r x) q)
  |false=>show x.v9 (hb (c.go r x) q))
def yk {e:Ex}(J:gi G C sc d e x)(O:∀env whole,isTrue x env whole=(do let v←whole;standAt x.pos;holding [v] (truthy v)))
  (U:∀ρ σ Q,wpT C e ρ σ Q->wpE C e ρ σ λv σ=>ux v σ λb=>Q b σ):uv G C sc d e x:=λ_ _ _ _ _ _ _ c h =>
 isTrue_plain (rn (J c (U _ _ _ h)) λv σ₁ s₁ w q vr r y=>fU r vr q λb W q=>mv.back y (mv.d8 q r)) (O _ _)
def oq:qk G C sc d .nil []:=λ_ _ _ _ _ _ _ _ c h=>kS #[[],_,h,.nil,c.R,.refl]
def jv {e:Ex}{r:Exs}(B:gi G C sc d e x)(hr:qk G C sc d r xs)(I:∀env,starEach (x::xs) env=(false,eval x env)::starEach xs env):qk G C sc d (.cons e r) (x::xs):=λ_ _ _ _ _ _ _ _ c h =>
 spliced_more (rn (B c h) λv σ₁ s₁ w q vr J x =>
  oM (hr (c.go J x) q) λvs σ₂ s₂ ws U O r₂ W =>
   #[v::vs,σ₂,U,.cons (vr.mono W.frz) O,r₂,x.trans W]) (I _)
def y5 {es:Exs}(h₀:qk G C sc d es xs):gi G C sc d (.T es) (.Tuple xs k pos):=λA E env ρ σ Q s c h =>
 Tuple_ (oM (h₀ c h) λvs σ₁ s₁ ws q W r x=>by
  have hz:=q.1;rw[W.length]at hz;unfold bx at hz;apply mw (?_:jx G [] σ s Q (.ref s₁.heap.objs.size) _) (by show ws.toArray.size<=sizeLine;rw[dp,show sizeLine=16777216 from rfl];(show fc .cF .a .b8 hz));apply#[.T vs,σ₁,q.2,.T (IsT.new _ _) (W.mono λ_ _ e _=>bw _ e),r.push _,x.to (Evo.push _ _ _ _)])
def GX {es:Exs}(h₀:qk G C sc d es xs):gi G C sc d (.L es) (.List xs pos):=λA E env ρ σ Q s c h =>
 List_ (oM (h₀ c h) λvs σ₁ s₁ ws q W r x=>by
  have hz:=q.1;have O:=hz;rw[W.length]at hz;unfold bx at hz;have I:σ₁.L s₁.heap.objs.size=none:=by
   cases hq:σ₁.L s₁.heap.objs.size with
   |none=>rfl
   |some ys=>have#[o,J,_]:=r.sE hq;rw[none_at_size]at J;cases J
  apply mw (?_:jx G [] σ s Q (.ref s₁.heap.objs.size) _) (by show ws.toArray.size<=sizeLine;rw[dp,show sizeLine=16777216 from rfl];(show fc .cF .a .b8 hz));have U:At s₁.heap.objs.size s₁.heap (s₁.heap.push {cls:=.type "list",data:=.seq ws.toArray}):=At.push s₁.heap;apply#[.L _,_,q.2 _ I,.L _,r.putL U (λ_=>none_at_size _) (IsL.new _ _) W O,x.to (Evo.putL U (λ_=>none_at_size _) _)])
end
end MP
end
section
namespace MP
open PySem PyProof.Rows
section
variable {G:Stc}{A:Around}{E:QqV}{s:Shared}
public abbrev AE (G:Stc):Obj:={cls:=.type "set",dict:=none,data:=.set #v[] 0 (.fresh 0 0 G.led)}
def AB (h:Heap):qF G (h.push (AE G)) h.objs.size []:=
 #[_,#v[],0,_,fj _ rfl,#[rfl,rfl,rfl],rfl,λe W=>by simp at W,λk=>by simp,by decide,by rfl,by rfl,#[rfl,rfl,.nil]]
def sD {Q:QqV}(h:Q (.ref s.heap.objs.size) {s with heap:=s.heap.push (AE G)}) :
  codeAny G.M A (.call (.builtin "set.__new__") #[[.type "set"],[]]) (wants Q E) s:=by
 apply vf ?_;show wpAny _ A.in1 (do checkBuiltinCall "set.__new__" #[[.type "set"],[]];again (.builtin "set.__new__" #[[.type "set"],[]])) _ _ s;apply ab (gc F.newCall_set_0 (ae #[plainId_quiet F.plain_set_new _,ze F.entry_set_new ?_]));rw[fS F.plain_set_new _];unfold Builtin.«set.__new__» Builtin.Frozenset.newClass;have W:=sub_set_self;have#[U,g,d,tk,os]:=s;dsimp only
 wp_walk
 apply oC (ae ?_);dsimp only;simp only[newObj];apply ab (wpAny_alloc (ae ?_));show ae h
set_option maxHeartbeats 1000000 in
set_option maxRecDepth 100000 in
def sH {Q:QqV}(h:Q (.ref s.heap.objs.size) {s with heap:=s.heap.push (AE G)}):wpAny G.M A (call (.type "set") []) Q E s:=by
 have#[c,tl,I]:=F.called_set.mro;have O:=F.called_set.made;have J:=F.called_set.sub;apply su (vf ?_);show wpAny _ _ (callAny (.type "set") _) _ _ _;apply ae #[j9 _ (by decide +kernel),ze F.entry_type_call ?_];rw[Around.under_plain (weight_type_call_type "set" [] []) rfl];have h1:=F.called_set.notType;have h2:=F.called_set.canCreate;have z:=F.typeCall_set_0
 repeat (any_goals (first|assumption|wp_step))
 apply codeAny_mono (sD (E:=E) (Q:=λobj s₁=>obj=.ref s.heap.objs.size/\s₁={s with heap:=s.heap.push (AE G)}) #[rfl,rfl]) λr s₁ hr=>?_;cases r with
 |error e=>show hr
 |ok fl =>
  cases fl with
  |ret obj =>
   have#[rfl,rfl]:=hr;have hT:Shared.TypeIs {s with heap:=s.heap.push (AE G)} (.ref s.heap.objs.size) "set":=#[_,fj _ rfl,rfl];have B:=F.called_set.init.lookup;have ag:=F.called_set.init.bind (.ref s.heap.objs.size)
   repeat (any_goals (first|assumption|wp_step))
   apply codeAny_mono (fK (R:=wants (λr s₂=>r=.none/\Q (.ref s.heap.objs.size) s₂) E) F.called_set.init.plain F.entry_set_init (check_set_init hT ?_)) λr₂ s₂ W=>?_
   ·unfold Builtin.«set.__init__» noKeywords
    wp_walk
    apply#[rfl,h]
   ·cases r₂ with
    |error e=>show W
    |ok U =>
     cases U with
     |ret r =>
      have#[rfl,hq]:=W
      repeat (any_goals (first|assumption|wp_step))
     |_=>show W.elim
  |_=>show hr.elim
end
end MP
end
section
set_option tactic.hygienic true
namespace MP
open PySem PyProof.Rows
variable {h:Heap}{a b:V}{x y:Value}{K:Bool->Prop}{Q:QqV}
abbrev N4 (h:Heap)(w:Value)(d:PyData)(n:Nat):Prop:=∃as,Reads h w d as/\d.canLay0=true/\d.depth<=n
abbrev PG (h:Heap)(ws:List Value)(ds:List PyData)(n:Nat):Prop:=∃as,ReadsAll h ws ds as/\PyData.canLayAll0 ds=true/\PyData.depthAll ds<=n
def jD {G:Stc}{σ:St}(n:Nat)(W:∀{v:V} {w:Value} {d:PyData},eL σ n v=some d->VR G h v w->N4 h w d n) :
  {xs:List V}->{ws:List Value}->{ds:List PyData}->xs.mapM (eL σ n)=some ds->VRs G h xs ws->PG h ws ds n
 | []=>λe vr=>by
  have rfl:=vr;have rfl:=af (e:some []=some _);apply#[[],.nil,rfl,bb _]
 |x::xs=>λe z=>by
  have#[w,us,q,a,r]:=z;subst q;rw[List.mapM_cons]at e;have#[d,e1,J]:=gf.mp e;have#[ag,B,I]:=gf.mp J;clear e;have rfl:=af I;have#[as,O,c1,d1]:=W e1 a;have#[bs,U,c2,d2]:=jD n W B r;apply#[as++bs,.cons O U,by simp[PyData.canLayAll0,c1,c2],Nat.max_le.mpr #[d1,d2]]
def D9 {x:Str}{t:Tok}{d:PyData}{n:Nat}(e:(if PyData.strOk x then some (PyData.str x) else Option.none)=some d):N4 h (.str x t) d n:=by
 cases c:PyData.strOk x with
 |true=>rw[c]at e;have rfl:=af e;apply#[[],.str _ _,by simpa[PyData.canLay0] using c,bb _]
 |false=>rw[c]at e;show jn e
def iJ {G:Stc}{σ:St}(R:Rel G σ h):(n:Nat)->{v:V}->{w:Value}->{d:PyData}->eL σ n v=some d->VR G h v w->N4 h w d n:=by
 intro n;induction n with
 |zero =>
  intro v w d e vr;cases v
  case none=>have rfl:=vr;have rfl:=af e;apply#[[],.none,rfl,bb _]
  case bool=>have rfl:=vr;have rfl:=af e;apply#[[],.bool _,rfl,bb _]
  case int=>have#[t,rfl]:=vr;have rfl:=af e;apply#[[],.int _ _,rfl,bb _]
  case str=>have#[t,rfl]:=vr;show D9 e
  all_goals show jn e
 |succ n W =>
  intro v w d e vr;cases v
  case none=>have rfl:=vr;have rfl:=af e;apply#[[],.none,rfl,bb _]
  case bool=>have rfl:=vr;have rfl:=af e;apply#[[],.bool _,rfl,bb _]
  case int=>have#[t,rfl]:=vr;have rfl:=af e;apply#[[],.int _ _,rfl,bb _]
  case str=>have#[t,rfl]:=vr;show D9 e
  case L =>
   have rfl:=vr;have#[xs,U,e]:=gf.mp e;have#[ds,hd,rfl]:=jr.mp e;have#[ws,m,hl,O]:=R.L _ xs U;have#[as,r,c,dd]:=jD n W hd O;apply#[_,.list hl rfl rfl (by simpa using r),by simpa[PyData.canLay0] using c,zx dd]
  case T =>
   have#[a,ws,m,rfl,g,r]:=vr;have#[ds,hd,rfl]:=jr.mp e;have#[as,r,c,dd]:=jD n W hd r;apply#[_,.tuple g rfl rfl (by simpa using r),by simpa[PyData.canLay0] using c,zx dd]
  all_goals show jn e
section
variable {G:Stc}{A:Around}{E:QqV}{s:Shared}{σ:St}{d:Nat}
def fW {d:PyData}(c:d.canLay0=true)(h:d.depth<=6):SeqAt.shaped d=true:=by
 unfold SeqAt.shaped;rw[c,Bool.true_and];show ic (kz h (by decide))
def AOk.u64 (W:AOk A d):A.units+64<cLine:=by have:=W.units;(show gu (.l (.a .A (.n 64)) .B) .a (.l (.a (.a .A (.m 30 .C)) .aX) .B) this)
def LH (ao:AOk A d)(R:Rel G σ s.heap)(U:VR G s.heap a x)(W:VR G s.heap b y)(h:tC a b σ K)(k:∀r,K r->Q (.bool r) s):wpAny G.M A (compareOp .Eq x y) Q E s:=by
 rcases lU h with ⟨i,j,rfl,rfl,h⟩|⟨i,j,rfl,rfl,h⟩|⟨d,e,hd,I,hk⟩
 ·have#[t,rfl]:=U;have#[u,rfl]:=W;show PyProof.Rows.eq_int (k _ h)
 ·have#[t,rfl]:=U;have#[u,rfl]:=W;show eq_str (k _ h)
 ·have#[as,J,ca,B]:=iJ R 6 hd U;have#[bs,O,z,db]:=iJ R 6 I W;show eq_dataH J O (fW ca B) (fW z db) ao.u64 (k _ hk)
def LF (ao:AOk A d)(R:Rel G σ s.heap)(U:VR G s.heap a x)(W:VR G s.heap b y)(h:tC a b σ λr=>K (!r))(k:∀r,K r->Q (.bool r) s):wpAny G.M A (compareOp .NotEq x y) Q E s:=by
 rcases lU h with ⟨i,j,rfl,rfl,h⟩|⟨i,j,rfl,rfl,h⟩|⟨d,e,hd,I,hk⟩
 ·have#[t,rfl]:=U;have#[u,rfl]:=W;show ne_int (k _ h)
 ·have#[t,rfl]:=U;have#[u,rfl]:=W;show ne_str (k _ h)
 ·have#[as,J,ca,B]:=iJ R 6 hd U;have#[bs,O,z,db]:=iJ R 6 I W;show ne_dataH J O (fW ca B) (fW z db) ao.u64 (k _ hk)
def mY {v:Value}{R:Bool->Shared->Prop}(h:R (v==.none) s):wpAny G.M A (isSame v .none) R E s:=by
 cases v<;>show gc (by rfl) (by show h)
def G3 (W:VR G h a x):(x==.none)=isNone a:=by
 cases a
 case int=>have#[t,rfl]:=W;rfl
 case str=>have#[t,rfl]:=W;rfl
 case T=>have#[_,_,_,rfl,_]:=W;rfl
 case mt=>have#[_,_,_,_,rfl,_]:=W;rfl
 case hY=>have#[_,_,rfl,_]:=W;rfl
 case iI=>have#[_,_,rfl,_]:=W;rfl
 case ro=>have#[_,_,_,rfl,_]:=W;rfl
 case clo=>have#[_,_,rfl,_]:=W;rfl
 all_goals have rfl:=W;rfl
def lY (R:Rel G σ s.heap)(U:VR G s.heap a x)(O:VR G s.heap b y)(h:FY a b σ K){Q:Bool->Shared->Prop}(k:∀r,K r->Q r s):wpAny G.M A (isSame x y) Q E s:=by
 cases b with
 |none =>
  have rfl:=O;show mY (k _ (by rw[G3 U];show h))
 |L q =>
  have rfl:=O;have h:K0 q a σ K:=h;cases a with
  |none=>have rfl:=U;show wpAny_isSame_plain rfl (k _ h)
  |L p =>
   have rfl:=U;have#[B,I,J]:=h;have#[xs,e1]:=cz.mp B;have#[ys,z]:=cz.mp I;by_cases W:p=q
   ·subst W;show wpAny_isSame_ref_self (k _ (iZ p▸J))
   ·have#[o1,g1,c1]:=R.sE e1;have#[o2,g2,c2]:=R.sE z;show wpAny_isSame_ref_other W g1 g2 (by rw[c1];decide) (k _ (mn.mpr W▸J))
  |_=>show False.elim h
 |_=>show False.elim h
def qb {G:Stc}:{ns:List Int}->{ws:List Value}->VRs G h (ns.map V.int) ws->IntsAre ws ns
 | []=>λe=>by have rfl:=e;show .nil
 |_::_=>λz=>by have#[_,_,rfl,#[t,rfl],r]:=z;show .cons _ _ (qb r)
def eE (ns:List Int)(i:Int):(ns.any λx=>x==i)=ns.contains i:=by
 rw[Bool.eq_iff_iff];simp
def LG (R:Rel G σ s.heap)(U:VR G s.heap a x)(W:VR G s.heap b y)(h:FZ a b σ K)(k:∀r,K r->Q (.bool r) s):wpAny G.M A (compareOp .In x y) Q E s:=by
 have#[i,rfl,h]:=uf (v:=a) h;have#[l,rfl,ns,e,hk]:=ue (v:=b) h;have#[t,rfl]:=U;have rfl:=W;have#[ws,n,hl,O]:=R.L _ _ e;show in_list_ints hl.isList (qb O) (k _ (by rw[eE];show hk))
def A0 (R:Rel G σ s.heap)(U:VR G s.heap a x)(W:VR G s.heap b y)(h:FZ a b σ λr=>K (!r))(k:∀r,K r->Q (.bool r) s):wpAny G.M A (compareOp .NotIn x y) Q E s:=by
 have#[i,rfl,h]:=uf (v:=a) h;have#[l,rfl,ns,e,hk]:=ue (v:=b) h;have#[t,rfl]:=U;have rfl:=W;have#[ws,n,hl,O]:=R.L _ _ e;show notin_list_ints hl.isList (qb O) (k _ (by rw[eE];show hk))
def kD {op:Cop}{K:Bool->Prop}(O:AOk A d)(R:Rel G σ s.heap)(U:VR G s.heap a x)(W:VR G s.heap b y)(h:zj op a b σ K)(k:∀r,K r->Q (.bool r) s):wpAny G.M A (compareOp (kN op) x y) Q E s:=by
 have ord:JZ op a b K->wpAny G.M A (compareOp (kN op) x y) Q E s:=λh=>by
  have#[i,rfl,h]:=uf (v:=a) h;have#[j,rfl,h]:=uf (v:=b) h;have#[t,rfl]:=U;have#[u,rfl]:=W;cases op
  case lt=>show lt_int (k _ h)
  case le=>show le_int (k _ h)
  case gt=>show gt_int (k _ h)
  case ge=>show ge_int (k _ h)
  all_goals show False.elim h
 cases op with
 |eq=>show LH O R U W h k
 |ne=>show LF O R U W h k
 |is =>
  show wpAny G.M A (do return .bool (← isSame x y)) Q E s;show ab (lY R U W h λr q=>ae (k _ q))
 |isNot =>
  show wpAny G.M A (do return .bool (!(← isSame x y))) Q E s;show ab (lY (K:=λr=>K (!r)) R U W h λr q=>ae (k _ q))
 |isIn=>show LG R U W h k
 |notIn=>show A0 R U W h k
 |lt=>show ord h
 |le=>show ord h
 |gt=>show ord h
 |ge=>show ord h
end
section
variable {G:Stc}{C:Cal}{sc:Scope}{d:Nat}
def HA {op:Cop}{a b:Ex}{x y:Expr}{pos:Pos}(z:gi G C sc d a x)(hb:gi G C sc d b y)(B:behindInMarks (kN op) y=false):gi G C sc d (.c op a b) (.Compare x [kN op] [y] pos):=λ_ _ _ _ _ _ _ c h =>
 wpAny_Compare1 (rn (z c h) λv σ₁ s₁ w q vr r x =>
  rn (hb (c.go r x) q) λI σ₂ s₂ J O U r₂ W =>
   kD c.ao r₂ (vr.mono W.frz) U O λb q=>jx.back (x.trans W) (jx.d8 q (.bool _) r₂)) B
def eC {G:Stc}{A:Around}{E:QqV}{s:Shared}{env:Env}{l op r pos whole}{Q:Bool->Shared->Prop}
  (h:wpAny G.M A (eval l env) (λa s₁=>wpAny G.M A (eval r env) (λb s₂=>wpAny G.M A (compareOp op a b) (λc W=>wpAny G.M A (truthy c) Q E W) E s₂) E s₁) E s)
  (J:behindInMarks op r=false):wpAny G.M A (isTrue (.Compare l [op] [r] pos) env whole) Q E s:=by
 rw[isTrue_Compare1,markedBehindIn_of_false J];apply ab (du h (λa s₁ h₁=>ab (dw (du h₁ (λb s₂ O=>ab (jd (ab (wpAny_operating (du O (λc W U=>dw U) λ_ _ x=>x)))) ) λ_ _ x=>x))) λ_ _ x=>x)
def CU {op:Cop}{a b:Ex}{x y:Expr}{pos:Pos}(z:gi G C sc d a x)(hb:gi G C sc d b y)(B:behindInMarks (kN op) y=false):uv G C sc d (.c op a b) (.Compare x [kN op] [y] pos):=λ_ _ _ _ _ _ _ c h =>
 eC (rn (z c h) λv σ₁ s₁ w q vr r x =>
  rn (hb (c.go r x) q) λI σ₂ s₂ J O U r₂ W =>
   kD c.ao r₂ (vr.mono W.frz) U O λb q=>vj (mv.back (x.trans W) (mv.here q r₂))) B
end
end MP
end
section
namespace MP
open PySem PyProof.Rows
variable {ws:List Value}
def ou {n:Nat}(h:n<=bx):n<=sizeLine:=by rw[show sizeLine=16777216 from rfl];unfold bx at h;(show fc .cF .a .b8 h)
section
variable {G:Stc}{σ:St}{h:Heap}
def Rel.MK (R:Rel G σ h):σ.L h.objs.size=none:=by
 cases hq:σ.L h.objs.size with
 |none=>rfl
 |some ys=>have#[o,W,_]:=R.sE hq;rw[none_at_size]at W;cases W
def Rel.freshD (R:Rel G σ h):σ.D h.objs.size=none:=by
 cases hq:σ.D h.objs.size with
 |none=>rfl
 |some ys=>have#[o,W,_]:=R.EY hq;rw[none_at_size]at W;cases W
def Rel.MH (R:Rel G σ h):σ.S h.objs.size=none:=by
 cases hq:σ.S h.objs.size with
 |none=>rfl
 |some ys=>have#[o,W,_]:=R.EX hq;rw[none_at_size]at W;cases W
def mX {X:List Addr}{σ₁:St}{s s₁:Shared}{tk:Nat}{O:Drawn}{Q:V->St->Prop}{vs:List V}(r:Rel G σ₁ s₁.heap)(x:Go X σ s σ₁ s₁)(U:VRs G s₁.heap vs ws)(hz:vs.length<=bx)
  (q:∀c,σ₁.L c=none->Q (.L c) (σ₁.di c vs)):jx G X σ s Q (.ref s₁.heap.objs.size) #[s₁.heap.push {cls:=.type "list",data:=.seq ws.toArray},s₁.gens,O,tk,s₁.os]:=by
 have W:At s₁.heap.objs.size s₁.heap (s₁.heap.push {cls:=.type "list",data:=.seq ws.toArray}):=At.push s₁.heap;apply#[.L _,_,q _ r.MK,.L _,r.putL W (λ_=>none_at_size _) (IsL.new _ _) U hz,x.to (Evo.putL W (λ_=>none_at_size _) _)]
def VRs.rep {vs:List V}(x:VRs G h vs ws):∀k:Nat,VRs G h (List.replicate k vs).flatten (List.replicate k ws).flatten
 |0=>by simpa using VRs.nil
 |k+1=>by simpa[List.replicate_succ] using x.append (x.rep k)
def VRs.ints {ns:List Int}(i:IntsAre ws ns):VRs G h (ns.map V.int) ws:=by
 induction i with
 |nil=>show .nil
 |cons n t r W=>show .cons (.int n t) W
end
section
variable {G:Stc}{A:Around}{E:QqV}{s:Shared}{σ:St}
def rL {l:Addr}{items:Array Value}{k:Nat}{x:Int}{u:Tok}{Q:QqV}(hl:IsL s.heap l items k)(O:-(2^63:Int)<=x)(J:x<2^63)(W:items.size*x.toNat<=2^24)
  (h:Q (.ref s.heap.objs.size) {s with heap:=s.heap.push {cls:=.type "list",data:=.seq (List.foldl (λx1 x2=>x1++x2) #v[] (List.replicate (if items.isEmpty=true then 0 else x.toNat) items))}}) :
  wpAny G.M A (binaryOp .Mult (.ref l) (.int x u)) Q E s:=
 wpAny_binaryOp_repeat_ref (T:="list") (U:="int") (by decide) #[_,hl,rfl] (λs'=>typeIs_int s' x u) noFill_list_mul F.fills_int_mul F.slot_int_rmul repeat_list F.slot_int_index.lookup
  (zi F.slot_int_rmul (typeIs_int s x u) F.entry_int_rmul (F.args_int_rmul_2 _ _) (int___rmul___int_list x u l items k)
   ⟨hl,rfl,#[_,hl,rfl],zi F.slot_list_mul #[_,hl,rfl] F.entry_list_mul (F.args_list_mul_2 _ _)
    (AutoListH.list___mul___list_int_3 l items k x u (by simp[Builtin.List.listFitsIndex];(show#[(mu (.ik (.ng 9223372036854775808) .A) .a .a9 O),(mu (.il .A (.n 9223372036854775808)) .a .aU J)])) (zg .b2 [[8,8,1,-1,-1]] (.k .B (.n (2^24))) (.l .C (.n 8)) (.e (.a (.m 8 .A) .C) .D) (.e .Z (.n (2^63))) W (Ar.eJ _ 8 (by decide)).1 (Ar.eJ _ 8 (by decide)).2 (aa (zv (.k .U (.n (2^63))) .h))) (by simp[Builtin.List.listTooLong,sizeLine];(show fc .cF .a (.k .A (.n (2^24))) W)))
    #[hl,h]⟩)
set_option maxHeartbeats 2000000 in
def CQ {op:Bop}{a b:V}{x y:Value}{Q:V->St->Prop}(R:Rel G σ s.heap)(va:VR G s.heap a x)(vb:VR G s.heap b y)(h:gI op a b σ Q):wpAny G.M A (binaryOp (binOp op) x y) (jx G [] σ s Q) E s:=by
 have ag:∀i j t u,x=.int i t->y=.int j u->gI op (.int i) (.int j) σ Q->wpAny G.M A (binaryOp (binOp op) x y) (jx G [] σ s Q) E s:=λi j t u e1 e2 q=>by
  subst e1;subst e2;show lZ R q
 have W:∀(l:Addr) (xs:List V) (ws:List Value) (i:Int) (t:Tok) (n:Nat),IsL s.heap l ws.toArray n->VRs G s.heap xs ws->xs.length*i.toNat<=bx->i.natAbs<2^60->(∀c,σ.L c=none->Q (.L c) (σ.di c (List.replicate i.toNat xs).flatten)) ->
   x=.ref l->y=.int i t->wpAny G.M A (binaryOp .Mult x y) (jx G [] σ s Q) E s:=λl xs ws i t n hl U hz hb q e1 e2=>by
  subst e1;subst e2;have h1:=U.length;apply rL hl ((Ar.nab _).elim (λJ=>(mu .a9 .a .a8 J.1)) λJ=>(dD .a9 .d .a4 .b7 hb J.2)) ((Ar.nab _).elim (λJ=>(dD .aU .d .a4 .bP hb J.2)) λJ=>(mu .aU .a .bI J.1)) ?_ ?_
  ·simp only[dp];rw[<- h1];unfold bx at hz;(show fc (.k .A (.n (2^24))) .a .b8 hz)
  ·have e:List.foldl (λx1 x2=>x1++x2) #v[] (List.replicate (if ws.toArray.isEmpty=true then 0 else i.toNat) ws.toArray)=((List.replicate i.toNat ws).flatten).toArray:=by
    rw[listMul_foldl];cases ws with
    |nil=>simp
    |cons w ws=>simp
   rw[e];show mX R .refl (U.rep _) (by rw[lm_len_rep_flat,Nat.mul_comm];show hz) q
 rcases tE h with ⟨i,j,rfl,rfl,_⟩|⟨rfl,l,n,rfl,rfl,q⟩|⟨rfl,m,rfl,q⟩
 ·have#[t,rfl]:=va.inv;have#[u,rfl]:=vb.inv;show lZ R h
 ·have#[u,rfl]:=vb.inv;have rfl:=va;have#[xs,e1,hz,hb,q]:=q;have#[ws,n,hl,U]:=R.L _ _ e1;show W _ _ _ _ _ _ hl U hz hb q rfl rfl
 ·clear W;have rfl:=vb;have#[xs,ys,O,e5,hz,q]:=q;have#[us,m,ai,I]:=R.L _ _ e5;have go:∀(l:Addr) (ws:List Value) (n:Nat),x=.ref l->IsL s.heap l ws.toArray n->VRs G s.heap xs ws->wpAny G.M A (binaryOp (binOp .add) x (.ref _)) (jx G [] σ s Q) E s:=λl ws n ex hl U=>by
   subst ex;have h1:=U.length;have h2:=I.length;apply P.add_list hl ai ?_ (by simp only[dp];rw[<- h1,<- h2];show ou hz);rw[List.append_toArray];show mX R .refl (U.append I) (by simpa using hz) q
  unfold itemsOf at O;cases z:kU a with
  |some l' =>
   rw[z]at O;have z:=iA z;subst z;have#[ws,n,hl,U]:=R.L _ _ O;show go _ ws n va.inv hl U
  |none =>
   rw[z]at O;cases B:vRo a with
   |none=>rw[B]at O;cases O
   |some ns =>
    rw[B]at O;cases O;have B:=L4 B;subst B;have#[a,ws,n,ex,g,r]:=va.inv;show go a ws n ex (R.base _ _ g) (VRs.ints (G:=G) (h:=s.heap) r)
def y7 {C:Cal}{sc:Scope}{d:Nat}{op:Bop}{a b:Ex}{x y:Expr}{pos:Pos}(B:gi G C sc d a x)(hb:gi G C sc d b y):gi G C sc d (.b op a b) (.BinOp x (binOp op) y pos):=λ_ _ _ _ _ _ _ c h =>
 wpAny_BinOp (rn (B c h) λv σ₁ s₁ w q vr r x =>
  rn (hb (c.go r x) q) λI σ₂ s₂ J O U r₂ W =>
   (x.trans W).back (CQ r₂ (vr.mono W.frz) U O))
def DRs.look {h:Heap}(k:Key):{es:List (Key×V)}->{ds:List (Key×Value)}->DRs G h es ds->OV G h (es.lookup k) (valueAt ds k)
 | []=>λe=>by have rfl:=e;show trivial
 |(k',v)::es=>λz=>by
  have#[w,us,e,a,r]:=z;subst e;by_cases hk:k'=k
  ·subst hk;rw[List.lookup_cons_self,show valueAt ((k',w)::us) k'=some w by simp[valueAt]];show a
  ·rw[j4,mn.mpr (λq=>hk q.symm)];simpa[valueAt,List.find?_cons,hk] using DRs.look k r
def key_is {v:V}{k:Key}{w:Value}{h:Heap}(hk:v.rO=some k)(vr:VR G h v w):G.kk.is k w=true:=by
 cases v
 case int=>have#[t,rfl]:=vr;have rfl:=af hk;simp[keyKind,yR,Value.isInt]
 case str=>have#[t,rfl]:=vr;have rfl:=af hk;simp[keyKind,yR,Value.isStrOf]
 all_goals show jn hk
def C6 {a b:V}{x y:Value}{ve se:Expr}{K:V->Prop}(R:Rel G σ s.heap)(va:VR G s.heap a x)(vb:VR G s.heap b y)(h:t4 a b σ K)(hs:subscripted se false x y=operate [x,y] (getItem x y)){Q:QqV}(k:∀v w tk,K v->VR G s.heap v w->Q w {s with toks:=tk}) :
  wpAny G.M A (subscriptTail ve se x y) Q E s:=by
 have listAt:∀(l:Addr) (ws:List Value) (i:Int) (t:Tok) (n:Nat) (v:Value),IsL s.heap l ws.toArray n->ws.length<=bx->0<=jt ws.length i->ws[(jt ws.length i).toNat]?=some v->x=.ref l->y=.int i t->(∀tk,Q v {s with toks:=tk})->wpAny G.M A (subscriptTail ve se x y) Q E s:=λl ws i t n v hl hz h0 J e1 e2 hq=>by
  subst e1;subst e2;have B:(jt ws.length i).toNat<ws.length:=(av.mp J).1;unfold jt at h0 J B;unfold bx at hz;by_cases hi:i<0
  ·simp only[hi,bO]at h0 J B;show tail_any hl.isList.typeIs FW.lookup (wpAny_getItem_list_neg hl.isList hi (by simp only[dp];(show KS (.ik (.g .L) .A) .a (.ik .O (.a .A .L)) h0)) (dD .a9 .b .b8 (.ik .O (.a .A .L)) hz h0) (by simpa using J) (hq s.toks)) hs
  ·simp only[hi,md]at h0 J B;show tail_any hl.isList.typeIs FW.lookup (wpAny_getItem_list hl.isList (mu .a8 .a (.ig .A .O) hi) ((Ar.ton _).elim (λI=>(P0 .aU .p .b8 .U (.ie .P .A) hz B I.2)) λI=>(mu .aU .a .bI I.1)) (by simpa using J) (hq s.toks)) hs
 have z:∀(l:Addr) (ws:List Value) (i:Int) (t:Tok) (n:Nat) (v:Value),IsT s.heap l ws.toArray n->i.natAbs<2^60->0<=jt ws.length i->ws[(jt ws.length i).toNat]?=some v->x=.ref l->y=.int i t->(∀tk,Q v {s with toks:=tk})->wpAny G.M A (subscriptTail ve se x y) Q E s:=λl ws i t n v hl hz h0 J e1 e2 hq=>by
  subst e1;subst e2;have B:(jt ws.length i).toNat<ws.length:=(av.mp J).1;have hT:IsTup s.heap l ws.toArray:=#[_,hl,rfl,n,rfl];apply tail_any hT.typeIs slot_tuple_getitem.lookup (PyProof.Rows.getItem_tuple hT ((Ar.nab _).elim (λI=>(mu .a9 .a .a8 I.1)) λI=>(dD .a9 .d .a4 .b7 hz I.2)) ((Ar.nab _).elim (λI=>(dD .aU .d .a4 .bP hz I.2)) λI=>(mu .aU .a .bI I.1)) (j:=(jt ws.length i).toNat) ?_ (by simpa using J) (hq s.toks)) hs;unfold seqIndex?;rw[dp]
  change (if (decide (0<=jt ws.length i)&&decide (jt ws.length i<ws.length))=true then some (jt ws.length i).toNat else none)=_
  rw[cn];simp only[fp,gS];(show#[(mu .a8 .a .a8 h0),((Ar.ton _).elim (λI=>(vB (.il .A .L) .d .U (.ie .P .A) B I.2)) λI=>(vB (.il .A .L) .b .U .bI B I.1))])
 cases a with
 |L a =>
  have rfl:=va;have#[i,rfl,xs,v,e,h0,hx,hk]:=uf (v:=b) h;have#[t,rfl]:=vb;have#[ws,n,hl,J]:=R.L _ _ e;have W:=J.length;have#[w,hw,vr]:=J.get hx;rw[W]at h0 hw;show listAt _ ws _ _ n w hl (W▸R.Ll _ _ e) h0 hw rfl rfl λtk=>k v w tk hk vr
 |ro ns =>
  have#[i,rfl,v,hz,h0,hx,hk]:=uf (v:=b) h;have#[t,rfl]:=vb;have#[a,ws,n,rfl,g,r]:=va;have J:=VRs.ints (G:=G) (h:=s.heap) r;have W:=r.length.symm;have#[w,hw,vr]:=J.get (v:=.int v) (by rw[cy,hx];rfl);rw[W]at h0 hw;show listAt _ ws _ _ _ w (R.base _ _ g) (W▸hz) h0 hw rfl rfl λtk=>k (.int v) w tk hk vr
 |T xs =>
  clear listAt;have#[i,rfl,v,hb,h0,hx,hk]:=uf (v:=b) h;have#[t,rfl]:=vb;have#[a,ws,n,rfl,g,r]:=va;have#[w,hw,vr]:=r.get hx;show z _ _ _ _ _ _ g hb (r.length▸h0) (r.length▸hw) rfl rfl λtk=>k v w tk hk vr
 |dct a =>
  clear z;have rfl:=va;have#[es,kk,v,e,ag,hl,hk]:=h;have#[ds,hd,J]:=R.D _ _ e;have hh:=J.look kk;rw[hl]at hh;cases hq:valueAt ds kk with
  |none=>rw[hq]at hh;show hh.elim
  |some w =>
   rw[hq]at hh;show tail_any hd.typeIs slot_dict_getitem.lookup (wpAny_getItem_of (key_is ag vb) hd.mapOf hq (k v w _ hk hh)) hs
 |_=>show False.elim h
end
end MP
end
section
namespace MP
open PySem PyProof.Rows
variable {a:Ex}{x:Expr}{pos:Pos}{A:Around}{E:QqV}{σ:St}{s:Shared}{h:Heap}{i:Int}
structure GOk (G:Stc):Prop where
 cls:∃N mN,ClsAt G.hb G.cS N mN/\mN "__getattribute__"=none/\mN "__getattr__"=none/\mN "__setattr__"=none/\∀x∈G.attrs,mN x=none/\typeLookup (.type "object") x=pure none
 len:G.attrs.length<=100
 nd:G.attrs.Nodup
 sys:∃o,G.hb.get? sysModules=some o
 names:∃mg mb,G.hb.Ns mainGlobals mg/\G.hb.Ns builtinsNs mb/\∀x,G.gl x=(mg x).or (mb x)
abbrev isSlice (x:Expr):Bool:=iN 26 x
def iE {W:Expr}(h:isSlice W=false)(x y:Value):subscripted W false x y=operate [x,y] (getItem x y):=by
 cases W<;>first|rfl|show Bool.noConfusion h
section
variable {G:Stc}{C:Cal}{sc:Scope}{d:Nat}
def y6 {b:Ex}{y:Expr}(z:gi G C sc d a x)(hb:gi G C sc d b y)(B:isSlice y=false):gi G C sc d (.sub a b) (.Subscript x y pos):=λ_ _ _ _ _ _ _ c h =>
 Subscript_ (rn (z c h) λv σ₁ s₁ w q vr r x =>
  rn (hb (c.go r x) q) λI σ₂ s₂ J O U r₂ W =>
   C6 r₂ (vr.mono W.frz) U O (iE B _ _) λv w tk q vr=>jx.back (x.trans W) (jx.here q vr r₂))
abbrev JR (G:Stc)(C:Cal)(sc:Scope)(d:Nat)(e:Ex)(x:Option Expr):Prop:=(e=.none/\x=none)\/∃y,x=some y/\gi G C sc d e y
def JR.at {e:Ex}{x:Option Expr}(p:JR G C sc d e x){env:Env}{ρ:Fr}{Q:V->St->Prop}(c:Cx G sc d A env ρ σ s)(h:wpE C e ρ σ Q):wpAny G.M A (evalPart x env) (jx G [] σ s Q) E s:=by
 rcases p with ⟨rfl,rfl⟩|⟨y,rfl,p⟩
 ·show evalPart_none_step (jx.d8 h .none c.R)
 ·show evalPart_some_step (p c h)
def I7 (a:Int)(n:Nat):(max 0 (min a n)).toNat=min n a.toNat:=by
 rcases Int.le_total a 0 with h|h
 ·rw[Int.toNat_of_nonpos h,Nat.min_zero,Int.max_eq_left (Int.le_trans (Int.min_le_left ..) h)];rfl
 ·rcases Int.le_total a n with h'|h'
  ·rw[Int.min_eq_left h',Int.max_eq_right h,Nat.min_eq_right (Int.toNat_le.mpr h')]
  ·rw[Int.min_eq_right h',Int.max_eq_right (Int.natCast_nonneg n),qq,xh ((Int.le_toNat h).mpr h')]
def nN (n:Nat)(i:Int):clipAt n i=iz n i:=I7 _ n
def part_of {v:V}{w:Value}{k:Nat}(vr:VR G h v w)(e:n4 k v=some i):∃o,IsPart w o/\o.getD k=i:=by
 cases v
 case none=>have rfl:=vr;apply#[none,.none,af e]
 case int=>have#[t,rfl]:=vr;apply#[_,.int _ _,af e]
 all_goals show jn e
def x6 (n:Nat)(o:Option Int)(h:o.getD (0:Nat)=i):o.elim 0 (clipAt n)=iz n i:=by
 cases o with
 |none=>simp at h;subst h;simp[iz,jt]
 |some j=>simp at h;subst h;show nN n j
def wZ (n:Nat)(o:Option Int)(h:o.getD (n:Nat)=i):o.elim n (clipAt n)=iz n i:=by
 cases o with
 |none=>have rfl:=(h:(n:Int)=i);show(Nat.min_self n).symm
 |some j=>simp at h;subst h;show nN n j
def C8 {a b c:V}{x y z:Value}{ve:Expr}{lo U:Option Expr}{p:Pos}{Q:V->St->Prop}(R:Rel G σ s.heap)(va:VR G s.heap a x)(vb:VR G s.heap b y)(vc:VR G s.heap c z)(h:JX a b c σ Q) :
  wpAny G.M A (subscriptTail ve (.Slice lo U none p) x (.ref s.heap.objs.size)) (jx G [] σ s Q) E {s with heap:=s.heap.push {cls:=.type "slice",data:=.fields #v[y,z,.none]}}:=by
 have go:∀(l:Addr) (xs:List V) (ws:List Value) (n:Nat) (i j:Int),x=.ref l->IsL s.heap l ws.toArray n->VRs G s.heap xs ws->xs.length<=bx->n4 0 b=some i->n4 xs.length c=some j->(∀c,σ.L c=none->Q (.L c) (σ.di c ((xs.take (iz xs.length j)).drop (iz xs.length i)))) ->
   wpAny G.M A (subscriptTail ve (.Slice lo U none p) x (.ref s.heap.objs.size)) (jx G [] σ s Q) E {s with heap:=s.heap.push {cls:=.type "slice",data:=.fields #v[y,z,.none]}}:=λl xs ws n i j e hl I hz U J q=>by
  subst e;have#[o1,p1,e1]:=part_of vb U;have#[o2,p2,e2]:=part_of vc J;have O:(s.heap.push {cls:=.type "slice",data:=.fields #v[y,z,.none]}).IsList l ws.toArray:=(hl.push _).isList;have W:=I.length;apply tail_any (T:="list") (id:="list.__getitem__") (ops:=[.ref s.heap.objs.size,.ref l]) ?_ FW.lookup (wpAny_getItem_list_slice O (Heap.IsSliceOf.new ..) p1 p2 .none (by simp) ?_ (by simp only[dp];rw[<- W];show ou hz)) rfl
  ·show O.typeIs
  ·have e:slicePick ws.toArray o1 o2 none=((ws.take (iz ws.length j)).drop (iz ws.length i)).toArray:=by
    rw[slicePick_plain,dp,x6 ws.length o1 e1,wZ ws.length o2 (W▸e2),List.drop_take]
   rw[e];have R':=R.push {cls:=.type "slice",data:=.fields #v[y,z,.none]};have B:=((I.take (iz xs.length j)).drop (iz xs.length i)).mono (h':=s.heap.push {cls:=.type "slice",data:=.fields #v[y,z,.none]}) λ_ _ e _=>bw _ e;rw[<- W];show mX (s₁:={s with heap:=s.heap.push {cls:=.type "slice",data:=.fields #v[y,z,.none]}}) R' #[Evo.push _ _ _ _,rfl,rfl] B (by simp only[gz,fb];(show pe .A .e .H .bM .aF hz (Ar.ji _ _).2.1 (oo _ _))) q
 cases a with
 |L a =>
  have rfl:=va;have#[xs,i,j,e,U,J,_,_,q]:=h;have#[ws,n,hl,I]:=R.L _ _ e;show go _ xs ws n i j rfl hl I (R.Ll _ _ e) U J q
 |ro ns =>
  have#[a,ws,n,rfl,g,r]:=va;have#[i,j,hz,U,J,_,_,q]:=h;apply go _ _ _ _ i j rfl (R.base _ _ g) (VRs.ints r) (by simpa using hz) U (by simpa using J) λc hc=>?_;have:=q c hc;simpa[List.map_drop,List.map_take] using this
 |_=>show False.elim h
def GR {b c:Ex}{lo hi:Option Expr}{p:Pos}(ha:gi G C sc d a x)(hb:JR G C sc d b lo)(hc:JR G C sc d c hi):gi G C sc d (.slc a b c) (.Subscript x (.Slice lo hi none p) pos):=λ_ _ _ _ _ _ _ c h =>
 Subscript_ (rn (ha c h) λv σ₁ s₁ w q vr r x =>
  wpAny_Slice (rn (hb.at (c.go r x) q) λar σ₂ s₂ aj z J r₂ U =>
   rn (hc.at (c.go r₂ (x.trans U)) z) λao ag ax ai B O I W =>
    evalPart_none_step ((x.trans (U.trans W)).back (C8 I ((vr.mono U.frz).mono W.frz) (J.mono W.frz) O B))))
abbrev um (x:Expr):Bool:=!(iN 16 x&&(kids x).tail.isEmpty)
def dU {o:Expr}(h:um o=true)(attr:Str)(env:Env)(whole:Sem Value):attributeBase o attr env whole=whole:=by
 cases o with
 |Call f args W pos =>
  cases args with
  |nil=>show Bool.noConfusion h
  |cons a as=>cases f<;>rfl
 |_=>rfl
def fH.inst {a dd:Addr}{f:Nat->Option V}(I:fH G h a dd f){m:Str->Option Value}(O:h.Ns1 dd m):h.Inst a G.cS m:=by
 have#[o,W,J,hd,U]:=I.here;apply#[o,W,J,U,.inr #[dd,hd,I.ne,O]]
def rQ {v:V}{w:Value}(vr:VR G h v w):handedOut w=pure w:=by
 cases v
 case int=>have#[t,rfl]:=vr;rfl
 case str=>have#[t,rfl]:=vr;rfl
 case T=>have#[_,_,_,rfl,_]:=vr;rfl
 case mt=>have#[_,_,_,_,rfl,_]:=vr;rfl
 case hY=>have#[_,_,rfl,_]:=vr;rfl
 case iI=>have#[_,_,rfl,_]:=vr;rfl
 case ro=>have#[_,_,_,rfl,_]:=vr;rfl
 case clo=>have#[_,_,rfl,_]:=vr;rfl
 all_goals have rfl:=vr;rfl
def tN {a dd:Addr}{f:Nat->Option V}{i:Nat}{name:Str}{u:V}{expr:Bool}{Q:QqV}(K:GOk G)(R:Rel G σ s.heap)(hI:σ.I a=some (dd,f))(z:G.attrs[i]?=some name)(hu:f i=some u)
  (k:∀w tk,VR G s.heap u w->Q w {s with toks:=tk}):wpAny G.M A (getAttr (.ref a) name expr) Q E s:=by
 have#[N,mN,X,B,ai,ag,O]:=K.cls;have I:=R.I a dd f hI;have#[m,hm,hv,_]:=I.ns;have U:=hv i name z;rw[hu]at U;cases J:m name with
 |none=>rw[J]at U;show U.elim
 |some w =>
  rw[J]at U;have#[hh,g,dr,t,os]:=s;have#[nm,q,bs,sn,sub,aj,d2,k0,k1,k2,k3,k5,hC]:=(X.keeps R.base).obj;have W:=fe z;show load_attr hC (X.keeps R.base).ns B (O name W).1 (O name W).2 (I.inst hm) J (rQ U) (k w _ U)
def tQ {i:Nat}{name:Str}(K:GOk G)(J:gi G C sc d a x)(hb:um x=true)(O:G.attrs[i]?=some name):gi G C sc d (.attr a i) (.Attribute x name pos):=λ_ _ _ _ _ _ _ c h =>
 Attribute_any_ (rn (J c h) λv σ₁ s₁ w q vr r x=>by
  have#[b,dd,f,u,rfl,I,U,q]:=q;have rfl:=vr;show tN K r I O U λw W vr=>jx.back x (jx.here q vr r)) (by rw[arm_eval_Attribute,dU hb])
end
variable {args:List Expr}{A:Around}{E:QqV}{s:Shared}{σ:St}
abbrev isStar:Expr->Bool
 |.Starred _ _=>true
 |_=>false
abbrev noStar:List Expr->Bool
 | []=>true
 |e::r=>!isStar e&&noStar r
def band {a b:Bool}(h:(a&&b)=true):a=true/\b=true:=(fp a b).mp h
def iF {e:Expr}(h:(!isStar e)=true)(r:List Expr)(env:Env):starEach (e::r) env=(false,eval e env)::starEach r env:=by
 cases e<;>first|rfl|show Bool.noConfusion h
def yj:{args:List Expr}->noStar args=true->(env:Env)->starEach args env=args.map λe=>(false,eval e env)
 | [],_,env=>rfl
 |e::r,h,env=>(iF (band h).1 r env).trans (dj (_::·) (yj (band h).2 env))
def gr {x:Expr}{xs:List Expr}(h:noStar (x::xs)=true):(∀env,starEach (x::xs) env=(false,eval x env)::starEach xs env)/\noStar xs=true:=
 #[iF (band h).1 xs,(band h).2]
def ki (h:noStar args=true)(pos:Pos)(env:Env):(backTo pos (starEach args env)).any (·.1)=false:=by
 rw[yj h];simp[backTo,List.any_eq_false]
def xK (h:noStar args=true)(pos:Pos)(env:Env):(backTo pos (starEach args env)).all (λx=>!x.1)=true:=by
 rw[yj h];simp[backTo]
def qc {M:Model}{f:Value}{W:List (Bool×Sem Value)}{Q:Args->Shared->Prop}(U:W.any (·.1)=false)(h:wpAny M A (spliced W) (λvs s'=>Q #[vs,[]] s') E s):wpAny M A (evalArgs f true W []) Q E s:=by
 cases W with
 |nil =>
  unfold evalArgs;show wpAny M A (spliced []>>=_) Q E s;apply ab (du h (λvs s' h'=>?_) λ_ _ x=>x);apply dw ?_;show ab (ae (ab (ae (ae h'))))
 |cons t r =>
  have#[b,x]:=t;simp only[List.any_cons,Bool.or_eq_false_iff]at U;have#[rfl,_]:=U;show Calls.evalArgs_plain h
section
variable {G:Stc}{C:Cal}{sc:Scope}{d:Nat}
def uc {env:Env}{o:Expr}{name:Str}{apos pos:Pos}{Q:QqV}(hb:um o=true)(z:noStar args=true)(I:args.length<30)(W:(apos.endLine==pos.line)=true)
  (h:wpAny G.M A (eval o env) (λB s₁=>∀pl,wpAny G.M A (getMethod B name pl) (λp s₂=>wpAny G.M A (callWith pos p.1 p.2 (backTo pos (starEach args env)) []) Q E s₂) E s₁) E s) :
  wpAny G.M A (eval (.Call (.Attribute o name apos) args [] pos) env) Q E s:=by
 rw[arm_eval_Call,dU hb];apply ab (du h (λB s₁ h₁=>?_) λ_ _ e=>e);apply ab (jd ?_);have U:methodCallForm (args.length+([]:List Keyword).length) (backTo pos (starEach args env)) (backToKw pos (keywordEach [] env))=true:=by
  unfold methodCallForm;rw[xK z];show decide (args.length<30)=true;show ic I
 have J:methodCallPos true o env apos pos=pure pos:=by unfold methodCallPos;simp[W]
 unfold methodCall;rw[U];apply ab (dw (du (h₁ _) (λp s₂ O=>?_) λ_ _ e=>e));show ab (gc J O)
def ub {env:Env}{ρ:Fr}{id:String}{first:List Value}{es:Exs}{pos:Pos}{P:List V->St->Prop}{Q:QqV}(U:noStar args=true)(W:qk G C sc d es args)(c:Cx G sc d A env ρ σ s)(h:vg C es ρ σ P)
  (k:∀vs σ₁ s₁ ws,P vs σ₁->VRs G s₁.heap vs ws->Rel G σ₁ s₁.heap->Go [] σ s σ₁ s₁->wpAny G.M A (call (.builtin id) (first++ws)) Q E s₁) :
  wpAny G.M A (callWith pos (.builtin id) first (backTo pos (starEach args env)) []) Q E s:=
 Calls.callWith_builtin (ki U pos env) (qc (ki U pos env) (oM (W c h) k))
def zU {h:Heap}{a:Addr}{xs ys:List V}{ws us:List Value}{n:Nat}{f:Array Value->Array Value}(R:Rel G σ h)(e:σ.L a=some xs)(hl:IsL h a ws.toArray n)(U:VRs G h ys us)(hz:ys.length<=bx)(O:f ws.toArray=us.toArray) :
  Rel G (σ.di a ys) (h.update a (Obj.mapSeq f))/\Evo [] σ h (σ.di a ys) (h.update a (Obj.mapSeq f)):=by
 have W:=hl.update f;rw[O]at W;have x:At a h (h.update a (Obj.mapSeq f)):=⟨λb o hb I=>(uw h _ (xf hb)).trans I,#[_,W],λo J=>by
  have rfl:=af (J.symm.trans hl);show zl rfl rfl⟩
 apply#[R.putL x (λq=>by rw[e]at q;cases q) W U hz,Evo.putL x (λq=>by rw[e]at q;cases q) _]
abbrev sL:BM->Str
 |.append=>"append"
 |.pop=>"pop"
 |.insert=>"insert"
 |.extend=>"extend"
 |.sort=>"sort"
 |.index=>"index"
 |.count=>"count"
 |.get=>"get"
 |.setdefault=>"setdefault"
 |.add=>"add"
abbrev OP:BM->String
 |.append=>"list.append"
 |.pop=>"list.pop"
 |.insert=>"list.insert"
 |.extend=>"list.extend"
 |.sort=>"list.sort"
 |.index=>"list.index"
 |.count=>"list.count"
 |.get=>"dict.get"
 |.setdefault=>"dict.setdefault"
 |.add=>"set.add"
def uF {h:Heap}{a:Addr}{items:Array Value}{n:Nat}(hl:IsL h a items n):∀b,Value.ref a=.ref b->∃ob,h.get? b=some ob/\ob.dict=none:=λb e=>by
 injection e with e;subst e;apply#[_,hl,rfl]
def pE {k:BM}{v:V}{w:Value}{pl:Sem Bool}{Q:Value×List Value->Shared->Prop}(R:Rel G σ s.heap)(vr:VR G s.heap v w)(h:MW k v σ)(q:Q (.builtin (OP k),[w]) s) :
  wpAny G.M A (getMethod w (sL k) pl) Q E s:=by
 have lst:∀(a:Addr) (name:Str) (id:String),(σ.L a).isSome=true->Slot "list" name id->typeOf (.builtin id)=pure (.type "method_descriptor")->Q (.builtin id,[.ref a]) s->wpAny G.M A (getMethod (.ref a) name pl) Q E s:=λa name id e sl W q=>by
  have#[xs,e]:=cz.mp e;have#[ws,n,hl,_]:=R.L _ _ e;show getMethod_builtin #[_,hl,rfl] PySem.F.plainAttrs_list sl W (uF hl) q
 cases k
 case get =>
  have#[a,rfl,h]:=iK (v:=v) h;have rfl:=vr;have#[xs,e]:=cz.mp h;have#[ds,hd,_]:=R.D _ _ e;show getMethod_builtin hd.typeIs PySem.F.plainAttrs_dict PySem.F.slot_dict_get PySem.F.type_dict_get hd.mapOf.noDict q
 case setdefault =>
  have#[a,rfl,h]:=iK (v:=v) h;have rfl:=vr;have#[xs,e]:=cz.mp h;have#[ds,hd,_]:=R.D _ _ e;show getMethod_builtin hd.typeIs PySem.F.plainAttrs_dict PySem.F.slot_dict_setdefault PySem.F.type_dict_setdefault hd.mapOf.noDict q
 case add =>
  have#[a,rfl,h]:=HV (v:=v) h;have rfl:=vr;have#[xs,e]:=cz.mp h;show getMethod_set_add (R.S _ _ e).of q
 all_goals
  have#[a,rfl,h]:=ue (v:=v) h;have rfl:=vr
 case append=>show lst _ _ _ h i6 PySem.F.type_list_append q
 case pop=>show lst _ _ _ h PySem.F.slot_list_pop PySem.F.type_list_pop q
 case insert=>show lst _ _ _ h PySem.F.slot_list_insert PySem.F.type_list_insert q
 case extend=>show lst _ _ _ h PySem.F.slot_list_extend PySem.F.type_list_extend q
 case sort=>show lst _ _ _ h PySem.F.slot_list_sort PySem.F.type_list_sort q
 case index=>show lst _ _ _ h PySem.F.slot_list_index PySem.F.type_list_index q
 case count=>show lst _ _ _ h PySem.F.slot_list_count PySem.F.type_list_count q
end
section
variable {h:Heap}{k:Key}{v:V}{w:Value}{es:List (Key×V)}{a:Addr}{ws:List Value}
variable {G:Stc}{A:Around}{E:QqV}{s:Shared}{σ:St}
def lN (K:GOk G)(R:Rel G σ s.heap){b:Addr}(d:σ.dom b):(b==sysModules)=false:=by
 apply mn.mpr λe=>?_;have#[o,W]:=K.sys;have:=R.new b d;rw[e,W]at this;cases this
def DRs.put (vr:VR G h v w){ds:List (Key×Value)}(r:DRs G h es ds):DRs G h (putD es k v) (stored ds k w):=by
 have I:∀{es:List (Key×V)} {ds:List (Key×Value)},DRs G h es ds->(es.any λe=>e.1==k)=ds.any λU=>decide (U.1=k):=by
  intro es;induction es with
  |nil=>intro ds r;have rfl:=r;rfl
  |cons e es W=>intro ds r;have#[w,us,rfl,a,r]:=r;rw[List.any_cons,List.any_cons,W r];rfl
 have O:∀{es:List (Key×V)} {ds:List (Key×Value)},DRs G h es ds->DRs G h (es.map λe=>if e.1=k then (k,v) else e) (ds.map λU=>if U.1=k then (U.1,w) else U):=by
  intro es;induction es with
  |nil=>intro ds r;have rfl:=r;show .nil
  |cons e es W =>
   intro ds r;have#[k',z]:=e;have#[B,us,rfl,a,r]:=r;rw[kh,kh];by_cases hk:k'=k
   ·subst hk;rw[cn rfl,cn rfl];show .cons vr (W r)
   ·rw[br hk,br hk];show .cons a (W r)
 have J:∀{es:List (Key×V)} {ds:List (Key×Value)},DRs G h es ds->DRs G h (es++[(k,v)]) (ds++[(k,w)]):=by
  intro es;induction es with
  |nil=>intro ds r;have rfl:=r;show .cons vr .nil
  |cons e es W=>intro ds r;have#[B,us,rfl,a,r]:=r;show .cons a (W r)
 unfold putD stored;rw[I r];split
 ·show O r
 ·show J r
def DRs.length:{es:List (Key×V)}->{ds:List (Key×Value)}->DRs G h es ds->es.length=ds.length
 | []=>λe=>e▸rfl
 |_::_=>λz=>by have#[_,_,rfl,_,r]:=z;show dj (·+1) r.length
def OV.getD {v:Option V}{w:Option Value}{u:V}{x:Value}(o:OV G h v w)(a:VR G h u x):VR G h (v.getD u) (w.getD x):=by
 cases v<;>cases w
 ·show a
 ·show False.elim o
 ·show False.elim o
 ·show o
def kE (es:List (Key×V))(k:Key)(v:V):(putD es k v).length<=es.length+1:=by
 unfold putD;split<;>simp
def JD (R:Rel G σ s.heap)(e:σ.D a=some es):∀b f,σ.I b≠some (a,f):=λb f q=>by
 have:=R.apart b a f q;rw[e]at this;cases this
def NF {h':Heap}{W:List (Key×V)}{ds:List (Key×Value)}(R:Rel G σ s.heap)(e:σ.D a=some es)(B:Heap.SameBut a s.heap h')(hd:h'.DictOf G.kk a ds)(I:DRs G s.heap W ds)(hz:W.length<=bx) :
  Rel G (σ.sg a W) h'/\Evo [] σ s.heap (σ.sg a W) h':=by
 have#[aj,#[o,ai,ep,z,hc,O,_],_]:=R.D _ _ e;have#[o',J,ag,U,_]:=id hd;have x:At a s.heap h':=At.vZ B z (ur O) U;apply#[R.putD x (λq=>by rw[e]at q;cases q) (JD R e) hd I hz,Evo.putD x (λq=>by rw[e]at q;cases q) _]
def E6 (hk:v.rO=some k)(vr:VR G h v w):w.scannable=true:=by
 cases v
 case int=>have#[t,rfl]:=vr;rfl
 case str=>have#[t,rfl]:=vr;rfl
 all_goals show jn hk
def DB (h:es.lookup k=none)(v:V):putD es k v=es++[(k,v)]:=by
 unfold putD;rw[br];simp only[List.any_eq_true,not_exists,not_and];intro e W hk;rw[ru]at h;have:=h e W;simp only[fy]at hk;simp[hk]at this
def AD (R:Rel G σ s.heap)(e:σ.D a=some es):Rel G (σ.sg a es) s.heap/\Evo [] σ s.heap (σ.sg a es) s.heap:=by
 have U:upd σ.D a es=σ.D:=by
  funext b
  unfold upd;split
  ·rename_i h;rw[h,e]
  ·rfl
 have hd:∀b,(σ.sg a es).dom b->σ.dom b:=λb d=>(nH d).elim id λq=>.inr (.inl (by rw[q,e];rfl));have W:σ.sg a es={σ with Z:=clr σ.Z a}:=by unfold St.sg;rw[U]
 apply#[?_,λ_ _ e _ _=>e,λ_ _ e _=>e,λb d=>.inl (hd b d),λ_ o e=>#[o,e]];apply#[R.L,?_,R.S,R.I,λb o q=>?_,R.Ll,?_,R.inj,?_,R.sep,λb d=>R.new b (hd b d),R.base]
 ·rw[W];show R.D
 ·rw[W]at q ⊢;show R.Z b o (nM q).2
 ·rw[W];show R.Dl
 ·rw[W];show R.apart
def wL {l:Addr}{vs:List Value}{ns:List Int}{k:Int}{t:Tok}{n:Nat}{Q:QqV}(hl:IsL s.heap l vs.toArray n)(I:IntsAre vs ns)
  (hz:ns.length<=bx) (hk:k∈ns) (h:Q (.int (ns.idxOf k:Nat) s.toks) {s with toks:=s.toks+1}) :
  wpAny G.M A (call (.builtin "list.index") [.ref l,.int k t]) Q E s:=by
 have W:=I.length;have O:ns.idxOf k<ns.length:=List.idxOf_lt_length_iff.mpr hk;unfold bx at hz;apply zi PySem.F.slot_list_index #[_,hl,rfl] PySem.F.entry_list_index (PySem.F.args_list_index_2 _ _)
  (PySem.SeqAt.list_indexAt l vs.toArray n none #v[] (.int k t) (isInt k) (ns.idxOf k) (by simpa[W] using O) (iq (.il .L (.s .M .U)) .b (.k .B .V) .B hz O) ?_ ?_) #[hl,λy hy=>(eq_isInt k t I y (by simpa using hy)).at _ _,h]
 ·show isInt k vs[ns.idxOf k]=true;rw[isInt_at k I _ (fh .B .n .aX .G W O) O];simpa using List.getElem_idxOf O
 ·intro j z J;show isInt k vs[j]=false;rw[isInt_at k I j (by simpa using z) (fh .B .b .M .G O J)];show ne_of_lt_idxOf J _
def VRs.one:VRs G h [v] ws->∃w,ws=[w]/\VR G h v w
 |⟨w,us,e,a,r⟩=>#[w,e.trans (dj (w::·) r),a]
def VRs.two {u:V}:VRs G h [v,u] ws->∃w W,ws=[w,W]/\VR G h v w/\VR G h u W
 |⟨w,us,e,a,r⟩=>by have#[W,U,b]:=VRs.one r;apply#[w,W,e.trans (dj (w::·) U),a,b]
def insert_eq (us:List Value)(y:Value){x:Int}(h0:0<=x):(λxs:Array Value=>have k:=if x<0 then (x+((xs.size:Nat):Int)).toNat else min x.toNat xs.size;(xs.extract 0 k).push y++xs.extract k) us.toArray=(us.take (iz us.length x)++y::us.drop (iz us.length x)).toArray:=by
 have e:(if x<0 then (x+((us.toArray.size:Nat):Int)).toNat else min x.toNat us.toArray.size)=iz us.length x:=by
  unfold iz jt;rw[br (mu (.ig .A .O) .a .a8 h0),br (mu (.ig .A .O) .a .a8 h0)];simp[Nat.min_comm]
 show((us.toArray.extract 0 (if x<0 then (x+((us.toArray.size:Nat):Int)).toNat else min x.toNat us.toArray.size)).push y++us.toArray.extract (if x<0 then (x+((us.toArray.size:Nat):Int)).toNat else min x.toNat us.toArray.size))=_;rw[e,<- Array.toList_inj];simp only[List.extract_toArray,List.extract_eq_take_drop,List.push_toArray,List.append_toArray,Nat.sub_zero,rv,dp,bq,lF];rw[jW (l:=us.drop _) (by simp)]
def vN {k:BM}{v:V}{vs:List V}{Q:V->St->Prop}(K:GOk G)(hk:k≠.sort)(R:Rel G σ s.heap)(vr:VR G s.heap v w)(J:VRs G s.heap vs ws)(h:L0 k v vs σ Q) :
  wpAny G.M A (call (.builtin (OP k)) (w::ws)) (jx G [] σ s Q) E s:=by
 cases k
 case append =>
  have#[a,rfl,h]:=ue (v:=v) h;have rfl:=vr;have#[x,rfl,xs,e,hz,q]:=iL (vs:=vs) h;have#[wa,rfl,va]:=J.one;have#[us,n,hl,U]:=R.L _ _ e;have W:=U.length;apply zi i6 #[_,hl,rfl] PySem.F.entry_list_append (PySem.F.args_list_append_2 _ _) (list_append _ _ _ _ (by simp only[dp];rw[<- W];show ou (ba .A .a .B hz))) #[hl,?_];have#[r',I]:=zU (f:=λx=>x.push wa) R e hl (U.append %[va|0]) (by simp;(show ba .S .a .B hz)) (by simp);apply#[.none,_,q,.none,r',I,rfl,rfl]
 case pop =>
  have#[a,rfl,h]:=ue (v:=v) h;have rfl:=vr;have#[rfl,xs,v,e,q]:=yG (vs:=vs) h;have rfl:=J;have#[us,n,hl,U]:=R.L _ _ e;have W:=U.length;have hz:=R.Ll _ _ e;have#[u,hu,vu]:=U.get (i:=xs.length) (v:=v) (by simp);have O:us.length=xs.length+1:=by rw[<- W];simp
  apply zi PySem.F.slot_list_pop #[_,hl,rfl] PySem.F.entry_list_pop (PySem.F.args_list_pop_1 _) (MeetsSeq.list_pop_last _ _ _ u (by simp only[dp];rw[O];simpa using hu) (by simp only[dp];rw[<- W];show ou hz)) #[hl,?_];have#[r',I]:=zU (f:=λx=>x.eraseIdxIfInBounds (us.toArray.size-1)) (us:=us.take xs.length) R e hl (by simpa using U.take xs.length) (by simp at hz;(show ba .A .a .S hz)) (by
   have e:us.toArray.eraseIdxIfInBounds (us.toArray.size-1)=(us.eraseIdx (us.length-1)).toArray:=by simp
   rw[e,List.eraseIdx_eq_take_drop_succ];simp[O])
  apply#[v,_,q,vu.mono I.frz,r',I,rfl,rfl]
 case insert =>
  have#[a,rfl,h]:=ue (v:=v) h;have rfl:=vr;have#[z,x,rfl,h]:=kF (vs:=vs) h;have#[i,rfl,xs,e,hz,h0,hb,q]:=uf (v:=z) h;have#[wa,wb,rfl,#[t,rfl],vb]:=J.two;have#[us,n,hl,U]:=R.L _ _ e;have W:=U.length;apply zi PySem.F.slot_list_insert #[_,hl,rfl] PySem.F.entry_list_insert (PySem.F.args_list_insert_3 _ _ _) (AutoListH.list_insert_list_int_val_1 _ _ _ _ _ _ (by simp[Builtin.List.listFitsIndex];(show#[(mu (.ik (.ng 9223372036854775808) .A) .a .a8 h0),(mu (.il .A (.n 9223372036854775808)) .a (.il .A (.n (2^60))) hb)])) (by simp only[dp];rw[<- W];show ou (ba .A .a .B hz))) #[hl,?_];have hi:=insert_eq us wb h0;have ao:=λk=>(U.take k).append (.cons vb (U.drop k));rw[<- W]at hi;have#[r',I]:=zU (f:=λxs=>have k:=if _<0 then (_+((xs.size:Nat):Int)).toNat else min (Int.toNat _) xs.size;(xs.extract 0 k).push wb++xs.extract k) R e hl (ao (iz xs.length _)) (by simp only[aw,ir,fb,gz];(show Ar.sub _ _ (λq1 p1=>(mr .L .e .aH .cG .c4 hz (Ar.ji _ _).1 p1)) λq1 p1=>(pe .L .e .aH .aF .aN hz (Ar.ji _ _).2.1 p1))) hi;apply#[.none,_,q,.none,r',I,rfl,rfl]
 case extend =>
  have#[a,rfl,h]:=ue (v:=v) h;have rfl:=vr;have#[x,rfl,h]:=iL (vs:=vs) h;have#[b,rfl,xs,ys,bc,e1,e2,hz,q]:=ue (v:=x) h;have#[wa,rfl,rfl]:=J.one;have#[us,n,hl,U]:=R.L _ _ e1;have#[ts,m,ay,aj]:=R.L _ _ e2;have W:=U.length;have O:=aj.length;have ai:us.length+ts.length<=sizeLine:=by rw[<- W,<- O];show ou hz
  apply zi PySem.F.slot_list_extend #[_,hl,rfl] PySem.F.entry_list_extend (PySem.F.args_list_extend_2 _ _) (AutoSeq1.list_extend_list_list_0 _ _ _ _ _ _ ?_ (by simp only[dp];(show gu .A .a .c5 ai)) (by simp only[dp];(show gu (.k .L .S) .a .F ai))) #[hl,ay,?_]
  ·simp only[dp,Builtin.List.listTooLong];rw[show sizeLine=16777216 from rfl]at ai;simp;intro _;first|omega|(unfold sizeLine;(show ba (.k .L (.n (2^24))) .a (.k .L (.n 16777216)) ai))
  ·have#[r',I]:=zU (f:=λx=>x++ts.toArray) R e1 hl (U.append aj) (by simpa using hz) (by simp);apply#[.none,_,q,.none,r',I,rfl,rfl]
 case index =>
  have#[a,rfl,h]:=ue (v:=v) h;have rfl:=vr;have#[x,rfl,h]:=iL (vs:=vs) h;have#[i,rfl,ns,e,hm,q]:=uf (v:=x) h;have#[wa,rfl,#[t,rfl]]:=J.one;have#[us,n,hl,U]:=R.L _ _ e;have hI:=qb U;show wL hl hI (by have:=R.Ll _ _ e;simpa using this) hm (jx.here q (.int _ _) R)
 case count=>show False.elim h
 case get =>
  have#[a,rfl,h]:=iK (v:=v) h;have rfl:=vr;have#[x,y,rfl,es,kk,e,ag,q]:=kF (vs:=vs) h;have#[wa,wb,rfl,va,vb]:=J.two;have#[ds,hd,U]:=R.D _ _ e;have hl:=U.look kk;apply call_meetsIn PySem.F.slot_dict_get hd.typeIs PySem.F.entry_dict_get (PySem.F.args_dict_get_3 _ _ _) (meets_dict_get_default G.kk _ (key_is ag va) (lN K R (.inr (.inl (by rw[e];rfl)))) _) #[_,hd.mapOf,?_];apply#[_,σ,q,hl.getD vb,R,Evo.refl _ _ _,rfl,rfl]
 case setdefault =>
  have#[a,rfl,h]:=iK (v:=v) h;have rfl:=vr;have#[x,y,rfl,es,kk,e,ag,hz,q]:=kF (vs:=vs) h;have#[wa,wb,rfl,va,vb]:=J.two;have#[ds,hd,U]:=R.D _ _ e;have hl:=U.look kk;have W:=U.length;apply call_meetsIn PySem.F.slot_dict_setdefault hd.typeIs PySem.F.entry_dict_setdefault (PySem.F.args_dict_setdefault_3 _ _ _) (kt_meets_setdefault G.kk _ (key_is ag va) (lN K R (.inr (.inl (by rw[e];rfl)))) _) #[ds,hd,by rw[<- W];show ou (ba .A .a .B hz),λv' aj=>?_,λhn h' ax ar=>?_]
  ·rw[aj]at hl;cases h1:es.lookup kk with
   |none=>rw[h1]at hl;show hl.elim
   |some u =>
    rw[h1]at hl q;simp only[Option.getD_some,Option.isSome_some,bO]at q;have#[r',I]:=AD R e;apply#[u,_,q,hl,r',I,rfl,rfl]
  ·rw[hn]at hl;cases h1:es.lookup kk with
   |some u=>rw[h1]at hl;show hl.elim
   |none =>
    rw[h1]at q;simp only[Option.getD_none,xr,gp,md]at q;have e2:=DB h1;have#[r',I]:=NF R e ar ax (U.put vb) (kz (kE _ _ _) (ba .S .a .B hz));rw[e2]at r' I;apply#[_,_,q,vb.mono I.frz,r',I,rfl,rfl]
 case add=>show False.elim h
 case sort=>show absurd rfl hk
def LI {C:Cal}{sc:Scope}{d:Nat}{k:BM}{a:Ex}{es:Exs}{o:Expr}{args:List Expr}{apos pos:Pos}(K:GOk G)(hk:k≠.sort)(ha:gi G C sc d a o)(B:qk G C sc d es args)(hb:um o=true)(z:noStar args=true)(J:args.length<30)(U:(apos.endLine==pos.line)=true) :
  gi G C sc d (.bm k a es) (.Call (.Attribute o (sL k) apos) args [] pos):=λ_ _ _ _ _ _ _ c h =>
 uc hb z J U (rn (ha c h) λv σ₁ s₁ w q vr r x pl =>
  pE r vr q.1 (ub z B (c.go r x) q.2 λvs σ₂ s₂ ws O I r₂ W =>
   (x.trans W).back (vN K hk r₂ (vr.mono W.frz) I O)))
end
variable {M:Model}{A:Around}{E:QqV}{s:Shared}
abbrev cY (p:Arguments):Bool:=p.posonlyargs.isEmpty&&p.kwonlyargs.isEmpty&&p.vararg.isNone&&p.kwarg.isNone
abbrev addDefaults:List (Str×Value)->List (Str×Value)->List (Str×Value)
 |slots,[]=>slots
 |slots,(n,d)::r=>addDefaults (if (slots.lookup n).isNone then slots++[(n,d)] else slots) r
def yt (f:Str×Value->List (Str×Value)->Sem (ForInStep (List (Str×Value))))
  (W:∀n d slots,f (n,d) slots=if (slots.lookup n).isNone then pure (.yield (slots++[(n,d)])) else pure (.yield slots)) :
  ∀(l:List (Str×Value)) (slots:List (Str×Value)) (Q:List (Str×Value)->Shared->Prop),Q (addDefaults slots l) s->wpAny M A (forIn l slots f) Q E s
 | []=>λslots Q h=>by rw[pq];show ae h
 |(n,d)::r=>λslots Q h=>by
  rw[qi,W];apply ab ?_;dsimp only[addDefaults]at h;split
  ·rename_i U;rw[cn U]at h;show ae (yt f W r _ Q h)
  ·rename_i U;rw[br U]at h;show ae (yt f W r _ Q h)
def yx:∀(l₁ l₂ slots:List (Str×Value)),addDefaults slots (l₁++l₂)=addDefaults (addDefaults slots l₁) l₂
 | []=>λ_ _=>rfl
 |(n,d)::r=>λl₂ slots=>by rw[aO];dsimp only[addDefaults];show yx r l₂ _
def dE:∀(l slots:List (Str×Value)),(∀p∈l,(slots.lookup p.1).isSome=true)->addDefaults slots l=slots
 | []=>λ_ _=>rfl
 |(n,d)::r=>λslots h=>by
  have O:=h (n,d) (.head _);dsimp only[addDefaults];rw[br (by cases U:slots.lookup n<;>simp_all)];show dE r slots λp W=>h p (.tail _ W)
def wm {slots:List (Str×Value)}{n:Str}(h:n∈slots.map (·.1)):(slots.lookup n).isSome=true:=by
 cases hq:slots.lookup n with
 |some v=>rfl
 |none =>
  rw[ru]at hq;have#[p,W,rfl]:=eg.mp h;have:=hq p W;simp at this
def lookup_none_of_not_mem {slots:List (Str×Value)}{n:Str}(h:n∉slots.map (·.1)):slots.lookup n=none:=by
 rw[ru];intro p W;simp only[bne_iff_ne,ne_eq,mn];rintro rfl;show h (eg.mpr #[p,W,rfl])
def eF:∀(l slots:List (Str×Value)),(l.map (·.1)).Nodup->(∀n∈l.map (·.1),n∉slots.map (·.1))->addDefaults slots l=slots++l
 | []=>λ_ _ _=>(dg _).symm
 |(n,d)::r=>λslots W h=>by
  simp only[kh,List.nodup_cons]at W;have J:=h n (.head _);dsimp only[addDefaults];rw[cn (by rw[lookup_none_of_not_mem J];rfl)]
  rewrite [eF r _ W.2 λm U=>?_]
  ·simp
  ·have O:=h m (.tail _ U);simp only[cu,kh,List.map_nil,cq,au,uq];apply#[O,λe=>W.1 (e▸U)]
def tR {n₁ n₂:List Str}{vals d₁ d₂:List Value}(ag:(n₁++n₂).Nodup)(h1:n₁.length=vals.length)(h2:n₂.length=d₂.length)(z:d₁.length<=n₁.length) :
  addDefaults ((n₁++n₂).zip vals) (((n₁++n₂).drop ((n₁++n₂).length-(d₁++d₂).length)).zip (d₁++d₂))=(n₁++n₂).zip (vals++d₂):=by
 have e0:(n₁++n₂).zip vals=n₁.zip vals:=by
  have:=List.zip_append (l₁:=n₁) (r₁:=n₂) (l₂:=vals) (r₂:=[]) h1;simpa using this
 have e1:(n₁++n₂).drop ((n₁++n₂).length-(d₁++d₂).length)=n₁.drop (n₁.length-d₁.length)++n₂:=by
  rw[aw,aw,show n₁.length+n₂.length-(d₁.length+d₂.length)=n₁.length-d₁.length by show eM .C [[1,-1,-1,1],[1,1,1,-1]] .bW (.e (.a .A .aL) (.a .G .C)) (.e .a8 .G) h2 (aa (gh .bA .n .c9 .J h2 z)) (aa (ba .A .a .A z)),List.drop_append,show n₁.length-d₁.length-n₁.length=0 by(show Ar.sub _ _ (λI U=>(Ar.sub _ _ (λO W=>(gh .N .x .a1 (.e .R .B) U W)) λO W=>(fh .N .x .a1 .bB U W))) λI U=>(fc .N .t .N U))];rfl
 have f1:(n₁.zip vals).map (·.1)=n₁:=List.map_fst_zip (ba .A .a .C h1);have f2:(n₂.zip d₂).map (·.1)=n₂:=List.map_fst_zip (ba .A .a .C h2);have hd:=List.nodup_append.mp ag;rw[e0,e1,List.zip_append (by rw[gz];(show Ar.sub _ _ (λI U=>(Ar.sub _ _ (λO W=>(gh .C .s .c8 (.e .a6 .D) U W)) λO W=>(zg .C [[1,1,-1,0,1],[1,0,1,1,0]] .aK .bL .H .bT z U O W))) λI U=>(Ar.sub _ _ (λO W=>(pe .C .l .Z .N (.e (.a .D .B) .C) I U W)) λO W=>(zg .C [[1,1,1,0,1],[1,0,0,1,0]] .aK .Z .N .bT z I U W)))),yx];have e2:addDefaults (n₁.zip vals) ((n₁.drop (n₁.length-d₁.length)).zip d₁)=n₁.zip vals:=dE _ _ λp hp=>by
  apply wm ?_;rw[f1];show dJ (List.of_mem_zip hp).1
 rw[e2,eF,List.zip_append h1]
 ·rw[f2];show hd.2.1
 ·intro n hn hm;rw[f1]at hm;rw[f2]at hn;show hd.2.2 n hm n hn rfl
def AA {ns:List Str}{vals ds:List Value}(ag:ns.Nodup)(h1:vals.length<=ns.length)(h2:ns.length<=vals.length+ds.length)(h3:ds.length<=ns.length) :
  addDefaults (ns.zip vals) ((ns.drop (ns.length-ds.length)).zip ds)=ns.zip (vals++ds.drop (ds.length-(ns.length-vals.length))):=by
 have en:=eh vals.length ns;have ed:=eh (ds.length-(ns.length-vals.length)) ds;have:=tR (n₁:=ns.take vals.length) (n₂:=ns.drop vals.length) (vals:=vals) (d₁:=ds.take (ds.length-(ns.length-vals.length))) (d₂:=ds.drop (ds.length-(ns.length-vals.length)))
  (by rw[en];show ag) (by rw[fb];(show(Ar.ji _ _).2.2.elim (λO=>(iq .C .g .A .a2 (Ar.ji _ _).1 O)) λO=>(oa .C .l .aK .A .b0 h1 (Ar.ji _ _).1 O))) (by rw[gz,gz];(show Ar.sub _ _ (λO W=>(Ar.sub _ _ (λU I=>(gh .C .z .bD (.e .a0 .D) W I)) λU I=>(nR .C [[1,0,0,1,1,0],[1,1,1,-1,0,1]] (.k .C .Y) .bL (.e (.a .B .G) .F) (.k .F .A) .cA h2 (aa (ba .A .a .A h1)) W U I))) λO W=>(Ar.sub _ _ (λU I=>(pe .C [[1,0,1,0],[1,1,0,1]] .Z .aN .Q O W I)) λU I=>(nR .C [[1,0,0,0,1,0],[1,1,1,1,0,1]] (.k .C .Y) .bL (.k .F .G) .aN .cA h2 (aa (ba .A .a .A h1)) O W I)))) (by rw[fb,fb];(show Ar.sub _ _ (λO W=>((Ar.ji _ _).2.2.elim (λU=>(Ar.sub _ _ (λq3 p3=>(xO .A [[1,1,1,1,1,-1]] .Z .cG (.e .a5 .C) (.k .H .B) (.e .aC .D) h3 (Ar.ji _ _).1 W U p3)) λq3 p3=>(xO .A [[1,1,1,1,1,1]] .Z .cG (.e .a5 .C) (.k .H .B) (.k .D .H) h3 (Ar.ji _ _).1 W U q3))) λU=>(pe .A .e .Z .J .cJ h3 (Ar.ji _ _).2.1 U))) λO W=>(fh .A .b .J .bB (Ar.ji _ _).1 W)))
 rw[en,ed]at this;show this
def tZ:∀(ms:List Str) (n:Str) (u:Value) (l:List (Str×Value)),n∉ms->(ms.filterMap λm=>(((n,u)::l).lookup m).map (m,·))=ms.filterMap λm=>(l.lookup m).map (m,·)
 | []=>λ_ _ _ _=>rfl
 |m::ms=>λn u l h=>by
  simp only[cw,uq]at h;have e:((n,u)::l).lookup m=l.lookup m:=by rw[j4,mn.mpr (xf h.1)]
  simp only[List.filterMap_cons,e,tZ ms n u l h.2]
def u0:∀{ns:List Str} {us:List Value},ns.Nodup->us.length=ns.length->(ns.filterMap λn=>((ns.zip us).lookup n).map (n,·))=ns.zip us
 | [],_,_,_=>by simp
 |n::ns,[],_,h=>by simp at h
 |n::ns,u::us,W,h=>by
  simp only[List.nodup_cons]at W;have U:=u0 (ns:=ns) (us:=us) W.2 (by simpa using h);simp only[List.zip_cons_cons,List.filterMap_cons,List.lookup_cons_self,Option.map_some];rw[tZ ns n u _ W.1,U]
def xU {α:Type}{c:Bool}{a b:Sem α}{Q:α->Shared->Prop}(W:c=false)(h:wpAny M A b Q E s):wpAny M A (if c=true then a else b) Q E s:=by
 subst W;show h
section
variable {ns:List Str}{vals ds xs:List Value}
def FG (h:vals.length<=ns.length):(decide (vals.length>ns.length)&&true)=false:=by
 rw[fw (tg.mpr h)];rfl
def BA (z:xs=ds)(h1:vals.length<=ns.length)(h2:ns.length<=vals.length+ds.length)(J:ds.length<=ns.length) :
  (!((ns.take (ns.length-(xs.drop (xs.length-ns.length)).length)).filter λn=>((ns.zip vals).lookup n).isNone).isEmpty)=false:=by
 subst z;rw[lE J,rv,Bool.not_eq_false',j5,List.filter_eq_nil_iff];intro n U I;have e0:ns.zip vals=(ns.take vals.length).zip vals:=by
  have:=List.zip_append (l₁:=ns.take vals.length) (r₁:=ns.drop vals.length) (l₂:=vals) (r₂:=[]) (by rw[fb];(show(Ar.ji _ _).2.2.elim (λW=>(iq .C .g .A .a2 (Ar.ji _ _).1 W)) λW=>(oa .C .l .aK .A .b0 h1 (Ar.ji _ _).1 W)));rw[eh,dg,List.zip_nil_right,dg]at this;show this
 have hm:n∈(ns.zip vals).map (·.1):=by
  rw[e0,List.map_fst_zip (by rw[fb];(show ba .A .a .A (Ar.ji _ _).1))];rw[List.mem_take_iff_getElem]at U ⊢;have#[i,O,e]:=U;apply#[i,by(first|show(Ar.ji _ _).2.2.elim (λW=>(xO .B [[1,1,1,1,1,1]] (.k .C .Y) (.l .A .G) (.k .G .H) (.e (.a .H .F) .C) .cJ h2 O (Ar.ji _ _).1 (aa (ba .A .a .A J)) W)) λW=>(pe .B .e .G .Z .cJ O (Ar.ji _ _).2.1 W)|omega),e]
 cases (wm hm).symm.trans (dj _ (vl.mp I))
def BB (ho:xs=ds)(ag:ns.Nodup)(B:vals.length<=ns.length)(h2:ns.length<=vals.length+ds.length)(h3:ds.length<=ns.length) :
  ((ns++[]).filterMap λn=>((addDefaults (ns.zip vals) ((ns.drop (ns.length-(xs.drop (xs.length-ns.length)).length)).zip (xs.drop (xs.length-ns.length)))).lookup n).map (n,·))=ns.zip (vals++ds.drop (ds.length-(ns.length-vals.length))):=by
 subst ho;rw[lE h3,rv,dg,AA ag B h2 h3];show u0 ag (by rw[aw,gz];(show Ar.sub _ _ (λq1 O=>(Ar.sub _ _ (λz U=>(Ar.sub _ _ (λI W=>(eM .a1 .q (.e .aG .F) .c3 .b1 O U W)) λI W=>(nR .a1 [[1,0,0,0,1,0],[1,1,1,-1,0,1]] .J (.e .aG .F) .c3 .b0 .cA B O U I W))) λz U=>(Ar.sub _ _ (λI W=>(nR .a1 [[1,1,-1,0,1,0],[1,0,1,1,0,1]] (.k .C .T) .c4 (.k .D .G) .bC .b1 h2 O z U W)) λI W=>(MX .a1 [[1,0,1,-1,0,1,0],[1,1,0,1,1,0,1]] .J (.k .C .T) .c4 (.k .D .G) .bC .cA B h2 O z U W)))) λq1 O=>(Ar.sub _ _ (λz U=>(Ar.sub _ _ (λI W=>(nR .a1 [[1,0,1,0,1,-1],[1,1,0,1,0,0]] .J .cK .aN (.e .a5 .D) .b1 B q1 O U W)) λI W=>(oa .a1 [[1,0,0,1],[1,1,1,0]] .J .aN .b0 B O I))) λz U=>(FJ .a1 [[1,0,1,1,0,1],[1,1,0,0,1,0]] .J (.k .C .T) .cK .aN .bC B h2 q1 O U))))
end
def JM {nm qn:Str}{args:List Arg}{kd dfs body sc gl clo df kdf dc pm cd bl ct bu}{vals ds:List Value}{Q:List (Str×Value)->Shared->Prop}
  (hd:∀(Q:Option (Array Value)->Shared->Prop),(∀o,(o.getD #v[]).toList=ds->Q o s)->wpAny M A (seqItems? df) Q E s)
  (W:(args.map (·.arg)).Nodup) (U:vals.length<=(args.map (·.arg)).length) (I:(args.map (·.arg)).length<=vals.length+ds.length) (J:ds.length<=(args.map (·.arg)).length)
  (h:Q ((args.map (·.arg)).zip (vals++ds.drop (ds.length-((args.map (·.arg)).length-vals.length)))) s):wpAny M A (bindArgs #[nm,qn,#[[],args,none,[],kd,none,dfs],body,sc,gl,clo,df,kdf,dc,pm,cd,bl,ct,bu] #[vals,[]]) Q E s:=
 ab (m:=forIn [] _ _) (ae (ab (hd _ λo O=>xU (FG U) (xU (BA O U I J) (ab (yt _ (λn d slots=>rfl) _ _ _ (ab (m:=forIn [] _ _) (ae (ae (BB O W U I J▸h))))))))))
def xI {fd:FuncData}{vals ds:List Value}{Q:List (Str×Value)->Shared->Prop}(W:cY fd.params=true)
  (hd:∀(Q:Option (Array Value)->Shared->Prop),(∀o,(o.getD #v[]).toList=ds->Q o s)->wpAny M A (seqItems? fd.defaults) Q E s)
  (U:(fd.params.args.map (·.arg)).Nodup) (I:vals.length<=fd.params.args.length) (J:fd.params.args.length<=vals.length+ds.length) (O:ds.length<=fd.params.args.length)
  (h:Q ((fd.params.args.map (·.arg)).zip (vals++ds.drop (ds.length-(fd.params.args.length-vals.length)))) s):wpAny M A (bindArgs fd #[vals,[]]) Q E s:=by
 have el:(fd.params.args.map (·.arg)).length=fd.params.args.length:=ak _;rw[<- el]at I J O h;have e:fd.params=#[[],fd.params.args,none,[],fd.params.kw_defaults,none,fd.params.defaults]:=by
  clear I J O h hd U el;cases fd with|mk nm qn p =>
  cases p with|mk po args B z kd ka dfs =>
  have#[W,h4]:=band W;have#[W,h5]:=band W;have#[h6,h7]:=band W;show congr (congr (congr (dj (λpo B z ka=>Arguments.mk po args B z kd ka dfs) (j5.mp h6)) (vl.mp h5)) (j5.mp h7)) (vl.mp h4)
 have:=JM (nm:=fd.name) (qn:=fd.qualname) (kd:=fd.params.kw_defaults) (dfs:=fd.params.defaults) (body:=fd.body) (sc:=fd.scope) (gl:=fd.globals) (clo:=fd.closure) (df:=fd.defaults) (kdf:=fd.kwdefaults) (dc:=fd.doc) (pm:=fd.pyModule) (cd:=fd.annotations) (bl:=fd.code) (ct:=fd.closureTuple) (bu:=fd.builtins) hd U I J O h;rw[<- e]at this;show this
variable {s₁:Shared}{A:Around}{E:QqV}{h:Heap}{X:List Addr}{i:Nat}{x:Str}{k:NameKind}{ρ:Fr}{w:Value}{Q:Unit->Shared->Prop}
abbrev envX (env:Env):List Addr:=env.locals::env.cells.map (·.2)
inductive FlR (G:Stc)(h:Heap):Fl->Flow->Prop
 |next:FlR G h .next .next
 |brk:FlR G h .brk .brk
 |cont:FlR G h .cont .cont
 |ret {v:V} {w:Value}:VR G h v w->FlR G h (.ret v) (.ret w)
inductive rq (G:Stc)(env:Env)(σ:St)(s:Shared)(K:Fl->Fr->St->Prop)(f:Flow)(s':Shared):Prop
 |mk (fl:Fl) (ρ':Fr) (σ':St):FlR G s'.heap fl f->K fl ρ' σ'->FR G σ' env ρ' s'.heap->Rel G σ' s'.heap->Go (envX env) σ s σ' s'->rq G env σ s K f s'
inductive qH (G:Stc)(env:Env)(σ:St)(s:Shared)(K:Fr->St->Prop)(s':Shared):Prop
 |mk (ρ':Fr) (σ':St):K ρ' σ'->FR G σ' env ρ' s'.heap->Rel G σ' s'.heap->Go (envX env) σ s σ' s'->qH G env σ s K s'
def mem_of_lookup {α W:Type}[BEq α][LawfulBEq α]{l:List (α×W)}{x:α}{c:W}(h:l.lookup x=some c):(x,c)∈l:=by
 induction l with
 |nil=>simp at h
 |cons p r O =>
  have#[y,b]:=p;rw[j4]at h;split at h
  ·rename_i U;cases h;rw[fy]at U;subst U;show .head _
  ·show .tail _ (O h)
section
variable {G:Stc}{env:Env}{σ σ₁:St}{s:Shared}{h₁:Heap}{tk:Nat}
def Go.wide (x:Go [] σ s σ₁ s₁):Go (envX env) σ s σ₁ s₁:=x.more λ_ h=>(nomatch h)
def rq.back {K:Fl->Fr->St->Prop}{f:Flow}{s':Shared}(x:Go (envX env) σ s σ₁ s₁):rq G env σ₁ s₁ K f s'->rq G env σ s K f s'
 |⟨fl,ρ',σ',a,b,c,d,e⟩=>#[fl,ρ',σ',a,b,c,d,x.trans e]
def qH.back {K:Fr->St->Prop}{s':Shared}(x:Go (envX env) σ s σ₁ s₁):qH G env σ₁ s₁ K s'->qH G env σ s K s'
 |⟨ρ',σ',b,c,d,e⟩=>#[ρ',σ',b,c,d,x.trans e]
def Go.FI {M:Model}{s₂:Shared}{t:Sem Flow}{K:Fl->Fr->St->Prop}(x:Go (envX env) σ s σ₁ s₁)(h:wpAny M A t (rq G env σ₁ s₁ K) E s₂):wpAny M A t (rq G env σ s K) E s₂:=du h (λ_ _=>rq.back x) λ_ _ x=>x
def Rel.frame {h':Heap}{a:Addr}{o':Obj}(R:Rel G σ h)(W:Heap.SameBut a h h')(hd:¬σ.dom a)(hb:G.hb.get? a=none)(U:kf h h'):Rel G σ h':=
 R.same (λb o e d=>by rw[W.2 b (λhb=>hd (hb▸d))];show e) U λb o e=>by rw[W.2 b (λh=>by subst h;rw[hb]at e;cases e)];show R.base b o e
def Evo.frame {h':Heap}{a:Addr}{o':Obj}(W:Heap.SameBut a h h')(J:h'.get? a=some o')(I:a∈X)(O:kf h h'):Evo X σ h σ h':=
 #[λb o e _ U=>by rw[W.2 b (λhb=>U (hb▸I))];show e,O,λb d=>.inl d,zp W J]
def iM {names:List (Str×NameKind)}(nd:(names.map (·.1)).Nodup){j:Nat}{k':NameKind}(J:names[i]?=some (x,k))(O:names[j]?=some (x,k')):i=j:=by
 have U:(names.map (·.1))[i]?=some x:=by rw[cy,J];rfl
 have I:(names.map (·.1))[j]?=some x:=by rw[cy,O];rfl
 have W:i<(names.map (·.1)).length:=(av.mp U).1;show(List.getElem?_inj W nd).mp (U.trans I.symm)
abbrev pO (k:NameKind):Bool:=k==.local||k==.cell
abbrev Own (G:Stc)(x:Str)(k:NameKind):Prop:=pO k=true/\(k=.cell->G.cap x=false)
def gV {v:V}(eo:dH env)(F:FR G σ env ρ s.heap)(R:Rel G σ s.heap)
  (hi:env.scope.names[i]?=some (x,k)) (hk:pO k=true) (hN:∀c,env.cells.lookup x=some c->k=.cell->G.hb.get? c=none) (vr:VR G s.heap v w) (bn:env.locals∈X) (bt:∀c,env.cells.lookup x=some c->k=.cell->c∈X)
  (q:∀s',FR G σ env (upd ρ i v) s'.heap->Rel G σ s'.heap->Go X σ s σ s'->Q () s'):wpAny G.M A (storeName env x w) Q E s:=by
 have J:env.kindOf x=some k:=wi eo.nd hi;cases k with
 | «local» =>
  have#[m,hn,hm]:=F.ns;apply wpAny_storeName_local J hn (λh' ao O=>?_) (by rw[eo.kind];rfl);have B:kf s.heap h':=wo O F.notfrz;have#[o',bv,ca,aj,ar,_]:=id ao;have R':=R.frame (o':=o') O F.loc F.new B;apply q _ #[#[_,ao,λj y U=>?_],λj y k' U I=>?_,F.inj,F.loc,λo e=>?_,F.new,λp hp=>by have#[o,e]:=F.allc p hp;show zp O aj _ o e] R' #[Evo.frame O aj bn B,rfl,rfl]
  ·by_cases W:j=i
   ·subst W;rw[hi]at U;cases U;simp only[cm,bO];show vr.mono B
   ·have be:y≠x:=λe=>W (by subst e;show iM eo.nd U hi);simp only[er W,be,md];show(hm j y U).mono B
  ·have#[c,w',h1,#[oc,ai,hd],h3,h4,h5,h6]:=F.cells j y k' U I;have W:j≠i:=λe=>by
    subst e;rw[hi]at U;cases U;rcases I with h|h<;>cases h
   apply#[c,w',h1,#[oc,by rw[O.2 c h5];show ai,hd],?_,h4,h5,h6];rw[er W];show h3.mono B
  ·rw[aj]at e;cases e;show ur ar
 |cell =>
  have#[c,bu,hc,z,o,h4,h5,h6]:=F.cells i x _ hi (.inl rfl);have h7:=hN c hc rfl;apply wpAny_storeName_cell eo.kind J hc z λh' ax O=>?_;have#[oc,ai,hd]:=id z;have#[bd,ag,ar]:=id ax;have B:kf s.heap h':=wo O λo e=>by rw[ai]at e;cases e;show sF hd
  have R':=R.frame (o':=bd) O h4 h7 B;have hX:c∈X:=bt c hc rfl;have#[m,#[o2,es,ep,bg,r2],hm]:=F.ns;apply q _ #[#[m,#[o2,es,ep,by rw[O.2 _ h5.symm];show bg,r2],λj y U=>?_],λj y k' U I=>?_,F.inj,F.loc,λo e=>?_,F.new,λp hp=>by have#[o,e]:=F.allc p hp;show zp O ag _ o e] R' #[Evo.frame O ag hX B,rfl,rfl]
  ·have W:j≠i:=λe=>by subst e;rw[hi]at U;cases U
   rw[er W];show(hm j y U).mono B
  ·have#[c2,w2,g1,#[bc,ay,gd],g3,g4,g5,g6]:=F.cells j y k' U I;by_cases W:j=i
   ·clear q;subst W;rw[hi]at U;cases U;rw[hc]at g1;cases g1;apply#[c,some w,hc,ax,by rw[cm];show vr.mono B,h4,h5,h6]
   ·have bl:c2≠c:=λe=>by subst e;show W (F.inj j i y x k' _ c2 U hi I (.inl rfl) g1 hc)
    apply#[c2,w2,g1,#[bc,by rw[O.2 _ bl];show ay,gd],?_,g4,g5,g6];rw[er W];show g3.mono B
  ·rw[O.2 _ h5.symm]at e;show F.notfrz o e
 |_=>cases hk
def HR (F:FR G σ env ρ h)(hi:env.scope.names[i]?=some (x,k))(hk:Own G x k):∀c,env.cells.lookup x=some c->k=.cell->G.hb.get? c=none:=λc O e=>by
 have#[I,U,W,_,_,_,_,J]:=F.cells i x _ hi (.inl e);rw[O]at W;cases W;show J (hk.2 e)
def gW {v:V}(I:dH env)(F:FR G σ env ρ s.heap)(R:Rel G σ s.heap)
  (O:env.scope.names[i]?=some (x,k)) (hk:Own G x k) (vr:VR G s.heap v w) (W:env.locals∈X) (U:∀c,env.cells.lookup x=some c->c∈X)
  (q:∀s',FR G σ env (upd ρ i v) s'.heap->Rel G σ s'.heap->Go X σ s σ s'->Q () s'):wpAny G.M A (storeName env x w) Q E s:=
 gV I F R O hk.1 (HR F O hk) vr W (λc J _=>U c J) q
def fV {v:V}(O:dH env)(F:FR G σ env ρ s.heap)(R:Rel G σ s.heap)
  (W:env.scope.names[i]?=some (x,k)) (hk:Own G x k) (vr:VR G s.heap v w)
  (q:∀s',FR G σ env (upd ρ i v) s'.heap->Rel G σ s'.heap->Go (envX env) σ s σ s'->Q () s'):wpAny G.M A (storeName env x w) Q E s:=
 gW O F R W hk vr (.head _) (λc U=>.tail _ (eg.mpr #[(x,c),mem_of_lookup U,rfl])) q
end
variable {xs:List Stmt}{pos:Pos}{x:Expr}
abbrev zw (G:Stc)(C:Cal)(sc:Scope)(d:Nat)(st:Stm)(x:Stmt):Prop:=
 ∀⦃A E env ρ σ K s⦄,Cx G sc d A env ρ σ s->wpS C st ρ σ K->wpAny G.M A (exec x env) (rq G env σ s K) E s
abbrev gP (G:Stc)(C:Cal)(sc:Scope)(d:Nat)(st:qa)(xs:List Stmt):Prop:=
 ∀⦃A E env ρ σ K s⦄,Cx G sc d A env ρ σ s->gw C st ρ σ K->wpAny G.M A (execs xs env) (rq G env σ s K) E s
section
variable {G:Stc}{C:Cal}{sc:Scope}{d:Nat}
def rq.here {env:Env}{σ:St}{s:Shared}{tk:Nat}{K:Fl->Fr->St->Prop}{fl:Fl}{f:Flow}{ρ:Fr}(a:FlR G s.heap fl f)(q:K fl ρ σ)(F:FR G σ env ρ s.heap)(R:Rel G σ s.heap):rq G env σ s K f {s with toks:=tk}:=
 #[fl,ρ,σ,a,q,F,R,Go.refl.tok]
def rq.d8 {A:Around}{env:Env}{σ:St}{s:Shared}{K:Fl->Fr->St->Prop}{fl:Fl}{f:Flow}{ρ:Fr}(a:FlR G s.heap fl f)(q:K fl ρ σ)(c:Cx G sc d A env ρ σ s):rq G env σ s K f s:=
 #[fl,ρ,σ,a,q,c.F,c.R,.refl]
def A8:gP G C sc d .nil []:=λ_ _ _ _ _ _ _ c h=>wpAny_execs_nil (rq.d8 .next h c)
def vP {st:Stm}{r:qa}{x:Stmt}(h₁:zw G C sc d st x)(W:gP G C sc d r xs):gP G C sc d (.cons st r) (x::xs):=λ_ _ _ _ _ _ _ c h =>
 ua (du (h₁ c h) (λf s' l=>by
  have#[fl,ρ',σ',a,q,J,O,U]:=l;cases a with
  |next=>show U.FI (W (c.at J O) q)
  |brk=>refine#[.brk,ρ',σ',.brk,q,J,O,U]
  |cont=>refine#[.cont,ρ',σ',.cont,q,J,O,U]
  |ret v=>refine#[_,ρ',σ',.ret v,q,J,O,U]) λ_ _ x=>x)
def CB:zw G C sc d .pass (.Pass pos):=λ_ _ _ _ _ _ _ c h=>wpAny_Pass (rq.d8 .next h c)
def HC:zw G C sc d .brk (.Break pos):=λ_ _ _ _ _ _ _ c h=>by
 show wpAny G.M _ (do standAt pos;pure Flow.brk) _ _ _;show ab (jd (ae (rq.d8 .brk h c)))
def CL:zw G C sc d .cont (.Continue pos):=λ_ _ _ _ _ _ _ c h=>by
 show wpAny G.M _ (do standAt pos;pure Flow.cont) _ _ _;show ab (jd (ae (rq.d8 .cont h c)))
def CJ {x:Stmt}:zw G C sc d .dead x:=λ_ _ _ _ _ _ _ c h=>h.elim
def A4:gi G C sc d .dead x:=λ_ _ _ _ _ _ _ c h=>h.elim
def A3:uv G C sc d .dead x:=λ_ _ _ _ _ _ _ c h=>h.elim
def GS {e:Ex}(W:gi G C sc d e x):zw G C sc d (.ret e) (.Return (some x) pos):=λ_ _ _ _ _ _ _ c h =>
 wpAny_Return_some (rn (W c h) λv σ₁ s₁ w q vr r x=>#[.ret v,_,σ₁,.ret vr,q,c.F.evo x.e,r,x.wide])
def CA:zw G C sc d (.ret .none) (.Return none pos):=λ_ _ _ _ _ _ _ c h =>
 wpAny_Return_none (rq.d8 (.ret .none) h c)
abbrev dN (x:Expr):Bool:=!(iN 8 x||(iN 9 x||iN 10 x))
def eQ {e:Expr}(h:dN e=true)(t:Option Expr)(n:Nat)(env:Env):swapsWith e t n env=pure false:=by
 cases e<;>first|rfl|show Bool.noConfusion h
def CH {e:Ex}(W:gi G C sc d e x)(U:dN x=true):zw G C sc d (.expr e) (.Expr x pos):=λ_ _ _ _ _ _ _ c h =>
 wpAny_Expr (rn (W c h) λv σ₁ s₁ w q vr r x=>by
  have#[rfl,q]:=q;have rfl:=vr;apply#[.next,_,σ₁,.next,q,c.F.evo x.e,r,x.wide]) (by unfold interactive;rw[c.eo.kind];rfl) (eQ U _ _ _)
def CM {c:Ex}{t e:qa}{ys:List Stmt}(O:uv G C sc d c x)(W:gP G C sc d t xs)(U:gP G C sc d e ys):zw G C sc d (.C c t e) (.If x xs ys pos):=λ_ _ _ _ _ _ _ c h =>
 wpAny_If (oN (O c h) λb σ₁ s₁ q r x=>by
  cases b with
  |true=>show x.wide.FI (W (c.go r x) q)
  |false=>show x.wide.FI (U (c.go r x) q))
def CG {c:Ex}{b:qa}(hc:uv G C sc d c x)(hb:gP G C sc d b xs):zw G C sc d (.loop c b) (.While x xs [] pos):=λA E env ρ σ K s B h=>by
 have#[n,h]:=h;apply wpAny_While (codeAny_whileLoop (λn s'=>∃ρ' σ',yN (λagain ρ σ=>wpT C c ρ σ λt σ=>if t then gw C b ρ σ (wk again K) else K .next ρ σ) n ρ' σ'/\FR G σ' env ρ' s'.heap/\Rel G σ' s'.heap/\Go (envX env) σ s σ' s') ?_ n #[ρ,σ,h,B.F,B.R,.refl]);intro n s' z;have#[ρ',σ',hl,F',R',x']:=z;cases n with
 |zero=>show hl.elim
 |succ n =>
  apply oN (hc (B.at (A:=_) F' R') hl) λt σ₁ s₁ q r y=>?_;cases t with
  |false=>show wpAny_execs_nil #[.next,ρ',σ₁,.next,q,F'.evo y.e,r,x'.trans y.wide]
  |true =>
   apply du (hb ((B.at F' R').go r y) q) (λf s₂ l=>?_) λ_ _ x=>x;have#[fl,W,σ₂,a,U,J,O,I]:=l;have x3:=x'.trans (y.wide.trans I);cases a with
   |next=>refine#[n,Nat.lt_succ_self n,W,σ₂,U,J,O,x3]
   |cont=>refine#[n,Nat.lt_succ_self n,W,σ₂,U,J,O,x3]
   |brk=>refine#[.next,W,σ₂,.next,U,J,O,x3]
   |ret v=>refine#[_,W,σ₂,.ret v,U,J,O,x3]
end
end MP
end
section
set_option tactic.hygienic true
namespace MP
open PySem PyProof.Rows
variable {σ:St}{h h':Heap}{i:Nat}{pos:Pos}{A:Around}{E:QqV}{s:Shared}{Q:Unit->Shared->Prop}{vs:List V}{env:Env}
abbrev LU (G:Stc)(env:Env)(σ:St)(s:Shared)(K:Fr->St->Prop):Unit->Shared->Prop:=λ_ s'=>qH G env σ s K s'
abbrev jT (G:Stc)(C:Cal)(sc:Scope)(d:Nat)(t:Tgt)(x:Expr):Prop:=
 ∀⦃A E env ρ σ K s v w⦄,Cx G sc d A env ρ σ s->VR G s.heap v w->JW C t v ρ σ K->wpAny G.M A (assign x env w) (LU G env σ s K) E s
section
variable {G:Stc}{C:Cal}{sc:Scope}{d:Nat}
def Rel.keeps (R:Rel G σ h)(hk:∀b o,h.get? b=some o->h'.get? b=some o):Rel G σ h':=R.same (λb o e _=>hk b o e) (λb o e _=>hk b o e) λb o e=>hk b o (R.base b o e)
def Evo.keeps {X:List Addr}(hk:∀b o,h.get? b=some o->h'.get? b=some o):Evo X σ h σ h':=#[λb o e _ _=>hk b o e,λb o e _=>hk b o e,λb d=>.inl d,λb o e=>#[o,hk b o e]]
def jK (x:Heap.ExtBut h.objs.size h h'):∀b o,h.get? b=some o->h'.get? b=some o:=λb o e=>x b o (kj (jz e)) e
def xZ {x:Str}{k:NameKind}(W:sc.names[i]?=some (x,k))(hk:Own G x k):jT G C sc d (.v i) (.Name x pos):=λ_ _ _ _ _ _ _ _ _ c vr h =>
 assign_Name (fV c.eo c.F c.R (by rw[c.es];show W) hk vr λs' O U x=>#[_,_,h,O,U,x])
def tL {a dd:Addr}{f:Nat->Option V}{name:Str}{u:V}{w:Value}(K:GOk G)(R:Rel G σ s.heap)(hI:σ.I a=some (dd,f))(hn:G.attrs[i]?=some name)(vr:VR G s.heap u w)
  (k:∀s',Rel G (σ.jw a dd (upd f i u)) s'.heap->Go [] σ s (σ.jw a dd (upd f i u)) s'->Q () s'):wpAny G.M A (setAttr (.ref a) name w) Q E s:=by
 have#[N,mN,X,dy,dx,cd,be]:=K.cls;have I:=R.I a dd f hI;have#[m,hm,hv,ag]:=I.ns;have#[hh,g,dr,t,os]:=s;have#[nm,q,bs,sn,sub,ea,d2,k0,k1,k2,k3,k5,hC]:=(X.keeps R.base).obj;have O:=fe hn;have cb:a≠G.cS:=by
  rintro rfl;have#[_,_,_,_,_,_,_,_,_,_,_,_,dc]:=X.obj;have:=R.new _ (.inr (.inr (.inr (.inl (by rw[hI];rfl)))));rw[dc]at this;cases this
 have hw:Within m G.attrs:=λy hy=>by
  by_cases h:y∈G.attrs
  ·show h
  ·show absurd (ag y h) hy
 apply store_attr PySem.F.store_object hC (X.keeps R.base).ns cd (be name O).1 (be name O).2 cb (I.inst hm) (λh' dm I' hk aj=>?_) hw (kz K.len (by decide));have#[o,ho,hc,hd,ck]:=I.here;have#[z,e₁,ai,J,U,ax]:=aj o ho;have eo:z=o:=by
  have#[oc,od,dv,dn]:=o;have#[bv,bt,bn,bl]:=z;simp only at ai J U hd;subst ai;subst J;subst U;have:=ax dd hd;simp only at this;rw[hd,this]
 subst eo;have W:h'.Ns1 dd (λy=>if y=name then some w else m y):=by
  have#[o',e',_,_,ar]:=I';have rfl:=af (e₁.symm.trans e');rcases ar with ⟨bc,_⟩|⟨d',ar,_,W⟩
  ·rw[hd]at bc;cases bc
  ·have rfl:=af (hd.symm.trans ar);show W
 have B:At dd hh h':=by
  have#[od,es,ep,ch,cx,_]:=hm;have#[bu,dL,dV,ay,_]:=W;apply#[λb ob hb e=>?_,#[bu,ay],λo' e=>?_]
  ·by_cases bd:b=a
   ·subst bd;rw[ho]at e;cases e;show e₁
   ·show hk b ob bd (λdf d' bg ed=>by
     clear hk;have rfl:=af (ho.symm.trans bg);have rfl:=af (hd.symm.trans ed);show hb) e
  ·have rfl:=af (ch.symm.trans e);show ur cx
 have da:fH G h' a dd (upd f i u):=by
  apply#[#[_,e₁,hc,hd,ck],#[_,W,λj y hj=>?_,λy hy=>?_],I.ne]
  ·by_cases ao:j=i
   ·clear I;subst ao;rw[hn]at hj;cases hj;simp only[cm,bO];show vr.mono B.frz
   ·have ca:y≠name:=λe=>by
     subst e;have ct:j<G.attrs.length:=(av.mp hj).1;show ao ((List.getElem?_inj ct K.nd).mp (hj.trans hn.symm))
    simp only[er ao,ca,md];show(hv j y hj).mono B.frz
  ·have:y≠name:=λe=>hy (e▸O);simp only[this,md];show ag y hy
 show k _ (R.LR hI B da) #[Evo.LR _ hI B,rfl,rfl]
def BX {o:Ex}{x:Expr}{name:Str}(K:GOk G)(J:gi G C sc d o x)(I:G.attrs[i]?=some name):jT G C sc d (.attr o i) (.Attribute x name pos):=λ_ _ _ _ _ _ _ _ _ c vr h=>by
 rw[assign_Attribute];apply ab (dw (rn (J c h) λu σ₁ s₁ O q W r x=>?_));have#[a,dd,f,rfl,B,q]:=q;have rfl:=W;apply ab (jd (ab (dw (tL K r B I (vr.mono x.frz) λs' z U=>wpAny_release ?_))));apply#[_,_,q,(c.F.evo x.e).evo U.e,z,(x.trans U).wide]
def pY {it l:Addr}{items:Array Value}(ag:l≠it):∀(n i:Nat) (s:Shared) (Q:List Value->Shared->Prop),s.heap.IsListIter it l i->s.heap.IsList l items->i+n<=items.size ->
  (∀h',h'.IsListIter it l (i+n)->Heap.SameBut it s.heap h'->Q ((items.toList.drop i).take n) {s with heap:=h'})->wpAny G.M A (draw (.ref it) n) Q E s
 |0=>λi s Q hit hl hn hQ=>by
  dsimp only[draw];show ae (by simpa using hQ s.heap hit (.refl ..))
 |n+1=>λi s Q hit hl hn hQ=>by
  dsimp only[draw];have hx:items[i]?=some items[i]:=Array.getElem?_eq_getElem (gu .B .a .cT hn);apply ab (wpAny_pyNext_list_item hit hl hx λh₁ O W=>?_);have I:h₁.IsList l items:=by have#[o,ho,r]:=hl;apply#[o,by rw[W.2 l ag];show ho,r]
  apply ab (dw (pY ag n (i+1) _ _ O I (gu .cC .a .L hn) λz U J=>ae ?_));have hd:items.toList.drop i=items[i]::items.toList.drop (i+1):=by
   rw[cf (by simpa using (by(show gu .B .a .cT hn):i<items.size))];simp
  have:=hQ z (by rw[show i+(n+1)=i+1+n by(show ow (.e .a7 .a2) .o)];show U) (W.trans J);rw[hd,List.take_succ_cons]at this;show this
def kW {t:Addr}{items:Array Value}{Q:List Value->Shared->Prop}(hh:A.handled=none)(ht:s.heap.IsList t items)
  (hQ:∀h',Heap.ExtBut s.heap.objs.size s.heap h'->Q items.toList {s with heap:=h'}):wpAny G.M A (unpackItems (.ref t) items.size none) Q E s:=by
 have ag:t≠s.heap.objs.size:=by have#[o,z,_]:=ht;show kj (jz z)
 unfold unpackItems;apply ab ?_
 ·unfold notIterableAtAll;apply ab (gG ht.typeIs slot_list_iter.lookup ?_);apply ae ?_;simp only[gp,md];apply ab (dw (wpAny_pyIter_list ht ?_));have hp:(s.heap.push {cls:=.type "list_iterator",data:=.fields #v[.ref t,.int 0 0]}).IsList t items:=by have#[o,z,r]:=ht;apply#[o,bw _ z,r]
  apply ab (dw (pY ag items.size 0 _ _ #[_,fj _ rfl,rfl,rfl] hp (nt (.k (.a .O .A) .A) .h) λh₁ U W=>?_));have ai:List.take items.size (List.drop 0 items.toList)=items.toList:=by
   rw[rv];show jW (by simp)
  rw[ai];rw[br (by simp)];have J:h₁.IsList t items:=by have#[o,z,r]:=hp;apply#[o,by rw[W.2 t ag];show z,r]
  apply ab (dw (wpAny_pyNext_list_end hh U J (by simp) λB I=>?_));simp only[xr,gp,md];apply ae (hQ B λb o hb e=>I b o hb (W.extBut b o hb (bw _ e)))
abbrev BD (G:Stc):Prop:=∀(A:Around) (E:QqV) (s:Shared) (t:Addr) (ws:List Value) (n:Nat) (dd:Option Addr) (Q:List Value->Shared->Prop),A.handled=none->(∀b o,G.hb.get? b=some o->s.heap.get? b=some o) ->
 s.heap.get? t=some {cls:=.ref G.cM,dict:=dd,data:=.seq ws.toArray n,slots:=#v[]} ->
 (∀h',Heap.ExtBut s.heap.objs.size s.heap h'->Q ws {s with heap:=h'})->wpAny G.M A (unpackItems (.ref t) ws.length none) Q E s
def xk {A:Around}{E:QqV}{v:V}{w:Value}{Q:List Value->Shared->Prop}(U:BD G)(W:A.handled=none)(R:Rel G σ s.heap)(vr:VR G s.heap v w)(e:GC v σ=some vs)
  (k:∀ws h',VRs G h' vs ws->Rel G σ h'->(∀b o,s.heap.get? b=some o->h'.get? b=some o)->Q ws {s with heap:=h'}):wpAny G.M A (unpackItems w vs.length none) Q E s:=by
 have fin:∀ws h',VRs G s.heap vs ws->Heap.ExtBut s.heap.objs.size s.heap h'->Q ws {s with heap:=h'}:=λws h' r x =>
  k ws h' (r.mono λb o e _=>jK x b o e) (R.keeps (jK x)) (jK x)
 clear k;cases v
 case L =>
  have rfl:=vr;have#[ws,n,hl,O]:=R.L _ _ e;have:=kW (G:=G) (A:=A) (E:=E) (Q:=Q) W hl.isList λh' x=>fin ws h' O x;rw[dp,<- O.length]at this;show this
 case T =>
  have#[a,ws,n,rfl,g,r]:=vr;have rfl:=af e;have:=PyProof.Rows.unpackItems_tuple (prog:=G.prog) (w:=G.w) (A:=A) (E:=E) (Q:=Q) W #[_,g,rfl,_,rfl] λh' x=>fin _ h' r x;rw[dp,<- r.length]at this;show this
 case mt =>
  have#[a,ws,n,dd,rfl,g,r]:=vr;have rfl:=af e;have:=U A E s _ _ _ _ Q W R.base g λh' x=>fin _ h' r x;rw[<- r.length]at this;show this
 all_goals show jn e
def any_some {α:Type}{a:Option α}{f:α->Bool}(h:a.any f=true):∃x,a=some x/\f x=true:=by
 cases a with
 |none=>show Bool.noConfusion h
 |some x=>refine#[x,rfl,h]
abbrev yn (sc:Scope)(i:Nat):Str:=(sc.names[i]?.map (·.1)).getD ""
abbrev kindAt (k:NameKind->Bool)(sc:Scope)(i:Nat):Bool:=sc.names[i]?.any λy=>k y.2&&jq y.1
def fY {p:NameKind->Bool}(h:kindAt p sc i=true):∃k,sc.names[i]?=some (yn sc i,k)/\p k=true/\jq (yn sc i)=true:=by
 have#[y,e,h]:=any_some h;have W:yn sc i=y.1:=by unfold yn;rw[e];rfl
 apply#[y.2,W▸e,(band h).1,W▸(band h).2]
abbrev ud (sc:Scope):List Nat->List Expr->List Expr
 | []=>λ_=>[]
 |i::is=>λl=>.Name (yn sc i) (l.headD default).pos::ud sc is l.tail
abbrev ownAt (cap:Str->Bool)(sc:Scope)(i:Nat):Bool:=kindAt pO sc i&&(kindAt (·==.local) sc i||!cap (yn sc i))
def vW {G:Stc}{sc:Scope}(h:ownAt G.cap sc i=true):∃k,sc.names[i]?=some (yn sc i,k)/\Own G (yn sc i) k/\jq (yn sc i)=true:=by
 have#[k,W,I,J]:=fY (band h).1;apply#[k,W,#[I,λe=>?_],J];rcases xi .. |>.mp (band h).2 with q|q
 ·have#[k',O,U,_]:=fY q;rw[W]at O;cases O;rw[e]at U;cases U
 ·show(jg _).mp q
abbrev rA (cap:Str->Bool)(sc:Scope)(is:List Nat):Bool:=is.all (ownAt cap sc)
def jI:(is:List Nat)->(l:List Expr)->(assignEach (ud sc is l) env).length=is.length
 | []=>λ_=>rfl
 |_::is=>λl=>dj (·+1) (jI is l.tail)
def gZ {env:Env}:(is:List Nat)->(l:List Expr)->(assignEach (ud sc is l) env).findIdx? (·.1)=none
 | []=>λ_=>rfl
 |_::is=>λl=>by
  have e:=gZ (env:=env) is l.tail;show List.findIdx? _ ((false,_)::assignEach (ud sc is l.tail) env)=none;rw[List.findIdx?_cons,e];rfl
abbrev y0 (elts:List Expr):List Str:=elts.filterMap λx=>bif iN 23 x then some (om x) else none
def kC {X:List Addr}(W:env.scope=sc)(eo:dH env)(U:env.locals∈X)(is:List Nat)(l:List Expr){ws:List Value}{ρ:Fr}(J:rA G.cap sc is=true)(hl:is.length=vs.length)(I:∀y∈y0 (ud sc is l),∀c,env.cells.lookup y=some c->c∈X)
  (F:FR G σ env ρ s.heap) (R:Rel G σ s.heap) (vr:VRs G s.heap vs ws) (k:∀s',FR G σ env (gv is vs ρ) s'.heap->Rel G σ s'.heap->Go X σ s σ s'->Q () s') :
  wpAny G.M A (assignInOrder ((assignEach (ud sc is l) env).map (·.2)) ws) Q E s:=by
 induction is generalizing l vs ws ρ s with
 |nil=>show ae (k s F R .refl)
 |cons i is ih =>
  cases vs with
  |nil=>show nomatch hl
  |cons v vs =>
  have#[w,us,e,B,vr]:=vr;subst e;have#[kk,hi,hk,_]:=vW (band J).1;show wpAny G.M A (do holding us (assign (.Name (yn sc i) (l.headD default).pos) env w);assignInOrder ((assignEach (ud sc is l.tail) env).map (·.2)) us) Q E s;apply ab (dw (assign_Name (gW eo F R (by rw[W];show hi) hk B U (I _ (.head _)) λs' F' R' O=>?_)));show ih l.tail (band J).2 (nu hl) (λy hy=>I y (.tail _ hy)) F' R' (vr.mono O.frz) λz F2 R2 x2=>k z F2 R2 (O.trans x2)
def vH (W:env.scope=sc)(I:dH env){is:List Nat}{l:List Expr}{ws:List Value}{ρ:Fr}(J:rA G.cap sc is=true)(O:is.length=vs.length)
  (F:FR G σ env ρ s.heap) (R:Rel G σ s.heap) (vr:VRs G s.heap vs ws) (k:∀s',FR G σ env (gv is vs ρ) s'.heap->Rel G σ s'.heap->Go (envX env) σ s σ s'->Q () s') :
  wpAny G.M A (assignInOrder ((assignEach (ud sc is l) env).map (·.2)) ws) Q E s:=
 kC W I (.head _) is l J O (λy _ c U=>.tail _ (eg.mpr #[(y,c),mem_of_lookup U,rfl])) F R vr k
def GD {is:List Nat}{l:List Expr}{k:Nat}(U:BD G)(O:rA G.cap sc is=true):jT G C sc d (.T is) (.Tuple (ud sc is l) k pos):=λ_ _ _ _ _ _ _ _ _ c vr h=>by
 have#[vs,e,hl,q]:=h;rw[assign_Tuple];apply ab (jd ?_);unfold unpack;rw[jI,gZ,hl];apply ab (dw (xk U c.ao.handled c.R vr e λws h' W I hk=>?_));apply vH c.es c.eo O hl (c.F.evo (Evo.keeps hk)) I W λz B J x2=>?_;apply#[_,_,q,B,J,#[(Evo.keeps hk).trans x2.e,x2.g,x2.o]]
def GF {o i:Ex}{x y:Expr}(ho:gi G C sc d o x)(hi:gi G C sc d i y):jT G C sc d (.sub o i) (.Subscript x y pos):=λA E env ρ σ K s v w c vr h=>by
 rw[arm_assign_Subscript];apply ab (dw (rn (ho c h) λu σ₁ s₁ ao q J r x=>?_));apply ab (dw (rn (hi (c.go r x) q) λj σ₂ s₂ aj U O r₂ W=>?_));apply ab (jd (ab (dw ?_)));have z:=(vr.mono x.frz).mono W.frz;have#[a,rfl,ar,kk,e,I,hz,U]:=iK (v:=u) U;have rfl:=J;have#[ds,hd,hv]:=r₂.D _ _ e;apply wpAny_setItem_pairs (key_is I O) hd (λh' ai ag=>wpAny_release ?_) (by rw[<- hv.length];show ou (ba .A .a .B hz));have#[R',x']:=NF r₂ e ag ai (hv.put z) (kz (kE _ _ _) (ba .S .a .B hz));apply#[_,_,U,((c.F.evo x.e).evo W.e).evo x',R',((x.trans W).to x').wide]
end
variable {targets xs:List Expr}{value:Expr}{env:Env}
abbrev xv (sc:Scope)(ts:List Expr):List Str:=ts.filterMap λ
 |.Name id pos=>if sc.names.lookup id==some .local&&pos.line==(ts.head?.map (·.pos.line)).getD 0 then some id else none
 |_=>none
abbrev PR (x:Expr):Option (Option (List Expr)):=bif iN 25 x then some (some (kids x)) else bif iN 24 x then none else some none
abbrev tgK:List Expr->Option (Option (List Expr))
 | []=>some none
 |x::r=>bif r.isEmpty then PR x else some none
abbrev tupK (x:Expr):Option (List Expr):=bif iN 25 x then some (kids x) else none
abbrev NK (sc:Scope)(ts vs:List Expr):Option (Option (List Str)):=
 bif !(ts.length==2||ts.length==3)||vs.length != ts.length then some none
 else bif vs.any isStar then some none
 else bif (xv sc ts).length != ts.length||(xv sc ts).eraseDups.length != (xv sc ts).length then some none
 else bif vs.all (foldedForSure 8) then some none
 else bif vs.all (constantsAlone 8) then none
 else some (some (xv sc ts))
abbrev swp (sc:Scope)(targets:List Expr)(value:Expr):Option (Option (List Str)):=
 (tgK targets).bind λo=>o.elim (some none) λts=>(tupK value).elim (some none) (NK sc ts)
def BZ (h:tgK targets=some none)(value:Expr)(env:Env):swappedStores targets value env=pure none:=by
 cases targets with
 |nil=>rfl
 |cons x r =>
  cases r with
  |nil=>cases x<;>first|rfl|show jn (af h).symm|show jn h
  |cons y r=>cases x<;>rfl
def BY {ts:List Expr}(h:tgK targets=some (some ts)):∃k p,targets=[.Tuple ts k p]:=by
 cases targets with
 |nil=>show jn (af h)
 |cons x r =>
  cases r with
  |nil =>
   cases x
   case Tuple=>have rfl:=af (af h);apply#[_,_,rfl]
   all_goals first|show jn (af h)|show jn h
  |cons y r=>show jn (af h)
def zW (h:tupK value=none)(ts:List Expr)(k:Nat)(p:Pos)(env:Env):swappedStores [.Tuple ts k p] value env=pure none:=by
 cases value<;>first|rfl|show jn h.symm
def zV {vs:List Expr}(h:tupK value=some vs):∃k p,value=.Tuple vs k p:=by
 cases value
 case Tuple=>have rfl:=af h;apply#[_,_,rfl]
 all_goals show jn h
def iR {α:Type}{b:Bool}{x y:Option (Option α)}{r:Option α}{t u:Sem (Option α)}(h:(bif b then x else y)=some r)(U:x=some r->t=pure r)(W:y=some r->u=pure r):(if b=true then t else u)=pure r:=by
 cases b with
 |true=>show U h
 |false=>show W h
def qP {sc:Scope}{r:Option (List Str)}(h:swp sc targets value=some r)(J:env.scope=sc)(hk:env.blockKind=.function):swappedStores targets value env=pure r:=by
 have#[o,U,h]:=gf.mp h;cases o with
 |none=>have rfl:=af h;show BZ U value env
 |some ts =>
  have#[k,p,rfl]:=BY U;have h:(tupK value).elim (some none) (NK sc ts)=some r:=h;cases W:tupK value with
  |none=>rw[W]at h;have rfl:=af h;show zW W ts k p env
  |some vs =>
   rw[W]at h;have#[k',O,rfl]:=zV W;subst J;have e:swappedStores [.Tuple ts k p] (.Tuple vs k' O) env=(if (!(ts.length==2||ts.length==3)||vs.length != ts.length||env.blockKind != .function)=true then pure none
    else if vs.any isStar=true then pure none
    else if ((xv env.scope ts).length != ts.length||(xv env.scope ts).eraseDups.length != (xv env.scope ts).length)=true then pure none
    else if vs.all (foldedForSure 8)=true then pure none
    else if vs.all (constantsAlone 8)=true then (do unsupported "assign.tuple-of-constant-expressions:order-of-the-stores";pure (some (xv env.scope ts)))
    else pure (some (xv env.scope ts))):=rfl
   rw[e,hk,show(ScopeKind.function != ScopeKind.function)=false from rfl,i7];show iR h (λh=>af h▸rfl) λh=>iR h (λh=>af h▸rfl) λh=>iR h (λh=>af h▸rfl) λh=>iR h (λh=>af h▸rfl) λh=>iR h (λh=>jn h) λh=>af h▸rfl
def xj (h:dN value=true)(targets:List Expr)(n:Nat)(env:Env):swapsWithSole targets value n env=pure false:=by
 cases targets with
 |nil=>rfl
 |cons t r =>
  cases r with
  |nil=>show eQ h _ _ _
  |cons=>rfl
section
variable {G:Stc}{C:Cal}{sc:Scope}{d:Nat}
inductive gD (G:Stc)(C:Cal)(sc:Scope)(d:Nat):List Tgt->List Expr->Prop
 |nil:gD G C sc d [] []
 |cons {t:Tgt} {x:Expr} {ts:List Tgt} {xs:List Expr}:jT G C sc d t x->(∀env,assignEach (x::xs) env=(false,assign x env)::assignEach xs env)->gD G C sc d ts xs->gD G C sc d (t::ts) (x::xs)
def y8 {A:Around}{E:QqV}{ts:List Tgt}(J:gD G C sc d ts xs):∀{ρ:Fr} {σ:St} {K:Fr->St->Prop} {s:Shared} {v:V} {w:Value},Cx G sc d A env ρ σ s->VR G s.heap v w ->
  jA C ts v ρ σ K->wpAny G.M A (assignAll w ((assignEach xs env).map (·.2))) (LU G env σ s K) E s:=by
 induction J with
 |nil=>show λc vr h=>ae #[_,_,h,c.F,c.R,.refl]
 | @cons t x ts xs O I hr U =>
  intro ρ σ K s v w c vr h;rw[I];cases hr with
  |nil=>show O c vr h
  |cons a b c' =>
   rw[b env]at U ⊢;apply ab (dw (du (O c vr h) (λ_ s' l=>?_) λ_ _ x=>x));have#[ρ',σ',q,z,B,W]:=l;show du (U (c.at z B) (vr.mono W.frz) q) (λ_ _=>qH.back W) λ_ _ x=>x
def vO {ts:List Tgt}{e:Ex}{x:Expr}{pos:Pos}(J:gD G C sc d ts xs)(I:gi G C sc d e x)(B:dN x=true)(O:swp sc xs x=some none):zw G C sc d (.a ts e) (.Assign xs x pos):=λ_ _ _ _ _ _ _ c h=>by
 rw[exec_Assign];apply ab (jd ?_);rw[xj B];apply ab (ae ?_);rw[br (by decide)];apply ab (rn (I c h) λv σ₁ s₁ w q vr r x=>?_);rw[qP O c.es (by unfold Env.blockKind;rw[c.eo.kind];rfl)];apply ab (ae ?_);show wpAny G.M _ (do assignAll w _;pure Flow.next) _ _ _;apply ab (du (y8 J (c.go r x) vr q) (λ_ s' l=>ae ?_) λ_ _ x=>x);have#[ρ',σ',U,F',z,W]:=l;apply#[.next,ρ',σ',.next,U,F',z,x.wide.trans W]
def gL:∀(xs:List Nat) (vs:List V) (x:Nat) (v:V) (ρ:Fr),xs.length=vs.length->gv (xs++[x]) (vs++[v]) ρ=upd (gv xs vs ρ) x v
 | [],[],_,_,_,_=>rfl
 | [],_::_,_,_,_,h=>absurd h.symm (j3 _)
 |_::_,[],_,_,_,h=>absurd h (j3 _)
 |y::xs,u::vs,x,v,ρ,h=>by
  show gL xs vs x v _ (nu h)
def BR {α:Type}{f:Nat->Option α}{i j:Nat}{a b:α}(h:i≠j):upd (upd f i a) j b=upd (upd f j b) i a:=by
 funext k
 unfold upd;by_cases U:k=j<;>by_cases W:k=i<;>simp_all
def mI:∀(xs:List Nat) (vs:List V) (x:Nat) (v:V) (ρ:Fr),x∉xs->gv xs vs (upd ρ x v)=upd (gv xs vs ρ) x v
 | [],_,_,_,_,_=>rfl
 |_::_,[],_,_,_,_=>rfl
 |y::xs,u::vs,x,v,ρ,h=>by
  show gv xs vs (upd (upd ρ x v) y u)=upd (gv xs vs (upd ρ y u)) x v;have h:=qJ h;rw[BR h.1,mI xs vs x v _ h.2]
def eT:∀(xs:List Nat) (vs:List V) (ρ:Fr),xs.length=vs.length->xs.Nodup->gv xs.reverse vs.reverse ρ=gv xs vs ρ
 | [],[],_,_,_=>rfl
 | [],_::_,_,h,_=>absurd h.symm (j3 _)
 |_::_,[],_,h,_=>absurd h (j3 _)
 |x::xs,v::vs,ρ,h,W=>by
  have W:=List.nodup_cons.mp W;have h:xs.length=vs.length:=nu h;rw[jm,jm,gL _ _ _ _ _ (by rw[iy,iy];show h),eT xs vs ρ h W.2];show(mI xs vs x v ρ W.1).symm
abbrev NT (cap:Str->Bool)(sc:Scope)(is:List Nat)(xs:List Str):Bool:=decide (xs=is.map (yn sc))&&rA cap sc is
def tH {A:Around}{E:QqV}(W:env.scope=sc)(eo:dH env){σ:St}(is:List Nat){vs:List V}{ws:List Value}{ρ:Fr}{s:Shared}{Q:Unit->Shared->Prop}(O:rA G.cap sc is=true)(hl:is.length=vs.length)
  (F:FR G σ env ρ s.heap) (R:Rel G σ s.heap) (vr:VRs G s.heap vs ws) (k:∀s',FR G σ env (gv is vs ρ) s'.heap->Rel G σ s'.heap->Go (envX env) σ s σ s'->Q () s') :
  wpAny G.M A (assignInOrder ((is.map (yn sc)).map λn=>bindName env n) ws) Q E s:=by
 induction is generalizing vs ws ρ s with
 |nil=>show ae (k s F R .refl)
 |cons i is B =>
  cases vs with
  |nil=>show nomatch hl
  |cons v vs =>
  have#[w,us,e,J,vr]:=vr;subst e;have#[kk,z,hk,_]:=vW (band O).1;show wpAny G.M A (do holding us (bindName env (yn sc i) w);assignInOrder ((is.map (yn sc)).map λn=>bindName env n) us) Q E s;apply ab (dw (wpAny_bindName (fV eo F R (by rw[W];show z) hk J λs' F' R' U=>?_)));show B (band O).2 (nu hl) F' R' (vr.mono U.frz) λI F2 R2 x2=>k I F2 R2 (U.trans x2)
def snd_swap {is:List Nat}{e:Ex}{x:Expr}{pos:Pos}{names:List Str}(U:BD G)(z:gi G C sc d e x)(hc:dN x=true)(B:swp sc xs x=some (some names))(J:NT G.cap sc is names=true)(O:is.Nodup):zw G C sc d (.a [.T is] e) (.Assign xs x pos):=λ_ _ _ _ _ _ _ c h=>by
 rw[exec_Assign];apply ab (jd ?_);rw[xj hc];apply ab (ae ?_);rw[br (by decide)];apply ab (rn (z c h) λv σ₁ s₁ w q vr r x=>?_);rw[qP B c.es (by unfold Env.blockKind;rw[c.eo.kind];rfl)];apply ab (ae ?_);have#[vs,ev,hl,q]:=q;show wpAny G.M _ (do rule "assign.swapped-stores";let items←unpackItems w names.length none;assignInOrder (names.reverse.map λn=>bindName _ n) items.reverse;pure Flow.next) _ _ _;apply ab (sr (ab ?_));have rfl:=cg (band J).1;rw[ak,hl,<- List.map_reverse];apply xk U c.ao.handled r vr ev λws h' W R' hk=>?_;apply ab (tH c.es c.eo is.reverse (by unfold rA;rw[List.all_reverse];show(band J).2) (by simpa using hl) ((c.F.evo x.e).evo (Evo.keeps hk)) R' W.reverse λs2 I R2 x2=>ae ?_);rw[eT _ _ _ hl O]at I;apply#[.next,_,_,.next,q,I,R2,x.wide.trans #[(Evo.keeps hk).trans x2.e,x2.g,x2.o]]
end
end MP
end
section
namespace MP
open PySem PyProof.Rows
def kJ:typeLookup (.type "list") (dunderI "add")=pure (some (.builtin "list.__iadd__")):=by rw[ip,fq];kernel_rfl
def wN:fillsInplaceSlot (.type "list") "add" (Operator.Add==.Add)=pure false:=by
 unfold fillsInplaceSlot;show(typeLookup (.type "list") (dunderI "add")>>=λW=>pure (W.isSome&&!isSeqSlot W))=pure false;rw[kJ];first|rfl|kernel_rfl
def EB:seqSlot? (.type "list") (dunderI "add")=pure (some (.builtin "list.__iadd__")):=by
 unfold seqSlot?;rw[kJ];first|rfl|kernel_rfl
section
variable {G:Stc}{A:Around}{E:QqV}{s:Shared}{σ:St}
def wM {a b:Value}{Q:QqV}(W:s.TypeIs a "list")(hb:s.TypeIs b "list")(U:wpAny G.M A (call (.builtin "list.__iadd__") [a,b]) Q E s):wpAny G.M A (inplaceOp .Add a b) Q E s:=by
 unfold inplaceOp;apply dw ?_;apply ab (i5 W (ab (gc wN ?_)));show wpAny _ A (if false=true then _ else _) Q E s;rw[br gq];apply ab (wpAny_binaryOp1_none (nm:="add") W hb noFill_list_add ?_);apply ab (gc EB ?_);show ab (sr U)
def CR {op:Bop}{a b:V}{x y:Value}{Q:V->St->Prop}(J:op=.add\/op=.sub)(R:Rel G σ s.heap)(va:VR G s.heap a x)(z:VR G s.heap b y)(h:K3 op a b σ Q):wpAny G.M A (inplaceOp (binOp op) x y) (jx G [] σ s Q) E s:=by
 cases a with
 |L a =>
  have rfl:=va;have#[b,rfl,h]:=ue (v:=b) h;have rfl:=z;rcases J with rfl|rfl
  ·have#[xs,ys,ag,e1,e2,hz,q]:=h;have#[us,n,hl,hv]:=R.L _ _ e1;have#[ts,m,B,O]:=R.L _ _ e2;have I:=hv.length;have U:=O.length;have W:us.length+ts.length<=sizeLine:=by rw[<- I,<- U];show ou hz
   apply wM #[_,hl,rfl] #[_,B,rfl] (zi PySem.F.slot_list_iadd #[_,hl,rfl] PySem.F.entry_list_iadd (PySem.F.args_list_iadd_2 _ _) (AutoSeq1.list___iadd___list_list_0 _ _ _ _ _ _ ?_ (by simp only[dp];(show gu .A .a .c5 W)) (by simp only[dp];(show gu (.k .L .S) .a .F W))) #[hl,B,?_])
   ·simp only[dp,Builtin.List.listTooLong];rw[show sizeLine=16777216 from rfl]at W;simp;intro _;first|omega|(unfold sizeLine;(show ba (.k .L (.n (2^24))) .a (.k .L (.n 16777216)) W))
   ·have#[r',x']:=zU (f:=λx=>x++ts.toArray) R e1 hl (hv.append O) (by simpa using hz) (by simp);apply#[.L _,_,q,.L _,r',x',rfl,rfl]
  ·show False.elim h
 |int a =>
  have#[t,rfl]:=va;have#[b,rfl,h]:=uf (v:=b) h;have#[u,rfl]:=z;rcases J with rfl|rfl
  ·show P.iadd_int (jx.here h (.int _ _) R)
  ·show P.isub_int (jx.here h (.int _ _) R)
 |_=>show False.elim h
def HI {C:Cal}{sc:Scope}{d:Nat}{op:Bop}{i:Nat}{e:Ex}{x:Str}{k:NameKind}{y:Expr}{pos U:Pos}(J:op=.add\/op=.sub)(he:gi G C sc d e y)(hi:sc.names[i]?=some (x,k))(hk:Own G x k)(hx:jq x=true) :
  zw G C sc d (.aug i op e) (.AugAssign (.Name x U) (binOp op) y pos):=λ_ _ _ _ _ _ _ c h=>by
 have#[v,hv,h]:=h;have I:isVar k=true:=by cases k<;>first|rfl|show Bool.noConfusion hk.1
 apply wpAny_AugAssign_Name (iG c.eo c.F (by rw[c.es];show hi) I hx hv λw vr=>?_);apply rn (he c h) λu σ₁ s₁ z q W r x=>?_;apply du (CR J r (vr.mono x.frz) W q) (λw' s' l=>?_) λ_ _ x=>x;have#[v',σ',q',O,r',B]:=l;apply fV c.eo ((c.F.evo x.e).evo B.e) r' (by rw[c.es];show hi) hk O λs2 F2 R2 x2=>?_;apply#[.next,_,σ',.next,q',F2,R2,(x.trans B).wide.trans x2]
end
end MP
end
section
namespace MP
set_option genInjectivity false
open PySem PyProof.Rows
variable {own:List Addr}{σ σ':St}{env:Env}{ρ:Fr}{h h':Heap}{s s':Shared}{i:Nat}{t:Tg}{x:Expr}{pos:Pos}
def FR.but {G:Stc}(F:FR G σ env ρ h)(hk:∀b o,b∉own->h.get? b=some o->h'.get? b=some o)(z:kf h h')(J:∀b∈own,b∉envX env):FR G σ env ρ h':=by
 have#[m,#[o,es,ep,B,r],hm]:=F.ns;have W:=hk _ _ (λq=>J _ q (.head _)) B;apply#[#[m,#[o,es,ep,W,r],λi y e=>(hm i y e).mono z],λi y k e O=>?_,F.inj,F.loc,λag e=>?_,F.new,λp I=>?_]
 ·have#[c,w,h1,#[oc,U,hd],h3,h4,h5]:=F.cells i y k e O;apply#[c,w,h1,#[oc,hk _ _ (λq=>J _ q (.tail _ (eg.mpr #[(y,c),mem_of_lookup h1,rfl]))) U,hd],h3.mono z,h4,h5]
 ·rw[W]at e;cases e;show F.notfrz o B
 ·have#[o,e]:=F.allc p I;apply#[o,hk _ _ (λq=>J _ q (.tail _ (eg.mpr #[p,I,rfl]))) e]
def Evo.but {X:List Addr}{h₀:Heap}(x:Evo X σ h₀ σ' h)(hk:∀b o,b∉own->h.get? b=some o->h'.get? b=some o)(O:∀b∈own,h₀.get? b=none):Evo X σ h₀ σ' h':=by
 have U:∀b o,h₀.get? b=some o->b∉own:=λb o e q=>by rw[O b q]at e;cases e
 apply#[λb o e nd J=>hk b o (U b o e) (x.keep b o e nd J),λb o e f=>hk b o (U b o e) (x.frz b o e f),x.dom,λb o e=>by have#[W,e₁]:=x.there b o e;apply#[W,hk b W (U b o e) e₁]]
abbrev BE (s s':Shared):Prop:=s'.gens=s.gens/\s'.os=s.os
def BE.rfl {W:Drawn}{tk:Tok}:BE s #[h,s.gens,W,tk,s.os]:=#[Eq.refl _,Eq.refl _]
def Go.but {X:List Addr}{s₀:Shared}(x:Go X σ s₀ σ' s)(hk:∀b o,b∉own->s.heap.get? b=some o->s'.heap.get? b=some o)(g:BE s s')(W:∀b∈own,s₀.heap.get? b=none):Go X σ s₀ σ' s':=#[x.e.but hk W,g.1.trans x.g,g.2.trans x.o]
abbrev N6 (own:List Addr)(pos:Nat->Heap->Prop):Prop:=∀i h h',pos i h->(∀b∈own,∀o,h.get? b=some o->h'.get? b=some o)->kf h h'->pos i h'
abbrev PH (own:List Addr)(pos:Nat->Heap->Prop):Prop:=∀i h,pos i h->∀b∈own,∃o,h.get? b=some o/\¬Frz o
abbrev N2 (G:Stc)(it:Addr)(pos:Nat->Heap->Prop):Prop:=∀(A:Around) (E:QqV) (s:Shared) (i:Nat) (Q:QqV),pos i s.heap->Q (.ref it) s->wpAny G.M A (pyIter (.ref it)) Q E s
abbrev zK (own:List Addr)(s s':Shared):Prop:=(∀b o,b∉own->s.heap.get? b=some o->s'.heap.get? b=some o)/\BE s s'
abbrev N5 (G:Stc)(it:Addr)(own:List Addr)(vs:List V)(Gd:St->Prop)(tup:Bool)(pos:Nat->Heap->Prop):Prop:=∀(A:Around) (E:QqV) (s:Shared) (σ:St) (i:Nat) (v:V) (target:Expr) (Q:QqV),A.handled=none->Rel G σ s.heap->Gd σ->pos i s.heap->vs[i]?=some v->(tup=true->∃es k p,target=.Tuple es k p) ->
  (∀w s',zK own s s'->(kf s.heap s'.heap->VR G s'.heap v w/\pos (i+1) s'.heap)->Q w s') ->
  wpAny G.M A (pyNext (.ref it)) (λr s₁=>match r with|none=>False|some w=>wpAny G.M A (letOwnedTupleGo target (.ref it) w) (λ_ s₂=>Q w s₂) E s₁) E s
abbrev N1 (G:Stc)(it:Addr)(own:List Addr)(vs:List V)(Gd:St->Prop)(pos:Nat->Heap->Prop):Prop:=∀(A:Around) (E:QqV) (s:Shared) (σ:St) (i:Nat) (Q:Option Value->Shared->Prop),A.handled=none->Rel G σ s.heap->Gd σ->pos i s.heap->vs[i]?=none ->
  (∀s',zK own s s'->Q none s')->wpAny G.M A (pyNext (.ref it)) Q E s
structure Itr (G:Stc) where
 it:Addr
 own:List Addr
 vs:List V
 Gd:St->Prop
 tup:Bool
 pos:Nat->Heap->Prop
 keep:N6 own pos
 obj:PH own pos
 self:N2 G it pos
 next:N5 G it own vs Gd tup pos
 stop:N1 G it own vs Gd pos
def mK {it:Addr}(h:Heap.SameBut it s.heap s'.heap)(g:BE s s'):zK [it] s s':=#[λb o hb e=>by rw[h.2 b λq=>hb (q▸.head _)];show e,g]
def lO {it:Addr}(h:Heap.ExtBut it s.heap s'.heap)(W:it∈own)(g:BE s s'):zK own s s':=#[λb o hb e=>h b o (λq=>hb (q▸W)) e,g]
section
variable {G:Stc}{C:Cal}{sc:Scope}{d:Nat}
def Itr.there (I:Itr G)(W:I.pos i h){b:Addr}(hb:b∈I.own):∃o,h.get? b=some o:=by have#[o,e,_]:=I.obj i h W b hb;apply#[o,e]
def Itr.yH (I:Itr G)(W:I.pos i h){b:Addr}(hb:b∈I.own){o:Obj}(e:h.get? b=some o):¬Frz o:=by have#[o',U,f]:=I.obj i h W b hb;have rfl:=af (e.symm.trans U);show f
def Itr.frz (I:Itr G)(W:I.pos i h)(hk:∀b o,b∉I.own->h.get? b=some o->h'.get? b=some o):kf h h':=λb o e f=>hk b o (λhb=>I.yH W hb e f) e
def Itr.rel (I:Itr G)(W:I.pos i h)(R:Rel G σ h)(hd:∀b∈I.own,¬σ.dom b)(hb:∀b∈I.own,G.hb.get? b=none)(hk:∀b o,b∉I.own->h.get? b=some o->h'.get? b=some o):Rel G σ h':=
 R.same (λb o e U=>hk b o (λq=>hd b q U) e) (λb o e f=>hk b o (λq=>I.yH W q e f) e) λb o e=>hk b o (λq=>by rw[hb b q]at e;cases e) (R.base b o e)
inductive FP (G:Stc)(σ:St)(s:Shared)(tupled:Bool)(P:List V->(St->Prop)->St->Prop)(itv:Value)(s':Shared):Prop
 |mk (I:Itr G) (σ':St):itv=.ref I.it->(I.tup=true->tupled=true)->P I.vs I.Gd σ'->I.pos 0 s'.heap->Rel G σ' s'.heap->Go [] σ s σ' s'->(∀b∈I.own,s.heap.get? b=none)->(∀b∈I.own,¬σ'.dom b)->FP G σ s tupled P itv s'
abbrev gQ (G:Stc)(C:Cal)(sc:Scope)(d:Nat)(tupled:Bool)(it:It)(x:Expr):Prop:=
 ∀⦃A E env ρ σ P s⦄,Cx G sc d A env ρ σ s->t9 C it ρ σ P->wpAny G.M A (eval x env) (λv s₁=>wpAny G.M A (pyIter v) (FP G σ s tupled P) E s₁) E s
abbrev LX (G:Stc)(X:List Addr)(env:Env)(σ:St)(s:Shared)(K:Fr->Prop)(s':Shared):Prop:=∃ρ',K ρ'/\FR G σ env ρ' s'.heap/\Rel G σ s'.heap/\Go X σ s σ s'
abbrev zI (G:Stc)(C:Cal)(sc:Scope)(d:Nat)(t:Tg)(x:Expr):Prop:=
 ∀⦃A E env ρ σ K s v w⦄,Cx G sc d A env ρ σ s->VR G s.heap v w->qg t v σ ρ K->wpAny G.M A (assign x env w) (λ_ s'=>LX G (envX env) env σ s K s') E s
abbrev isTup (x:Expr):Bool:=iN 25 x
abbrev iC (x:Expr):List Str:=bif iN 23 x then [om x] else bif iN 25 x then y0 (kids x) else []
abbrev xn (G:Stc)(C:Cal)(sc:Scope)(d:Nat)(t:Tg)(x:Expr):Prop:=
 ∀⦃A E X env ρ σ K s v w⦄,env.locals∈X->(∀y∈iC x,∀c,env.cells.lookup y=some c->c∈X)->Cx G sc d A env ρ σ s->VR G s.heap v w->qg t v σ ρ K->wpAny G.M A (assign x env w) (λ_ s'=>LX G X env σ s K s') E s
def xn.plain (h:xn G C sc d t x):zI G C sc d t x:=λ_ _ _ _ _ _ _ _ _ c vr q=>h (.head _) (λy _ c W=>.tail _ (eg.mpr #[(y,c),mem_of_lookup W,rfl])) c vr q
def GG {x:Str}{k:NameKind}(O:sc.names[i]?=some (x,k))(hk:Own G x k):xn G C sc d (.v i) (.Name x pos):=λ_ _ _ _ _ _ _ _ _ _ W U c vr h =>
 assign_Name (gW c.eo c.F c.R (by rw[c.es];show O) hk vr W (U x (.head _)) λs' I J x=>#[_,h,I,J,x])
def GH {is:List Nat}{l:List Expr}{k:Nat}(U:BD G)(I:rA G.cap sc is=true):xn G C sc d (.T is) (.Tuple (ud sc is l) k pos):=λ_ _ _ _ _ _ _ _ _ _ O J c vr h=>by
 have#[vs,e,hl,q]:=h;rw[assign_Tuple];apply ab (jd ?_);unfold unpack;rw[jI,gZ,hl];apply ab (dw (xk U c.ao.handled c.R vr e λws h' W z hk=>?_));apply kC c.es c.eo O is l I hl J (c.F.evo (Evo.keeps hk)) z W λs2 F2 B x2=>?_;apply#[_,q,F2,B,(Evo.keeps hk).trans x2.e,x2.g,x2.o]
inductive oA (I:Itr G)(env:Env)(σ:St)(s:Shared)(T:V->Fr->St->(Fr->St->Prop)->Prop)(K:Fr->St->Prop)(n:Nat)(s':Shared):Prop
 |mk (i:Nat) (σ':St) (ρ':Fr):n=I.vs.length-i->I.pos i s'.heap->FR G σ' env ρ' s'.heap->Rel G σ' s'.heap->Go (envX env) σ s σ' s'->(∀b∈I.own,¬σ'.dom b)->wR (I.vs.drop i) I.Gd T ρ' σ' K->oA I env σ s T K n s'
def oA.next {I:Itr G}{T:V->Fr->St->(Fr->St->Prop)->Prop}{K:Fr->St->Prop}{ρ':Fr}(lt:i<I.vs.length)(W:I.pos (i+1) s'.heap)(F:FR G σ' env ρ' s'.heap)(R:Rel G σ' s'.heap)(x:Go (envX env) σ s σ' s')(hd:∀b∈I.own,¬σ'.dom b)(q:wR (I.vs.drop (i+1)) I.Gd T ρ' σ' K) :
  ∃m,m<I.vs.length-i/\oA I env σ s T K m s':=#[_,by show gh .B .d (.e (.a .A .S) .D) .bD (aa (ba .S .a .B lt)) (aa (ba .A .a .B lt)),i+1,σ',ρ',rfl,W,F,R,x,hd,q]
def Itr.stay {I:Itr G}{Y:List Addr}{W σb:St}{J hb:Heap}{j:Nat}(B:∀b∈I.own,b∉Y)(O:I.pos j J)(hd:∀c∈I.own,¬W.dom c)(x:Evo Y W J σb hb):I.pos j hb/\∀c∈I.own,¬σb.dom c:=
 #[I.keep _ _ _ O (λc U o e=>x.keep c o e (hd c U) (B c U)) x.frz,λc U z=>(x.dom c z).elim (hd c U) λq=>by have#[o,e]:=I.there O U;rw[e]at q;cases q]
def z9 {l:List V}{v:V}(e:l[i]?=some v):i<l.length/\l.drop i=v::l.drop (i+1):=by
 have h:=av.mp e;apply#[h.1,?_];rw[cf h.1,h.2]
def uK (h:isTup x=true):∃es k p,x=.Tuple es k p:=by
 cases x<;>first|refine⟨_,_,_,rfl⟩|show Bool.noConfusion h
def qZ (F:FR G σ env ρ h)(O:∀b∈own,h.get? b=none):∀b∈own,b∉envX env:=λb hb U=>by
 rcases cw.mp U with rfl|U
 ·have#[m,#[o,I,ep,W,_],_]:=F.ns;rw[O _ hb]at W;cases W
 ·have#[p,J,rfl]:=eg.mp U;have#[o,W]:=F.allc p J;rw[O _ hb]at W;cases W
def eW (R:Rel G σ h)(W:∀b∈own,h.get? b=none):∀b∈own,G.hb.get? b=none:=λb hb=>by
 cases hq:G.hb.get? b with
 |none=>rfl
 |some o=>have:=R.base b o hq;rw[W b hb]at this;cases this
def B3 {b:qa}{ys:List Stmt}(ht:zI G C sc d t x)(hb:gP G C sc d b ys){A:Around}{E:QqV}{I:Itr G}{σ₀:St}{s₁:Shared}{K:Fl->Fr->St->Prop}{v:V}{w:Value}(c:Cx G sc d A env ρ σ s₁)
  (hX:∀b∈I.own,b∉envX env) (lt:i<I.vs.length) (x0:Go (envX env) σ₀ s σ s₁) (hp:I.pos (i+1) s₁.heap) (hd:∀b∈I.own,¬σ.dom b) (vr:VR G s₁.heap v w)
  (hf:qg t v σ ρ λρ=>gw C b ρ σ (wk (λρ σ=>wR (I.vs.drop (i+1)) I.Gd (λv ρ σ k=>qg t v σ ρ λρ=>gw C b ρ σ (wk k K)) ρ σ λρ σ=>K .next ρ σ) K))
  {Qp:Flow->Shared->Prop} (h1:∀s',(∃m,m<I.vs.length-i/\oA I env σ₀ s (λv ρ σ k=>qg t v σ ρ λρ=>gw C b ρ σ (wk k K)) (λρ σ=>K .next ρ σ) m s')->Qp .next s'/\Qp .cont s') (h2:∀s',rq G env σ₀ s K .next s'->Qp .brk s') (h3:∀w s',rq G env σ₀ s K (.ret w) s'->Qp (.ret w) s') :
  wpAny G.M A (assign x env w) (λ_ ai=>wpAny G.M A (execs ys env) Qp E ai) E s₁:=by
 apply du (ht c vr hf) (λ_ ai l=>?_) λ_ _ x=>x;have#[bd,ao,bc,ay,ag]:=l;have#[be,ax]:=I.stay hX hp hd ag.e;apply du (hb (c.at bc ay) ao) (λf bg l=>?_) λ_ _ x=>x;have#[fl,B,J,a,W,O,U,z]:=l;have#[ar,aj]:=I.stay hX be ax z.e;have x5:=(x0.trans ag).trans z;cases a with
 |next=>show(h1 _ (oA.next lt ar O U x5 aj W)).1
 |cont=>show(h1 _ (oA.next lt ar O U x5 aj W)).2
 |brk=>show h2 _ #[.next,B,J,.next,W,O,U,x5]
 |ret v=>show h3 _ _ #[_,B,J,.ret v,W,O,U,x5]
def CI {it:It}{b:qa}{y:Expr}{ys:List Stmt}(ht:zI G C sc d t x)(hi:gQ G C sc d (isTup x) it y)(hb:gP G C sc d b ys)(hs:∀env v,foldedSetIterable y env v=pure v) :
  zw G C sc d (.each t it b) (.For x y ys [] pos):=λA E env ρ σ K s c h=>by
 apply wpAny_For (du (hi c h) (λv s₁ h₁=>du h₁ (λbd s₂ l=>?_) λ_ _ x=>x) λ_ _ x=>x) (hs env);have#[I,σ₁,rfl,ar,hf,hp,r,ai,O,ay]:=l;have ag:=eW c.R O;have hX:=qZ c.F O;apply codeAny_forLoop_any (oA I env σ s (λv ρ σ k=>qg t v σ ρ λρ=>gw C b ρ σ (wk k K)) λρ σ=>K .next ρ σ) ?_ (I.vs.length-0)
  #[0,σ₁,ρ,rfl,hp,c.F.evo ai.e,r,ai.wide,ay,hf]
 intro n s' z;have#[i,σ',ρ',rfl,U,F',R',x',B,J]:=z;cases hq:I.vs[i]? with
 |none =>
  rw[jY (gH.mp hq)]at J;apply I.stop A _ s' σ' i _ c.ao.handled R' J.1 U hq λs2 g=>?_;have#[W,g2]:=g;show wpAny_execs_nil #[.next,ρ',σ',.next,J.2,F'.but W (I.frz U W) hX,I.rel U R' B ag W,x'.but W g2 O]
 |some v =>
  have#[bc,aj]:=z9 hq;rw[aj]at J;apply du (I.next A _ s' σ' i v x ?Q c.ao.handled R' J.1 U hq (λq=>uK (ar q)) ?k) (λr s₁ hr=>?m) λ_ _ x=>x
  case m =>
   cases r with
   |none=>show hr.elim
   |some w=>show hr
  case k =>
   intro w s2 g z;have#[W,g2]:=g;have#[vr,ax]:=z (I.frz U W);show B3 ht hb (c.at (F'.but W (I.frz U W) hX) (I.rel U R' B ag W)) hX bc (x'.but W g2 O) ax B vr J.2 (λ_ q=>#[q,q]) (λ_ q=>q) λ_ _ q=>q
end
end MP
end
section
set_option tactic.hygienic true
namespace MP
open PySem PyProof.Rows
abbrev ownsTuple (n:String):Bool:=["enumerate","zip","dict_itemiterator","dict_reverseitemiterator","odict_iterator","itertools.zip_longest","itertools.pairwise"].contains n
section
variable {G:Stc}{A:Around}{E:QqV}{s:Shared}
def yq {it:Addr}{o:Obj}{n:String}{target:Expr}{w:Value}{Q:Unit->Shared->Prop}(W:s.heap.get? it=some o)(O:o.cls=.type n)(U:ownsTuple n=false)(h:Q () s):wpAny G.M A (letOwnedTupleGo target (.ref it) w) Q E s:=by
 have go:wpAny G.M A (do
   let (.ref r,.ref a):=(Value.ref it,w)|return
   let o←load r
   match o.cls,o.data with
   |.type n,.fields vs=>if (ownsTuple n&&vs[0]?==some (rawInt a))=true then do rule "for.unpacks-the-owned-tuple";updateField r 0 .none else pure ()
   |_,_=>pure ():Sem Unit) Q E s:=by
  cases w with
  |ref a =>
   apply ab (zh W ?_);rw[O];cases o.data with
   |fields vs =>
    show wpAny _ _ (if (ownsTuple n&&vs[0]?==some (rawInt a))=true then _ else _) _ _ _;rw[U,Bool.false_and,br (by decide)];show ae h
   |_=>show ae h
  |_=>show ae h
 cases target<;>first|show go|show ae h
def pj {o:Obj}{n:String}{vs:Array Value}(W:o.cls=.type n)(hd:o.data=.fields vs)(O:n ≠ "builtin_function_or_method")(U:n ≠ "method-wrapper"):¬Frz o:=by
 rintro (⟨_,_,_,h⟩|⟨h|h,_⟩|⟨_,h⟩)
 ·rw[hd]at h;cases h
 ·rw[W]at h;injection h with h;show O h
 ·rw[W]at h;injection h with h;show U h
 ·rw[hd]at h;cases h
abbrev IL (G:Stc)(it l:Addr)(hne:l≠it)(xs:List V):Itr G where
 it:=it
 own:=[it]
 vs:=xs
 Gd:=λτ=>τ.L l=some xs
 tup:=false
 pos:=λi h=>h.IsListIter it l i
 keep:=λi h h' zz3 hk _=>by have#[o,ho,r]:=zz3;apply#[o,hk it (.head _) o ho,r]
 obj:=λi h z b hb=>by have#[o,ho,hc,hd]:=z;have rfl:=au.mp hb;apply#[o,ho,pj hc hd (by decide) (by decide)]
 self:=λA E s i Q hp q=>wpAny_pyIter_listiter hp q
 next:=λA E s σ i v target Q hh R hg hp hv htup k=>by
  have#[ws,n,hl,hvs]:=R.L l xs hg;have#[w,hw,vr]:=hvs.get hv;apply wpAny_pyNext_list_item hp hl.isList (by simpa using hw) λh' hp' hs=>?_;have#[o,ho,hc,hd]:=id hp';show yq ho hc (by decide) (k w _ (mK hs .rfl) λhf=>#[vr.mono hf,hp'])
 stop:=λA E s σ i Q hh R hg hp hv k=>by
  have#[ws,n,hl,hvs]:=R.L l xs hg;have hlen:=hvs.length;show wpAny_pyNext_list_end hh hp hl.isList (by simpa[<- hlen] using hv) λh' he=>k _ (lO he (.head _) .rfl)
end
end MP
end
section
namespace MP
open PySem PyProof.Rows
section
variable {G:Stc}{A:Around}{E:QqV}{s:Shared}
abbrev PJ (h:Heap)(it a:Addr)(f:Value)(i n ep:Nat):Prop:=
 ∃o,h.get? it=some o/\o.cls=.type "set_iterator"/\o.data=.fields #v[f,.int i 0,.ref a,.int n 0,.int ep 0]
def PJ.typeIs {it a f i n ep}(x:PJ s.heap it a f i n ep):s.TypeIs (.ref it) "set_iterator":=by
 have#[o,W,U,_]:=x;apply#[o,W,U]
def vR {prog:Program}{w:World}{α:Type}{Q:α->Shared->Prop}(W:A.handled=none)
  (h:∀h' e,(∀b o,s.heap.get? b=some o->h'.get? b=some o)->(∃o,h'.get? e=some o/\o.cls=.type "StopIteration")->E (.ref e) {s with heap:=h'}):wpAny (model prog w) A (newExc (.type "StopIteration") []>>=raiseNew) Q E s:=by
 apply ab ?_;unfold newExc newTuple;apply ab (mw ?_ (by size_fits));apply ab (m:=firstArgMember _ _) (gc (a:=Value.none) (by first|rfl|(simp only[firstArgMember];rfl)) ?_);apply mw ?_ (by size_fits);unfold raiseNew;apply ab (wpAny_handled ?_);rw[W];show ab (ae (wpAny_throw (h _ _ (λb o e=>bw _ (bw _ e)) #[_,fj _ rfl,rfl])))
section
variable {it a:Addr}{o:Obj}{es:Array (Int×Value)}{ep i:Nat}{t:SetTable}{Q:Option Value->Shared->Prop}
end
end
section
variable {G:Stc}{A:Around}{E:QqV}{s:Shared}{σ:St}
def nj {env:Env}{x:Str}{pos:Pos}{v:Value}{Q:QqV}(K:GOk G)(B:dH env)(R:Rel G σ s.heap)(hx:env.scope.names.lookup x=some .globalImplicit)(hn:jq x=true)(W:G.gl x=some v)(h:Q v s):wpAny G.M A (eval (.Name x pos) env) Q E s:=by
 have J:(x==("__debug__":Str))=false:=by simp only[jq,fp,jg]at hn;show hn.1
 apply Calls.Name_function_global B.kind hx ?_ J;have#[z,mb,hg,hb,e]:=K.names;rw[e]at W;have U:s.heap.Ns env.globals z:=by rw[B.globals];show hg.keeps R.base
 have I:s.heap.Ns env.builtins mb:=by rw[B.builtins];show hb.keeps R.base
 cases O:z x with
 |some u=>rw[O]at W;cases W;show Calls.loadGlobal_global U O h
 |none=>rw[O]at W;show Calls.loadGlobal_builtin U O I W h
end
variable {A:Around}{E:QqV}{σ:St}{x:Str}{p pos:Pos}{tupled:Bool}
abbrev E8 (G:Stc)(it:Addr)(a c:Int)(n:Nat)(xs:List V)(hl:xs.length=n)(hx:∀i,i<n->xs[i]?=some (.int (a+c*i))):Itr G where
 it:=it
 own:=[it]
 vs:=xs
 Gd:=λ_=>True
 tup:=false
 pos:=λi h=>i<=n/\IsRangeIter h it (a+c*i) (n-i) c
 keep:=λi h h' zz3 hk _=>by have#[hi,hp]:=zz3;apply#[hi,hk it (.head _) _ hp]
 obj:=λi h z b hb=>by have#[_,hp]:=z;have rfl:=au.mp hb;apply#[_,hp,pj rfl rfl (by decide) (by decide)]
 self:=λA E s i Q hp q=>wpAny_pyIter_rangeiter hp.2 q
 next:=λA E s σ i v target Q hh R hg hp hv htup k=>by
  have#[hi,hp]:=hp;have hlt:i<n:=by rw[<- hl];show(av.mp hv).1
  obtain rfl:v=.int (a+c*i):=af (hv.symm.trans (hx i hlt));apply wpAny_pyNext_range_item hp (ba (.il .O (.s .L .P)) .a .U hlt) λh' hp' hs=>?_;have e:a+c*i+c=a+c*((i+1:Nat):Int):=by push_cast;rw[Int.mul_add];(show PC (.ie (.a (.a .A .B) .C) (.a .A (.a .B (.r .C 1)))) .o)
  have e2:(n:Int)-i-1=n-((i+1:Nat):Int):=by(show ow (.ie (.s (.s .L .P) .U) (.s .L (.t .P))) .o)
  rw[e,e2]at hp';show yq hp' rfl (by decide) (k _ _ (mK hs .rfl) λ_=>#[.int _ _,hlt,hp'])
 stop:=λA E s σ i Q hh R hg hp hv k=>by
  have#[hi,hp]:=hp;have hge:n<=i:=by rw[<- hl];show gH.mp hv
  show wpAny_pyNext_range_end hh hp (ba (.ik (.s .L .P) .O) .a .A hge) λh' he=>k _ (lO he (.head _) .rfl)
def CX {a b c:Int}(ha:a.natAbs<2^40)(hb:b.natAbs<2^40)(I:0<c)(J:c<2^40):Builtin.Range.small a b c=true:=by
 have z:0<=Builtin.Range.rangeSize a b c/\Builtin.Range.rangeSize a b c<=2^42:=by
  unfold Builtin.Range.rangeSize;rw[cn I];split
  ·rename_i h;have h0:0<=b-a-1:=by(show tq (.ik .O (.s (.s .A .B) .U)) .a .b6 h)
   have h1:=Int.ediv_nonneg h0 (Int.le_of_lt I);have h2:=Int.ediv_le_self c h0;generalize (b-a-1)/c=X at h1 h2 ⊢;omega
  ·(show#[(zv (.ik .O .O) .h),(zv (.ik .O (.n (2^42))) .h)])
 unfold Builtin.Range.small Builtin.Range.rangeFitsLong;rw[cn I];simp only[fp,xi,gS];apply#[#[#[#[by show#[((Ar.nab _).elim (λW=>(mu .a9 .a .a8 W.1)) λW=>(dD .a9 .d .a0 .b7 ha W.2)),((Ar.nab _).elim (λW=>(dD .aU .d .a0 .bP ha W.2)) λW=>(mu .aU .a .bI W.1))],by show#[((Ar.nab _).elim (λW=>(mu .a9 .a .a8 W.1)) λW=>(dD .a9 .d .a0 .b7 hb W.2)),((Ar.nab _).elim (λW=>(dD .aU .d .a0 .bP hb W.2)) λW=>(mu .aU .a .bI W.1))]],by show#[(mu .a9 .a .c6 I),(mu .aU .a (.il .A (.n (2^40))) J)]],by show#[(mu .a9 .a .a8 z.1),(mu .aU .a (.ik .A (.n (2^42))) z.2)]],.inr (#[((Ar.nab _).elim (λW=>(nT (.ik (.g .M) .R) .b (.il .O .B) .a8 I W.1)) λW=>(KR (.ik (.g .M) .R) .p .a0 (.il .O .B) .b7 hb I W.2)),((Ar.nab _).elim (λW=>(KR (.il .R .M) .p .a0 (.il .B (.n (2^40))) .bP hb J W.2)) λW=>(nT (.il .R .M) .b (.il .B (.n (2^40))) .bI J W.1))])]
section
variable {G:Stc}{C:Cal}{sc:Scope}{d:Nat}
def xw {s:Shared}{env:Env}{ρ:Fr}{T:String}{es:Exs}{args:List Expr}{P:List V->St->Prop}{Q:QqV}(K:GOk G)(U:noStar args=true)(W:qk G C sc d es args)(O:sc.names.lookup x=some .globalImplicit)(I:jq x=true)(J:G.gl x=some (.type T))(c:Cx G sc d A env ρ σ s)(h:vg C es ρ σ P)
  (k:∀vs σ₁ s₁ ws,P vs σ₁->VRs G s₁.heap vs ws->Rel G σ₁ s₁.heap->Go [] σ s σ₁ s₁->wpAny G.M A (call (.type T) ws) Q E s₁) :
  wpAny G.M A (eval (.Call (.Name x p) args [] pos) env) Q E s:=
 Call_ (nj K c.eo c.R (by rw[c.es];show O) I J (fL (ki U pos env) (qc (ki U pos env) (oM (W c h) k))))
def gX {s:Shared}{env:Env}{ρ:Fr}{id:String}{es:Exs}{args:List Expr}{P:List V->St->Prop}{Q:QqV}(K:GOk G)(J:noStar args=true)(W:qk G C sc d es args)(U:sc.names.lookup x=some .globalImplicit)(I:jq x=true)(O:G.gl x=some (.builtin id))(c:Cx G sc d A env ρ σ s)(h:vg C es ρ σ P)
  (k:∀vs σ₁ s₁ ws,P vs σ₁->VRs G s₁.heap vs ws->Rel G σ₁ s₁.heap->Go [] σ s σ₁ s₁->wpAny G.M A (call (.builtin id) ws) Q E s₁) :
  wpAny G.M A (eval (.Call (.Name x p) args [] pos) env) Q E s:=
 Call_ (nj K c.eo c.R (by rw[c.es];show U) I O (ub J W c h k))
def mL {σ₀:St}{s₀:Shared}{a b c:Int}{t u v:Tok}{xs:List V}{n:Nat}{P:List V->(St->Prop)->St->Prop}{tk:Nat}{dr:Drawn}{s₁:Shared}(R:Rel G σ s₁.heap)(x:Go [] σ₀ s₀ σ s₁)(ha:a.natAbs<2^40)(hb:b.natAbs<2^40)(hc:0<c)(J:c<2^40)
  (O:Builtin.Range.rangeSize a b c=n) (hl:xs.length=n) (B:∀i,i<n->xs[i]?=some (.int (a+c*i))) (q:P xs (λ_=>True) σ) :
  wpAny G.M A (pyIter (.ref s₁.heap.objs.size)) (FP G σ₀ s₀ tupled P) E #[s₁.heap.push {cls:=.type "range",data:=.fields #v[.int a t,.int b u,.int c v]},s₁.gens,dr,tk,s₁.os]:=by
 apply wpAny_pyIter_range (IsRange.new ..) (CX ha hb hc J) ?_;have hk:∀z o,s₁.heap.get? z=some o->((s₁.heap.push {cls:=.type "range",data:=.fields #v[.int a t,.int b u,.int c v]}).push {cls:=.type "range_iterator",data:=.fields #v[rawInt a,rawInt (Builtin.Range.rangeSize a b c),rawInt c]}).get? z=some o:=λz o e=>bw _ (bw _ e);have U:(s₁.heap.push {cls:=.type "range",data:=.fields #v[.int a t,.int b u,.int c v]}).objs.size=s₁.heap.objs.size+1:=jh ..;have W:s₁.heap.get? (s₁.heap.objs.size+1)=none:=sd (nt (.k .A .M) .h);apply#[E8 G (s₁.heap.objs.size+1) a c n xs hl B,σ,by rw[<- U];rfl,λh=>(nomatch h),q,#[bb _,?_],R.keeps hk,x.to (Evo.keeps hk),λz hz=>?_,λz hz dm=>?_]
 ·rw[<- U];have:=fj (s₁.heap.push {cls:=.type "range",data:=.fields #v[.int a t,.int b u,.int c v]}) (o:={cls:=.type "range_iterator",data:=.fields #v[rawInt a,rawInt (Builtin.Range.rangeSize a b c),rawInt c]}) rfl;show IsRangeIter _ _ (a+c*((0:Nat):Int)) ((n:Int)-((0:Nat):Int)) c;rw[show a+c*((0:Nat):Int)=a by simp,show(n:Int)-((0:Nat):Int)=n by simp,<- O];show this
 ·have rfl:=au.mp hz;show x.new W
 ·have I:=au.mp hz;clear hz;have rfl:=I;have#[o,e]:=R.sh dm;rw[W]at e;cases e
def mZ (a b:Int)(n:Nat)(W:n=(b-a).toNat):(te a b).length=n/\∀i,i<n->(te a b)[i]?=some (.int (a+1*i)):=by
 subst W;apply#[by simp[te],λi U=>?_];unfold te;rw[cy,wg U];simp
def IQ {e:Ex}{y:Expr}(K:GOk G)(z:gi G C sc d e y)(U:noStar [y]=true)(J:sc.names.lookup x=some .globalImplicit)(B:jq x=true)(I:G.gl x=some (.type "range")) :
  gQ G C sc d tupled (.rng1 e) (.Call (.Name x p) [y] [] pos):=λA E env ρ σ P s c h=>by
 have O:qk G C sc d %[e|0] [y]:=jv z oq (gr U).1;apply xw (P:=λvs σ=>on1 vs λv=>∃n:Int,v=.int n/\n.natAbs<2^40/\P (te 0 n) (λ_=>True) σ) K U O J B I c h λvs σ₁ s₁ ws q vr r W=>?_;have#[v,rfl,n,rfl,hb,q]:=iL (vs:=vs) q;have#[w,rfl,t,rfl]:=vr.one;have#[g1,g2]:=mZ 0 n _ rfl;show call_range_1 (mL r W (by decide) hb (by decide) (by decide) (by rw[rangeSize_nat]) g1 g2 q)
def IP {e f:Ex}{y z:Expr}(K:GOk G)(he:gi G C sc d e y)(hf:gi G C sc d f z)(W:noStar [y,z]=true)(J:sc.names.lookup x=some .globalImplicit)(B:jq x=true)(I:G.gl x=some (.type "range")) :
  gQ G C sc d tupled (.rng2 e f) (.Call (.Name x p) [y,z] [] pos):=λA E env ρ σ P s c h=>by
 have O:qk G C sc d %[e,f|0] [y,z]:=jv he (jv hf oq (gr (gr W).2).1) (gr W).1;apply xw (P:=λvs σ=>on2 vs λv u=>∃m n:Int,v=.int m/\u=.int n/\m.natAbs<2^40/\n.natAbs<2^40/\P (te m n) (λ_=>True) σ) K W O J B I c h λvs σ₁ s₁ ws q vr r U=>?_;have#[v,u,rfl,m,n,rfl,rfl,ha,hb,q]:=kF (vs:=vs) q;have#[w,w',rfl,#[t,rfl],#[t',rfl]]:=vr.two;have#[g1,g2]:=mZ m n _ rfl;show call_range_2 (mL r U ha hb (by decide) (by decide) (by rw[rangeSize_nat]) g1 g2 q)
def VRs.three {h:Heap}{v u z:V}{ws:List Value}(x:VRs G h [v,u,z] ws):∃w U W,ws=[w,U,W]/\VR G h v w/\VR G h u U/\VR G h z W:=by
 have#[w,us,e,a,r]:=x;have#[U,W,O,b,c]:=VRs.two r;apply#[w,U,W,e.trans (dj (w::·) O),a,b,c]
end
section
variable {G:Stc}
end
abbrev ME (G:Stc)(it t:Addr)(xs:List V):Itr G where
 it:=it
 own:=[it]
 vs:=xs
 Gd:=λ_=>True
 tup:=false
 pos:=λi h=>IsTupIter h it t i/\t≠it/\∃ws n,IsT h t ws.toArray n/\VRs G h xs ws
 keep:=λi h h' zz3 hk hf=>by have#[#[o,ho,r],hne,ws,n,ht,vr]:=zz3;apply#[#[o,hk it (.head _) o ho,r],hne,ws,n,hf t _ (show h.get? t=some {cls:=.type "tuple",dict:=none,data:=.seq ws.toArray n,slots:=#v[]} from ht) (.inl #[show Value.type "tuple" ≠ .type "list" by decide,_,_,rfl]),vr.mono hf]
 obj:=λi h z b hb=>by have#[#[o,ho,hc,hd],_]:=z;have rfl:=au.mp hb;apply#[o,ho,pj hc hd (by decide) (by decide)]
 self:=λA E s i Q hp q=>wpAny_pyIter_tupleiter hp.1 q
 next:=λA E s σ i v target Q hh R hg hp hv htup k=>by
  have#[hp,hne,ws,n,ht,vrs]:=hp;have#[w,hw,vr]:=vrs.get hv;apply next_tuple_item hp #[_,ht,rfl,n,rfl] (by simpa using hw) λh' hp' hs=>?_;have#[o,ho,hc,hd]:=id hp';show yq ho hc (by decide) (k w _ (mK hs .rfl) λhf=>#[vr.mono hf,hp',hne,ws,n,by rw[IsT,hs.2 _ hne];show ht,vrs.mono hf])
 stop:=λA E s σ i Q hh R hg hp hv k=>by
  have#[hp,hne,ws,n,ht,vrs]:=hp;have hlen:=vrs.length;show next_tuple_end hh hp #[_,ht,rfl,n,rfl] (by simpa[<- hlen] using hv) λh' he=>k _ (lO he (.head _) .rfl)
section
variable {G:Stc}{C:Cal}{sc:Scope}{d:Nat}
def MF {tupled:Bool}{e:Ex}{y:Expr}(B:gi G C sc d e y):gQ G C sc d tupled (.seq e) y:=λA E env ρ σ P s c h=>by
 apply rn (B c h) λv σ₁ s₁ w q vr r x=>?_;have W:s₁.heap.get? s₁.heap.objs.size=none:=none_at_size s₁.heap;have U:s.heap.get? s₁.heap.objs.size=none:=x.new W;have O:¬σ₁.dom s₁.heap.objs.size:=λdm=>by have#[o,e]:=r.sh dm;rw[W]at e;cases e
 cases v with
 |L a =>
  have rfl:=vr;have#[xs,e,q]:=q;have#[ws,n,hl,hv]:=r.L _ _ e;have J:=kj (jz hl);apply wpAny_pyIter_list hl.isList ?_;apply#[IL G s₁.heap.objs.size _ J xs,σ₁,rfl,λh=>(nomatch h),q,#[_,fj _ rfl,rfl,rfl],r.push _,x.to (Evo.push _ _ _ _),λz hz=>by have rfl:=au.mp hz;show U,λz hz=>by have rfl:=au.mp hz;show O]
 |T xs =>
  have#[a,ws,n,rfl,g,I]:=vr;have J:=kj (jz g);apply iter_tuple #[_,g,rfl,_,rfl] ?_;apply#[ME G s₁.heap.objs.size _ _,σ₁,rfl,λh=>(nomatch h),q,#[#[_,fj _ rfl,rfl,rfl],J,_,_,g.push _,I.mono λ_ _ e _=>bw _ e],r.push _,x.to (Evo.push _ _ _ _),λz hz=>by have rfl:=au.mp hz;show U,λz hz=>by have rfl:=au.mp hz;show O]
 |_=>show False.elim q
end
abbrev IM (G:Stc)(e it l:Addr)(hle:l≠e)(hli:l≠it)(hei:e≠it)(xs:List V):Itr G where
 it:=e
 own:=[e,it]
 vs:=xs.zipIdx.map λp=>V.T [.int p.2,p.1]
 Gd:=λτ=>τ.L l=some xs
 tup:=true
 pos:=λi h=>(∃old,IsEnum h e it i old)/\h.IsListIter it l i
 keep:=λi h h' zz3 hk _=>by have#[#[old,he],#[o,ho,r]]:=zz3;apply#[#[old,hk e (.head _) _ he],#[o,hk it (.tail _ (.head _)) o ho,r]]
 obj:=λi h z b hb=>by
  have#[#[old,he],#[o,ho,hc,hd]]:=z;rcases cw.mp hb with rfl|hb
  ·apply#[_,he,pj rfl rfl (by decide) (by decide)]
  ·have rfl:=au.mp hb;apply#[o,ho,pj hc hd (by decide) (by decide)]
 self:=λA E s i Q hp q=>by have#[#[old,he],_]:=hp;show wpAny_pyIter_enum he q
 next:=λA E s σ i v target Q hh R hg hp hv htup k=>by
  have#[#[old,he],hit]:=hp;have#[ws,n,hl,hvs]:=R.L l xs hg;rw[cy,List.getElem?_zipIdx]at hv;cases hxi:xs[i]? with
  |none=>rw[hxi]at hv;cases hv
  |some u =>
   rw[hxi]at hv;simp only[Option.map_some,gx,ky]at hv;subst hv;have#[w,hw,vr]:=hvs.get hxi;have#[es,kk,p,rfl]:=htup rfl;apply wpAny_pyNext_enum_item he hit hl.isList (by simpa using hw) hei λh' heo hit' htp hz hk=>?_;apply wpAny_letOwnedTupleGo_enum heo λh₂ he₂ hs₂=>?_;have old':∀b o,b∉[e,it]->s.heap.get? b=some o->h₂.get? b=some o:=λb o hb eb=>by
    have hbe:b≠e:=λq=>hb (q▸.head _);rw[hs₂.2 b hbe];show hk b o hbe (λq=>hb (q▸.tail _ (.head _))) eb
   have hne:s.heap.objs.size≠e:=λq=>kg e (Nat.lt_of_lt_of_eq (jz he) q);have htp2:IsT h₂ s.heap.objs.size [Value.int i s.toks,w].toArray 0:=by
    show h₂.get? _=_;rw[hs₂.2 _ hne];show htp
   have#[o,ho,r]:=hit';show k _ _ #[old',.rfl] λhf=>#[.T htp2 %[.int _ _,vr.mono hf|0],#[_,by exact_mod_cast he₂],o,by rw[hs₂.2 _ hei.symm];show ho,r]
 stop:=λA E s σ i Q hh R hg hp hv k=>by
  have#[#[old,he],hit]:=hp;have#[ws,n,hl,hvs]:=R.L l xs hg;have hlen:=hvs.length;have hx:xs[i]?=none:=by
   rw[cy,List.getElem?_zipIdx]at hv;cases hxi:xs[i]? with
   |none=>rfl
   |some u=>rw[hxi]at hv;cases hv
  show wpAny_pyNext_enum_end hh he hit hl.isList (by simpa[<- hlen] using hx) λh' hx'=>k _ (lO hx' (.tail _ (.head _)) .rfl)
section
variable {G:Stc}{C:Cal}{sc:Scope}{d:Nat}
def IS {e:Ex}{x:Str}{y:Expr}{p pos:Pos}(K:GOk G)(he:gi G C sc d e y)(O:noStar [y]=true)(hx:sc.names.lookup x=some .globalImplicit)(hn:jq x=true)(hv:G.gl x=some (.type "enumerate")) :
  gQ G C sc d true (.enum e) (.Call (.Name x p) [y] [] pos):=λA E env ρ σ P s c h=>by
 have I:qk G C sc d %[e|0] [y]:=jv he oq (gr O).1;apply xw (P:=λvs σ=>on1 vs λv=>∃(a:Addr) (xs:List V),v=.L a/\σ.L a=some xs/\P (xs.zipIdx.map λp:V×Nat=>V.T [.int p.2,p.1]) (λτ=>τ.L a=some xs) σ) K O I hx hn hv c h λvs σ₁ s₁ ws q vr r W=>?_;have#[v,rfl,a,xs,rfl,e1,q]:=iL (vs:=vs) q;have#[w,rfl,rfl]:=vr.one;have#[us,n,hl,ag]:=r.L _ _ e1;have J:=jz hl;apply call_enumerate_list hl.isList λh' B hI hz hk=>?_;apply wpAny_pyIter_enum B ?_;have fresh:∀z,s₁.heap.objs.size<=z->s₁.heap.get? z=none:=λz hz=>sd hz;apply#[IM G (s₁.heap.objs.size+1) s₁.heap.objs.size a (kj (Nat.lt_succ_of_lt J)) (kj J) (Nat.succ_ne_self _) xs,σ₁,rfl,λ_=>rfl,q,#[#[_,B],hI],r.keeps hk,W.to (Evo.keeps hk),λz hz=>?_,λz hz dm=>?_]
 ·have U:s₁.heap.objs.size<=z:=by
   rcases cw.mp hz with rfl|hz
   ·(show nt (.k .A .M) .h)
   ·have rfl:=au.mp hz;(show nt (.k .A .A) .h)
  show W.new (fresh z U)
 ·have U:s₁.heap.objs.size<=z:=by
   rcases cw.mp hz with rfl|hz
   ·(show nt (.k .A .M) .h)
   ·have rfl:=au.mp hz;(show nt (.k .A .A) .h)
  have#[o,e]:=r.sh dm;rw[fresh z U]at e;cases e
end
variable {α:Type}{x:Str}
def ix:∀(names:List (Str×NameKind)) (n:Nat) (acc:List (Str×Addr)),cellsFrom n names acc=cellsFrom n names []++acc
 | []=>λ_ _=>by simp[cellsFrom]
 |(x,k)::r=>λn acc=>by
  unfold cellsFrom;split
  ·rw[ix r (n+1) ((x,n)::acc),ix r (n+1) [(x,n)]];simp
  ·show ix r n acc
def zu:∀(names:List (Str×NameKind)) (n:Nat) (x:Str) (c:Addr),(x,c)∈cellsFrom n names []->(x,NameKind.cell)∈names
 | []=>λ_ _ _ h=>by simp[cellsFrom]at h
 |(y,k)::r=>λn x c h=>by
  unfold cellsFrom at h;split at h
  ·rename_i hk;rw[ix]at h;rcases cq.mp h with h|h
   ·show .tail _ (zu r _ x c h)
   ·have#[rfl,rfl]:=pg (au.mp h);rw[fy]at hk;subst hk;show .head _
  ·show .tail _ (zu r _ x c h)
def wj:∀(names:List (Str×NameKind)) (n:Nat) (x:Str),(x,NameKind.cell)∈names->∃c,(x,c)∈cellsFrom n names []
 | []=>λ_ _ h=>by cases h
 |(y,k)::r=>λn x h=>by
  unfold cellsFrom;split
  ·rw[ix];rcases cw.mp h with e|h
   ·have#[rfl,_]:=pg e;apply#[n,dt _ (.head _)]
   ·have#[c,W]:=wj r (n+1) x h;apply#[c,dk _ W]
  ·rename_i hk;rcases cw.mp h with e|h
   ·have#[_,rfl]:=pg e;simp at hk
   ·show wj r n x h
def uo {l:List (Str×α)}{c:α}(h:(x,c)∈l):∃W,l.lookup x=some W:=by
 cases hq:l.lookup x with
 |some W=>refine#[W,rfl]
 |none=>rw[ru]at hq;have:=hq _ h;simp at this
def yo {l r:List (Str×α)}{c:α}(h:l.lookup x=some c):(l++r).lookup x=some c:=by
 rw[List.lookup_append,h];rfl
def gF {l r:List (Str×α)}(h:l.lookup x=none):(l++r).lookup x=r.lookup x:=by
 rw[List.lookup_append,h];rfl
def uI {names:List (Str×NameKind)}(nd:(names.map (·.1)).Nodup){k k':NameKind}(h:(x,k)∈names)(h':(x,k')∈names):k=k':=by
 have#[i,hi,e]:=fu.mp h;have#[j,O,J]:=fu.mp h';have U:names[i]?=some (x,k):=by rw[aq hi,e]
 have W:names[j]?=some (x,k'):=by rw[aq O,J]
 have:=iM nd U W;subst this;rw[U]at W;cases W;rfl
structure FU (G:Stc)(σ:St)(h:Heap)(names:List (Str×NameKind))(cl:List (Str×Addr))(ρf:Fr):Prop where
 free:∀(i:Nat) (x:Str),names[i]?=some (x,.free)->∃c w,cl.lookup x=some c/\h.IsCell c w/\OV G h (ρf i) w/\¬σ.dom c/\(G.cap x=false->G.hb.get? c=none)
 inj:∀(i j:Nat) (x y:Str) (c:Addr),names[i]?=some (x,.free)->names[j]?=some (y,.free)->cl.lookup x=some c->cl.lookup y=some c->i=j
 all:∀p∈cl,∃o,h.get? p.2=some o
 other:∀(i:Nat) (x:Str) (k:NameKind),names[i]?=some (x,k)->k≠.free->ρf i=none
def n9 {G:Stc}{σ:St}{h:Heap}{names:List (Str×NameKind)}{cl:List (Str×Addr)}{ρf:Fr}{env:Env}{T:String}(R:Rel G σ h)(nd:(names.map (·.1)).Nodup)(K:FU G σ h names cl ρf)
  (hl:env.locals=h.objs.size) (hc:env.cells=cellsFrom (h.objs.size+1) names cl) (hk:∀(i:Nat) (x:Str) (k':NameKind),env.scope.names[i]?=some (x,k')->∃k,names[i]?=some (x,k)/\(k'=k\/(k=.free/\k'=.cell))) :
  FR G σ env ρf (pushCells (h.push {cls:=.type T,data:=.dict #v[]}) names)/\(∀b o,h.get? b=some o->(pushCells (h.push {cls:=.type T,data:=.dict #v[]}) names).get? b=some o):=by
 have keep:∀b o,h.get? b=some o->(pushCells (h.push {cls:=.type T,data:=.dict #v[]}) names).get? b=some o:=λb o e=>pushCells_keeps _ _ b o (bw _ e);have frz:kf h (pushCells (h.push {cls:=.type T,data:=.dict #v[]}) names):=λb o e _=>keep b o e;have ok:=cellsFrom_ok names (h.push {cls:=.type T,data:=.dict #v[]}) (h.objs.size+1) [] #[λ_ _ hm=>(nomatch hm),List.Pairwise.nil] (by rw[jh];show az _);rw[jh]at ok;have O:∀c,h.objs.size<=c->¬σ.dom c:=λc hc d=>by have#[o,e]:=R.sh d;show absurd (jz e) (tg.mpr hc)
 have U:∀c,h.objs.size<=c->G.hb.get? c=none:=λc hc=>by
  cases hq:G.hb.get? c with
  |none=>rfl
  |some o=>show absurd (jz (R.base c o hq)) (tg.mpr hc)
 have J:(pushCells (h.push {cls:=.type T,data:=.dict #v[]}) names).get? h.objs.size=some {cls:=.type T,data:=.dict #v[]}:=pushCells_keeps _ _ _ _ (fj _ rfl);have cellAt:∀(i:Nat) (x:Str),names[i]?=some (x,.cell)->∃c,env.cells.lookup x=some c/\(x,c)∈cellsFrom (h.objs.size+1) names []:=λi x e=>by
  have#[c,hm]:=wj names (h.objs.size+1) x (fe e);have#[c',ag]:=uo hm;apply#[c',by rw[hc,ix];show yo ag,mem_of_lookup ag]
 have W:∀(i:Nat) (x:Str),names[i]?=some (x,.free)->env.cells.lookup x=cl.lookup x:=λi x e=>by
  rw[hc,ix];apply gF ?_;cases hq:(cellsFrom (h.objs.size+1) names []).lookup x with
  |none=>rfl
  |some c=>have:=uI nd (zu _ _ _ _ (mem_of_lookup hq)) (fe e);cases this
 apply#[#[#[_,by rewrite [hl];show(Heap.Ns.new h (.type T)).keeps (pushCells_keeps _ _),λi x e=>?_],λi x k' e bc=>?_,λi j x y k k' c ei ej ax ar lx ly=>?_,by rw[hl];show O _ (az _),λo e=>?_,by rw[hl];show U _ (az _),λp hp=>?_],keep]
 ·have#[k,e',B]:=hk i x _ e;have:ρf i=none:=K.other i x k e' (by rcases B with h|⟨_,h⟩;show h▸(by decide);cases h);rw[this];trivial
 ·have#[k,e',B]:=hk i x _ e;have z:k=.cell\/k=.free:=by rcases B with h|⟨h,_⟩;show h▸bc;show .inr h
  rcases z with rfl|rfl
  ·have#[c,ao,hm]:=cellAt i x e';have I:=ok.empty x c hm;apply#[c,none,ao,I.1,by rewrite [K.other i x _ e' (by decide)];trivial,O c (Nat.le_of_succ_le I.2),by rewrite [hl];show Nat.ne_of_gt (Nat.lt_of_succ_le I.2),λ_=>U c (Nat.le_of_succ_le I.2)]
  ·have#[c,w,h1,h2,h3,h4,h5]:=K.free i x e';apply#[c,w,by rw[W i x e'];show h1,h2.keeps keep,h3.mono frz,h4,?_,h5];rw[hl];show kj h2.lt
 ·have#[k1,e1,ay]:=hk i x _ ei;have#[k2,e2,z]:=hk j y _ ej;have aj:k1=.cell\/k1=.free:=by rcases ay with h|⟨h,_⟩;show h▸ax;show .inr h
  have ai:k2=.cell\/k2=.free:=by rcases z with h|⟨h,_⟩;show h▸ar;show .inr h
  have low:∀(i:Nat) (x:Str) (c:Addr),names[i]?=some (x,.free)->env.cells.lookup x=some c->c<h.objs.size:=λi x c e l=>by
   have#[c',w,h1,h2,_]:=K.free i x e;rw[W i x e,h1]at l;cases (l);show h2.lt
  have high:∀(i:Nat) (x:Str) (c:Addr),names[i]?=some (x,.cell)->env.cells.lookup x=some c->h.objs.size<c/\(x,c)∈cellsFrom (h.objs.size+1) names []:=λi x c e l=>by
   have#[c',h1,h2]:=cellAt i x e;rw[h1]at l;cases (l);apply#[(ok.empty x c h2).2,h2]
  rcases aj with rfl|rfl<;>rcases ai with rfl|rfl
  ·have#[_,m1]:=high i x c e1 lx;have#[_,m2]:=high j y c e2 ly;have:=name_of_addr ok.apart m1 m2;subst this;show iM nd e1 e2
  ·have:=(high i x c e1 lx).1;have:=low j y c e2 ly;show absurd ‹c<h.objs.size› (tg.mpr (nv ‹h.objs.size<c›))
  ·have:=(high j y c e2 ly).1;have:=low i x c e1 lx;show absurd ‹c<h.objs.size› (tg.mpr (nv ‹h.objs.size<c›))
  ·show K.inj i j x y c e1 e2 (by rw[<- W i x e1];show lx) (by rw[<- W j y e2];show ly)
 ·rw[hl,J]at e;cases e;show ur rfl
 ·rw[hc,ix]at hp;rcases cq.mp hp with hp|hp
  ·have#[#[o,ho,_],_]:=ok.empty p.1 p.2 hp;apply#[o,ho]
  ·have#[o,ho]:=K.all p hp;apply#[o,keep _ _ ho]
section
variable {G:Stc}{A:Around}{E:QqV}
def qD {env:Env}{σ:St}{X:List Addr}(eo:dH env)(I:env.locals∈X)(hN:∀(i:Nat) x c,env.scope.names[i]?=some (x,.cell)->env.cells.lookup x=some c->c∈X/\G.hb.get? c=none)(f:Str×Value->PUnit->Sem (ForInStep PUnit))(hf:∀n v u,f (n,v) u=(do storeName env n v;pure (.yield #[]))) :
  ∀(j:Nat) (ns:List Str) (vs:List V) (ws:List Value) (ρ:Fr) (s:Shared) (Q:PUnit->Shared->Prop),ns.length=ws.length->(∀(i:Nat) (x:Str),ns[i]?=some x->∃k,env.scope.names[j+i]?=some (x,k)/\pO k=true) ->
   FR G σ env ρ s.heap->Rel G σ s.heap->VRs G s.heap vs ws ->
   (∀s' ρ',(∀i,ρ' i=if i<j then ρ i else if i<j+vs.length then vs[i-j]? else ρ i)->FR G σ env ρ' s'.heap->Rel G σ s'.heap->Go X σ s σ s'->Q #[] s') ->
   wpAny G.M A (forIn (ns.zip ws) #[] f) Q E s
 |j,[],vs,ws,ρ,s,Q,hl,z,F,R,vr,q=>by
  cases ws with
  |cons _ _=>simp at hl
  |nil =>
   cases vs with
   |cons _ _=>have#[_,_,e,_]:=vr;cases e
   |nil =>
    rw[List.zip_nil_left,pq];apply ae (q s ρ (λi=>?_) F R .refl);by_cases h:i<j
    ·simp[h]
    ·simp[h]
 |j,x::ns,vs,ws,ρ,s,Q,hl,z,F,R,vr,q=>by
  cases vs with
  |nil=>have rfl:=vr;cases hl
  |cons v vs =>
   have#[w,ws,rfl,va,vr]:=vr;rw[List.zip_cons_cons,qi,hf];have#[k,hi,hk]:=z 0 x rfl;apply ab (ab (gV eo F R hi hk (λc hc e=>(hN _ _ c (e▸hi) hc).2) va I (λc hc e=>(hN _ _ c (e▸hi) hc).1) λs' F' R' x'=>ae ?_));apply qD eo I hN f hf (j+1) ns vs ws _ s' Q (by simpa using hl) (λi y e=>?_) F' R' (vr.mono x'.frz) λs2 ρ' J F2 R2 x2=>?_
   ·have#[k,hi,hk]:=z (i+1) y (by simpa using e);apply#[k,by rw[show j+1+i=j+(i+1) by(show ow (.e .a2 .a7) .o)];show hi,hk]
   ·apply q s2 ρ' (λi=>?_) F2 R2 (x'.trans x2);rw[J i];simp only[ir,Nat.add_zero];by_cases W:i<j
    ·rw[cn (ba .aM .a .B W),cn W,er (ba (.u .A .B) .w .B W)]
    ·rw[br W];by_cases h2:i=j
     ·clear q z J;subst h2;rw[cn (nt (.l .A .M) .h),cn (ow (.l .A .a7) .h),cm];simp
     ·rw[br ((ah h2).elim (λO=>(iq (.g .A .P) .c .b2 .B W O)) λO=>(ba (.g .A .P) .a .U O))];by_cases h3:i<j+1+vs.length
      ·rw[cn h3,cn (gu (.l .A .aQ) .a (.l .A (.a .P .C)) h3),show i-j=(i-(j+1))+1 by(show Ar.sub _ _ (λO p1=>(gh .a3 .s .c8 (.e .aQ .D) (aa (ba .A .a .aZ W)) p1)) λO p1=>((ah h2).elim (λq2=>(zg .a3 [[0,1,0,0,1],[1,0,1,1,0]] .bX .bL (.k .C .Z) .R W (aa (ba .A .a .aZ W)) O q2)) λq2=>(zg .a3 [[1,-1,0,1,1],[1,1,1,0,0]] .c8 (.k .D .S) .aN .R (aa (ba .A .a .aZ W)) O p1 q2)))];simp
      ·rw[br h3,br (gu (.g .A .aQ) .a (.g .A (.a .P .C)) h3),er h2]
end
variable {d n:Nat}{a:Addr}{vs dflt:List V}{ws:List Value}{sc:Scope}{body:List Stmt}{Q:V->St->Prop}{C:Cal}
abbrev tn:List Str->List (Str×NameKind)->Bool
 | [],_=>true
 |x::xs,(y,k)::r=>x==y&&pO k&&tn xs r
 |_::_,[]=>false
def kG:∀{xs:List Str} {r:List (Str×NameKind)},tn xs r=true->∀(i:Nat) (x:Str),xs[i]?=some x->∃k,r[i]?=some (x,k)/\pO k=true
 | [],_,_,i,x,e=>by simp at e
 |_::_,[],h,_,_,_=>Bool.noConfusion (show false=true from h)
 |x::xs,(y,k)::r,h,0,z,e=>by
  dsimp only[tn]at h;simp only[fp,fy]at h;simp at e;subst e;apply#[k,by simp[h.1.1],h.1.2]
 |x::xs,(y,k)::r,h,i+1,z,e=>by
  dsimp only[tn]at h;simp only[fp]at h;simpa using kG h.2 i z (by simpa using e)
structure FnAt (G:Stc)(a:Addr)(n:Nat)(dflt:List V)(sc:Scope)(body:List Stmt):Prop where
 lim:G.hb.NoLimit
 kind:sc.kind=.function
 co:sc.isCoroutine=false
 gen:sc.isGenerator=false
 nd:(sc.names.map (·.1)).Nodup
 rJ:∀(i:Nat) (x:Str),sc.names[i]?≠some (x,.free)
 here:∃o fd,G.hb.get? a=some o/\o.data=.func fd/\fd.scope=sc/\fd.body=.stmts body/\fd.closure=[]/\fd.globals=mainGlobals/\fd.builtins=builtinsNs/\G.hb.CodeRec fd.code fd.qualname /\
  cY fd.params=true/\tn (fd.params.args.map (·.arg)) sc.names=true/\fd.params.args.length=n /\
  ((fd.defaults=.none/\dflt=[])\/∃t ot ds m,fd.defaults=.ref t/\G.hb.get? t=some ot/\ot.data=.seq (ds.toArray) m/\VRs G G.hb dflt ds)/\dflt.length<=n
section
variable {G:Stc}{A:Around}{E:QqV}{s:Shared}{σ:St}
def AOk.deep (h:AOk A (d+1))(env:Env):AOk (A.deeper env) d:=
 #[h.handled,by have:=h.depth;show A.depth+1+3*d+20<_;(show gu (.l (.a (.a .M (.m 3 .B)) (.n 20)) .C) .a .bN this),by have:=h.units;show A.units+3+30*d+300<_;(show gu (.l (.a (.a (.a .A (.n 3)) (.m 30 .B)) .aX) .C) .a (.l (.a (.a .A (.m 30 .P)) .aX) .C) this)]
def nL {fd:FuncData}{run:Env->Code}{cl:List (Str×Addr)}{ρf ρ':Fr}{dv:List V}{ds:List Value}{R':Result->Shared->Prop}{o:Obj}(ho:G.hb.get? a=some o)(hd:o.data=.func fd)
  (lim:G.hb.NoLimit) (kind:fd.scope.kind=.function) (nd:(fd.scope.names.map (·.1)).Nodup) (bg:fd.closure=cl) (ch:fd.globals=mainGlobals) (cx:fd.builtins=builtinsNs) (cb:cY fd.params=true) (ai:tn (fd.params.args.map (·.arg)) fd.scope.names=true) (hn:fd.params.args.length=n)
  (ck:∀(A:Around) (E:QqV) (Q:Option (Array Value)->Shared->Prop),(∀o,(o.getD #v[]).toList=ds->Q o s)->wpAny G.M A (seqItems? fd.defaults) Q E s) (bc:VRs G s.heap dv ds) (ct:dv.length<=n)
  (bd:(wpAny G.M A.in1 (bindArgs fd #[ws,[]]) (λao s₁ =>
   wpAny G.M A.in1 (newFunctionEnv fd.scope fd.globals fd.closure ao (fd.qualname ++ ".<locals>.") (some a) fd.code none fd.builtins)
    (λenv s₂=>s₂.heap.NoLimit/\codeAny G.M A (run env) R' s₂) (λe s'=>R' (.error e) s') s₁) (λe s'=>R' (.error e) s') s)->codeAny G.M A (.call (.ref a) #[ws,[]]) R' s)
  (clo:FU G σ s.heap fd.scope.names cl ρf) (R:Rel G σ s.heap) (vr:VRs G s.heap vs ws) (h1:vs.length<=n) (h2:n<=vs.length+dv.length)
  (ca:∀i,ρ' i=if i<n then (vs++dv.drop (dv.length-(n-vs.length)))[i]? else ρf i)
  (hb:∀env s' X,env.scope=fd.scope->env.code=fd.code->dH env->FR G σ env ρ' s'.heap->Rel G σ s'.heap->Go X σ s σ s'->(∀z∈X,s.heap.get? z=none)->(∀z∈X,z∈envX env)->(∀z∈envX env,z∈X\/∃p∈cl,p.2=z)->codeAny G.M A (run env) R' s'):codeAny G.M A (.call (.ref a) #[ws,[]]) R' s:=by
 have W:=vr.length;have U:=bc.length;have cd:(fd.params.args.map (·.arg)).Nodup:=by
  have hp:∀{xs:List Str} {r:List (Str×NameKind)},tn xs r=true->∃ys,r.map (·.1)=xs++ys:=by
   intro xs;induction xs with
   |nil=>intro r _;apply#[_,rfl]
   |cons x xs ih =>
    intro r h;cases r with
    |nil=>show Bool.noConfusion (show false=true from h)
    |cons p r =>
     dsimp only[tn]at h;simp only[fp,fy]at h;have#[ys,e]:=ih h.2;apply#[ys,by simp[e,h.1.1]]
  have#[ys,e]:=hp ai;rw[e]at nd;show(List.nodup_append.mp nd).1
 apply bd ?_;apply xI (ds:=ds) cb (ck _ _) cd (by rw[hn,<- W];show h1) (by rw[hn,<- W,<- U];show h2) (by rw[hn,<- U];show ct) ?_;rw[hn,bg,ch,cx];simp only[newFunctionEnv,xr,gp,md];apply ab (wpAny_alloc ?_);apply ab (wpAny_layCells _ (λname kind cells=>by cases hkc:kind==NameKind.cell<;>simp[hkc]) _ _ _ _ ?_);rw[show({s with heap:=s.heap.push {cls:=.type "frame",data:=.dict #v[]}}:Shared).heap.objs.size=s.heap.objs.size+1 from jh ..];have#[bu,ag]:=n9 (T:="frame") (env:=newEnv fd.scope s.heap.objs.size mainGlobals (cellsFrom (s.heap.objs.size+1) fd.scope.names cl) (fd.qualname ++ ".<locals>.") (some a) fd.code none builtinsNs) R nd clo rfl rfl λi x k' e=>#[k',e,.inl rfl];have eo:dH (newEnv fd.scope s.heap.objs.size mainGlobals (cellsFrom (s.heap.objs.size+1) fd.scope.names cl) (fd.qualname ++ ".<locals>.") (some a) fd.code none builtinsNs):=#[kind,nd,rfl,rfl];have ar:Go [] σ s σ {s with heap:=pushCells (s.heap.push {cls:=.type "frame",data:=.dict #v[]}) fd.scope.names}:=Go.refl.to (Evo.keeps ag);have bl:VRs G s.heap (vs++dv.drop (dv.length-(n-vs.length))) (ws++ds.drop (ds.length-(n-ws.length))):=by
  rw[<- U,<- W];show vr.append (bc.drop _)
 have ok:=cellsFrom_ok fd.scope.names (s.heap.push {cls:=.type "frame",data:=.dict #v[]}) (s.heap.objs.size+1) [] #[λ_ _ hm=>(nomatch hm),List.Pairwise.nil] (by rw[jh];show az _);rw[jh]at ok;have hX:∀z∈s.heap.objs.size::(cellsFrom (s.heap.objs.size+1) fd.scope.names []).map (·.2),s.heap.get? z=none:=λz hz=>by
  rcases cw.mp hz with rfl|hz
  ·show none_at_size _
  ·have#[p,hp,rfl]:=eg.mp hz;show sd (Nat.le_of_succ_le (ok.empty p.1 p.2 hp).2)
 have hN:∀(i:Nat) x c,fd.scope.names[i]?=some (x,.cell)->(cellsFrom (s.heap.objs.size+1) fd.scope.names cl).lookup x=some c->c∈s.heap.objs.size::(cellsFrom (s.heap.objs.size+1) fd.scope.names []).map (·.2)/\G.hb.get? c=none:=λi x c e hc=>by
  have hm:c∈s.heap.objs.size::(cellsFrom (s.heap.objs.size+1) fd.scope.names []).map (·.2):=by
   have#[c1,hm]:=wj fd.scope.names (s.heap.objs.size+1) x (fe e);have#[c',be]:=uo hm;rw[ix,yo be]at hc;cases hc;show .tail _ (eg.mpr #[_,mem_of_lookup be,rfl])
  apply#[hm,?_];cases hq:G.hb.get? c with
  |none=>rfl
  |some o=>have:=R.base c o hq;rw[hX c hm]at this;cases this
 have aj:s.heap.objs.size∈s.heap.objs.size::(cellsFrom (s.heap.objs.size+1) fd.scope.names []).map (·.2):=.head _;have bn:∀p∈cellsFrom (s.heap.objs.size+1) fd.scope.names [],p.2∈s.heap.objs.size::(cellsFrom (s.heap.objs.size+1) fd.scope.names []).map (·.2):=λp hp=>.tail _ (eg.mpr #[p,hp,rfl]);have bt:∀z∈s.heap.objs.size::(cellsFrom (s.heap.objs.size+1) fd.scope.names []).map (·.2),z∈s.heap.objs.size::(cellsFrom (s.heap.objs.size+1) fd.scope.names cl).map (·.2):=λz hz=>by
  rcases cw.mp hz with rfl|hz
  ·show .head _
  ·have#[p,hp,rfl]:=eg.mp hz;show .tail _ (eg.mpr #[p,by rw[ix];show dk _ hp,rfl])
 generalize s.heap.objs.size::(cellsFrom (s.heap.objs.size+1) fd.scope.names []).map (·.2)=X at hX hN aj bn bt;apply ab (qD (X:=X) eo aj hN _ (λ_ _ _=>rfl) 0 (fd.params.args.map (·.arg)) (vs++dv.drop (dv.length-(n-vs.length))) _ ρf {s with heap:=pushCells (s.heap.push {cls:=.type "frame",data:=.dict #v[]}) fd.scope.names} _ ?_ (λi x e=>?_) bu (R.keeps ag) (bl.mono λb o e _=>ag b o e) λs' bv ax F' R' x'=>?_)
 ·rw[ak,aw,gz,hn];(show Ar.sub _ _ (λq1 p1=>(Ar.sub _ _ (λq2 p2=>(Ar.sub _ _ (λq3 p3=>(eM .aY [[1,1,-1,1],[1,-1,1,-1]] .b3 .c3 (.e (.a .G .B) .A) p1 p2 p3)) λq3 p3=>(OW .aY [[1,1,-1,1,-1,0,1],[1,0,0,0,0,1,0]] (.k .D .A) .c9 (.e .aU .G) (.e (.a .F .H) .G) .A (.e .H .O) h1 W p1 p2 q3 p3))) λq2 p2=>(Ar.sub _ _ (λq3 p3=>(QK .aY [[1,0,0,0,1,1,0,1],[1,1,1,1,-1,0,1,0]] (.k .A .Y) .c9 (.e .F .G) (.e (.a .C .H) .G) (.k .G .I) (.e .H .O) (.e (.a .I .B) .A) h2 W U p1 q2 p2 p3)) λq3 p3=>(QH .aY [[1,1,0,-1,0,1,1,0,1],[1,0,1,1,1,-1,0,1,0]] (.k .D .A) (.k .A .Y) .c9 (.e .F .G) (.e (.a .C .H) .G) (.k .G .I) (.e .H .O) (.e .I .O) h1 h2 W U p1 q2 p2 p3)))) λq1 p1=>(Ar.sub _ _ (λq2 p2=>(Ar.sub _ _ (λq3 p3=>(OW .aY [[1,1,-1,0,1,0,0],[1,0,0,1,0,1,-1]] (.k .D .A) .c9 (.k .F .G) .bB (.e .aC .F) (.e (.a .H .B) .A) h1 W q1 p1 p2 p3)) λq3 p3=>(zg .aY [[1,1,-1,1,0],[1,0,0,0,1]] (.k .D .A) .c9 .bB .A h1 W p1 q3))) λq2 p2=>(QL .aY [[1,1,0,-1,0,0,1,0],[1,0,1,1,1,1,0,1]] (.k .D .A) (.k .A .Y) .c9 (.e .F .G) (.k .G .H) .bB (.e .H .O) h1 h2 W U q1 p1 p2)))
 ·rw[ky];show kG ai i x e
 ·apply ae #[lim.keeps R'.base,?_];have ay:bv=ρ':=by
   funext i
   rw[ax i,ca i,aw,gz];simp only[xg,md,ky,Nat.sub_zero];rw[show vs.length+(dv.length-(dv.length-(n-vs.length)))=n by(show Ar.sub _ _ (λq1 p1=>(Ar.sub _ _ (λq2 p2=>(Ar.sub _ _ (λq3 p3=>(eM .a1 .q (.e .aG .F) .c3 .b1 p1 p2 p3)) λq3 p3=>(nR .a1 [[1,0,0,0,1,0],[1,1,1,-1,0,1]] .J (.e .aG .F) .c3 .b0 .cA h1 p1 p2 q3 p3))) λq2 p2=>(Ar.sub _ _ (λq3 p3=>(nR .a1 [[1,1,-1,0,1,0],[1,0,1,1,0,1]] (.k .C .T) .c4 (.k .D .G) .bC .b1 h2 p1 q2 p2 p3)) λq3 p3=>(MX .a1 [[1,0,1,-1,0,1,0],[1,1,0,1,1,0,1]] .J (.k .C .T) .c4 (.k .D .G) .bC .cA h1 h2 p1 q2 p2 p3)))) λq1 p1=>(Ar.sub _ _ (λq2 p2=>(Ar.sub _ _ (λq3 p3=>(nR .a1 [[1,0,1,0,1,-1],[1,1,0,1,0,0]] .J .cK .aN (.e .a5 .D) .b1 h1 q1 p1 p2 p3)) λq3 p3=>(oa .a1 [[1,0,0,1],[1,1,1,0]] .J .aN .b0 h1 p1 q3))) λq2 p2=>(FJ .a1 [[1,0,1,1,0,1],[1,1,0,0,1,0]] .J (.k .C .T) .cK .aN .bC h1 h2 q1 p1 p2)))]
  subst ay;apply hb _ s' X rfl rfl eo F' R' ((ar.more (λ_ h=>nomatch h)).trans x') hX bt λz hz=>?_;rcases cw.mp hz with rfl|hz
  ·show .inl aj
  ·have zz:=eg.mp hz;clear hz;have#[p,hp,rfl]:=zz;have hp:p∈cellsFrom (s.heap.objs.size+1) fd.scope.names cl:=hp;rw[ix]at hp;rcases cq.mp hp with hp|hp
   ·show .inl (bn p hp)
   ·show .inr #[p,hp,rfl]
def EW {b:qa}{Q:QqV}(K:FnAt G a n dflt sc body)
  (hb:∀(A':Around) (E':QqV) (env:Env) (s':Shared),Cx G sc d A' env (frameOf #[n,dflt,b] vs) σ s'->(∀o fd,G.hb.get? a=some o->o.data=.func fd->env.code=fd.code)->Go (envX env) σ s σ s'->(∀z∈envX env,s.heap.get? z=none) ->
   wpAny G.M A' (execs body env) (λf s'=>Q (match f with|.ret v=>v|_=>.none) s') E' s')
  (ao:AOk A (d+1)) (R:Rel G σ s.heap) (vr:VRs G s.heap vs ws)
  (h1:vs.length<=n) (h2:n<=vs.length+dflt.length):codeAny G.M A (.call (.ref a) #[ws,[]]) (wants Q E) s:=by
 have#[o,fd,ho,hd,ar,J,ai,ay,bl,U,ax,ag,hn,be,bd]:=K.here;subst ar;have#[ds,bc,aj]:∃ds,(∀(A:Around) (E:QqV) (Q:Option (Array Value)->Shared->Prop),(∀o,(o.getD #v[]).toList=ds->Q o s)->wpAny G.M A (seqItems? fd.defaults) Q E s)/\VRs G s.heap dflt ds:=by
  rcases be with ⟨e1,e2⟩|⟨t,ot,ds,m,e1,e2,e3,e4⟩
  ·apply#[[],λA E Q q=>?_,by subst e2;show .nil];rw[e1];show wpAny G.M A (do notAStandIn .none;pure none) Q E s;show gc (by rfl) (q none rfl)
  ·apply#[ds,λA E Q q=>?_,e4.mono λb o e _=>R.base b o e];rw[e1];show wpAny G.M A (do match (← load t).data with|.seq xs _=>pure (some xs)|_=>pure none) Q E s;apply ab (zh (R.base _ _ e2) ?_);rw[e3];show ae (q _ (by simp))
 apply nL (run:=λenv=>.func body env) (ρf:=λ_=>none) (ρ':=frameOf #[n,dflt,b] vs) ho hd K.lim K.kind K.nd ai ay bl ax ag hn bc aj bd (λh=>codeAny_call_function (by have:=ao.depth;(show gu .B .a (.l (.a (.a .A (.m 3 .S)) (.n 20)) .B) this)) (R.base _ _ ho) hd K.co K.gen J (U.keeps R.base) h)
  #[λi x e=>absurd e (K.rJ i x),λi j x y c e=>absurd e (K.rJ i x),λp hp=>(nomatch hp),λ_ _ _ _ _=>rfl] R vr h1 h2 (λi=>?_) λenv s' X e1 e2 eo F' R' x' hX bn bg=>?_
 ·split
  ·rfl
  ·unfold frameOf i3;dsimp only;rw[pz];rw[aw,gz];(rename_i z1;show Ar.sub _ _ (λq1 I=>(Ar.sub _ _ (λq2 p2=>(Ar.sub _ _ (λq3 W=>(OY .F .D .bX (.e .a8 .G) (.e (.a .F .H) .G) (.e (.a .H .A) .D) z1 I p2 W)) λq3 W=>(xO .F [[1,1,1,1,-1,1]] .aF .bX (.e .a8 .G) (.e (.a .F .H) .G) (.e .H .O) h1 z1 I p2 W))) λq2 p2=>(Ar.sub _ _ (λq3 W=>(OY .F .k .bX (.e .a8 .G) (.k .G .H) (.e (.a .H .A) .D) z1 I q2 W)) λq3 W=>(xO .F [[1,1,1,1,1,1]] .aF .bX (.e .a8 .G) (.k .G .H) (.e .H .O) h1 z1 I q2 W)))) λq1 I=>(pe .F .e .aF .bX .aN h1 z1 I))
 ·show codeAny_func (hb _ _ env s' #[ao.deep _,e1,eo,F',R'] (λo' bt h1 h2=>by have rfl:=af (ho.symm.trans h1);rw[hd]at h2;cases h2;show e2) (x'.more bn) λz hz=>(bg z hz).elim (hX z) λ⟨_,hp,_⟩=>nomatch hp)
def q9 {b:qa}(K:FnAt G a n dflt sc body)
  (hb:∀(O:Around) (I:QqV) (env:Env) (s':Shared),Cx G sc d O env (frameOf #[n,dflt,b] vs) σ s'->wpAny G.M O (execs body env) (rq G env σ s' (AG Q)) I s')
  (ao:AOk A (d+1)) (R:Rel G σ s.heap) (vr:VRs G s.heap vs ws)
  (h1:vs.length<=n) (h2:n<=vs.length+dflt.length):codeAny G.M A (.call (.ref a) #[ws,[]]) (wants (jx G [] σ s Q) E) s:=by
 apply EW (b:=b) K (λO I env s' c _ x' hX=>?_) ao R vr h1 h2;apply du (hb O I env s' c) (λf s₂ l=>?_) λ_ _ x=>x;have#[fl,J,σ₂,fr,q,B,W,U]:=l;have x3:Go [] σ s σ₂ s₂:=(x'.trans U).less λz hz=>.inr (hX z hz);cases fr with
 |next=>refine#[.none,σ₂,q,.none,W,x3]
 |ret v=>refine#[_,σ₂,q,v,W,x3]
 |brk=>show q.elim
 |cont=>show q.elim
def qC {b:qa}(K:FnAt G a n dflt sc body)
  (hb:∀(W:Around) (I:QqV) (env:Env) (s':Shared),Cx G sc d W env (frameOf #[n,dflt,b] vs) σ s'->wpAny G.M W (execs body env) (rq G env σ s' (AG Q)) I s')
  (J:AOk A (d+1)) (R:Rel G σ s.heap) (vr:VRs G s.heap vs ws)
  (O:vs.length<=n) (U:n<=vs.length+dflt.length):wpAny G.M A (call (.ref a) ws) (jx G [] σ s Q) E s:=su (q9 K hb J R vr O U)
def JL {b:qa}(K:FnAt G a n dflt sc body)(hb:gP G C sc d b body)(O:AOk A (d+1))(R:Rel G σ s.heap)(vr:VRs G s.heap vs ws)
  (U:vs.length<=n) (W:n<=vs.length+dflt.length) (h:gw C b (frameOf #[n,dflt,b] vs) σ (AG Q)):wpAny G.M A (call (.ref a) ws) (jx G [] σ s Q) E s:=
 qC (b:=b) K (λI J env s' c=>hb c h) O R vr U W
abbrev fI (G:Stc)(fa:Nat->Option Addr)(C:Cal)(d:Nat):Prop:=∀(k:Nat) (a:Addr),fa k=some a->(∃o fd,G.hb.get? a=some o/\o.data=.func fd)/\∀{A E vs ws σ Q s},AOk A d->Rel G σ s.heap->VRs G s.heap vs ws ->
 C k vs σ Q->wpAny G.M A (call (.ref a) ws) (jx G [] σ s Q) E s
def eS {env:Env}{ρ:Fr}{f:Addr}{o:Obj}{fd:FuncData}{first:List Value}{es:Exs}{args:List Expr}{pos:Pos}{P:List V->St->Prop}{Q:QqV}(J:G.hb.get? f=some o)(W:o.data=.func fd)(O:noStar args=true)(U:qk G C sc d es args)
  (c:Cx G sc d A env ρ σ s) (h:vg C es ρ σ P)
  (k:∀vs σ₁ s₁ ws,P vs σ₁->VRs G s₁.heap vs ws->Rel G σ₁ s₁.heap->Go [] σ s σ₁ s₁->wpAny G.M A (call (.ref f) (first++ws)) Q E s₁) :
  wpAny G.M A (callWith pos (.ref f) first (backTo pos (starEach args env)) []) Q E s:=
 Calls.callWith_function (o:=o) (fd:=fd) (qc (ki O pos env) (oM (U c h) λvs σ₁ s₁ ws q vr r x=>#[#[r.base _ _ J,W],k vs σ₁ s₁ ws q vr r x]))
def CN {fa:Nat->Option Addr}{k:Nat}{f:Addr}{x:Str}{es:Exs}{args:List Expr}{p pos:Pos}(K:GOk G)(CO:fI G fa C d)(hk:fa k=some f)(W:qk G C sc d es args)(J:noStar args=true)(U:sc.names.lookup x=some .globalImplicit)(B:jq x=true)(O:G.gl x=some (.ref f)) :
  gi G C sc d (.call k es) (.Call (.Name x p) args [] pos):=λ_ _ _ _ _ _ _ c h=>by
 have#[#[o,fd,I,hd],z]:=CO k f hk;show Call_ (nj K c.eo c.R (by rw[c.es];show U) B O (eS I hd J W c h λvs σ₁ s₁ ws q vr r x=>x.back (z c.ao r vr q)))
structure KV (G:Stc)(a:Addr)(n:Nat)(cs:List V)(sc:Scope)(e:Expr):Prop where
 lim:G.hb.NoLimit
 kind:sc.kind=.function
 co:sc.isCoroutine=false
 gen:sc.isGenerator=false
 nd:(sc.names.map (·.1)).Nodup
 here:∃o fd,G.hb.get? a=some o/\o.data=.func fd/\fd.scope=sc/\fd.body=.expr e/\fd.globals=mainGlobals/\fd.builtins=builtinsNs/\G.hb.CodeRec fd.code fd.qualname /\
  cY fd.params=true/\tn (fd.params.args.map (·.arg)) sc.names=true/\fd.params.args.length=n/\fd.defaults=.none /\
  (∀(i:Nat) (x:Str),sc.names[i]?=some (x,.free)->n<=i/\G.cap x=true/\∃c w v,fd.closure.lookup x=some c/\G.hb.IsCell c (some w)/\cs[i-n]?=some v/\VR G G.hb v w) /\
  (∀(i j:Nat) (x y:Str) (c:Addr),sc.names[i]?=some (x,.free)->sc.names[j]?=some (y,.free)->fd.closure.lookup x=some c->fd.closure.lookup y=some c->i=j) /\
  (∀p∈fd.closure,∃o,G.hb.get? p.2=some o)/\(∀(i:Nat) (x:Str) (k:NameKind),sc.names[i]?=some (x,k)->k≠.free->i<n)
def F8 {cs:List V}{e:Expr}{b:Ex}(K:KV G a n cs sc e)(hb:gi G C sc d b e)(ao:AOk A (d+1))(R:Rel G σ s.heap)(vr:VRs G s.heap vs ws)(h1:vs.length=n)
  (h:wpE C b (λi=>(vs++cs)[i]?) σ Q):wpAny G.M A (call (.ref a) ws) (jx G [] σ s Q) E s:=by
 have#[o,fd,ho,hd,bd,ag,bg,bt,J,be,ai,hn,bl,O,ar,ay,aj]:=K.here;subst bd;apply su ?_;apply nL (run:=λenv=>.expr e env) (dv:=[]) (ds:=[]) (ρf:=λi=>if i<n then none else cs[i-n]?) (ρ':=λi=>(vs++cs)[i]?) ho hd K.lim K.kind K.nd rfl bg bt be ai hn (λA E Q q=>?_) .nil (bb _)
  (λh=>PySem.W.kla_callFunE (by have:=ao.depth;(show gu .B .a (.l (.a (.a .A (.m 3 .S)) (.n 20)) .B) this)) (R.base _ _ ho) hd K.co K.gen ag (J.keeps R.base) h) #[λi x ex=>?_,ar,λp hp=>?_,λi x k ex hk=>cn (aj i x k ex hk)] R vr (Nat.le_of_eq h1) (by rw[List.length_nil];(show ba .cS .y .cH h1)) (λi=>?_) λenv s' X e1 e2 eo F' R' x' hX bv bu=>?_
 ·rw[bl];show wpAny G.M A (do notAStandIn .none;pure none) Q E s;show gc (by rfl) (q none rfl)
 ·have#[h2,ax,c,w,v,hc,I,hv,vv]:=O i x ex;have#[oc,U,bn]:=I;apply#[c,some w,hc,#[oc,R.base _ _ U,bn],?_,λdm=>(by rw[R.new c dm]at U;cases U),λq=>(by rw[ax]at q;cases q)];rw[br (ba .b2 .a .a2 h2),hv];show VR.mono (λb o e _=>R.base b o e) vv
 ·have#[o,ho]:=ay p hp;apply#[o,R.base _ _ ho]
 ·rw[List.drop_nil,dg];by_cases c:i<n
  ·rw[cn c,dq (fh .B .n .aX .G h1 c)]
  ·rw[br c,br c,bh (fh .A .b .cL (.g .B .C) h1 c),h1]
 ·apply PySem.W.kla_codeExpr (du (hb #[ao.deep env,e1,eo,F',R'] h) (λv s₂ l=>?_) λ_ _ x=>x);have#[u,σ',q,bc,R2,x2]:=l;apply#[u,σ',q,bc,R2,(x'.trans (x2.more λ_ h=>nomatch h)).less λz hz=>.inr (hX z hz)]
abbrev nX (G:Stc)(C:Cal)(d:Nat):Prop:=∀(k:Nat) (cs:List V) (a:Addr),G.clo k cs a->(∃o fd,G.hb.get? a=some o/\o.data=.func fd)/\∀{A E vs ws σ Q s},AOk A d->Rel G σ s.heap->VRs G s.heap vs ws ->
 C (1000+k) (vs++cs) σ Q->wpAny G.M A (call (.ref a) ws) (jx G [] σ s Q) E s
end
variable {f:Addr}{d':Nat}
structure MethAt (G:Stc)(name:Str)(f:Addr):Prop where
 here:∃N mN of fd,ClsAt G.hb G.cS N mN/\mN "__getattribute__"=none/\mN "__getattr__"=none/\mN name=some (.ref f)/\G.hb.get? f=some of/\of.cls=.type "function"/\of.data=.func fd
 out:name∉G.attrs
 lk:∃y,typeLookup (.type "object") name=pure y
section
variable {G:Stc}{A:Around}{E:QqV}{s:Shared}{σ:St}{fa:Nat->Option Addr}{C:Cal}{sc:Scope}{d:Nat}
def tM {a:Addr}{name:Str}{pl:Sem Bool}{Q:Value×List Value->Shared->Prop}(M:MethAt G name f)(R:Rel G σ s.heap)(z:(σ.I a).isSome)(q:Q (.ref f,[.ref a]) s):wpAny G.M A (getMethod (.ref a) name pl) Q E s:=by
 have#[N,mN,of,fd,X,O,U,hf,J,B,_]:=M.here;have#[y,hB]:=M.lk;have#[#[dd,g],z]:=cz.mp z;have I:=R.I a dd g z;have#[m,hm,hv,W]:=I.ns;have#[hh,gg,dr,t,os]:=s;have#[nm,q',bs,sn,sub,ag,d2,k0,k1,k2,k3,k5,hC]:=(X.keeps R.base).obj;show method_of hC (X.keeps R.base).ns O U hf (R.base _ _ J) B hB (I.inst hm) (W name M.out) q
def CE {e:Ex}{k:Nat}{name:Str}{es:Exs}{o:Expr}{args:List Expr}{apos pos:Pos}(CO:fI G fa C d)(hk:fa k=some f)(M:MethAt G name f)(ha:gi G C sc d e o)(B:qk G C sc d es args)(hb:um o=true)(z:noStar args=true)(J:args.length<30)(W:(apos.endLine==pos.line)=true) :
  gi G C sc d (.meth e k es) (.Call (.Attribute o name apos) args [] pos):=λ_ _ _ _ _ _ _ c h=>by
 apply uc hb z J W (rn (ha c h) λv σ₁ s₁ w q vr r x pl=>?_);have#[a,rfl,hI,q]:=q;have rfl:=vr;have#[#[of,fd,ho,hd],hc]:=CO k f hk;show tM M r hI (eS ho hd z B (c.go r x) q λvs σ₂ s₂ ws O I r₂ U=>(x.trans U).back (hc c.ao r₂ (.cons (.obj a) I) O))
structure o9 (G:Stc)(f:Addr):Prop where
 here:∃N mN of,ClsAt G.hb G.cS N mN/\mN "__init__"=some (.ref f)/\G.hb.get? f=some of/\of.cls=.type "function"
def wA (C:Addr)(ws:List Value):(Code.builtin "type.__call__" #[.ref C::ws,[]]).cUnits<=10:=by
 show 1+3*(Code.frames (.builtin "type.__call__" #[.ref C::ws,[]]))<=10;show bz rfl
def AOk.make (h:AOk A (d+1))(C:Addr)(ws:List Value):AOk (A.under (.builtin "type.__call__" #[.ref C::ws,[]])) d:=
 #[h.handled,by have:=h.depth;show A.depth+1+3*d+20<_;(show gu (.l (.a (.a .M (.m 3 .B)) (.n 20)) .C) .a .bN this),by have:=h.units;have:=wA C ws;show A.units+(Code.cUnits _)+30*d+300<_;(rename_i W;show gh (.l (.a (.a .L (.m 30 .C)) .aX) .D) .b (.l (.a (.a .A (.m 30 .S)) .aX) .D) (.k .B (.n 10)) W this)]
def AOk.less (h:AOk A d)(hd:d'<=d):AOk A d':=#[h.handled,by have:=h.depth;(show gh (.l (.a (.a .A (.m 3 .B)) (.n 20)) .C) [[1,3,1]] .bR (.l (.a (.a .A (.m 3 .D)) (.n 20)) .C) hd this),by have:=h.units;(show gh (.l (.a (.a .A (.m 30 .B)) .aX) .C) [[1,30,1]] .bR (.l (.a (.a .A (.m 30 .D)) .aX) .C) hd this)]
def B8 {Q:V->St->Prop}{vs:List V}{ws:List Value}(CO:fI G fa C (d-1))(hd:1<=d)(hk:fa 0=some f)(M:o9 G f)(ao:AOk A d)(q:∀a dd,σ.I a=none->C 0 (.obj a::vs) (σ.jw a dd λ_=>none) λv σ=>v=.none/\Q (.obj a) σ)(vr:VRs G s.heap vs ws)(r:Rel G σ s.heap):wpAny G.M A (call (.ref G.cS) ws) (jx G [] σ s Q) E s:=by
 have#[N,mN,of,X,hi,bc,bd]:=M.here;have#[_,hc]:=CO 0 f hk;have be:AOk A (d-1+1):=by rw[aa hd];show ao
 have#[nm,q',bs,sn,sub,bg,d2,k0,k1,k2,k3,k5,hC]:=(X.keeps r.base).obj;apply wpAny_call_obj_init PySem.F.objNew hC (X.keeps r.base).ns hi (r.base _ _ bc) bd λh' W dx made=>?_;have z:σ.I W=none:=by
  cases hq:σ.I W with
  |none=>rfl
  |some y=>have#[o,e]:=r.sh (.inr (.inr (.inr (.inl (by rw[hq];rfl)))));rw[made.newX]at e;cases e
 have hI:fH G h' W dx λ_=>none:=by
  have#[o,ho,aj,ay,hd]:=made.inst;have O:=made.dict o ho;rcases hd with ⟨ag,_⟩|⟨d',ai,ax,ar⟩
  ·rw[O]at ag;cases ag
  ·rw[O]at ai;cases ai;apply#[#[o,ho,aj,O,ay],#[_,ar,λ_ _ _=>trivial,λ_ _=>rfl],ax]
 have r':=r.M0 made.newX made.newD hI.ne made.keeps hI;have x':Go [] σ s (σ.jw W dx λ_=>none) {s with heap:=h'}:=Go.refl.to (Evo.M0 _ made.newX made.newD made.keeps);apply du (hc (s:={s with heap:=h'}) (be.make _ _) r' (.cons (.obj W) (vr.mono x'.frz)) (q W dx z)) (λw s' l=>?_) λ_ _ x=>x;have#[v,σ₂,#[rfl,B],U,r₂,J]:=l;cases U;apply#[rfl,.obj W,σ₂,B,.obj W,r₂,x'.trans J]
def CD {x:Str}{es:Exs}{args:List Expr}{p pos:Pos}(K:GOk G)(z:fI G fa C (d-1))(hd:1<=d)(hk:fa 0=some f)(M:o9 G f)(U:qk G C sc d es args)(O:noStar args=true)(W:args≠[])(J:sc.names.lookup x=some .globalImplicit)(B:jq x=true)(I:G.gl x=some (.ref G.cS)) :
  gi G C sc d (.n es) (.Call (.Name x p) args [] pos):=λ_ _ _ _ _ _ _ c h=>by
 have#[N,mN,of,X,_]:=id M.here;apply Call_ (nj K c.eo c.R (by rw[c.es];show J) B I ?_);cases args with
 |nil=>show absurd rfl W
 |cons e rest =>
  show callWith_cls X (oM (U c h) λvs σ₁ s₁ ws q vr r x=>#[r.base,x.back (B8 z hd hk M c.ao q vr r)]) ((gr O).1 _) (ki (gr O).2 pos _)
def fI.more (h:fI G fa C d)(hd:d<=d'):fI G fa C d':=λk a hk=>#[(h k a hk).1,λW=>(h k a hk).2 (W.less hd)]
def nX.more {C:Cal}{d:Nat}(h:nX G C d)(hd:d<=d'):nX G C d':=λk cs a hk=>#[(h k cs a hk).1,λW=>(h k cs a hk).2 (W.less hd)]
end
end MP
end
section
set_option tactic.hygienic true
namespace MP
open PySem PyProof.Rows
variable {T id nm:String}{name:Str}{o:Obj}{a:Addr}{Q:QqV}{expr:Bool}
def mG:Slot "method_descriptor" "__get__" "method_descriptor.__get__":=
 .of (owner:="method_descriptor") (n:="__get__") (by rw[ip,fq];kernel_rfl) (by decide +kernel) (by decide +kernel) (by decide +kernel)
  (by first|show .inl (by decide +kernel)|show .inr (by decide +kernel)) (by rw[mx];kernel_rfl)
def uR:entryFor table "method_descriptor.__get__"=some Builtin.«method_descriptor.__get__»:=eN (by kernel_rfl)
def xN (a b c:Value):argsOk "method_descriptor.__get__" #[[a,b,c],[]]:=by unfold argsOk;kernel_rfl
def DQ:typeLookup (.type "method_descriptor") "__set__"=pure none:=by rw[ip,fq];kernel_rfl
def DR:typeLookup (.type "method_descriptor") "__delete__"=pure none:=by rw[ip,fq];kernel_rfl
structure qI (T:String)(name:Str)(id nm:String):Prop where
 lk:typeLookup (.type T) name=pure (some (.builtin id))
 ty:typeOf (.builtin id)=pure (.type "method_descriptor")
 own:(kfb_private% "ownerAndName") id=(T,nm)
 told:Manifest.toldItsClass.contains id=false
 sub:isSubtype (.type T) (.type T)=pure true
 nm1:(["__module__","__name__","__qualname__","__doc__","__annotations__"]:List Str).contains name=false
 tp1:(Value.type T==Value.type "module")=false
def FE:qI "dict" "get" "dict.get" "get" where
 lk:=PySem.F.slot_dict_get.lookup
 ty:=PySem.F.type_dict_get
 own:=by first|decide +kernel|kernel_rfl
 told:=by first|decide +kernel|kernel_rfl
 sub:=by rw[mx];kernel_rfl
 nm1:=by decide +kernel
 tp1:=by decide +kernel
def FD:qI "set" "__contains__" "set.__contains__" "__contains__" where
 lk:=by rw[ip,fq];kernel_rfl
 ty:=by show builtinType _=_;rw[builtinType_eq_fast];kernel_rfl
 own:=by first|decide +kernel|kernel_rfl
 told:=by first|decide +kernel|kernel_rfl
 sub:=by rw[mx];kernel_rfl
 nm1:=by decide +kernel
 tp1:=by decide +kernel
abbrev jS (id:String)(a:Addr):Obj:={cls:=.type "builtin_function_or_method",data:=.fields #v[.builtin id,.ref a]}
section
variable {prog:Program}{w:World}{A:Around}{E:QqV}{s:Shared}
def AF {a:Addr}{P:Fin->Shared->Prop}(B:qI T name id nm)(U:s.heap.get? a=some o)(O:o.cls=.type T)(h:P (.done (.ret (.ref s.heap.objs.size))) {s with heap:=s.heap.push (jS id a)}) :
  wpAny (model prog w) A (Builtin.«method_descriptor.__get__» #[[.builtin id,.ref a,.type T],[]]) P E s:=by
 have J:s.TypeIs (.ref a) T:=#[_,U,O];unfold Builtin.«method_descriptor.__get__»;apply ab (gc (a:=(.builtin id,some (.ref a),some (.type T))) (by first|rfl|kernel_rfl) ?_);simp only[B.told];show wpAny _ _ (do
  (do
   let (owner,name):=(kfb_private% "ownerAndName") id
   if !(← isInstance (.ref a) (.type owner)) then
    rule "descr.get.wrong-instance"
    raiseError "TypeError" s!"descriptor '{(Str.ofString name).toString}' for '{← typeName (.type owner)}' objects doesn't apply to a '{← typeNameOf (.ref a)}' object":Sem Unit)
  ret (← newFields "builtin_function_or_method" [.builtin id,.ref a])) _ _ _
 rw[B.own];dsimp only;unfold isInstance;have W:=B.sub;apply ab (ab ?_);apply ab (i5 J ?_);apply gc B.sub ?_;apply ae ?_;apply ab ?_;unfold newFields;show mw (ae h)
def xF (B:qI T name id nm)(W:s.heap.get? a=some o)(U:o.cls=.type T)(h:Q (.ref s.heap.objs.size) {s with heap:=s.heap.push (jS id a)}) :
  wpAny (model prog w) A (call (.builtin "method_descriptor.__get__") [.builtin id,.ref a,.type T]) Q E s:=
 oe mG B.ty uR (AF B W U #[_,rfl,h]) (xN _ _ _)
def D3 {tk:Tok}{P:Fin->Shared->Prop}(B:qI T name id nm)(W:s.heap.get? a=some o)(J:o.cls=.type T)(hd:o.dict=none)(O:∀c,o.data≠.cls c)(h:P (.done (.ret (.ref s.heap.objs.size))) {s with heap:=s.heap.push (jS id a)}) :
  wpAny (model prog w) A (Builtin.«object.__getattribute__» #[[.ref a,.str name tk],[]]) P E s:=by
 have#[I,g,d,t,os]:=s;have hT:(#[I,g,d,t,os]:Shared).TypeIs (.ref a) T:=#[_,W,J];have z:(#[I,g,d,t,os]:Shared).TypeIs (.builtin id) "method_descriptor":=B.ty;have f4:=B.lk;have f5:=B.ty;have f6:=mG.lookup;have f7:=DQ;have f8:=DR;have U:=B.nm1;unfold Builtin.«object.__getattribute__»
 repeat (any_goals (first|assumption|wp_step))
 split
 ·rename_i c e;show absurd e (O c)
 ·unfold instanceDict
  repeat (any_goals (first|assumption|(with_reducible refine rt W ?_;rw[J])|with_reducible refine wpAny_loadHead W ?_|wp_step))
  rw[hd]
  repeat (any_goals (first|assumption|wp_step))
  rw[br (by rw[U];decide)];apply ae ?_
  repeat (any_goals (first|assumption|((with_reducible show wpAny _ _ (call (Value.builtin "method_descriptor.__get__") _ _) _ _ _);apply xF B W J ?_)|wp_step))
def kL {U:String}(B:qI T name id nm)(sl:Slot T "__getattribute__" U)(en:entryFor table U=some Builtin.«object.__getattribute__»)(ar:∀x y,argsOk U #[[x,y],[]])
  (J:s.heap.get? a=some o) (hc:o.cls=.type T) (hd:o.dict=none) (W:∀c,o.data≠.cls c) (h:Q (.ref s.heap.objs.size) {s with heap:=s.heap.push (jS id a),toks:=s.toks+1}) :
  wpAny (model prog w) A (getAttr (.ref a) name expr) Q E s:=by
 have#[I,g,d,t,os]:=s;have#[c,dct,ai,ag]:=o;simp only at hc hd W;subst hc;subst hd;have z:∀O,(#[I,g,d,O,os]:Shared).TypeIs (.ref a) T:=λ_=>#[_,J,rfl];have f3:=sl.lookup;have f4:=sl.bind (.ref a);unfold getAttr getAttrBy
 repeat (any_goals (first|assumption|show z _|((with_reducible show wpAny _ _ (call (Value.builtin U) _ _) _ _ _);apply oe sl (z _) en (D3 B (s:=⟨I,g,d,t+1,os⟩) J rfl rfl W ⟨_,rfl,?_⟩) (ar _ _))|wp_step))
 have e:(expr&&onTheHeap (Value.builtin U))=false:=by cases expr<;>rfl
 rw[br (by rw[e];decide)];unfold boundAndCalled;apply ab (gc f4 ?_);apply oe sl (z _) en (D3 B (s:=#[I,g,d,t+1,os]) J rfl rfl W #[_,rfl,?_]) (ar _ _);show ae h
def rS (U:s.heap.get? a=some o)(O:o.cls=.type "dict")(hd:o.dict=none)(W:∀c,o.data≠.cls c)(h:Q (.ref s.heap.objs.size) {s with heap:=s.heap.push (jS "dict.get" a),toks:=s.toks+1}) :
  wpAny (model prog w) A (getAttr (.ref a) "get" expr) Q E s:=
 kL FE PySem.F.slot_dict_getattribute am_entry_dict_getattribute PySem.F.args_dict_getattribute_2 U O hd W h
def entry_set_ga:entryFor table "set.__getattribute__"=some Builtin.«object.__getattribute__»:=
 entryFor_alias (id':="object.__getattribute__") (by kernel_rfl) (by first|rfl|decide +kernel) (by decide +kernel) (by kernel_rfl)
def rR (U:s.heap.get? a=some o)(O:o.cls=.type "set")(hd:o.dict=none)(W:∀c,o.data≠.cls c)(h:Q (.ref s.heap.objs.size) {s with heap:=s.heap.push (jS "set.__contains__" a),toks:=s.toks+1}) :
  wpAny (model prog w) A (getAttr (.ref a) "__contains__" expr) Q E s:=
 kL FD PySem.F.slot_set_getattribute entry_set_ga PySem.F.args_set_getattribute_2 U O hd W h
def sI {pos:Pos}{u:Addr}{first:List Value}{args:List (Bool×Sem Value)}(W:args.any (·.1)=false)(J:o.cls=.type "builtin_function_or_method")(O:o.data=.fields #v[.builtin id,.ref a])
  (h:wpAny (model prog w) A (evalArgs (.ref u) true args []) (λx s₁=>s₁.heap.get? u=some o/\wpAny (model prog w) A (call (.ref u) (first++x.pos) x.kw) Q E s₁) E s):wpAny (model prog w) A (callWith pos (.ref u) first args []) Q E s:=by
 unfold callWith;apply ab (dw (du h (λx s₁ h₁=>ab (jd ?_)) λ_ _ x=>x));have#[I,U]:=h₁;simp -iota only[W,List.any_nil,i7];apply ab (m:=keeperOf (.ref u)) ?_;unfold keeperOf;apply ab (zh I ?_);simp -iota only[J,O,show(Value.type "builtin_function_or_method" != Value.type "method")=true by decide,show(Value.type "builtin_function_or_method" == Value.type "builtin_function_or_method" ||Value.type "builtin_function_or_method" == Value.type "method-wrapper")=true by decide,bO];apply ae ?_;show ab (du U (λr s₂ hr=>ab (dw (wpAny_point (ae hr)))) λ_ _ x=>x)
def F9 {u:Addr}{b:Builtin}{args:List Value}(B:s.heap.get? u=some o)(U:o.cls=.type "builtin_function_or_method")(W:o.data=.fields #v[.builtin id,.ref a])
  (O:∀(A:Around) (E:QqV) (Q:Unit->Shared->Prop),Q () s->wpAny (model prog w) A (checkBoundCall id #[.ref a::args,[]]) Q E s) (I:id.startsWith "lifetime."=false) (z:entryFor table id=some b)
  (h:∀A':Around,wpAny (model prog w) A' (b #[.ref a::args,[]]) (λfin s'=>∃v,fin=.done (.ret v)/\Q v s') E s):wpAny (model prog w) A (call (.ref u) args) Q E s:=by
 apply su (vf ?_);show wpAny _ A.in1 (callAny (.ref u) #[args,[]]) _ _ s;simp -iota only[callAny];apply ab (zh B ?_);simp -iota only[U,W,show(Value.type "builtin_function_or_method" == Value.type "method" ||Value.type "builtin_function_or_method" == Value.type "builtin_function_or_method" ||Value.type "builtin_function_or_method" == Value.type "method-wrapper")=true by decide,bO];show wpAny _ _ (do checkBoundCall id #[.ref a::args,[]];again (.builtin id #[.ref a::args,[]])) _ _ s;apply ab (O _ _ _ (ae #[j9 _ I,ze z ?_]));apply du (h _) (λfin s' h'=>?_) λ_ _ x=>x;have#[v,rfl,J]:=h';show J
def F6 (a b c:Value):(match Manifest.signature? "dict.get" with|some W=>Bind.checkArgs "dict.get" {W with full:=s!"{Bind.lastOf "dict"}.{Bind.lastOf "dict.get"}" } #[[a,b,c],[]]|none=>pure ())=pure ():=by
 rw[lD (id:="dict.get") (n:=['t','e','g']) (o:=['t','c','i','d']) (by kernel_rfl) PySem.F.owner_dict];kernel_rfl
def F5 (a b:Value):(match Manifest.signature? "set.__contains__" with|some W=>Bind.checkArgs "set.__contains__" {W with full:=s!"{Bind.lastOf "set"}.{Bind.lastOf "set.__contains__"}" } #[[a,b],[]]|none=>pure ())=pure ():=by
 rw[lD (id:="set.__contains__") (n:=['_','_','s','n','i','a','t','n','o','c','_','_']) (o:=['t','e','s']) (by kernel_rfl) PySem.F.owner_set];kernel_rfl
def v7 {rest:List Value}{Q:Unit->Shared->Prop}(B:s.heap.get? a=some o)(hc:o.cls=.type T)(O:∀c,o.data≠.cls c)(hk:builtinKind id=some .method)(hm:isSubtype (.type T) (.type "module")=pure false)(hv:Manifest.varargsMethods.contains id=false)
  (J:(match Manifest.signature? id with|some W=>Bind.checkArgs id {W with full:=s!"{Bind.lastOf T}.{Bind.lastOf id}" } #[.ref a::rest,[]]|none=>pure ())=pure ()) (h:Q () s):wpAny (model prog w) A (checkBoundCall id #[.ref a::rest,[]]) Q E s:=by
 have z:s.TypeIs (.ref a) T:=#[_,B,hc];unfold checkBoundCall;cases hsig:Manifest.signature? id with
 |none=>show ae h
 |some W =>
  rw[hsig]at J;dsimp only at J ⊢;rw[hk];dsimp only;rw[br (by decide)];unfold isInstance;apply ab (ab (i5 z ?_));apply gc hm ?_;rw[hv,br (by decide)];have U:∀I:Bool->Shared->Prop,I false s->wpAny (model prog w) A (isType (.ref a)) I E s:=λI q=>by
   unfold isType loadHead;apply ab (iX B (ae ?_));split
   ·rename_i c e;show absurd e (O c)
   ·show q
  apply ab (U _ ?_);rw[br (by decide)];apply ab (i5 z ?_);show gc J h
def AS:builtinKind "dict.get"=some .method:=by kernel_rfl
def AR:builtinKind "set.__contains__"=some .method:=by kernel_rfl
def LB:isSubtype (.type "dict") (.type "module")=pure false:=by rw[mx];kernel_rfl
def LA:isSubtype (.type "set") (.type "module")=pure false:=by rw[mx];kernel_rfl
def G7:Manifest.varargsMethods.contains "dict.get"=false:=by decide +kernel
def G6:Manifest.varargsMethods.contains "set.__contains__"=false:=by decide +kernel
def JH {x y:Value}{Q:Unit->Shared->Prop}(U:s.heap.get? a=some o)(O:o.cls=.type "dict")(W:∀c,o.data≠.cls c)(h:Q () s):wpAny (model prog w) A (checkBoundCall "dict.get" #[[.ref a,x,y],[]]) Q E s:=
 v7 U O W AS LB G7 (F6 _ _ _) h
def JG {x:Value}{Q:Unit->Shared->Prop}(U:s.heap.get? a=some o)(O:o.cls=.type "set")(W:∀c,o.data≠.cls c)(h:Q () s):wpAny (model prog w) A (checkBoundCall "set.__contains__" #[[.ref a,x],[]]) Q E s:=
 v7 (T:="set") (id:="set.__contains__") (rest:=[x]) U O W AR LA G6 (F5 (.ref a) x) h
end
end MP
end
section
namespace MP
open PySem PyProof.Rows
def vV:plainId "dict.get"=true:=PySem.F.slot_dict_get.plain
def AN:("dict.get":String).startsWith "lifetime."=false:=by decide +kernel
def AM:("set.__contains__":String).startsWith "lifetime."=false:=by decide +kernel
section
variable {prog:Program}{w:World}{A:Around}{E:QqV}{s:Shared}
def B9 {u a:Addr}{id:String}{o:Obj}{b:Builtin}{args:List Value}{S:PySem.Spec}{Q:QqV}(B:s.heap.get? u=some o)(U:o.cls=.type "builtin_function_or_method")(W:o.data=.fields #v[.builtin id,.ref a])
  (O:∀(A:Around) (E:QqV) (Q:Unit->Shared->Prop),Q () s->wpAny (model prog w) A (checkBoundCall id #[.ref a::args,[]]) Q E s) (J:id.startsWith "lifetime."=false) (z:entryFor table id=some b) (I:plainId id=true)
  (g:MeetsIn prog w (b #[.ref a::args,[]]) S) (h:S A (wants Q E) s):wpAny (model prog w) A (call (.ref u) args) Q E s:=by
 apply su (vf ?_);show wpAny _ A.in1 (callAny (.ref u) #[args,[]]) _ _ s;simp -iota only[callAny];apply ab (zh B ?_);simp -iota only[U,W,show(Value.type "builtin_function_or_method" == Value.type "method" ||Value.type "builtin_function_or_method" == Value.type "builtin_function_or_method" ||Value.type "builtin_function_or_method" == Value.type "method-wrapper")=true by decide,bO];show wpAny _ _ (do checkBoundCall id #[.ref a::args,[]];again (.builtin id #[.ref a::args,[]])) _ _ s;apply ab (O _ _ _ (ae #[j9 _ J,ze z ?_]));rw[fS I];show g A (wants Q E) s h
def oH {K:Type}[DecidableEq K]{U:KeyKind prog w K}{a:Addr}{k:K}{key:Value}{S:K->Bool}{n:Nat}{Q:QqV}(W:U.is k key=true)(O:key.scannable=true)(J:s.heap.SetOf U a S n)
  (h:Q (.bool (S k)) {s with toks:=s.toks+1}):wpAny (model prog w) A (Builtin.«frozenset.__contains__» #[[.ref a,key],[]]) (λfin s'=>∃v,fin=.done (.ret v)/\Q v s') E s:=by
 unfold Builtin.«frozenset.__contains__» Builtin.Frozenset.oneOther;simp only[List.isEmpty_nil,bind_assoc];unfold Builtin.Frozenset.addrOf Builtin.Frozenset.withSetAsKey setContains;apply ab (ae ?_)
 try dsimp only
 apply ab (ae ?_)
 try dsimp only
 apply ab (wpAny_tryCatch ?_);apply dw ?_;apply ab (U.pyHash W ?_);apply ab (wpAny_setFind_of (s:={s with toks:=s.toks+1}) W O J λr hr=>?_);apply ae ?_;show wpAny _ _ (ret (Value.bool r.isSome)) _ _ _;rw[hr];show ae #[_,rfl,h]
end
section
variable {pos:Pos}
variable {G:Stc}{C:Cal}{sc:Scope}{d:Nat}
def vM {e:Ex}{x:Expr}(B:gi G C sc d e x)(hb:um x=true):gi G C sc d (.g e) (.Attribute x "get" pos):=λ_ _ _ _ _ _ _ c h =>
 Attribute_any_ (rn (B c h) λv σ₁ s₁ w q vr r x=>by
  have#[a,rfl,hD,q]:=q;have rfl:=vr;have#[ag,e]:=cz.mp hD;have#[ds,hd,_]:=r.D _ _ e;have U:=hd.mapOf.noDict a rfl;have#[o,ai,ep,I,z,O,_]:=id hd;have#[o',W,J]:=U;have rfl:=af (I.symm.trans W);apply rS I z.1 J (λc q=>by rw[O]at q;cases q) ?_;apply#[.hY a,σ₁,q,.hY (fj _ rfl) rfl rfl,r.push _,x.to (Evo.push _ _ _ _)]) (by rw[arm_eval_Attribute,dU hb])
def vK {e:Ex}{x:Expr}(I:gi G C sc d e x)(hb:um x=true):gi G C sc d (.h e) (.Attribute x "__contains__" pos):=λ_ _ _ _ _ _ _ c h =>
 Attribute_any_ (rn (I c h) λv σ₁ s₁ w q vr r x=>by
  have#[a,rfl,z,q]:=q;have rfl:=vr;have#[ag,e]:=cz.mp z;have hd:=r.S _ _ e;have#[o',W,O]:=hd.of.noDict a rfl;have#[o,ai,ep,t,J,B,U,_]:=id hd;have rfl:=af (J.symm.trans W);apply rR J B.1 O (λc q=>by rw[U]at q;cases q) ?_;apply#[.iI a,σ₁,q,.iI (fj _ rfl) rfl rfl,r.push _,x.to (Evo.push _ _ _ _)]) (by rw[arm_eval_Attribute,dU hb])
def qB {A:Around}{E:QqV}{s:Shared}{σ:St}{env:Env}{ρ:Fr}{u a:Addr}{id:String}{o:Obj}{es:Exs}{args:List Expr}{P:List V->St->Prop}{Q:QqV}(B:s.heap.get? u=some o)(U:o.cls=.type "builtin_function_or_method")(W:o.data=.fields #v[.builtin id,.ref a])(I:noStar args=true)(O:qk G C sc d es args)
  (c:Cx G sc d A env ρ σ s) (h:vg C es ρ σ P)
  (k:∀vs σ₁ s₁ ws,P vs σ₁->VRs G s₁.heap vs ws->Rel G σ₁ s₁.heap->Go [] σ s σ₁ s₁->s₁.heap.get? u=some o->wpAny G.M A (call (.ref u) ws) Q E s₁) :
  wpAny G.M A (callWith pos (.ref u) [] (backTo pos (starEach args env)) []) Q E s:=
 sI (o:=o) (ki I pos env) U W (qc (ki I pos env) (oM (O c h) λvs σ₁ s₁ ws q vr r x=>by
  have J:=x.frz _ _ B (.inr (.inl #[.inl U,_,W]));apply#[J,k vs σ₁ s₁ ws q vr r x J]))
def pF {f:Nat}{es:Exs}{x:Str}{kd:NameKind}{args:List Expr}{p:Pos}(K:GOk G)(LO:nX G C d)(hi:sc.names[f]?=some (x,kd))(hk:isVar kd=true)(hx:jq x=true)(B:qk G C sc d es args)(hs:noStar args=true):gi G C sc d (.w f es) (.Call (.Name x p) args [] pos):=λA E env ρ σ Q s c h=>by
 have#[v,hv,h]:=h;have aj:(x==("__debug__":Str))=false:=by simp only[jq,fp,jg]at hx;show hx.1
 apply Call_ (wpAny_Name (iG c.eo c.F (by rw[c.es];show hi) hk hx hv λw vr=>?_) aj);have no:(∀vs σ,¬MZ v vs C 1000 σ Q)->wpAny G.M A (callWith pos w [] (backTo pos (starEach args env)) []) (jx G [] σ s Q) E s:=λax=>by
  unfold callWith;show ab (dw (qc (ki hs pos env) (oM (B c h) λvs σ₁ s₁ ws q vr r x=>(ax _ _ q).elim)))
 cases v with
 |hY a =>
  have#[q,o,rfl,ho,I,J]:=vr;apply qB ho I J hs B c h λvs σ₁ s₁ ws W z r O hu=>?_;have#[k,dd,rfl,bc,kk,e,U,W]:=kF (vs:=vs) W;have#[wa,wb,rfl,va,vb]:=z.two;have#[ds,hd,ar]:=r.D _ _ e;have#[od,ay,ep,ag,hcd,ai,_]:=id hd;have hl:=ar.look kk;apply B9 hu I J (λA E Q q=>JH ag hcd.1 (λc q=>by rw[ai]at q;cases q) q) AN PySem.F.entry_dict_get vV (meets_dict_get_default G.kk _ (key_is U va) (lN K r (.inr (.inl (by rw[e];rfl)))) _) #[_,hd.mapOf,?_];apply#[_,σ₁,W,hl.getD vb,r,O.tok]
 |iI a =>
  have#[q,o,rfl,ho,I,J]:=vr;apply qB ho I J hs B c h λvs σ₁ s₁ ws W z r O hu=>?_;have#[k,rfl,ks,kk,e,U,W]:=iL (vs:=vs) W;have#[wa,rfl,va]:=z.one;have hS:=r.S _ _ e;have#[od,ay,ep,t,ag,hcd,ai,_]:=id hS;apply F9 hu I J (λA E Q q=>JG ag hcd.1 (λc q=>by rw[ai]at q;cases q) q) AM PySem.entry_set_contains λA'=>?_;apply oH (key_is U va) (E6 U va) hS.of ?_;apply#[_,σ₁,W,.bool _,r,O.tok]
 |clo k cs =>
  have#[a,_,rfl,hk,_]:=vr;have#[#[o,fd,ho,hd],hc]:=LO k cs a hk;show eS ho hd hs B c h λvs σ₁ s₁ ws q vr r x=>x.back (hc c.ao r vr q)
 |_=>show no λ_ _ q=>q
end
end MP
end
section
namespace MP
open PySem PyProof.Rows
variable {e:Ex}{x:Str}{y:Expr}{p pos:Pos}
def At.grow {h h':Heap}{a:Addr}{o:Obj}(W:h.get? a=none)(hk:∀b o,h.get? b=some o->h'.get? b=some o)(U:h'.get? a=some o):At a h h':=
 #[λb o _ e=>hk b o e,#[_,U],λo e=>by rw[W]at e;cases e]
section
variable {G:Stc}{C:Cal}{sc:Scope}{d:Nat}
def AL {X:List Addr}{σ σ₁:St}{s s₁:Shared}{W:Heap}{z:Drawn}{tk:Nat}{Q:V->St->Prop}{vs:List V}{ws:List Value}{a n:Nat}(r:Rel G σ₁ s₁.heap)(x:Go X σ s σ₁ s₁)(O:s₁.heap.get? a=none)(hk:∀b o,s₁.heap.get? b=some o->W.get? b=some o)(hl:IsL W a ws.toArray n)(J:VRs G s₁.heap vs ws)(hz:vs.length<=bx)
  (q:∀c,σ₁.L c=none->Q (.L c) (σ₁.di c vs)):jx G X σ s Q (.ref a) #[W,s₁.gens,z,tk,s₁.os]:=by
 have U:At a s₁.heap W:=At.grow O hk hl;have B:σ₁.L a=none:=by
  cases hq:σ₁.L a with
  |none=>rfl
  |some ys=>have#[o,I,_]:=r.sE hq;rw[O]at I;cases I
 apply#[.L _,_,q _ B,.L _,r.putL U (λ_=>O) hl J hz,x.to (Evo.putL U (λ_=>O) _)]
def GY (K:GOk G)(he:gi G C sc d e y)(J:noStar [y]=true)(hx:sc.names.lookup x=some .globalImplicit)(hn:jq x=true)(hv:G.gl x=some (.builtin "len")) :
  gi G C sc d (.bf .len %[e|0]) (.Call (.Name x p) [y] [] pos):=λ_ _ _ _ _ _ _ c h=>by
 apply gX K J (jv he oq (gr J).1) hx hn hv c h λvs σ₁ s₁ ws q vr r W=>?_;have#[v,rfl,q]:=iL (vs:=vs) q;have zz:=vr.one;clear vr;have#[w,rfl,I]:=zz;cases v with
 |L a =>
  have rfl:=I;have#[xs,e,q]:=q;have#[us,n,hl,O]:=r.L _ _ e;rw[O.length]at q;show PySem.Calls.call_len_list hl.isList (AO (o8 r e O)) #[_,σ₁,q,.int _ _,r,W.tok]
 |T xs =>
  have#[a,us,n,rfl,g,z]:=I;have#[hz,q]:=q;rw[z.length]at q hz;show PyProof.Rows.len_tuple #[_,g,rfl,_,rfl] (AO hz) #[_,σ₁,q,.int _ _,r,W.tok]
 |ro ns =>
  have#[a,us,n,rfl,g,z]:=I;have#[hz,q]:=q;rw[<- z.length]at q hz;show PySem.Calls.call_len_list (IsL.isList (r.base _ _ g)) (AO hz) #[_,σ₁,q,.int _ _,r,W.tok]
 |dct a =>
  have rfl:=I;have#[ai,e,q]:=q;have#[ds,hd,ag]:=r.D _ _ e;have U:=ag.length;have hz:=r.Dl _ _ e;unfold bx at hz;apply call_len_dict (lN K r (.inr (.inl (by rw[e];rfl)))) hd (iq (.il .L .M) .n .cH (.k .B .V) U hz) ?_;rw[U]at q;apply#[_,σ₁,q,.int _ _,r,W.tok]
 |_=>show False.elim q
def H9 {k:BF}{id:String}{W:Int->Int->St->(V->St->Prop)->Prop}{f:Ex}{z:Expr}(K:GOk G)(he:gi G C sc d e y)(hf:gi G C sc d f z)(U:noStar [y,z]=true)(hx:sc.names.lookup x=some .globalImplicit)(hn:jq x=true)(hv:G.gl x=some (.builtin id))
  (hk:∀vs σ Q,tF k vs σ Q->on2 vs λv u=>zk v λi=>zk u λj=>W i j σ Q)
  (hc:∀{A E σ s Q} (i j:Int) (t u:Tok),AOk A d->Rel G σ s.heap->W i j σ Q->wpAny G.M A (call (.builtin id) [.int i t,.int j u]) (jx G [] σ s Q) E s) :
  gi G C sc d (.bf k %[e,f|0]) (.Call (.Name x p) [y,z] [] pos):=λA E env ρ σ Q s c h=>by
 apply gX (P:=λvs σ=>tF k vs σ Q) K U (jv he (jv hf oq (gr (gr U).2).1) (gr U).1) hx hn hv c h λvs σ₁ s₁ ws q vr r O=>?_;have q1:=hk vs σ₁ Q q;clear q;have#[v,u,rfl,B]:=kF (vs:=vs) q1;have#[i,rfl,I]:=uf (v:=v) B;have#[j,rfl,q]:=uf (v:=u) I;have#[w,w',rfl,#[t,rfl],#[J,rfl]]:=vr.two;show O.back (hc i j t J c.ao r q)
def vL {f:Ex}{z:Expr}(K:GOk G)(he:gi G C sc d e y)(B:gi G C sc d f z)(U:noStar [y,z]=true)(O:sc.names.lookup x=some .globalImplicit)(I:jq x=true)(J:G.gl x=some (.builtin "divmod")) :
  gi G C sc d (.bf .divmod %[e,f|0]) (.Call (.Name x p) [y,z] [] pos):=H9 K he B U O I J (λ_ _ _=>id) λi j t u ao r W=>by
 have#[h0,hb,q]:=W;apply divmod_int h0 ?_ (.inl (PyProof.noPylong_of_log2 (log2_lt_of hb)));apply#[_,_,q,.T (IsT.new _ _) %[.int _ _,.int _ _|0],r.push _,Go.refl.to (Evo.push _ _ _ _)]
def C9 (K:GOk G)(O:sc.names.lookup x=some .globalImplicit)(I:jq x=true)(J:G.gl x=some (.type "set")) :
  gi G C sc d (.bf .set .nil) (.Call (.Name x p) [] [] pos):=λA E env ρ σ Q s c h=>by
 apply xw (P:=λvs σ=>tF .set vs σ Q) K rfl oq O I J c h λvs σ₁ s₁ ws q vr r W=>?_;have#[rfl,q]:=yG (vs:=vs) q;have rfl:=vr;have U:At s₁.heap.objs.size s₁.heap (s₁.heap.push (AE G)):=At.push s₁.heap;show sH #[.set _,_,q _ r.MH r.freshD,.set _,r.LQ U (λ_=>none_at_size _) (AB s₁.heap),W.to (Evo.LQ U (λ_=>none_at_size _) _)]
end
end MP
end
section
namespace MP
open PySem PyProof.Rows
variable {σ:St}{env:Env}{elt target iter:Expr}{gens:List Comprehension}{scope:Scope}{pos:Pos}{depth:Nat}{it acc:Value}{ifs:List Expr}
abbrev Tg.vars:Tg->List Nat
 |.v x=>[x]
 |.T xs=>xs
abbrev Gens.vars:Gens->List Nat
 |.elt _=>[]
 |.cons _ t _ more=>t.vars++more.vars
def mJ:∀(xs:List Nat) (vs:List V) (ρ:Fr) (i:Nat),i∉xs->gv xs vs ρ i=ρ i
 | [],_,_,_,_=>rfl
 |_::_,[],_,_,_=>rfl
 |x::xs,v::vs,ρ,i,h=>by
  have h:=qJ h;show(mJ xs vs _ i h.2).trans (er h.1)
def xJ {t:Tg}{v:V}{ρ:Fr}{K:Fr->Prop}(h:qg t v σ ρ K):qg t v σ ρ λρ'=>K ρ'/\∀i,i∉t.vars->ρ' i=ρ i:=by
 cases t with
 |v x=>refine#[h,λi W=>er (by simpa[Tg.vars] using W)]
 |T xs =>
  have#[vs,e,hl,h]:=h;apply#[vs,e,hl,h,λi W=>mJ _ _ _ _ W]
def Rel.N0 {G:Stc}{h:Heap}{a:Addr}{xs:List V}{ws:List Value}{n:Nat}(R:Rel G σ h)(hd:¬σ.dom a)(hb:G.hb.get? a=none)(hl:IsL h a ws.toArray n)(U:VRs G h xs ws)(hz:xs.length<=bx):Rel G (σ.di a xs) h:=by
 apply#[λb ys e=>?_,R.D,R.S,R.I,R.Z,λb ys e=>?_,R.Dl,R.inj,R.apart,R.sep,λb d=>?_,R.base]
 ·by_cases W:b=a
  ·subst W;simp only[St.di,cm,gx]at e;subst e;apply#[ws,n,hl,U]
  ·simp only[St.di,er W]at e;show R.L b ys e
 ·by_cases W:b=a
  ·subst W;simp only[St.di,cm,gx]at e;show e▸hz
  ·simp only[St.di,er W]at e;show R.Ll b ys e
 ·rcases dB d with d|rfl
  ·show R.new b d
  ·show hb
inductive zL (G:Stc)(env:Env)(D:Addr)(X:List Addr)(tv:List Nat)(ρ:Fr)(σ:St)(s:Shared)(K:Fr->List V->St->Prop)(s':Shared):Prop
 |mk (ρ':Fr) (acc':List V) (σ':St) (ws:List Value) (n:Nat):K ρ' acc' σ'->FR G σ' env ρ' s'.heap->Rel G σ' s'.heap->IsL s'.heap D ws.toArray n->VRs G s'.heap acc' ws->acc'.length<=bx->¬σ'.dom D->Go (D::X) σ s σ' s'->(∀i,i∉tv->ρ' i=ρ i)->zL G env D X tv ρ σ s K s'
structure eG (G:Stc)(env:Env)(D:Addr)(σ:St)(h:Heap)(acc:List V):Prop where
 here:∃ws n,IsL h D ws.toArray n/\VRs G h acc ws
 len:acc.length<=bx
 out:¬σ.dom D
 off:D∉envX env
 base:G.hb.get? D=none
def eG.evo {G:Stc}{D:Addr}{σ':St}{h h':Heap}{acc:List V}{X:List Addr}(a:eG G env D σ h acc)(x:Evo X σ h σ' h')(U:D∉X):eG G env D σ' h' acc:=by
 have#[ws,n,hl,W]:=a.here;apply#[#[ws,n,x.keep _ _ hl a.out U,W.mono x.frz],a.len,λd=>(x.dom D d).elim a.out λq=>(by rw[show h.get? D=_ from hl]at q;cases q),a.off,a.base]
abbrev we (elt:Expr)(gens:List Comprehension)(scope:Scope)(pos:Pos)(depth:Nat)(acc:Value)(env:Env):Sem Unit:=
 match gens[depth+1]? with
 |some g'=>eval g'.iter env>>=λx=>standAt g'.iter.pos>>=λ_=>foldedSetIterable g'.iter env x>>=λx=>holding [x] (pyIter x)>>=λi =>
  runOwn (.compStart (.ListComp elt gens scope pos) (depth+1) i acc env) env>>=λ_=>pure ()
 |none=>eval elt env>>=λx=>call (.builtin "list.append") [acc,x]>>=λ_=>pure ()
abbrev tests (ifs:List Expr)(env:Env):Sem Bool:=forIn ifs true λc r=>if r=true then do let ok←isTrue c env (eval c env);pure (ForInStep.yield ok) else pure (ForInStep.yield r)
def uX (O:gens[depth]?=some #[target,iter,ifs,0])(U:∀W,gens[depth+1]?=some W->W.is_async=0) :
  compTurn (.ListComp elt gens scope pos) depth it acc env=(standAt iter.pos>>=λ_=>pyNext it>>=λr=>match r with
   |none=>pure (.done .next)
   |some v=>letOwnedTupleGo target it v>>=λ_=>assign target env v>>=λ_=>tests ifs env>>=λok =>
    if ok=true then we elt gens scope pos depth acc env>>=λ_=>again (.compLoop (.ListComp elt gens scope pos) depth it acc env) else again (.compLoop (.ListComp elt gens scope pos) depth it acc env)):=by
 unfold compTurn;simp only[O];unfold we tests;cases hq:gens[depth+1]? with
 |none=>first|rfl|simp
 |some W =>
  have:=U W hq;simp[this]
  congr 1
section
variable {prog:Program}{w:World}{A:Around}{R:Result->Shared->Prop}{s:Shared}
def iQ (U:gens[depth]?=some #[target,iter,ifs,0])
  (h0:codeAny (model prog w) A (.compLoop (.ListComp elt gens scope pos) depth it acc env) R s)
  (h:wpAny (model prog w) A (pyIter it) (λW s'=>codeAny (model prog w) A (.compLoop (.ListComp elt gens scope pos) depth W acc env) R s') (notedBy (model prog w) A env λx s'=>R (.error x) s') s) :
  codeAny (model prog w) A (.compStart (.ListComp elt gens scope pos) depth it acc env) R s:=by
 apply vf ?_;show wpAny _ A ((compStart (.ListComp elt gens scope pos) depth it acc env).onRaise (λx=>do noteFrame x env;standAt theWindowsPlace)) _ _ s;apply wpAny_notedAt ?_;unfold compStart;have e:clausesOf (.ListComp elt gens scope pos)=gens:=rfl;simp only[e,U];show wpAny _ A (ask>>=_) _ _ s;apply ab (oC (wpAny_ite ?_));split
 ·first
   |show ab (ae (ae (And.intro rfl h0)))
   |show ae (And.intro rfl h0)
 ·show ab (sr (ab (jd (ab (du h (λW s' h'=>ae (And.intro rfl h')) λ_ _ x=>x)))))
def uY (hg:gens[depth]?=some #[target,iter,ifs,0])(aj:∀g',gens[depth+1]?=some g'->g'.is_async=0)(I:Nat->Shared->Prop)
  (z:∀n s,I n s->wpAny (model prog w) A (pyNext it) (λr s₁=>match r with
   |none=>R (.ok .next) s₁
   |some v=>wpAny (model prog w) A (letOwnedTupleGo target it v) (λ_ U=>wpAny (model prog w) A (assign target env v) (λ_ s₂ =>
     wpAny (model prog w) A (tests ifs env) (λok W=>if ok=true then wpAny (model prog w) A (we elt gens scope pos depth acc env) (λ_ O=>∃m,m<n/\I m O) (notedBy (model prog w) A env λe s'=>R (.error e) s') W else ∃m,m<n/\I m W)
      (notedBy (model prog w) A env λe s'=>R (.error e) s') s₂) (notedBy (model prog w) A env λe s'=>R (.error e) s') U) (notedBy (model prog w) A env λe s'=>R (.error e) s') s₁) (notedBy (model prog w) A env λe s'=>R (.error e) s') s)
  (n:Nat) (h:I n s):codeAny (model prog w) A (.compLoop (.ListComp elt gens scope pos) depth it acc env) R s:=by
 apply codeAny_loop rfl I (λn s hI=>?_) n h;show wpAny _ A ((compTurn (.ListComp elt gens scope pos) depth it acc env).onRaise (λx=>do noteFrame x env;theTreesLotGoes x)) _ _ s;apply wpAny_noted ?_;rw[uX hg aj];apply ab (jd (ab (du (z n s hI) (λr s₁ h₁=>?_) λ_ _ h'=>h')));cases r with
 |none=>show ae h₁
 |some v =>
  apply ab (du h₁ (λ_ U B=>ab (du B (λ_ s₂ ai=>ab (du ai (λok W J=>?_) λ_ _ h'=>h')) λ_ _ h'=>h')) λ_ _ h'=>h');cases ok with
  |false=>show ae #[rfl,J]
  |true=>show ab (du J (λ_ O ag=>ae #[rfl,ag]) λ_ _ h'=>h')
end
section
variable {A:Around}{s s₀:Shared}{cs:Exs}{elt target:Expr}{gens:List Comprehension}{scope:Scope}{pos:Pos}{depth:Nat}{env:Env}{σ₀ σ:St}{D:Addr}{X:List Addr}{ρ:Fr}{K:Fr->List V->St->Prop}{acc:List V}{t:Tg}{more:Gens}{ifs:List Expr}
variable {G:Stc}{C:Cal}{sc:Scope}{d:Nat}
abbrev tu (G:Stc)(C:Cal)(sc:Scope)(d:Nat)(cs:Exs)(ifs:List Expr):Prop:=
 ∀⦃A E env ρ σ Q s⦄,Cx G sc d A env ρ σ s->wh C cs ρ σ Q->wpAny G.M A (tests ifs env) (mv G [] σ s Q) E s
def kB {E:QqV}{env:Env}{Q:Bool->Shared->Prop}(f:Expr->Bool->Sem (ForInStep Bool))(W:∀c,f c false=pure (.yield false))(h:Q false s):∀ifs:List Expr,wpAny G.M A (forIn ifs false f) Q E s
 | []=>by rw[pq];show ae h
 |c::r=>by
  rw[qi,W];show ab (ae (kB (env:=env) f W h r))
def B5:tu G C sc d .nil []:=λ_ _ _ _ _ _ _ c h=>by
 unfold tests;rw[pq];show ae (mv.here h c.R)
def xA {c:Ex}{x:Expr}{xs:List Expr}(W:uv G C sc d c x)(hr:tu G C sc d cs xs):tu G C sc d (.cons c cs) (x::xs):=λA E env ρ σ Q s c h=>by
 unfold tests;rw[qi];rw[cn rfl];apply ab (ab (oN (W c h) λb σ₁ s₁ q r x=>ae ?_));cases b with
 |true=>show x.v9 (hr (c.go r x) q)
 |false=>show kB (env:=env) _ (λc=>by simp) (mv.back x (mv.here q r)) xs
structure XOk (env:Env)(X:List Addr)(gens:List Comprehension):Prop where
 loc:env.locals∈X
 cells:∀g∈gens,∀y∈iC g.target,∀c,env.cells.lookup y=some c->c∈X
 sub:∀b∈X,b∈envX env
abbrev uz (G:Stc)(C:Cal)(sc:Scope)(d:Nat)(more:Gens)(elt:Expr)(gens:List Comprehension)(scope:Scope)(pos:Pos)(depth:Nat):Prop:=
 ∀⦃A E env ρ σ acc K s D X⦄,XOk env X gens->Cx G sc d A env ρ σ s->eG G env D σ s.heap acc ->
  uy C more ρ acc σ K->wpAny G.M A (we elt gens scope pos depth (.ref D) env) (λ_ s'=>zL G env D X more.vars ρ σ s K s') E s
def BC {e:Ex}(he:gi G C sc d e elt)(hg:gens[depth+1]?=none):uz G C sc d (.elt e) elt gens scope pos depth:=λA E env ρ σ acc K s D X xo c a h=>by
 unfold we;rw[hg];apply ab (rn (he c h) λv σ₁ s₁ w q vr r x=>?_);have W:=a.evo x.e (by simp);have#[ws,n,hl,z]:=W.here;have U:=z.length;have hz:=q.1;apply ab (zi i6 #[_,hl,rfl] PySem.F.entry_list_append (PySem.F.args_list_append_2 _ _) (list_append _ _ _ _ (by simp only[dp];rw[<- U];show ou (ba .A .a .B q.1))) #[hl,ae ?_]);have I:=hl.update (λx=>x.push w);have e2:ws.toArray.push w=(ws++[w]).toArray:=by simp
 rw[e2]at I;have J:Heap.SameBut D s₁.heap (s₁.heap.update D (Obj.mapSeq λx=>x.push w)):=ye ..;have O:kf s₁.heap (s₁.heap.update D (Obj.mapSeq λx=>x.push w)):=wo J λo eo=>by
  have rfl:=af (eo.symm.trans hl);show zl rfl rfl
 have hk:∀b o,b∉[D]->s₁.heap.get? b=some o->(s₁.heap.update D (Obj.mapSeq λx=>x.push w)).get? b=some o:=λb o hb e=>by rw[J.2 b (λq=>hb (q▸.head _))];show e
 apply#[ρ,acc++[v],σ₁,ws++[w],_,q.2,(c.F.evo x.e).but hk O (λb hb=>by have rfl:=au.mp hb;show a.off),r.frame (o':=default) J W.out a.base O,I,(z.mono O).append %[vr.mono O|0],by simp;(show ba .S .a .B q.1),W.out,?_,λ_ _=>rfl];show(x.more λ_ h=>nomatch h).to (Evo.frame J I (.head _) O)
abbrev pC (C:Cal)(t:Tg)(cs:Exs)(more:Gens)(v:V)(ρ:Fr)(acc:List V)(σ:St)(K:Fr->List V->St->Prop):Prop:=qg t v σ ρ λρ'=>wh C cs ρ' σ λok σ=>if ok then uy C more ρ' acc σ K else K ρ' acc σ
inductive kQ (I:Itr G)(env:Env)(σ₀:St)(s₀:Shared)(D:Addr)(X:List Addr)(vs:List Nat)(ρ:Fr)(T:V->Fr->List V->St->(Fr->List V->St->Prop)->Prop)(K:Fr->List V->St->Prop)(n:Nat)(s':Shared):Prop
 |mk (i:Nat) (σ':St) (ρ':Fr) (acc':List V):n=I.vs.length-i->I.pos i s'.heap->FR G σ' env ρ' s'.heap->Rel G σ' s'.heap->eG G env D σ' s'.heap acc'->Go (D::X) σ₀ s₀ σ' s'->(∀b∈I.own,¬σ'.dom b)->(∀j,j∉vs->ρ' j=ρ j)->kY (I.vs.drop i) I.Gd T ρ' acc' σ' K->kQ I env σ₀ s₀ D X vs ρ T K n s'
def kQ.next {I:Itr G}{s':Shared}{vs:List Nat}{T:V->Fr->List V->St->(Fr->List V->St->Prop)->Prop}{i:Nat}{σ':St}{ρ':Fr}{W:List V}(lt:i<I.vs.length)(U:I.pos (i+1) s'.heap)(F:FR G σ' env ρ' s'.heap)(R:Rel G σ' s'.heap)(a:eG G env D σ' s'.heap W)(x:Go (D::X) σ₀ s₀ σ' s')(hd:∀b∈I.own,¬σ'.dom b)(O:∀j,j∉vs->ρ' j=ρ j)(q:kY (I.vs.drop (i+1)) I.Gd T ρ' W σ' K) :
  ∃m,m<I.vs.length-i/\kQ I env σ₀ s₀ D X vs ρ T K m s':=#[_,by show gh .B .d (.e (.a .A .S) .D) .bD (aa (ba .S .a .B lt)) (aa (ba .A .a .B lt)),i+1,σ',ρ',W,rfl,U,F,R,a,x,hd,O,q]
def eG.kept {h h':Heap}{own:List Addr}(a:eG G env D σ h acc)(U:D∉own)(hk:∀b o,b∉own->h.get? b=some o->h'.get? b=some o)(O:kf h h'):eG G env D σ h' acc:=by
 have#[ws,m,hl,W]:=a.here;apply#[#[ws,m,hk _ _ U hl,W.mono O],a.len,a.out,a.off,a.base]
def L7 (ht:xn G C sc d t target)(dy:tu G C sc d cs ifs)(dL:uz G C sc d more elt gens scope pos depth)
  {E:QqV} {W:Fr} {i:Nat} {I:Itr G} {v:V} {w:Value} (xo:XOk env X gens) (bv:∀y∈iC target,∀c,env.cells.lookup y=some c->c∈X) (c:Cx G sc d A env ρ σ s)
  (hX:∀b∈I.own,b∉envX env) (hD:D∉I.own) (lt:i<I.vs.length) (a:eG G env D σ s.heap acc) (x0:Go (D::X) σ₀ s₀ σ s) (hp:I.pos (i+1) s.heap) (hd:∀b∈I.own,¬σ.dom b) (ag:∀j,j∉t.vars++more.vars->ρ j=W j) (vr:VR G s.heap v w)
  (hf:pC C t cs more v ρ acc σ λρ acc σ=>kY (I.vs.drop (i+1)) I.Gd (pC C t cs more) ρ acc σ K) :
  wpAny G.M A (assign target env w) (λ_ s₂=>wpAny G.M A (tests ifs env) (λok B=>if ok=true then wpAny G.M A (we elt gens scope pos depth (.ref D) env) (λ_ J=>∃m,m<I.vs.length-i/\kQ I env σ₀ s₀ D X (t.vars++more.vars) W (pC C t cs more) K m J) E B
   else ∃m,m<I.vs.length-i/\kQ I env σ₀ s₀ D X (t.vars++more.vars) W (pC C t cs more) K m B) E s₂) E s:=by
 have ar:∀c∈I.own,c∉X:=λc hc q=>hX c hc (xo.sub c q);apply du (ht xo.loc bv c vr (xJ hf)) (λ_ B l=>?_) λ_ _ x=>x;have#[be,#[cb,ai],bc,dc,O]:=l;have#[dx,ct]:=I.stay ar hp hd O.e;have a3:=a.evo O.e λq=>a.off (xo.sub D q);apply oN (dy (c.at bc dc) cb) λok bd J ao ay U=>?_;have#[ch,ax]:=I.stay (λc _=>zy) dx ct U.e;have a4:=a3.evo U.e zy;have F4:=bc.evo U.e;have x5:Go (D::X) σ₀ s₀ bd J:=(x0.trans (O.more λb hb=>.tail _ hb)).trans (U.more λ_ h=>nomatch h);have cx:∀j,j∉t.vars++more.vars->be j=W j:=λj hj=>(ai j (λq=>hj (dk _ q))).trans (ag j hj);cases ok with
 |false =>
  rw[br gq];show kQ.next lt ch F4 ay a4 x5 ax cx ao
 |true =>
  rw[cn rfl];apply du (dL xo (c.at F4 ay) a4 ao) (λ_ dV l=>?_) λ_ _ x=>x;have#[dr,dm,dn,bg,cd,ca,df,da,bt,bn,bl,bu,aj,z]:=l;have#[dv,ck]:=I.stay (λc hc q=>(cw.mp q).elim (λe=>by rw[e]at hc;show hD hc) (ar c hc)) ch ax aj.e;show kQ.next lt dv df da #[#[bg,cd,bt,bn],bl,bu,a.off,a.base] (x5.trans aj) ck (λj hj=>(z j (λq=>hj (dt _ q))).trans (cx j hj)) ca
def KI {iter:Expr}(ht:xn G C sc d t target)(bg:tu G C sc d cs ifs)(bl:uz G C sc d more elt gens scope pos depth)(hg:gens[depth]?=some #[target,iter,ifs,0])(be:∀g',gens[depth+1]?=some g'->g'.is_async=0)
  {R:Result->Shared->Prop} (I:Itr G) (hI:I.tup=true->isTup target=true) (xo:XOk env X gens) (c:Cx G sc d A env ρ σ s) (a:eG G env D σ s.heap acc)
  (hp:I.pos 0 s.heap) (aj:Go (D::X) σ₀ s₀ σ s) (ag:∀b∈I.own,s₀.heap.get? b=none) (hX:∀b∈I.own,b∉envX env) (bc:∀b∈I.own,¬σ.dom b) (hD:D∉I.own) (B:∀b∈I.own,G.hb.get? b=none)
  (hf:kY I.vs I.Gd (pC C t cs more) ρ acc σ K)
  (hR:∀s',zL G env D X (t.vars++more.vars) ρ σ₀ s₀ K s'->R (.ok .next) s') :
  codeAny G.M A (.compLoop (.ListComp elt gens scope pos) depth (.ref I.it) (.ref D) env) R s:=by
 apply uY hg be (kQ I env σ₀ s₀ D X (t.vars++more.vars) ρ (pC C t cs more) K) ?_ (I.vs.length-0)
  #[0,σ,ρ,acc,rfl,hp,c.F,c.R,a,aj,bc,λ_ _=>rfl,hf]
 intro n s' zz;have#[i,σ',ρ',ax,rfl,U,F',R',a',x',J,ar,O]:=zz;cases hq:I.vs[i]? with
 |none =>
  rw[jY (gH.mp hq)]at O;apply I.stop A _ s' σ' i _ c.ao.handled R' O.1 U hq λs2 g=>?_;have#[W,g2]:=g;have fz:=I.frz U W;have#[ws,m,hl,hv]:=(a'.kept hD W fz).here;show hR _ #[ρ',ax,σ',ws,m,O.2,F'.but W fz hX,I.rel U R' J B W,hl,hv,a'.len,a'.out,x'.but W g2 ag,ar]
 |some v =>
  have#[bd,ai]:=z9 hq;rw[ai]at O;apply du (I.next A _ s' σ' i v target ?Q c.ao.handled R' O.1 U hq (λq=>uK (hI q)) ?k) (λr s₁ hr=>?m) λ_ _ x=>x
  case m =>
   cases r with
   |none=>show hr.elim
   |some w=>show hr
  case k =>
   intro w s2 g z;have#[W,g2]:=g;have fz:=I.frz U W;have#[vr,ay]:=z fz;show L7 ht bg bl xo (xo.cells _ (fe hg)) (c.at (F'.but W fz hX) (I.rel U R' J B W)) hX hD bd (a'.kept hD W fz) (x'.but W g2 ag) ay J ar vr O.2
def xP {it:It}{iter:Expr}(hit:gQ G C sc d (isTup target) it iter)(ht:xn G C sc d t target)(ag:tu G C sc d cs ifs)(ai:uz G C sc d more elt gens scope pos (depth+1))
  (hg:gens[depth+1]?=some #[target,iter,ifs,0]) (z:∀g',gens[depth+1+1]?=some g'->g'.is_async=0) (hs:∀env v,foldedSetIterable iter env v=pure v):uz G C sc d (.cons it t cs more) elt gens scope pos depth:=λA E env ρ σ acc K s D X xo c a h=>by
 unfold we;rw[hg];apply ab (du (hit c h) (λv s₁ h₁=>?_) λ_ _ x=>x);apply ab (jd (ab (gc (hs env v) (ab (dw (du h₁ (λitv s₂ l=>?_) λ_ _ x=>x))))));have#[I,σ₁,rfl,J,hf,hp,r,U,W,B]:=l;have hD:D∉I.own:=λq=>by
  have#[ws,n,hl,_]:=a.here;have:=W D q;rw[show s.heap.get? D=_ from hl]at this;cases this
 have O:Go (D::X) σ s σ₁ s₂:=U.more λ_ h=>nomatch h;have loop:∀{R':Result->Shared->Prop},(∀s',zL G env D X (t.vars++more.vars) ρ σ s K s'->R' (.ok .next) s')->codeAny G.M A (.compLoop (.ListComp elt gens scope pos) (depth+1) (.ref I.it) (.ref D) env) R' s₂:=λhR =>
  KI ht ag ai hg z I J xo (c.go r U) (a.evo U.e (by simp)) hp O W (qZ c.F W) B hD (eW c.R W) hf hR
 apply ab (wpAny_runOwn (iQ hg (loop λs' l=>ae l) (I.self _ _ _ _ _ hp (loop λs' l=>ae l))))
end
end MP
end
section
set_option tactic.hygienic true
namespace MP
open PySem PyProof.Rows
variable {env:Env}{scope:Scope}{fv:List (Nat×Nat)}{σ:St}{it:It}{t:Tg}{cs:Exs}{more:Gens}{elt target iter:Expr}{ifs:List Expr}{rest:List Comprehension}{pos:Pos}
abbrev qj (cells:List (Str×Addr)):List (Str×NameKind)->List (Str×Addr)->List (Str×Addr)
 | [],acc=>acc
 |(n,k)::r,acc=>if k==.free then qj cells r ((n,(cells.lookup n).getD 0)::acc) else qj cells r acc
def fE (f:Str×NameKind->List (Str×Addr)->Sem (ForInStep (List (Str×Addr))))
  (W:∀n k cs,f (n,k) cs=if k==.free then (do let c←cellOf env n;pure (.yield ((n,c)::cs))) else pure (.yield cs)) :
  ∀(names:List (Str×NameKind)) (acc:List (Str×Addr)),(∀n,(n,NameKind.free)∈names->(env.cells.lookup n).isSome=true)->forIn names acc f=pure (qj env.cells names acc)
 | []=>λacc _=>by rw[pq];rfl
 |(n,k)::r=>λacc h=>by
  have hr:=λacc=>fE f W r acc λm O=>h m (.tail _ O);rw[qi,W];dsimp only[qj];split
  ·rename_i hk;rw[fy]at hk;subst hk;have#[c,U]:=cz.mp (h n (.head _));have e:cellOf env n=pure c:=by unfold cellOf;rw[U]
   rw[e,U];show hr _
  ·show hr acc
def oT (h:∀n,(n,NameKind.free)∈scope.names->(env.cells.lookup n).isSome=true):closureFor scope env=pure (qj env.cells scope.names []):=by
 have e:closureFor scope env=(forIn scope.names [] (λ(x:Str×NameKind) (cs:List (Str×Addr))=>if x.2==.free then (do let c←cellOf env x.1;pure (ForInStep.yield ((x.1,c)::cs))) else pure (ForInStep.yield cs))>>=λcs=>pure cs):=by
  unfold closureFor
  first|rfl|simp
 rw[e,fE _ (λn k cs=>rfl) scope.names [] h];rfl
def dC (cells:List (Str×Addr)):∀(names:List (Str×NameKind)) (acc:List (Str×Addr)),qj cells names acc=qj cells names []++acc
 | []=>λ_=>rfl
 |(n,k)::r=>λacc=>by
  dsimp only[qj];split
  ·rw[dC cells r ((n,(cells.lookup n).getD 0)::acc),dC cells r [(n,(cells.lookup n).getD 0)]];simp
  ·show dC cells r acc
def sq (cells:List (Str×Addr)):∀(names:List (Str×NameKind)) (x:Str) (c:Addr),(x,c)∈qj cells names []->(x,NameKind.free)∈names/\c=(cells.lookup x).getD 0
 | []=>λ_ _ h=>nomatch h
 |(n,k)::r=>λx c h=>by
  dsimp only[qj]at h;split at h
  ·rename_i hk;rw[dC]at h;rcases cq.mp h with h|h
   ·apply#[.tail _ (sq cells r x c h).1,(sq cells r x c h).2]
   ·have#[rfl,rfl]:=pg (au.mp h);rw[fy]at hk;subst hk;apply#[.head _,rfl]
  ·apply#[.tail _ (sq cells r x c h).1,(sq cells r x c h).2]
def jR (cells:List (Str×Addr)):∀(names:List (Str×NameKind)) (x:Str),(x,NameKind.free)∈names->(x,(cells.lookup x).getD 0)∈qj cells names []
 | []=>λ_ h=>by cases h
 |(n,k)::r=>λx h=>by
  dsimp only[qj];split
  ·rw[dC];rcases cw.mp h with e|h
   ·have#[rfl,_]:=pg e;show dt _ (.head _)
   ·show dk _ (jR cells r x h)
  ·rename_i hk;rcases cw.mp h with e|h
   ·have#[_,rfl]:=pg e;simp at hk
   ·show jR cells r x h
def dT {cells:List (Str×Addr)}{names:List (Str×NameKind)}{x:Str}(h:(x,NameKind.free)∈names):(qj cells names []).lookup x=some ((cells.lookup x).getD 0):=by
 have#[c,W]:=uo (jR cells names x h);rw[W];rw[(sq cells names x c (mem_of_lookup W)).2]
abbrev tj (scope sc:Scope):Scope:=
 {scope with names:=scope.names.map λ(n,k)=>if (k==.free&&sc.kind==.function&&sc.names.lookup n==some .cell) then (n,.cell) else (n,k)}
def D5:relabel scope env=tj scope env.scope:=rfl
abbrev rF (sc:Scope)(fv:List (Nat×Nat))(i:Nat):Str×NameKind->Bool
 |(x,.free)=>match fv.lookup i with
  |some j=>match sc.names[j]? with
   |some (y,k)=>x==y&&(k==.cell||k==.free)
   |none=>false
  |none=>false
 |(_,_)=>(fv.lookup i).isNone
abbrev rG (sc:Scope)(fv:List (Nat×Nat)):Nat->List (Str×NameKind)->Bool
 |_,[]=>true
 |i,p::r=>rF sc fv i p&&rG sc fv (i+1) r
def rC {sc:Scope}:∀{names:List (Str×NameKind)} {i:Nat},rG sc fv i names=true->∀(j:Nat) (p:Str×NameKind),names[j]?=some p->rF sc fv (i+j) p=true
 | [],_,_,j,p,e=>by simp at e
 |q::r,i,h,0,p,e=>by
  dsimp only[rG]at h;simp only[fp]at h;simp at e;subst e;show h.1
 |q::r,i,h,j+1,p,e=>by
  dsimp only[rG]at h;simp only[fp]at h;have:=rC h.2 j p (by simpa using e);rw[show i+(j+1)=i+1+j by(show ow (.e .a7 .a2) .o)];show this
abbrev ownIn (scope:Scope)(y:Str):Bool:=match scope.names.lookup y with
 |some .local=>true
 |some .cell=>true
 |_=>false
abbrev rB (scope:Scope)(gens:List Comprehension):Bool:=gens.all λg=>(iC g.target).all (ownIn scope)
def Evo.adopt {X:List Addr}{σ':St}{h h':Heap}{D:Addr}(xs:List V)(x:Evo X σ h σ' h')(W:h.get? D=none):Evo X σ h (σ'.di D xs) h':=
 #[x.keep,x.frz,λb d=>(dB d).elim (x.dom b) λe=>.inr (e▸W),x.there]
section
variable {G:Stc}{C:Cal}{sc:Scope}{d:Nat}
def EZ {ρ:Fr}{h:Heap}(F:FR G σ env ρ h)(es:env.scope=sc)(nd:(scope.names.map (·.1)).Nodup)(W:rG sc fv 0 scope.names=true) :
  (∀n,(n,NameKind.free)∈scope.names->(env.cells.lookup n).isSome=true)/\FU G σ h scope.names (qj env.cells scope.names []) (jQ fv ρ):=by
 have ag:∀(i:Nat) (x:Str),scope.names[i]?=some (x,.free)->∃j k,fv.lookup i=some j/\env.scope.names[j]?=some (x,k)/\(k=.cell\/k=.free):=λi x e=>by
  have:=rC W i _ e;rw[ky]at this;simp only[rF]at this;split at this
  ·rename_i j hj;split at this
   ·rename_i y k hy;simp only[fp,fy,xi]at this;apply#[j,k,hj,by rw[es,hy,this.1],this.2]
   ·cases this
  ·cases this
 have cellAt:∀(i:Nat) (x:Str),scope.names[i]?=some (x,.free)->∃j k c w,fv.lookup i=some j/\env.scope.names[j]?=some (x,k)/\(k=.cell\/k=.free)/\env.cells.lookup x=some c/\h.IsCell c w/\OV G h (ρ j) w/\¬σ.dom c/\c≠env.locals/\(G.cap x=false->G.hb.get? c=none):=λi x e=>by
  have#[j,k,h1,h2,z]:=ag i x e;have#[c,w,g1,g2,g3,g4,g5,g6]:=F.cells j x k h2 z;apply#[j,k,c,w,h1,h2,z,g1,g2,g3,g4,g5,g6]
 have idx:∀n,(n,NameKind.free)∈scope.names->∃i:Nat,scope.names[i]?=some (n,NameKind.free):=λn I=>List.getElem?_of_mem I;apply#[λn I=>?_,#[λi x e=>?_,λi j x y c ei ej lx ly=>?_,λp hp=>?_,λi x k e hk=>?_]]
 ·have#[i,e]:=idx n I;have#[j,k,c,w,_,_,_,U,_]:=cellAt i n e;rw[U];rfl
 ·have#[j,k,c,w,h1,h2,z,g1,g2,g3,g4,g5,g6]:=cellAt i x e;apply#[c,w,by rw[dT (fe e),g1];rfl,g2,?_,g4,g6];unfold jQ;rw[h1];show g3
 ·have#[a,ka,ca,wa,a1,a2,a3,a4,_]:=cellAt i x ei;have#[b,kb,cb,wb,b1,b2,b3,b4,_]:=cellAt j y ej;rw[dT (fe ei),a4]at lx;rw[dT (fe ej),b4]at ly;have J:ca=c:=by simpa using lx
  have O:cb=c:=by simpa using ly
  have B:=F.inj a b x y ka kb c a2 b2 a3 b3 (J▸a4) (O▸b4);subst B;rw[a2]at b2;have#[rfl,_]:=pg (af b2);show iM nd ei ej
 ·have#[hm,U]:=sq _ _ p.1 p.2 hp;have#[i,e]:=idx _ hm;have#[j,k,c,w,_,_,_,g1,#[o,ho,_],_]:=cellAt i _ e;rw[g1]at U;apply#[o,by rw[U];show ho]
 ·have:=rC W i _ e;rw[ky]at this;unfold jQ;cases k<;>first|show absurd rfl hk|(simp only[rF,vl]at this;rw[this];rfl)
abbrev wd (scope:Scope)(env:Env)(cells:List (Str×Addr))(L:Addr):Env:=
 {scope:=relabel scope env,locals:=L,globals:=env.globals,cells:=cells,qual:=env.qual,func:=none,code:=env.code,frame:=env.frame,builtins:=env.builtins}
def uW {p0:Pos}{use:Option (Value->Sem Unit)}(hit:gQ G C sc d (isTup target) it iter)(ht:xn G C (tj scope sc) d t target)(ec:tu G C (tj scope sc) d cs ifs)
  (ee:uz G C (tj scope sc) d more elt (#[target,iter,ifs,0]::rest) scope pos 0) (hs:∀env v,foldedSetIterable iter env v=pure v) (be:scope.kind=.function) (nd:(scope.names.map (·.1)).Nodup) (dc:rG sc fv 0 scope.names=true) (ea:rB scope (#[target,iter,ifs,0]::rest)=true) (dn:∀g'∈rest,g'.is_async=0)
  {A:Around} {E:QqV} {env:Env} {ρ:Fr} {Q:V->St->Prop} {s:Shared} {P:QqV} (cx:Cx G sc d A env ρ σ s) (h:wpE C (.K fv it t cs more) ρ σ Q)
  (hP:∀(v:V) (σ':St) (s':Shared) (w:Value) (L:Addr),Q v σ'->VR G s'.heap v w->Rel G σ' s'.heap->Go [] σ s σ' s'->s.heap.get? L=none->¬σ'.dom L->(∃m,s'.heap.Ns L m)->compPost G.M A E use P w L (.ok .next) s') :
  wpAny G.M A (comprehension (.ListComp elt (#[target,iter,ifs,0]::rest) scope pos) scope env p0 (newList []) false (eval iter env) use) P E s:=by
 have#[J,_]:=EZ cx.F cx.es nd dc;apply wpAny_comprehension_free rfl (hs env) (oT J) be (λx hx hl=>?_) (du (hit cx h) (λv s₁ h₁=>du h₁ (λitv s₂ l=>?_) λ_ _ x=>x) λ_ _ x=>x)
 ·have#[i,e]:=List.getElem?_of_mem hx;have#[y,k]:=x;simp only at hl;subst hl;show wi nd e
 have#[I,σ₁,rfl,ck,hf,hp,r,aj,bc,dV]:=l;have dy:=cx.F.evo aj.e;apply mw (?_:wpAny G.M A _ _ E _) (by show([]:List Value).toArray.size<=sizeLine;simp);have dx:FR G σ₁ env ρ (s₂.heap.push {cls:=.type "list",data:=.seq ([]:List Value).toArray}):=dy.evo (Evo.push [] σ₁ s₂.heap {cls:=.type "list",data:=.seq ([]:List Value).toArray});have r₂:=r.push {cls:=.type "list",data:=.seq ([]:List Value).toArray};have bv:(s₂.heap.push {cls:=.type "list",data:=.seq ([]:List Value).toArray}).get? s₂.heap.objs.size=some {cls:=.type "list",data:=.seq ([]:List Value).toArray}:=fj _ rfl;have cd:Go [] σ s σ₁ {s₂ with heap:=s₂.heap.push {cls:=.type "list",data:=.seq ([]:List Value).toArray}}:=aj.to (Evo.push _ _ _ _);have dr:I.pos 0 (s₂.heap.push {cls:=.type "list",data:=.seq ([]:List Value).toArray}):=I.keep _ _ _ hp (λb _ o e=>bw _ e) λb o e _=>bw _ e;generalize ei:s₂.heap.push {cls:=.type "list",data:=.seq ([]:List Value).toArray}=H at *;have O:H.objs.size=s₂.heap.objs.size+1:=by rw[<- ei];show jh ..
 have#[_,clo]:=EZ dx cx.es nd dc;have ct:∀(i:Nat) (x:Str) (k':NameKind),(relabel scope env).names[i]?=some (x,k')->∃k,scope.names[i]?=some (x,k)/\(k'=k\/(k=.free/\k'=.cell)):=λi x k' e=>by
  simp only[relabel,cy]at e;cases hq:scope.names[i]? with
  |none=>rw[hq]at e;cases e
  |some p =>
   have#[y,k]:=p;rw[hq]at e;simp only[Option.map_some,gx]at e;split at e
   ·rename_i hc;have#[rfl,rfl]:=pg e;simp only[fp,fy]at hc;apply#[k,rfl,.inr #[hc.1.1,rfl]]
   ·have#[rfl,rfl]:=pg e;apply#[k,rfl,.inl rfl]
 have#[dv,keep]:=n9 (T:="dict") (env:=wd scope env (cellsFrom (H.objs.size+1) scope.names (qj env.cells scope.names [])) H.objs.size) r₂ nd clo rfl rfl ct;have ca:dH (wd scope env (cellsFrom (H.objs.size+1) scope.names (qj env.cells scope.names [])) H.objs.size):=by
  apply#[be,?_,cx.eo.globals,cx.eo.builtins];have e:(relabel scope env).names.map (·.1)=scope.names.map (·.1):=by
   simp only[relabel,jf];apply List.map_congr_left λp _=>?_;have#[y,k]:=p;simp only[Function.comp];split<;>rfl
  show((relabel scope env).names.map (·.1)).Nodup;rw[e];show nd
 have ok:=cellsFrom_ok scope.names (H.push {cls:=.type "dict",data:=.dict #v[]}) (H.objs.size+1) [] #[λ_ _ hm=>(nomatch hm),List.Pairwise.nil] (by rw[jh];show az _);rw[jh]at ok;simp only[newFunctionEnv,Option.isSome_some,bO];apply ab (wpAny_alloc ?_);apply ab (wpAny_layCells _ (λname kind cells=>by cases hkc:kind==NameKind.cell<;>simp[hkc]) _ _ _ _ ?_);rw[show(H.push {cls:=.type "dict",data:=.dict #v[]}).objs.size=H.objs.size+1 from jh ..];rw[pq];apply ab (ae (ae ?_));generalize em:pushCells (H.push {cls:=.type "dict",data:=.dict #v[]}) scope.names=H3 at *;have ch:=r₂.keeps keep;have fz:kf H H3:=λb o e _=>keep b o e;have cb:Go [] σ s σ₁ {s₂ with heap:=H3}:=cd.to (Evo.keeps keep);have bt:I.pos 0 H3:=I.keep _ _ _ dr (λb _ o e=>keep b o e) fz;have W:∀b,s₂.heap.objs.size<=b->s.heap.get? b=none:=λb hb=>aj.new (sd hb);have ar:∀b∈I.own,b<s₂.heap.objs.size:=λb hb=>by have#[o,e]:=I.there hp hb;show jz e
 have ef:∀b∈I.own,b∉envX (wd scope env (cellsFrom (H.objs.size+1) scope.names (qj env.cells scope.names [])) H.objs.size):=λb hb hm=>by
  have da:=ar b hb;rcases cw.mp hm with rfl|hm
  ·show absurd da (tg.mpr (by show s₂.heap.objs.size<=H.objs.size;(show ba .A .y (.e .B .M) O)))
  ·have#[p,ag,rfl]:=eg.mp hm;have ax:p∈cellsFrom (H.objs.size+1) scope.names (qj env.cells scope.names []):=ag;rw[ix]at ax;rcases cq.mp ax with h1|h1
   ·have:=(ok.empty p.1 p.2 h1).2;show kg _ (ti da (by(show fh .A .n (.e .C .M) (.k .S .B) O this):s₂.heap.objs.size<=p.2))
   ·have#[bd,ai]:=sq _ _ p.1 p.2 h1;have#[c,hc]:=cz.mp (J _ bd);rw[hc]at ai;simp only[Option.getD_some]at ai;have#[o,ho]:=cx.F.allc (p.1,c) (mem_of_lookup hc);have:=bc p.2 hb;rw[ai]at this;rw[show s.heap.get? c=some o from ho]at this;cases this
 have ej:s₂.heap.objs.size∉envX (wd scope env (cellsFrom (H.objs.size+1) scope.names (qj env.cells scope.names [])) H.objs.size):=λhm=>by
  rcases cw.mp hm with e|hm
  ·have:s₂.heap.objs.size=H.objs.size:=e
   (show iq .ff [[0,-1,-1]] .a3 .cH O this)
  ·have#[p,ag,e]:=eg.mp hm;have ax:p∈cellsFrom (H.objs.size+1) scope.names (qj env.cells scope.names []):=ag;rw[ix]at ax;rcases cq.mp ax with h1|h1
   ·have:=(ok.empty p.1 p.2 h1).2;(show oa .ff [[0,-1,1,1]] .a3 .aL (.k .M .C) O e this)
   ·have#[bd,ai]:=sq _ _ p.1 p.2 h1;have#[c,hc]:=cz.mp (J _ bd);rw[hc]at ai;have#[o,ho]:=cx.F.allc (p.1,c) (mem_of_lookup hc);have:=W c (by rw[<- show p.2=c from ai,e];show az _);rw[show s.heap.get? c=some o from ho]at this;cases this
 have U:∀b,s₂.heap.objs.size<=b->G.hb.get? b=none:=λb hb=>by
  cases hq:G.hb.get? b with
  |none=>rfl
  |some o=>show absurd (jz (r.base b o hq)) (tg.mpr hb)
 have bg:∀b,s₂.heap.objs.size<=b->¬σ₁.dom b:=λb hb dm=>by have#[o,e]:=r.sh dm;show absurd (jz e) (tg.mpr hb)
 have bn:eG G (wd scope env (cellsFrom (H.objs.size+1) scope.names (qj env.cells scope.names [])) H.objs.size) s₂.heap.objs.size σ₁ H3 []:=
  #[#[[],0,keep _ _ bv,.nil],bb _,bg _ (az _),ej,U _ (az _)]
 have xo:XOk (wd scope env (cellsFrom (H.objs.size+1) scope.names (qj env.cells scope.names [])) H.objs.size) (H.objs.size::(cellsFrom (H.objs.size+1) scope.names []).map (·.2)) (#[target,iter,ifs,0]::rest):=by
  apply#[.head _,λg hg y hy c hc=>?_,λb hb=>?_]
  ·have ay:=jy.mp (jy.mp ea g hg) y hy;have df:(cellsFrom (H.objs.size+1) scope.names (qj env.cells scope.names [])).lookup y=some c:=hc;rw[ix]at df;rcases cq.mp (mem_of_lookup df) with h1|h1
   ·show .tail _ (eg.mpr #[_,h1,rfl])
   ·have#[bd,_]:=sq _ _ y c h1;have#[i,e]:=List.getElem?_of_mem bd;have:=wi nd e;unfold ownIn at ay;rw[this]at ay;cases ay
  ·rcases cw.mp hb with rfl|hb
   ·show .head _
   ·have zz:=eg.mp hb;clear hb;have#[p,ag,rfl]:=zz;apply .tail _ (eg.mpr #[p,?_,rfl]);show p∈cellsFrom (H.objs.size+1) scope.names (qj env.cells scope.names []);rw[ix];show dk _ ag
 have eb:∀g',(#[target,iter,ifs,0]::rest:List Comprehension)[0+1]?=some g'->g'.is_async=0:=λg' e=>dn g' (fe (by simpa using e));have loop:codeAny G.M A (.compLoop (.ListComp elt (#[target,iter,ifs,0]::rest) scope pos) 0 (.ref I.it) (.ref s₂.heap.objs.size) (wd scope env (cellsFrom (H.objs.size+1) scope.names (qj env.cells scope.names [])) H.objs.size)) (compPost G.M A E use P (.ref s₂.heap.objs.size) H.objs.size) {s₂ with heap:=H3}:=by
  apply KI (s₀:=s) (σ₀:=σ) ht ec ee rfl eb I ck xo #[cx.ao,by show relabel scope env=_;rw[D5,cx.es],ca,dv,ch] bn bt (cb.more λ_ h=>nomatch h) bc ef dV (λq=>absurd (ar _ q) (kg _)) (eW cx.R bc) hf λs' l=>?_
  ·have#[ρ',acc',σ',ws,n,q,F',R',hl,hv,hz,hd,x',_]:=l;have ed:=U s₂.heap.objs.size (az _);have hL:σ'.L s₂.heap.objs.size=none:=by
    cases hq:σ'.L s₂.heap.objs.size with
    |none=>rfl
    |some y=>show absurd (.inl (by rw[hq];rfl)) hd
   have ek:=R'.N0 hd ed hl hv hz;have bl:∀z∈(s₂.heap.objs.size::H.objs.size::(cellsFrom (H.objs.size+1) scope.names []).map (·.2)),s.heap.get? z=none:=λz hz=>by
    rcases cw.mp hz with rfl|hz
    ·show W _ (az _)
    rcases cw.mp hz with rfl|hz
    ·show W _ (ba .A .y (.e .B .M) O)
    ·have#[p,ag,rfl]:=eg.mp hz;have:=(ok.empty p.1 p.2 ag).2;show W _ (fh .A .n (.e .C .M) (.k .S .B) O this)
   have dL:Go [] σ s (σ'.di s₂.heap.objs.size acc') s':=Go.less #[x'.e.adopt acc' (W _ (az _)),x'.g,x'.o] λz hz=>.inr (bl z hz);have#[m,hm,_]:=F'.ns;have bu:¬(σ'.di s₂.heap.objs.size acc').dom H.objs.size:=λdm=>by
    rcases dB dm with dm|e
    ·show F'.loc dm
    ·have e':H.objs.size=s₂.heap.objs.size:=e
     (show iq .ff [[0,-1,1]] .a3 .C O e)
   show hP (.L s₂.heap.objs.size) _ s' _ H.objs.size (q _ hL) (.L _) ek dL (W _ (ba .A .y (.e .B .M) O)) bu #[m,hm]
 show iQ rfl loop (I.self _ _ _ _ _ bt loop)
def tO (hit:gQ G C sc d (isTup target) it iter)(ht:xn G C (tj scope sc) d t target)(ag:tu G C (tj scope sc) d cs ifs)
  (ai:uz G C (tj scope sc) d more elt (#[target,iter,ifs,0]::rest) scope pos 0) (hs:∀env v,foldedSetIterable iter env v=pure v) (U:scope.kind=.function) (nd:(scope.names.map (·.1)).Nodup) (B:rG sc fv 0 scope.names=true) (I:rB scope (#[target,iter,ifs,0]::rest)=true) (O:∀g'∈rest,g'.is_async=0) :
  gi G C sc d (.K fv it t cs more) (.ListComp elt (#[target,iter,ifs,0]::rest) scope pos):=λA E env ρ σ Q s c h=>by
 rw[eval_ListComp];apply uW (use:=none) hit ht ag ai hs U nd B I O c h λv σ' s' w L q vr R' x hL hd J=>?_;have#[m,J]:=J;apply#[m,J,λh2 W=>?_];have#[o,aj,ep,ho,z,_]:=id J;have hf:kf s'.heap h2:=wo W λo' e=>by have rfl:=af (ho.symm.trans e);show ur z
 have hn:∀b∈[L],s.heap.get? b=none:=λb hb=>by have rfl:=au.mp hb;show hL
 apply#[v,σ',q,vr.mono hf,R'.frame (o':=default) W hd (eW c.R hn L (.head _)) hf,x.but (own:=[L]) (λb o hb e=>by rw[W.2 b (λq=>hb (q▸.head _))];show e) .rfl hn]
def mF {i:Nat}{x:Str}{kd:NameKind}{J W:Pos}(hi:sc.names[i]?=some (x,kd))(hk:Own G x kd)(hit:gQ G C sc d (isTup target) it iter)(ht:xn G C (tj scope sc) d t target)(ay:tu G C (tj scope sc) d cs ifs)
  (bc:uz G C (tj scope sc) d more elt (#[target,iter,ifs,0]::rest) scope pos 0) (hs:∀env v,foldedSetIterable iter env v=pure v) (O:scope.kind=.function) (nd:(scope.names.map (·.1)).Nodup) (ar:rG sc fv 0 scope.names=true) (ao:rB scope (#[target,iter,ifs,0]::rest)=true) (I:∀g'∈rest,g'.is_async=0) :
  zw G C sc d (.a [.v i] (.K fv it t cs more)) (.Assign [.Name x J] (.ListComp elt (#[target,iter,ifs,0]::rest) scope pos) W):=λA E env ρ σ K s c h=>by
 have plain:gi G C sc d (.K fv it t cs more) (.ListComp elt (#[target,iter,ifs,0]::rest) scope pos):=tO hit ht ay bc hs O nd ar ao I;by_cases ag:(env.blockKind==.function&&env.kindOf x==some .local&&J.line==pos.line&&!(scope.names.any λ(n,k)=>n==x&&(k==.local||k==.cell)))=true
 ·have U:swapsWith (.ListComp elt (#[target,iter,ifs,0]::rest) scope pos) (some (.Name x J)) W.line env=pure true:=by
   show(pure _:Sem Bool)=_;show dj pure ag
  rw[exec_Assign_Name_used _ _ _ _ U];apply ab (jd (ab ?_));show wpAny G.M A (comprehension _ scope env _ (newList []) false (eval iter env) (some (assign (.Name x J) env))>>=λ_=>pure ()) _ E s;apply ab ?_;apply uW (use:=some (assign (.Name x J) env)) (Q:=λv σ=>jA C [.v i] v ρ σ λρ σ=>K .next ρ σ) hit ht ay bc hs O nd ar ao I c h λv σ' s' w L q vr R' x' hL hd hm=>?_;have#[m,hm]:=hm;show wpAny G.M A (assign (.Name x J) env w) _ E _;apply assign_Name (fV c.eo (c.F.evo x'.e) R' (by rw[c.es];show hi) hk vr λs2 F2 R2 x2=>?_);have hn:∀b∈[L],s.heap.get? b=none:=λb hb=>by have rfl:=au.mp hb;show hL
  have hX:=qZ c.F hn;have#[o,bd,ep,ho,ax,z]:=id hm;have ai:=x2.keep _ _ ho hd (hX L (.head _));apply#[m,#[o,bd,ep,ai,ax,z],λh3 B=>ae (ae ?_)];have hf:kf s2.heap h3:=wo B λo' e=>by have rfl:=af (ai.symm.trans e);show ur ax
  have aj:∀b o,b∉[L]->s2.heap.get? b=some o->h3.get? b=some o:=λb o hb e=>by rw[B.2 b (λq=>hb (q▸.head _))];show e
  apply#[.next,_,σ',.next,q,F2.but aj hf hX,R2.frame (o':=default) B hd (eW c.R hn L (.head _)) hf,(x'.wide.trans x2).but aj .rfl hn]
 ·have U:swapsWith (.ListComp elt (#[target,iter,ifs,0]::rest) scope pos) (some (.Name x J)) W.line env=pure false:=by
   show(pure _:Sem Bool)=_;show dj pure (zd.mpr ag)
  rw[exec_Assign];apply ab (jd ?_);have e1:swapsWithSole [.Name x J] (.ListComp elt (#[target,iter,ifs,0]::rest) scope pos) W.line env=pure false:=U;rw[e1];apply ab (ae ?_);rw[br (by decide)];apply ab (rn (plain (Q:=λv σ=>jA C [.v i] v ρ σ λρ σ=>K .next ρ σ) c h) λv σ₁ s₁ w q vr r x=>?_);rw[qP (sc:=sc) (r:=none) rfl c.es (by unfold Env.blockKind;rw[c.eo.kind];rfl)];apply ab (ae ?_);show wpAny G.M A (do assignAll w _;pure Flow.next) _ _ _;apply ab (du (y8 (.cons (xZ hi hk) (λ_=>rfl) .nil) (c.go r x) vr q) (λ_ s' l=>ae ?_) λ_ _ x=>x);have#[ρ',σ',q',F',R',x']:=l;apply#[.next,ρ',σ',.next,q',F',R',x.wide.trans x']
end
end MP
end
section
namespace MP
open PySem PyProof.Rows
variable {Q:Option Value->Shared->Prop}{it x:Addr}{ox:Obj}{xs:Array Value}{n:Nat}{ws:List Value}
abbrev gE (C N:Addr)(nm q:Str)(k0 k2 k3:Option Value):Obj:=
 {cls:=.type "type",dict:=none,data:=.cls {name:=nm,bases:=[.type "tuple"],mro:=[.ref C,.type "tuple",.type "object"],ns:=N,qualname:=q,hasDict:=false,slotNames:=[],subclasses:=[],abstract:=false,collection:=none,hasDel:=false},slots:=#v[k0,none,k2,k3,some .none,some (.bool false)]}
abbrev d6 (C:Addr)(dd:Option Addr)(ws:List Value)(n:Nat):Obj:={cls:=.ref C,dict:=dd,data:=.seq ws.toArray n,slots:=#v[]}
def mro_tuple:mroOf (.type "tuple")=pure [.type "tuple",.type "object"]:=by kernel_rfl
section
variable {prog:Program}{w:World}{M:Model}{A:Around}{E:QqV}{h:Heap}{g:Array GenState}{d:Drawn}{t:Nat}{os:OsState}{C N:Addr}{nm q:Str}{k0 k2 k3:Option Value}{mN:Str->Option Value}{dd:Option Addr}
def kH {base:Value}{Q:Bool->Shared->Prop}(W:h.get? C=some (gE C N nm q k0 k2 k3))(U:Q ([Value.ref C,.type "tuple",.type "object"].contains base) #[h,g,d,t,os]):wpAny M A (isSubtype (.ref C) base) Q E #[h,g,d,t,os]:=by
 unfold gE at W;unfold isSubtype
 repeat (any_goals (first|assumption|wp_step))
def IA {Q:List Value->Shared->Prop}(W:h.get? C=some (gE C N nm q k0 k2 k3))(U:Q [.ref C,.type "tuple",.type "object"] #[h,g,d,t,os]):wpAny M A (mroOf (.ref C)) Q E #[h,g,d,t,os]:=by
 unfold gE at W;unfold mroOf
 repeat (any_goals (first|assumption|wp_step))
def wC {name:Str}(O:h.get? C=some (gE C N nm q k0 k2 k3))(U:h.Ns N mN)(W:Q (mN name) #[h,g,d,t,os]):wpAny M A (classOwn (.ref C) name) Q E #[h,g,d,t,os]:=by
 unfold classOwn;apply ab ?_;unfold classData;apply ab (zh O (ae (wpAny_nsGet U W)))
def xy {name:Str}{y:Option Value}(J:h.get? C=some (gE C N nm q k0 k2 k3))(B:h.Ns N mN)(I:typeLookup (.type "tuple") name=pure y)(U:Q ((mN name).or y) #[h,g,d,t,os]):wpAny M A (typeLookup (.ref C) name) Q E #[h,g,d,t,os]:=by
 have W:lookupAlong [.type "tuple",.type "object"] name=pure y:=by rw[typeLookup_eq,mro_tuple]at I;show I
 rw[typeLookup_eq];apply ab (IA J ?_);rw[lookupAlong_cons];apply ab (wC J B ?_);cases O:mN name with
 |some v=>rw[O]at U;show ae U
 |none=>rw[O]at U;show gc W U
def D1 {x:Addr}{i:Nat}{v:Value}{s:Shared}(hit:IsTupIter s.heap it x i)(O:s.heap.get? x=some ox)(hd:ox.data=.seq xs n)(J:xs[i]?=some v)
  (B:∀h',IsTupIter h' it x (i+1)->Heap.SameBut it s.heap h'->Q (some v) {s with heap:=h'}):wpAny (model prog w) A (pyNext (.ref it)) Q E s:=by
 have#[o,U,I,W]:=id hit;unfold pyNext;apply ab (wpAny_attempt (oB (name:=Str.ofString "__next__") hit.typeIs qo (oe qo hit.typeIs sW ?_ (sV _))));show wpAny _ _ (field (.ref it) 0>>=_) _ _ s;apply ab (kR U W (x:=.ref x) rfl ?_);show wpAny _ _ (if (Value.ref x==Value.none)=true then _ else _) _ _ s;rw[br (show ¬((Value.ref x==Value.none)=true) from gq)];show wpAny _ _ (field (.ref it) 1>>=_) _ _ s;apply ab (kR U W (x:=.int i 0) rfl ?_);show wpAny _ _ (seqItems? (.ref x)>>=_) _ _ s;apply ab (xd O hd ?_);dsimp only;rw[qq,J];show wpAny _ _ (setField (.ref it) 1 (rawInt (i+1))>>=_) _ _ _;apply ab (wpAny_setField U W (by simp) ?_);apply(ae #[v,rfl,ae (B _ #[_,eH _ U (Obj.isFreed_of_fields (Obj.data_mapFields W _)),(Obj.cls_mapFields ..).trans I,?_] (ye ..))]);rw[Obj.data_mapFields W];simp[rawInt]
def HL {x:Addr}{i:Nat}{s:Shared}(I:A.handled=none)(hit:IsTupIter s.heap it x i)(O:s.heap.get? x=some ox)(hd:ox.data=.seq xs n)(J:xs[i]?=none)
  (z:∀h',Heap.ExtBut it s.heap h'->Q none {s with heap:=h'}):wpAny (model prog w) A (pyNext (.ref it)) Q E s:=by
 have#[o,U,hc,W]:=id hit;unfold pyNext;apply ab (wpAny_attempt (oB (name:=Str.ofString "__next__") hit.typeIs qo (oe qo hit.typeIs sW ?_ (sV _))));show wpAny _ _ (field (.ref it) 0>>=_) _ _ s;apply ab (kR U W (x:=.ref x) rfl ?_);show wpAny _ _ (if (Value.ref x==Value.none)=true then _ else _) _ _ s;rw[br (show ¬((Value.ref x==Value.none)=true) from gq)];show wpAny _ _ (field (.ref it) 1>>=_) _ _ s;apply ab (kR U W (x:=.int i 0) rfl ?_);show wpAny _ _ (seqItems? (.ref x)>>=_) _ _ s;apply ab (xd O hd ?_);dsimp only;rw[qq,J];show wpAny _ _ (rule _>>=λ_=>setField (.ref it) 0 .none>>=_) _ _ _;apply ab (sr (ab (wpAny_setField U W (by simp) ?_)));apply vR I λh' e hk B=>?_;apply ab (wpAny_isInstance (T:="StopIteration") (b:=true) B isSubtype_stop ?_);show ae (z _ λb o n e=>hk b o ((ye ..).extBut b o n e))
def IC {id I:String}{rest:List Value}{Q:Unit->Shared->Prop}(z:h.get? C=some (gE C N nm q k0 k2 k3))(U:h.get? x=some (d6 C dd ws n))(B:splitId id=some ("tuple",I))(hk:builtinKind id=some .slot\/builtinKind id=some .method)(O:argsOk id #[.ref x::rest,[]])(J:Q () #[h,g,d,t,os]) :
  wpAny M A (checkBuiltinCall id #[.ref x::rest,[]]) Q E #[h,g,d,t,os]:=by
 have inst:∀{R:Bool->Shared->Prop},R true #[h,g,d,t,os]->wpAny M A (isInstance (.ref x) (.type "tuple")) R E #[h,g,d,t,os]:=λ{R} hr=>by
  unfold isInstance;unfold d6 at U
  repeat (first|(with_reducible refine rt U ?_)|(with_reducible refine kH z ?_)|wp_step)
  show hr
 rcases hk with hk|hk <;>
 ·simp only[checkBuiltinCall,hk,B];apply ab (inst ?_);simp only[cO,gp,md];cases hsig:Manifest.signature? id with
  |none=>show ae J
  |some W =>
   simp only[argsOk,hsig]at O;have h2:Bind.checkArgs id W #[.ref x::rest,[]]=pure ():=O;show wpAny M A (Bind.checkArgs id W #[.ref x::rest,[]]) Q E _;rw[h2];show ae J
def wD {id W:String}{b:Builtin}{rest:List Value}{Q:QqV}(hC:h.get? C=some (gE C N nm q k0 k2 k3))(U:h.get? x=some (d6 C dd ws n))(J:splitId id=some ("tuple",W))(hk:builtinKind id=some .slot\/builtinKind id=some .method)(I:plainId id=true)(B:entryFor table id=some b)(ha:argsOk id #[.ref x::rest,[]])
  (z:wpAny (model prog w) A.in1 (b #[.ref x::rest,[]]) (λfin s'=>∃v,fin=.done (.ret v)/\Q v s') E #[h,g,d,t,os]):wpAny (model prog w) A (call (.builtin id) (.ref x::rest)) Q E #[h,g,d,t,os]:=by
 apply su (fK I B (IC hC U J hk ha (du z (λfin s' h'=>?_) λ_ _ e=>e)));have#[v,rfl,O]:=h';show O
def tJ:splitId "tuple.__iter__"=some ("tuple","__iter__"):=by kernel_rfl
def wH:builtinKind "tuple.__iter__"=some .slot:=by kernel_rfl
def M9 {Q:QqV}(O:h.get? C=some (gE C N nm q k0 k2 k3))(J:h.Ns N mN)(I:mN "__iter__"=none)(U:h.get? x=some (d6 C dd ws n))
  (B:Q (.ref h.objs.size) #[h.push {cls:=.type "tuple_iterator",data:=.fields #v[.ref x,.int 0 0]},g,d,t,os]):wpAny (model prog w) A (pyIter (.ref x)) Q E #[h,g,d,t,os]:=by
 have hl:=PySem.F.slot_tuple_iter.lookup;have hb:=PySem.F.slot_tuple_iter.bind (.ref x);have W:=U;unfold pyIter specialOf;unfold d6 at U
 repeat (first|(with_reducible refine rt U ?_)|(with_reducible refine xy O J hl ?_;rw[I])|wp_step)
 have go:∀(E:QqV) (R:Option (Value×List Value)->Shared->Prop),R (some (.builtin "tuple.__iter__",[.ref x])) #[h,g,d,t,os]->wpAny (model prog w) A (do let r←bindSpecial (Value.builtin "tuple.__iter__") (Value.ref x);pure (some r)) R E #[h,g,d,t,os]:=λE R hr=>ab (gc hb (ae hr));have fin:wpAny (model prog w) A (call (.builtin "tuple.__iter__") [.ref x]) (λr s'=>∃y,r=.ref y/\y=h.objs.size/\s'=#[h.push {cls:=.type "tuple_iterator",data:=.fields #v[.ref x,.int 0 0]},g,d,t,os]) E #[h,g,d,t,os]:=by
  apply wD O W tJ (.inl wH) PySem.F.slot_tuple_iter.plain PySem.F.entry_tuple_iter (PySem.F.args_tuple_iter_1 _) ?_;show wpAny _ _ (do ret (← newFields "tuple_iterator" [.ref x,rawInt 0])) _ _ _;show ab (mw (ae #[_,rfl,_,rfl,rfl,rfl]))
 have tail:wpAny (model prog w) A (match (some (Value.builtin "tuple.__iter__",[Value.ref x]):Option (Value×List Value)) with
    |some (g,first)=>if (g==Value.none)=true then (do let r←(do rule "iter.none";raiseError "TypeError" s!"'{← typeNameOf (.ref x)}' object is not iterable":Sem Value);pure (some r)) else (do let r←call g first;pure (some r))
    |_=>pure none:Sem (Option Value)) (λa s'=>wpAny (model prog w) A (match a with
     |some it=>(do match←(do typeLookup (← typeOf it) "__next__":Sem (Option Value)) with
       |none=>(do rule "iter.non-iterator";raiseError "TypeError" s!"iter() returned non-iterator of type '{← typeNameOf it}'":Sem Value)
       |some _=>pure it)
     |none=>(do match←bindSpecialIfBound? (.ref x) "__getitem__" with
       |none=>(do rule "iter.not-iterable";raiseError "TypeError" s!"'{← typeNameOf (.ref x)}' object is not iterable":Sem Value)
       |some _=>(do rule "iter.getitem-fallback";newFields "iterator" [.ref x,<- mkInt 0]))) Q E s') E #[h,g,d,t,os]:=by
  dsimp only;rw[br (show ¬((Value.builtin "tuple.__iter__" == Value.none)=true) from gq)];apply ab (du fin (λr s' hr=>?_) λ_ _ e=>e);have#[y,rfl,rfl,rfl]:=hr;apply ae ?_;dsimp only;apply ab (ab (i5 (T:="tuple_iterator") #[_,fj _ rfl,rfl] (gc qo.lookup ?_)));show ae B
 apply oC ?_;split
 ·show go _ _ tail
 ·show wpAny_tryCatch (go _ _ tail)
def tT {k:Nat}(z:x≠it)(hd:ox.data=.seq xs k):∀(n i:Nat) (s:Shared) (Q:List Value->Shared->Prop),IsTupIter s.heap it x i->s.heap.get? x=some ox->i+n<=xs.size ->
  (∀h',IsTupIter h' it x (i+n)->Heap.SameBut it s.heap h'->Q ((xs.toList.drop i).take n) {s with heap:=h'})->wpAny (model prog w) A (draw (.ref it) n) Q E s
 |0=>λi s Q hit hx hn hQ=>by
  dsimp only[draw];show ae (by simpa using hQ s.heap hit (.refl ..))
 |n+1=>λi s Q hit hx hn hQ=>by
  dsimp only[draw];have hv:xs[i]?=some xs[i]:=Array.getElem?_eq_getElem (gu .B .a .cT hn);apply ab (D1 hit hx hd hv λh₁ O W=>?_);apply ab (dw (tT z hd n (i+1) _ _ O (by rw[W.2 x z];show hx) (gu .cC .a .L hn) λI U J=>ae ?_));have ag:xs.toList.drop i=xs[i]::xs.toList.drop (i+1):=by
   rw[cf (by simpa using (by(show gu .B .a .cT hn):i<xs.size))];simp
  have:=hQ I (by rw[show i+(n+1)=i+1+n by(show ow (.e .a7 .a2) .o)];show U) (W.trans J);rw[ag,List.take_succ_cons]at this;show this
end
structure uh (G:Stc):Prop where
 here:∃N mN nm q k0 k2 k3,G.hb.get? G.cM=some (gE G.cM N nm q k0 k2 k3)/\G.hb.Ns N mN/\mN "__iter__"=none/\mN "__lt__"=none/\mN "__len__"=none/\mN "__init__"=none
def PN {G:Stc}(K:uh G):BD G:=λA E s x ws n dd Q hh U hx hQ=>by
 have#[N,mN,nm,q,k0,k2,k3,hC,hN,hi,_]:=K.here;have ag:x≠s.heap.objs.size:=kj (jz hx);have#[h,g,d,t,os]:=s;have ao:=U _ _ hC;have aj:=hN.keeps U;have hl:=PySem.F.slot_tuple_iter.lookup;have ar:h.get? x=some (d6 G.cM dd ws n):=hx;have z:h.get? x=some {cls:=.ref G.cM,dict:=dd,data:=.seq ws.toArray n,slots:=#v[]}:=hx;have ni:∀R:Bool->Shared->Prop,R false #[h,g,d,t,os]->wpAny G.M A (notIterableAtAll (.ref x)) R E #[h,g,d,t,os]:=λR hr=>by
  unfold notIterableAtAll specialOf
  repeat (first|(with_reducible refine rt z ?_)|(with_reducible refine xy ao aj hl ?_;rw[hi])|wp_step)
  show hr
 unfold unpackItems;apply ab (ni _ ?_);simp only[gp,md];have hp:(h.push {cls:=.type "tuple_iterator",data:=.fields #v[.ref x,.int 0 0]}).get? x=some {cls:=.ref G.cM,dict:=dd,data:=.seq ws.toArray n,slots:=#v[]}:=bw _ z;apply ab (dw (M9 ao aj hi ar ?_));apply ab (dw (tT (xs:=ws.toArray) (k:=n) ag rfl ws.length 0 _ _ #[_,fj _ rfl,rfl,rfl] hp (by simp) λh₁ O W=>?_));have ai:List.take ws.length (List.drop 0 ws.toArray.toList)=ws:=by simp
 rw[ai,br (by simp)];have J:h₁.get? x=some {cls:=.ref G.cM,dict:=dd,data:=.seq ws.toArray n,slots:=#v[]}:=by rw[W.2 x ag];show hp
 apply ab (dw (HL (xs:=ws.toArray) (n:=n) hh O J rfl (by simp) λB I=>?_));simp only[xr,gp,md];show ae (hQ B λb o hb e=>I b o hb (W.extBut b o hb (bw _ e)))
variable {x y:Addr}{ns ms:List Int}{n:Nat}
abbrev hJ (ns ms:List Int):Option Fin×Unit:=if ns=ms then (none,()) else (some (.done (.ret (.bool (ke ns ms)))),())
def h9:∀ns:List Int,ke ns ns=false
 | []=>rfl
 |a::as=>(cn rfl).trans (h9 as)
section
variable {prog:Program}{w:World}{M:Model}{A:Around}{E:QqV}{h:Heap}{g:Array GenState}{d:Drawn}{t:Nat}{os:OsState}{C N:Addr}{nm q:Str}{k0 k2 k3:Option Value}{mN:Str->Option Value}{dd de:Option Addr}
def IE {s:Shared}(f:Value×Value->Option Fin×Unit->Sem (ForInStep (Option Fin×Unit)))
  (hf:∀a b st,f (a,b) st=(do let r←eqBool a b;if (!r)=true then (do rule "tuple.compare.by-the-first-pair-that-differs";let v←richCompare .Lt a b;let z←ret v;pure (.done (some z,()))) else pure (.yield (none,())))) :
  ∀{ws us:List Value} {ns ms:List Int} {Q:Option Fin×Unit->Shared->Prop},IntsAre ws ns->IntsAre us ms->ns.length=ms.length->Q (hJ ns ms) s->wpAny (model prog w) A (forIn (ws.zip us) (none,()) f) Q E s:=by
 intro ws us ns ms Q B;induction B generalizing us ms Q with
 |nil =>
  intro O hl U;cases O with
  |nil=>rw[List.zip_nil_left,pq];show ae U
  |cons=>simp at hl
 | @cons a ta ws ns B ih =>
  intro O hl U;cases O with
  |nil=>simp at hl
  | @cons b tb us ms O =>
   rw[List.zip_cons_cons,qi,hf];apply ab (ab (wpAny_eqBool_int ?_));by_cases W:a=b
   ·subst W;simp -iota only[iZ,cO,gp,md];apply ae (ih O (by simpa using hl) ?_);have e:hJ (a::ns) (a::ms)=hJ ns ms:=by unfold hJ;rw[show ke (a::ns) (a::ms)=ke ns ms from cn rfl];simp
    rw[e]at U;show U
   ·have J:(a==b)=false:=by simpa using W
    rw[J];simp -iota only[Bool.not_false,bO];have e:hJ (a::ns) (b::ms)=(some (.done (.ret (.bool (decide (a<b))))),()):=by unfold hJ;rw[show ke (a::ns) (b::ms)=decide (a<b) from br W,br λq=>W (List.cons.inj q).1]
    rw[e]at U;apply ab (sr (ab ?_));have I:∀R:Value->Shared->Prop,R (.bool (decide (a<b))) s->wpAny (model prog w) A (richCompare .Lt (.int a ta) (.int b tb)) R E s:=λR hr=>lt_int hr;show I _ (ab (ae (ae (ae U))))
def ID {ox U:Obj}{ws us:List Value}{m:Nat}{P:Fin->Shared->Prop}(B:h.get? x=some ox)(dx:ox.data=.seq ws.toArray n)(I:h.get? y=some U)(dy:U.data=.seq us.toArray m)(J:IntsAre ws ns)(O:IntsAre us ms)(hl:ns.length=ms.length)
  (inst:∀R:Bool->Shared->Prop,R true #[h,g,d,t,os]->wpAny (model prog w) A (isInstance (.ref y) (.type "tuple")) R E #[h,g,d,t,os]) (hP:P (.done (.ret (.bool (ke ns ms)))) #[h,g,d,t,os]):wpAny (model prog w) A (Builtin.«tuple.__lt__» #[[.ref x,.ref y],[]]) P E #[h,g,d,t,os]:=by
 unfold Builtin.«tuple.__lt__»;apply ab (gc (a:=(.ref x,[.ref y])) (by rfl) ?_);dsimp only;apply ab (inst _ ?_);simp -iota only[cO,gp,md];apply ab (m:=Builtin.Tuple.tupleItemsOf (.ref x)) (ab (xd B dx (ae ?_)));apply ab (m:=Builtin.Tuple.tupleItemsOf (.ref y)) (ab (xd I dy (ae ?_)));apply ab (IE _ (λa b st=>by rfl) (ws:=ws) (us:=us) J O hl ?_);unfold hJ;by_cases e:ns=ms
 ·rw[cn e];subst e;rw[h9]at hP;have W:ws.toArray.size=us.toArray.size:=by simp[J.length,O.length]
  have z:Builtin.Tuple.tupleCompareSizes .Lt ws.toArray.size us.toArray.size=.bool false:=by unfold Builtin.Tuple.tupleCompareSizes;rw[W];simp
  show wpAny _ _ (ret (Builtin.Tuple.tupleCompareSizes .Lt ws.toArray.size us.toArray.size)) _ _ _;rw[z];show ae hP
 ·rw[br e];show ae hP
def AK {ws us:List Value}{m:Nat}{P:Fin->Shared->Prop}(O:h.get? C=some (gE C N nm q k0 k2 k3))(U:h.get? x=some (d6 C dd ws n))(W:h.get? y=some (d6 C de us m))(I:IntsAre ws ns)(J:IntsAre us ms)(hl:ns.length=ms.length)
  (hP:P (.done (.ret (.bool (ke ns ms)))) #[h,g,d,t,os]):wpAny (model prog w) A (Builtin.«tuple.__lt__» #[[.ref x,.ref y],[]]) P E #[h,g,d,t,os]:=ID U rfl W rfl I J hl (λR hr=>by
  unfold isInstance;unfold d6 at W
  repeat (first|(with_reducible refine rt W ?_)|(with_reducible refine kH O ?_)|wp_step)
  show hr) hP
def zZ:splitId "tuple.__lt__"=some ("tuple","__lt__"):=by kernel_rfl
def E5:builtinKind "tuple.__lt__"=some .slot:=by kernel_rfl
def IB {ws us:List Value}{m:Nat}{Q:Bool->Shared->Prop}(hu:A.units<cLine)(B:h.get? C=some (gE C N nm q k0 k2 k3))(hn:h.Ns N mN)(J:mN "__lt__"=none)(O:h.get? x=some (d6 C dd ws n))(z:h.get? y=some (d6 C de us m))(h1:IntsAre ws ns)(h2:IntsAre us ms)(hl:ns.length=ms.length)
  (hQ:Q (ke ns ms) #[h,g,d,t,os]):wpAny (model prog w) A (keyLt' oneType' (.ref x) (.ref y)) Q E #[h,g,d,t,os]:=by
 rw[keyLt'_oneType,oneLt'_eq];simp -iota only[bO];apply ab (wpAny_cRoomFor hu ?_);have I:=PySem.F.slot_tuple_lt.lookup;have W:typeLookup (.type "tuple") "__lt__"=pure (some (.builtin "tuple.__lt__")):=I;have hb:=PySem.F.slot_tuple_lt.bind (.ref x);have U:h.get? x=some {cls:=.ref C,dict:=dd,data:=.seq ws.toArray n,slots:=#v[]}:=O;have fin:∀(E:QqV) (R:QqV),R (.bool (ke ns ms)) #[h,g,d,t,os]->wpAny (model prog w) A (call (.builtin "tuple.__lt__") [.ref x,.ref y]) R E #[h,g,d,t,os]:=λE R hr =>
  wD B O zZ (.inl E5) PySem.F.slot_tuple_lt.plain PySem.F.entry_tuple_lt (PySem.F.args_tuple_lt_2 _ _) (AK B O z h1 h2 hl #[_,rfl,hr])
 have sp:∀(R:Option (Value×List Value)->Shared->Prop),R (some (.builtin "tuple.__lt__",[.ref x])) #[h,g,d,t,os]->wpAny (model prog w) A (bindSpecialIfBound? (.ref x) "__lt__") R E #[h,g,d,t,os]:=λR hr=>by
  have go:∀(E:QqV),wpAny (model prog w) A (do let r←bindSpecial (Value.builtin "tuple.__lt__") (Value.ref x);pure (some r)) R E #[h,g,d,t,os]:=λE=>ab (gc hb (ae hr));unfold bindSpecialIfBound? specialOf
  repeat (first|(with_reducible refine rt U ?_)|(with_reducible refine xy B hn W ?_;rw[J])|wp_step)
  apply oC ?_;split
  ·show go _
  ·show wpAny_tryCatch (go _)
 unfold callSpecialIfBound?;apply ab (dw (ab (sp _ ?_)));apply ab (fin _ _ (ae ?_));show vj hQ
end
end MP
end
section
set_option tactic.hygienic true
namespace MP
open PySem PyProof.Rows
variable {st:SortSt}
abbrev ug:Bool->Keyed->Array Keyed->Nat->Nat->Nat->StateT SortSt Sem (Option Nat):=sortPriv% PySem.Builtin.gallop
abbrev Ora (M:Model)(A:Around)(s:Shared)(kd:SortKind)(n:Nat)(it:Nat->Keyed)(lt:Nat->Nat->Bool):Prop:=
 ∀i j (C:Bool->Shared->Prop),i<n->j<n->C (lt i j) s->wpAny M A (keyLt' kd (it i).1 (it j).1) C (λ_ _=>False) s
section
variable {prog:Program}{w:World}{A:Around}{E:QqV}{s:Shared}{kd:SortKind}{n:Nat}{it:Nat->Keyed}{lt:Nat->Nat->Bool}
def i9 (O:Ora (model prog w) A s kd n it lt){i j:Nat}{Q:Option Bool->SortSt->Prop}(hk:kindOf st=kd)(U:i<n)(W:j<n)(h:Q (some (lt i j)) st):PyProof.Rows.wpS (model prog w) A E s (lt' (it i) (it j)) Q st:=by
 rw[lt'_eq];apply cp (sU ?_);rw[hk];apply cp (wpS_lift (wpAny_attempt (du (O i j (λb s'=>b=lt i j/\s'=s) U W #[rfl,rfl]) (λb s' hb=>?_) λ_ _ J=>J.elim)));have#[rfl,rfl]:=hb;apply#[rfl,dh h]
def ju {arr:Array Keyed}{i:Nat}{x:Keyed}{Q:Keyed->SortSt->Prop}(e:arr[i]?=some x)(h:Q x st):PyProof.Rows.wpS (model prog w) A E s (elem' arr i) Q st:=by
 rw[elem'_eq,e];show dh h
def vn (O:Ora (model prog w) A s kd n it lt){left:Bool}{key:Nat}{arr:Array Keyed}{p:Nat->Nat}{base m hint:Nat}{Q:Option Nat->SortSt->Prop}(ar:key<n)(hm:hint<m)
  (ay:∀i,i<m->p i<n/\arr[base+i]?=some (it (p i)))
  (B:Nat->Bool) (hB:∀i,i<m->B i=if left=true then lt (p i) key else !lt key (p i)) (mono:∀i j,i<=j->j<m->B j=true->B i=true)
  (hk:kindOf st=kd) (h:∀k,k<=m->(∀i,i<k->B i=true)->(∀i,k<=i->i<m->B i=false)->Q (some k) st) :
  PyProof.Rows.wpS (model prog w) A E s (ug left (it key) arr base m hint) Q st:=by
 have ag:∀(i:Nat) (R:Option Bool->SortSt->Prop),i<m->R (some (B i)) st->PyProof.Rows.wpS (model prog w) A E s (do
   let x←elem' arr (base+i)
   if left=true then lt' x (it key) else do let r←lt' (it key) x;pure (r.map (!·))) R st:=λi R hi hR=>by
  have#[h1,h2]:=ay i hi;apply cp (ju h2 ?_);have hb:=hB i hi;cases left with
  |true=>show i9 O hk h1 ar (by simpa[hb] using hR)
  |false=>show cp (i9 O hk ar h1 (dh (by simpa[hb] using hR)))
 unfold ug;apply cp ?_;apply mj (ag hint (λr z=>r=some (B hint)/\z=st) hm #[rfl,rfl]) λr z hr=>?_;have#[rfl,rfl]:=hr;have fin:∀(F:Nat->Option (Option Nat)×Nat×Nat->StateT SortSt Sem (ForInStep (Option (Option Nat)×Nat×Nat))) (T:Option (Option Nat)×Nat×Nat->StateT SortSt Sem (Option Nat)),
   (∀x lo hi (R:ForInStep (Option (Option Nat)×Nat×Nat)->SortSt->Prop),hi<=m->(lo>=hi->R (.done (none,lo,hi)) z)->(lo<hi->B (lo+(hi-lo)/2)=true->R (.yield (none,lo+(hi-lo)/2+1,hi)) z)->(lo<hi->B (lo+(hi-lo)/2)=false->R (.yield (none,lo,lo+(hi-lo)/2)) z)->PyProof.Rows.wpS (model prog w) A E s (F x (none,lo,hi)) R z) ->
   (∀k,Q (some k) z->PyProof.Rows.wpS (model prog w) A E s (T (none,k,k)) Q z)->∀(lo hi:Nat),lo<=hi->hi<=m->(∀i,i<lo->B i=true)->(∀i,hi<=i->i<m->B i=false)->PyProof.Rows.wpS (model prog w) A E s (forIn [:m] (none,lo,hi) F>>=T) Q z:=λF T hF hT lo hi h1 h2 h3 h4=>by
  apply cp (mj (rk (I:=λx c st=>st=z/\∃lo hi,c=(none,lo,hi)/\lo<=hi/\hi<=m/\hi-lo<=m-x/\(∀i,i<lo->B i=true)/\∀i,hi<=i->i<m->B i=false)
   (Q:=λc st=>st=z/\∃k,c=(none,k,k)/\k<=m/\(∀i,i<k->B i=true)/\∀i,k<=i->i<m->B i=false) ?_ ?_ #[rfl,lo,hi,rfl,h1,h2,by show mr .A .p .Z (.e .a9 .C) (.e (.a .B .O) .D) h2 (aa (ba .A .a .A h1)) (aa (nt (.k .O .A) .h)),h3,h4]) ?_)
  ·intro x c st _ hx zz;have#[rfl,lo,hi,rfl,h1,h2,hd,h3,h4]:=zz;apply hF x lo hi _ h2 (λc=>?_) (λc hb=>?_) λc hb=>?_
   ·obtain rfl:lo=hi:=by(show iq .C .g .A .a2 h1 c)
    apply#[rfl,lo,rfl,h2,h3,h4]
   ·apply#[rfl,_,_,rfl,by show mr (.k .aH .C) [[2,1,1,1]] .G (.e (.a .aD .D) .F) (.e .aK .C) c (Ar.eJ _ 2 (by decide)).2 (aa (ba .A .a .A h1)),h2,by show Ar.sub _ _ (λq1 p1=>(JP .A [[1,1,-1,1,-1,1]] .Z (.e .aU .G) (.e (.a .D .H) .I) (.e (.a .B (.a .H .U)) .I) (.e (.a .A (.a (.a .F .J) .U)) .G) hd (aa (ba .A .a .A h1)) (aa (ba .A .a .B hx)) (aa (ba .S .a .B hx)) p1)) λq1 p1=>(ba .A .a .N p1),λi ax=>mono i _ (gu (.k .A .Q) .a (.l .A (.a .Q .U)) ax) (yw .K [[2,2,1,1,1]] .bM (.l .A .D) .cQ .cU h2 c (Ar.eJ _ 2 (by decide)).2 (aa (ba .A .a .A h1))) hb,h4]
   ·apply#[rfl,_,_,rfl,by show ow .bU .h,by show eM .F [[2,2,1,2]] .bM .cQ .cU h2 (Ar.eJ _ 2 (by decide)).2 (aa (ba .A .a .A h1)),by show JP .A [[2,1,1,1,2,-1]] .Z (.e (.a (.m 2 .F) .G) .C) (.e (.a .D .H) .I) (.e (.a .A .J) (.a .J .F)) (.e (.a .B (.a .H .U)) .I) hd (Ar.eJ _ 2 (by decide)).2 (aa (ba .A .a .B hx)) (aa (ow .bU .h)) (aa (ba .S .a .B hx)),h3,λi ax ao=>?_];cases hq:B i with
    |false=>rfl
    |true=>rw[mono _ i ax ao hq]at hb;cases hb
  ·intro c st zz;have#[rfl,lo,hi,rfl,h1,h2,hd,h3,h4]:=zz;obtain rfl:lo=hi:=by simp at hd;(show fh .C .C .bB .cD hd (aa (ba .A .a .A h1)))
   apply#[rfl,lo,rfl,h2,h3,h4]
  ·intro c st zz;have#[rfl,k,rfl,h2,h3,h4]:=zz;show hT k (h k h2 h3 h4)
 cases hh:B hint with
 |true =>
  apply cp (mj (rk (I:=λx c st=>st=z/\∃l o,c=(none,l,o)/\x<o/\l<o/\hint+l<m/\B (hint+l)=true)
   (Q:=λc st=>st=z/\∃l o,c=(none,l,o)/\l<o/\hint+l<m/\B (hint+l)=true/\(hint+o<m->B (hint+o)=false)) ?_ ?_ #[rfl,0,1,rfl,by show zv (.l .O .U) .h,by show zv (.l .O .U) .h,by show ba (.l (.a .A .O) .B) .a .B hm,hh]) ?_)
  ·intro x c st _ hx zz;have#[rfl,l,o,rfl,aj,ai,hl,hb]:=zz;dsimp only;by_cases c:o>=m-hint
   ·rw[cn c];show dh #[rfl,l,o,rfl,ai,hl,hb,λq=>by show False.elim (pe .ff [[0,1,1,-1]] .A (.l .a6 .D) .c8 c q (aa (gu .A .a (.l .X .B) q)))]
   ·rw[br c];apply cp (ag _ _ (gh .K .b (.j .D .B) .Q c (aa (ba .A .a .B hm))) ?_);cases hq:B (hint+o) with
    |true=>show dh #[rfl,_,_,rfl,by show ba (.l .M .aW) [[1,2]] .B aj,by show nt (.l .A (.a (.m 2 .A) .U)) .h,by show gh .K .b (.j .D .B) .Q c (aa (ba .A .a .B hm)),hq]
    |false=>show dh #[rfl,l,o,rfl,ai,hl,hb,λ_=>hq]
  ·intro c st zz;have#[rfl,l,o,rfl,aj,ai,hl,hb]:=zz;apply#[rfl,l,o,rfl,ai,hl,hb,λq=>by simp at aj;(show False.elim (fh .ff .c .K .M q aj))]
  ·intro c st zz;have#[rfl,l,o,rfl,ai,hl,hb,hz]:=zz;apply fin _ _ (λx lo hi R h2 r1 r2 r3=>?_) (λk q=>dh q) (hint+l+1) (hint+min o (m-hint)) ((Ar.ji _ _).2.2.elim (λq1=>(gh (.k .aH .X) .b .W .bM ai q1)) λq1=>(mr (.k .aH .X) .u (.l .L .D) (.e .aK .D) .bS hl (aa (ba .A .a .B hm)) q1)) (gh .F .b .bR .Q (Ar.ji _ _).2.1 (aa (ba .A .a .B hm))) (λi hi=>mono i (hint+l) (gu (.k .A .Q) .a (.l .A (.a .Q .U)) hi) hl hb) λi hi ao=>?_
   ·dsimp only;by_cases c:lo>=hi
    ·rw[cn c];show dh (r1 c)
    ·rw[br c];apply cp (ag _ _ (yw .K [[2,2,1,1,1]] .bM (.j .D .A) .cQ .cU h2 c (Ar.eJ _ 2 (by decide)).2 (aa (ba .A .a (.j .B .A) c))) ?_);cases hb:B (lo+(hi-lo)/2) with
     |true=>show dh (r2 (ba .B .a (.j .B .A) c) hb)
     |false=>show dh (r3 (ba .B .a (.j .B .A) c) hb)
   ·cases hq:B i with
    |false=>rfl
    |true =>
     have:=hz ((Ar.ji _ _).2.2.elim (λq1=>(mr .K .e (.k .T .F) (.l .F .C) .bR hi ao q1)) λq1=>(yw .K [[0,1,1,-1,1]] (.k .T .F) (.l .F .C) .b1 (.k .G .D) hi ao (aa (ba .A .a .B hm)) q1));rw[mono (hint+o) i ((Ar.ji _ _).2.2.elim (λq1=>(gh .F .b .b9 .bR hi q1)) λq1=>(yw .F [[0,1,1,-1,1]] .b9 (.l .C .F) (.e (.a .G .A) .F) (.k .G .D) hi ao (aa (ba .A .a .B hm)) q1)) ao hq]at this;cases this
 |false =>
  apply cp (mj (rk (I:=λx c st=>st=z/\∃l o,c=(none,l,o)/\x<o/\l<o/\l<=hint/\B (hint-l)=false)
   (Q:=λc st=>st=z/\∃l o,c=(none,l,o)/\l<o/\l<=hint/\B (hint-l)=false/\(o<=hint->B (hint-o)=true)) ?_ ?_ #[rfl,0,1,rfl,by show zv (.l .O .U) .h,by show zv (.l .O .U) .h,by show nt (.k .O .A) .h,hh]) ?_)
  ·intro x c st _ hx zz;have#[rfl,l,o,rfl,aj,ai,hl,hb]:=zz;dsimp only;by_cases c:o>=hint+1
   ·rw[cn c];show dh #[rfl,l,o,rfl,ai,hl,hb,λq=>by show False.elim (iq .ff .c .S .a2 c q)]
   ·rw[br c];apply cp (ag _ _ (gh .B .b .M .bL hm (aa (ba .A .a (.j .P .A) c))) ?_);cases hq:B (hint-o) with
    |false=>show dh #[rfl,_,_,rfl,by show ba (.l .M .aW) [[1,2]] .B aj,by show nt (.l .A (.a (.m 2 .A) .U)) .h,by show ba .A .a (.j .P .A) c,hq]
    |true=>show dh #[rfl,l,o,rfl,ai,hl,hb,λ_=>hq]
  ·intro c st zz;have#[rfl,l,o,rfl,aj,ai,hl,hb]:=zz;apply#[rfl,l,o,rfl,ai,hl,hb,λq=>by simp at aj;(show False.elim (oa .ff .m .B .b0 .aI hm q aj))]
  ·intro c st zz;have#[rfl,l,o,rfl,ai,hl,hb,hz]:=zz;apply fin _ _ (λx lo hi R h2 r1 r2 r3=>?_) (λk q=>dh q) (hint+1-min o (hint+1)) (hint-l) ((Ar.ji _ _).2.2.elim (λq1=>(yw .A .D .R (.e .a9 .aA) (.e .Q .G) .cK ai (aa (ba .O .a .O (Ar.ji _ _).2.1)) (aa (ba .A .a .A hl)) q1)) λq1=>(gh .A .b (.e .X .Z) (.k .Z .C) (aa (ba .O .a .O (Ar.ji _ _).2.1)) q1)) (gh .A .b .M .bL hm (aa (ba .A .a .A hl))) (λi hi=>?_) λi hi ao=>?_
   ·dsimp only;by_cases c:lo>=hi
    ·rw[cn c];show dh (r1 c)
    ·rw[br c];apply cp (ag _ _ (yw .K [[2,2,1,1,1]] .bM (.j .D .A) .cQ .cU h2 c (Ar.eJ _ 2 (by decide)).2 (aa (ba .A .a (.j .B .A) c))) ?_);cases hb:B (lo+(hi-lo)/2) with
     |true=>show dh (r2 (ba .B .a (.j .B .A) c) hb)
     |false=>show dh (r3 (ba .B .a (.j .B .A) c) hb)
   ·show mono i (hint-o) ((Ar.ji _ _).2.2.elim (λq1=>(Ar.sub _ _ (λq2 p2=>(yw .A [[1,1,1,1,-1]] .G (.e .R .a1) (.k .G .D) (.e (.a .B .G) .F) hi (aa (ba .O .a .O (Ar.ji _ _).2.1)) q1 p2)) λq2 p2=>(yw .A .k .G (.e .R .a1) (.k .G .D) (.k .F .G) hi (aa (ba .O .a .O (Ar.ji _ _).2.1)) q1 q2))) λq1=>(mr .A .e .G (.e .R .a1) (.k .a1 .D) hi (aa (ba .O .a .O (Ar.ji _ _).2.1)) q1)) (fh .B .b .M .J hm (oo _ _)) (hz ((Ar.ji _ _).2.2.elim (λq1=>(mr .A .e .R (.e .Y .P) .cG hi (aa (ba .O .a .O (Ar.ji _ _).2.1)) q1)) λq1=>(mr .A .m .R (.e .Y .P) (.k .P .F) hi (aa (ba .O .a .O (Ar.ji _ _).2.1)) q1)))
   ·cases hq:B i with
    |false=>rfl
    |true=>rw[mono _ i hi ao hq]at hb;cases hb
end
end MP
end
section
set_option tactic.hygienic true
namespace MP
section
variable {xs ys all os:List Nat}
variable {lt:Nat->Nat->Bool}
abbrev Le (lt:Nat->Nat->Bool)(x:Nat)(ys:List Nat):Prop:=∀y∈ys,lt y x=false
abbrev Srt (lt:Nat->Nat->Bool)(xs:List Nat):Prop:=xs.Pairwise λx y=>lt y x=false
structure LtT (lt:Nat->Nat->Bool):Prop where
 asym:∀a b,lt a b=true->lt b a=false
 tr:∀a b c,lt b a=false->lt c b=false->lt c a=false
structure Mrg (lt:Nat->Nat->Bool)(all os xs ys:List Nat):Prop where
 perm:(os++(xs++ys)).Perm all
 so:Srt lt os
 sx:Srt lt xs
 sy:Srt lt ys
 ax:∀o∈os,Le lt o xs
 ay:∀o∈os,Le lt o ys
def Srt.app (U:Srt lt xs)(W:Srt lt ys)(h:∀x∈xs,Le lt x ys):Srt lt (xs++ys):=
 jo.mpr #[U,W,h]
def Srt.le (T:LtT lt){x:Nat}(h:Srt lt (x::xs)){z:Nat}(hz:lt x z=false):Le lt z (x::xs):=λy W=>by
 rcases cw.mp W with rfl|W
 ·show hz
 ·show T.tr _ _ _ hz ((lu.mp h).1 y W)
def Mrg.left {zs:List Nat}(m:Mrg lt all os (zs++xs) ys)(h:∀z∈zs,Le lt z ys):Mrg lt all (os++zs) xs ys:=by
 have#[B,I,J]:=jo.mp m.sx;apply#[?_,m.so.app B λo W z hz=>m.ax o W z (dk _ hz),I,m.sy,λo W x O=>?_,λo W y U=>?_]
 ·have:=m.perm;simpa[bq] using this
 ·rcases cq.mp W with W|W
  ·show m.ax o W x (dt _ O)
  ·show J o W x O
 ·rcases cq.mp W with W|W
  ·show m.ay o W y U
  ·show h o W y U
def Mrg.right {zs:List Nat}(m:Mrg lt all os xs (zs++ys))(h:∀z∈zs,Le lt z xs):Mrg lt all (os++zs) xs ys:=by
 have#[B,I,J]:=jo.mp m.sy;apply#[?_,m.so.app B λo W z hz=>m.ay o W z (dk _ hz),m.sx,I,λo W x O=>?_,λo W y U=>?_]
 ·apply List.Perm.trans ?_ m.perm;rw[bq];apply lI _ ?_;rw[<- bq,<- bq];show List.Perm.append_right _ lG
 ·rcases cq.mp W with W|W
  ·show m.ax o W x O
  ·show h o W x O
 ·rcases cq.mp W with W|W
  ·show m.ay o W y (dt _ U)
  ·show J o W y U
def Mrg.MR (m:Mrg lt all os xs []):(os++xs).Perm all/\Srt lt (os++xs):=
 #[by have:=m.perm;simpa using this,m.so.app m.sx m.ax]
def Mrg.J7 (m:Mrg lt all os xs ys)(h:∀y∈ys,Le lt y xs):(os++ys++xs).Perm all/\Srt lt (os++ys++xs):=by
 have W:Mrg lt all os xs (ys++[]):=by rw[dg];show m
 show(W.right h).MR
end
end MP
end
section
set_option tactic.hygienic true
namespace MP
open PySem PyProof.Rows
abbrev uA:Array Keyed->Array Keyed->StateT SortSt Sem (Array Keyed):=sortPriv% PySem.Builtin.mergeLo
abbrev KA (it:Nat->Keyed)(xs:List Nat):Array Keyed:=(xs.map it).toArray
section
variable {it:Nat->Keyed}{lt:Nat->Nat->Bool}
def mz (xs:List Nat):(KA it xs).size=xs.length:=by simp[KA]
def tf (xs ys:List Nat):KA it xs++KA it ys=KA it (xs++ys):=by simp[KA]
def zo (xs:List Nat)(x:Nat):(KA it xs).push (it x)=KA it (xs++[x]):=by simp[KA]
def rf (xs:List Nat)(i j:Nat):(KA it xs).extract i j=KA it ((xs.take j).drop i):=by
 simp only[KA,List.extract_toArray];rw[List.extract_eq_drop_take',List.map_drop,List.map_take]
def sv {xs:List Nat}{i:Nat}(h:i<xs.length):(KA it xs)[i]?=some (it xs[i]):=by simp[KA,h]
abbrev Gst (st st':SortSt):Prop:=∃g,st'=SortSt.mk' (kindOf st) (arrOf st) (pendingOf st) g (failedOf st)
def Gst.kind {st W:SortSt}(h:Gst st W):kindOf W=kindOf st:=by have#[g,rfl]:=h;rfl
def Gst.refl (st:SortSt):Gst st st:=#[gallopOf st,rfl]
def Gst.trans {a b c:SortSt}(h:Gst a b)(k:Gst b c):Gst a c:=by
 have#[g,rfl]:=h;have#[W,rfl]:=k;apply#[W,rfl]
structure MI (lt:Nat->Nat->Bool)(as bs os:List Nat)(ia ib:Nat):Prop where
 m:Mrg lt (as++bs) os (as.drop ia) (bs.drop ib)
 la:ia+1<as.length
 lb:ib<bs.length
def MI.C1 {as bs os:List Nat}{ia ib:Nat}(T:LtT lt)(h:MI lt as bs os ia ib)(c:lt (bs[ib]'h.lb) (as[ia]'(je h.la))=true) :
  Mrg lt (as++bs) (os++[bs[ib]'h.lb]) (as.drop ia) (bs.drop (ib+1)):=by
 have e:bs.drop ib=[bs[ib]'h.lb]++bs.drop (ib+1):=cf h.lb;have m:=h.m;rw[e]at m;apply m.right λz hz=>?_;have rfl:=au.mp hz;have sx:=m.sx;rw[cf (je h.la)]at sx ⊢;show sx.le T (T.asym _ _ c)
def MI.C2 {as bs os:List Nat}{ia ib:Nat}(T:LtT lt)(h:MI lt as bs os ia ib)(c:lt (bs[ib]'h.lb) (as[ia]'(je h.la))=false) :
  Mrg lt (as++bs) (os++[as[ia]'(je h.la)]) (as.drop (ia+1)) (bs.drop ib):=by
 have e:as.drop ia=[as[ia]'(je h.la)]++as.drop (ia+1):=cf (je h.la);have m:=h.m;rw[e]at m;apply m.left λz hz=>?_;have rfl:=au.mp hz;have sy:=m.sy;rw[cf h.lb]at sy ⊢;show sy.le T c
end
section
variable {xs:List Nat}{i:Nat}
variable {prog:Program}{w:World}{A:Around}{E:QqV}{s:Shared}{kd:SortKind}{n:Nat}{it:Nat->Keyed}{lt:Nat->Nat->Bool}
def uS (xs:List Nat)(i k:Nat):xs.drop i=(xs.take (i+k)).drop i++xs.drop (i+k):=by
 rw[List.drop_take,oh,<- List.drop_drop,eh]
def yL {k x:Nat}(h:x∈(xs.take (i+k)).drop i):∃j,j<k/\∃O:i+j<xs.length,x=xs[i+j]:=by
 have#[j,O,rfl]:=fu.mp h;rw[gz,fb]at O;apply#[j,by show Ar.sub _ _ (λJ U=>(mr .B .e .G (.k .D .aI) (.e .aU .D) O (Ar.ji _ _).1 U)) λJ U=>(fh .B .c .G .bB O U),by show Ar.sub _ _ (λJ U=>(mr .K .e .W .bS (.e (.a .D .A) .F) O (Ar.ji _ _).2.1 U)) λJ U=>(gh .K .c .W .bT O U),by simp]
def uC {k x:Nat}(h:x∈xs.drop (i+k)):∃j,k<=j/\∃W:i+j<xs.length,x=xs[i+j]:=by
 have#[j,W,rfl]:=fu.mp h;rw[gz]at W;apply#[k+j,by show ow .bU .h,by show Ar.sub _ _ (λO U=>(qy (.l .aP .D) .b (.l .C .F) (.e (.a .F .L) .D) W U)) λO U=>(qy (.l .aP .D) .c (.l .C .F) .bC W U),by simp[uj]]
def Srt.at (h:Srt lt xs){a b:Nat}(U:i<=a)(W:a<b)(hb:b<xs.length):lt xs[b] (xs[a]'(Nat.lt_trans W hb))=false:=
 vm.mp h a b _ _ W
def BJ (O:Ora (model prog w) A s kd n it lt)(T:LtT lt){as bs os:List Nat}{ia ib:Nat}{Q:Option Nat->SortSt->Prop}{st:SortSt}(hk:kindOf st=kd)(hn:∀x∈as++bs,x<n)(sa:Srt lt as)
  (m:Mrg lt (as++bs) os (as.drop ia) (bs.drop ib)) (U:ia<as.length) (ao:ib<bs.length)
  (h:∀k,ia+k<=as.length->Mrg lt (as++bs) (os++(as.take (ia+k)).drop ia) (as.drop (ia+k)) (bs.drop ib)->Le lt bs[ib] (as.drop (ia+k))->Q (some k) st) :
  PyProof.Rows.wpS (model prog w) A E s (ug false (it bs[ib]) (KA it as) ia (as.length-ia) 0) Q st:=by
 have ap:∀{i},(hi:i<as.length-ia)->as.getD (ia+i) 0=as[ia+i]'(by show gh .K .b .W .Q hi (aa (ba .A .a .B U))):=λ{i} hi=>by simp[List.getD,aq (show ia+i<as.length by show gh .K .b .W .Q hi (aa (ba .A .a .B U)))]
 apply vn O (p:=λi=>as.getD (ia+i) 0) (hn _ (dt _ (cj _))) (by show fh .D .d .aI .a1 U (aa (ba .A .a .B U))) (λi hi=>?_) (λi=>!lt bs[ib] (as.getD (ia+i) 0)) (λi hi=>rfl) (λi j aj I hb=>?_) hk λk ai h1 h2=>?_
 ·rw[ap hi];apply#[hn _ (dk _ (cj _)),sv (by show gh .K .b .W .Q hi (aa (ba .A .a .B U)))]
 ·skip
  rw[ap I]at hb;rw[ap (by show fh .B .b .J .M aj I)];have hb:lt bs[ib] (as[ia+j]'(by show gh .K .b .W .Q I (aa (ba .A .a .B U))))=false:=by simpa using hb
  rcases lq aj with q|rfl
  ·rw[T.tr _ _ _ (sa.at (bb _) (show ia+i<ia+j by show gu (.l .L .X) .a .aI q) (by show gh .K .b .W .Q I (aa (ba .A .a .B U)))) hb];rfl
  ·rw[hb];rfl
 ·apply h k (by show gh .F .b .bR .Q ai (aa (ba .A .a .B U))) ?_ λx hx=>?_
  ·have m':=m;rw[uS as ia k]at m';apply m'.left λz hz=>?_;have#[j,I,ag,rfl]:=yL hz;have:=h1 j I;rw[ap (by show fh .B .b .H .G ai I)]at this;have sy:=m.sy;rw[cf ao]at sy ⊢;show sy.le T (by simpa using this)
  ·have#[j,I,ag,rfl]:=uC hx;have:=h2 j I (by show gh .B .d (.l .a0 .D) .bD ag (aa (ba .A .a .B U)));rw[ap (by show gh .B .d (.l .a0 .D) .bD ag (aa (ba .A .a .B U)))]at this;show T.asym _ _ (by simpa using this)
def BI (O:Ora (model prog w) A s kd n it lt)(T:LtT lt){as bs os:List Nat}{ia ib:Nat}{Q:Option Nat->SortSt->Prop}{st:SortSt}(hk:kindOf st=kd)(hn:∀x∈as++bs,x<n)(sb:Srt lt bs)
  (m:Mrg lt (as++bs) os (as.drop ia) (bs.drop ib)) (ao:ia<as.length) (U:ib<bs.length)
  (h:∀k,ib+k<=bs.length->Mrg lt (as++bs) (os++(bs.take (ib+k)).drop ib) (as.drop ia) (bs.drop (ib+k))->Le lt as[ia] (bs.drop (ib+k))->Q (some k) st) :
  PyProof.Rows.wpS (model prog w) A E s (ug true (it as[ia]) (KA it bs) ib (bs.length-ib) 0) Q st:=by
 have ap:∀{i},(hi:i<bs.length-ib)->bs.getD (ib+i) 0=bs[ib+i]'(by show gh .K .b .W .Q hi (aa (ba .A .a .B U))):=λ{i} hi=>by simp[List.getD,aq (show ib+i<bs.length by show gh .K .b .W .Q hi (aa (ba .A .a .B U)))]
 apply vn O (p:=λi=>bs.getD (ib+i) 0) (hn _ (dk _ (cj _))) (by show fh .D .d .aI .a1 U (aa (ba .A .a .B U))) (λi hi=>?_) (λi=>lt (bs.getD (ib+i) 0) as[ia]) (λi hi=>rfl) (λi j aj I hb=>?_) hk λk ai h1 h2=>?_
 ·rw[ap hi];apply#[hn _ (dt _ (cj _)),sv (by show gh .K .b .W .Q hi (aa (ba .A .a .B U)))]
 ·skip
  rw[ap I]at hb;rw[ap (by show fh .B .b .J .M aj I)];rcases lq aj with q|rfl
  ·cases e:lt (bs[ib+i]'(by show mr .K .e .cI .W (.e .aK .C) I q (aa (ba .A .a .B U)))) as[ia] with
   |true=>rfl
   |false =>
    have:=T.tr _ _ _ e (sb.at (bb _) (show ib+i<ib+j by show gu (.l .L .X) .a .aI q) (by show gh .K .b .W .Q I (aa (ba .A .a .B U))));rw[hb]at this;cases this
  ·show hb
 ·apply h k (by show gh .F .b .bR .Q ai (aa (ba .A .a .B U))) ?_ λx hx=>?_
  ·have m':=m;rw[uS bs ib k]at m';apply m'.right λz hz=>?_;have#[j,I,ag,rfl]:=yL hz;have:=h1 j I;rw[ap (by show fh .B .b .H .G ai I)]at this;have sx:=m.sx;rw[cf ao]at sx ⊢;show sx.le T (T.asym _ _ this)
  ·have#[j,I,ag,rfl]:=uC hx;have:=h2 j I (by show gh .B .d (.l .a0 .D) .bD ag (aa (ba .A .a .B U)));rw[ap (by show gh .B .d (.l .a0 .D) .bD ag (aa (ba .A .a .B U)))]at this;show this
end
variable {α:Type}{st:SortSt}{as bs os:List Nat}{ia ib:Nat}
abbrev LK:Nat->StateT SortSt Sem Unit:=sortPriv% PySem.Builtin.setMinGallop
section
variable {prog:Program}{w:World}{A:Around}{E:QqV}{s:Shared}{kd:SortKind}{n:Nat}{it:Nat->Keyed}{lt:Nat->Nat->Bool}
def ew {c:Prop}[Decidable c]{a b:StateT SortSt Sem α}{Q:α->SortSt->Prop}(h:c)(k:PyProof.Rows.wpS (model prog w) A E s a Q st):PyProof.Rows.wpS (model prog w) A E s (if c then a else b) Q st:=by rw[cn h];show k
def eu {c:Prop}[Decidable c]{a b:StateT SortSt Sem α}{Q:α->SortSt->Prop}(h:¬c)(k:PyProof.Rows.wpS (model prog w) A E s b Q st):PyProof.Rows.wpS (model prog w) A E s (if c then a else b) Q st:=by rw[br h];show k
def t5 {g:Nat}{Q:Unit->SortSt->Prop}(h:∀W,Gst st W->Q () W):PyProof.Rows.wpS (model prog w) A E s (LK g) Q st:=i8 (h _ #[g,rfl])
def yg {U:Type}{m:StateT SortSt Sem α}{k:α->StateT SortSt Sem U}{Q:U->SortSt->Prop}(h:∀k',k'=k->PyProof.Rows.wpS (model prog w) A E s m (λr W=>PyProof.Rows.wpS (model prog w) A E s (k' r) Q W) st):PyProof.Rows.wpS (model prog w) A E s (m>>=k) Q st:=cp (h k rfl)
def qt {U:Type}{a b:Nat}{f:Nat->U->StateT SortSt Sem (ForInStep U)}(I:Nat->U->SortSt->Prop){Q:U->SortSt->Prop}
  (W:∀g,g=f->∀i c st,a<=i->i<b->I i c st->PyProof.Rows.wpS (model prog w) A E s (g i c) (λr O=>match r with|.done B=>Q B O|.yield B=>I (i+1) B O) st)
  (J:∀c st,I (max a b) c st->Q c st) {c:U} (h:I a c st):PyProof.Rows.wpS (model prog w) A E s (forIn [a:b] c f) Q st:=rk I (W f rfl) J h
abbrev pn (it:Nat->Keyed)(lt:Nat->Nat->Bool)(as bs:List Nat)(r:Array Keyed):Prop:=∃os,r=KA it os/\os.Perm (as++bs)/\Srt lt os
def pn.l (m:Mrg lt (as++bs) os (as.drop ia) (bs.drop ib))(e:ib=bs.length) :
  pn it lt as bs (KA it os++(KA it as).extract ia (KA it as).size++(KA it bs).extract ib (KA it bs).size):=by
 rw[mz,mz];subst e;apply#[os++as.drop ia,?_,?_]
 ·rw[rf,rf,fo,fo,tf,tf,rz,dg]
 ·rw[rz]at m;show m.MR
def pn.r (m:Mrg lt (as++bs) os (as.drop ia) (bs.drop ib))(e:ia+1=as.length)(last:∀(h:ia<as.length),∀y∈bs,lt as[ia] y=false) :
  pn it lt as bs (KA it os++(KA it bs).extract ib (KA it bs).size++(KA it as).extract ia (KA it as).size):=by
 rw[mz,mz];apply#[os++bs.drop ib++as.drop ia,?_,m.J7 λy U x W=>?_]
 ·rw[rf,rf,fo,fo,tf,tf]
 ·have h:ia<as.length:=by(show ba .B .a .aG e)
  rw[cf h,List.drop_of_length_le (by show ba .O .y .bJ e)]at W;have rfl:=au.mp W;show last h y (dJ U)
def pn.d (m:Mrg lt (as++bs) os (as.drop ia) (bs.drop ib))(e:ia=as.length) :
  pn it lt as bs (KA it os++(KA it as).extract ia (KA it as).size++(KA it bs).extract ib (KA it bs).size):=by
 rw[mz,mz];subst e;rw[rz]at m;apply#[os++bs.drop ib,?_,?_]
 ·rw[rf,rf,fo,fo,tf,tf,rz,dg]
 ·have:=m.J7 λy _ x W=>nomatch W;rw[dg]at this;show this
def t6 (O:Ora (model prog w) A s kd n it lt)(T:LtT lt){Q:Array Keyed->SortSt->Prop}(hk:kindOf st=kd)(hn:∀x∈as++bs,x<n)
  (sa:Srt lt as) (sb:Srt lt bs) (la:0<as.length) (lb:0<bs.length) (first:lt bs[0] as[0]=true) (last:∀i (h:i<as.length),i+1=as.length->∀y∈bs,lt as[i] y=false)
  (h:∀r W,Gst st W->pn it lt as bs r->Q r W) :
  PyProof.Rows.wpS (model prog w) A E s (uA (KA it as) (KA it bs)) Q st:=by
 unfold uA;apply cp (wpS_lift (sr #[rfl,?_]));apply cp (ju (sv lb) ?_);have m0:Mrg lt (as++bs) [bs[0]] (as.drop 0) (bs.drop 1):=by
  have e:bs=[bs[0]]++bs.drop 1:=by simpa using cf (l:=bs) (i:=0) lb
  have base:Mrg lt (as++bs) [] as ([bs[0]]++bs.drop 1):=by
   rw[<- e];show {perm:=by simp,so:=.nil,sx:=sa,sy:=sb,ax:=λo ho=>(nomatch ho),ay:=λo ho=>(nomatch ho)}
  apply base.right λz hz=>?_;have rfl:=au.mp hz;have cx:=sa;rw[<- rv (l:=as),cf la]at cx ⊢;show cx.le T (T.asym _ _ first)
 have zs:∀{i:Nat} {xs:List Nat},(i==(KA it xs).size)=true->i=xs.length:=λh=>(fy.mp h).trans (mz _);have zn:∀{i:Nat} {xs:List Nat},¬(i==(KA it xs).size)=true->i≠xs.length:=λh q=>h (fy.mpr (q.trans (mz _).symm));by_cases c1:(1==(KA it bs).size)=true
 ·show ew c1 (dh (h _ _ (.refl _) (pn.l m0 (zs c1))))
 apply eu c1 ?_;by_cases c2:(0+1==(KA it as).size)=true
 ·show ew c2 (dh (h _ _ (.refl _) (pn.r m0 (zs c2) λhi=>last _ hi (zs c2))))
 apply eu c2 ?_;apply cp (sU ?_);have ag:1≠bs.length:=zn c1;have aj:0+1≠as.length:=zn c2;have i0:MI lt as bs [bs[0]] 0 1:=#[m0,by show(ah ag).elim (λq1=>((ah aj).elim (λq2=>(fc (.l .a3 .A) .a (.l .a3 .A) q2)) λq2=>(sO (.l .a3 .A) .c .D (.l .A .a3) la q2))) λq1=>(iq (.l .a3 .A) .c .Y (.l .B .U) lb q1),by show(ah ag).elim (λq1=>(fc .a5 .a .a5 q1)) λq1=>(sO .a5 .c .D .cB lb q1)];generalize gallopOf st=g0;apply yg λk1 ck=>(mj (qt (I:=λx c W=>Gst st W/\∃os ia ib g,c=(none,KA it os,ia,ib,g)/\MI lt as bs os ia ib/\x<ia+ib)
  (Q:=λc W=>Gst st W/\∃r,c.1=some r/\pn it lt as bs r) (λf1 eb=>?_) ?_ #[.refl _,_,_,_,_,rfl,i0,by show zv (.l .O .a3) .h]) ?_)
 ·intro x c bn _ hx zz;have#[g1,os,ia,ib,g,rfl,I,bl]:=zz;rw[eb];apply yg λk2 bv=>(mj (qt (I:=λ_ c W=>W=bn/\∃os ja jb ac bc,c=(none,KA it os,ja,jb,ac,bc)/\MI lt as bs os ja jb/\ia+ib<=ja+jb)
   (Q:=λc W=>W=bn/\((∃r t,c=(some r,t)/\pn it lt as bs r)\/∃os ja jb ac bc,c=(none,KA it os,ja,jb,ac,bc)/\MI lt as bs os ja jb/\ia+ib<=ja+jb)) (λf2 ea=>?_) ?_ #[rfl,_,_,_,_,_,rfl,I,az _]) ?_)
  ·intro y c ct _ hy zz;have#[rfl,os,ja,jb,ac,bc,rfl,I,bd]:=zz;rw[ea];have dr:=je I.la;have na:as[ja]<n:=hn _ (dk _ (cj _));have nb:bs[jb]'I.lb<n:=hn _ (dt _ (cj _));apply cp (ju (sv I.lb) ?_);apply cp (ju (sv dr) ?_);apply cp (i9 O (g1.kind.trans hk) nb na ?_);cases hc:lt (bs[jb]'I.lb) as[ja] with
   |true =>
    apply cp (ju (sv I.lb) ?_);have m:=I.C1 T hc;rw[zo];dsimp only;by_cases e:(jb+1==(KA it bs).size)=true
    ·show ew e (dh #[rfl,.inl #[_,_,rfl,pn.l m (zs e)]])
    ·apply eu e ?_;have I2:MI lt as bs (os++[bs[jb]'I.lb]) ja (jb+1):=#[m,I.la,by have:=I.lb;have:jb+1≠bs.length:=zn e;(rename_i z1;show(ah ag).elim (λq1=>((ah aj).elim (λq2=>((ah this).elim (λq3=>(ba .V .a .V q3)) λq3=>(iq .V .c .B (.l .B .M) z1 q3))) λq2=>(fh .V .c .a6 (.l .C .a3) la q2))) λq1=>(iq .V .c .Y (.l .B .U) lb q1))];split
     ·show dh #[rfl,.inr #[_,_,_,_,_,rfl,I2,by show lA (.k .L (.a .C .Z)) .a .bA bd]]
     ·show dh #[rfl,_,_,_,_,_,rfl,I2,by show lA (.k .L (.a .C .Z)) .a .bA bd]
   |false =>
    apply cp (ju (sv dr) ?_);have m:=I.C2 T hc;rw[zo];dsimp only;by_cases e:(ja+1+1==(KA it as).size)=true
    ·show ew e (dh #[rfl,.inl #[_,_,rfl,pn.r m (zs e) λhi=>last _ hi (zs e)]])
    ·apply eu e ?_;have I2:MI lt as bs (os++[as[ja]]) (ja+1) jb:=#[m,by have:=I.la;have:ja+1+1≠as.length:=zn e;(rename_i z1;show(ah ag).elim (λq1=>((ah aj).elim (λq2=>((ah this).elim (λq3=>(ba .aC .a .aC q3)) λq3=>(iq .aC .c .V (.l .B (.a .M .U)) z1 q3))) λq2=>(iq .aC .c .V (.l .B .a3) z1 q2))) λq1=>(fh .aC .c .a6 (.l .C .U) lb q1)),I.lb];split
     ·show dh #[rfl,.inr #[_,_,_,_,_,rfl,I2,by show lA (.k .L (.a .S .D)) .a .bA bd]]
     ·show dh #[rfl,_,_,_,_,_,rfl,I2,by show lA (.k .L (.a .S .D)) .a .bA bd]
  ·intro c ct zz;have#[rfl,h2]:=zz;apply#[rfl,.inr h2]
  ·intro c ct zz;have#[rfl,h2]:=zz;rcases h2 with ⟨r,t,rfl,hr⟩|⟨ee,ja,jb,ac,bc,rfl,I2,bd⟩
   ·rw[bv];show dh #[g1,r,rfl,hr]
   ·rw[bv];apply cp (wpS_lift (sr #[rfl,?_]));apply yg λk3 dn=>(mj (qt (I:=λx c W=>Gst st W/\∃os ja jb g ac bc,c=(none,KA it os,ja,jb,g,ac,bc)/\MI lt as bs os ja jb/\ia+ib+x<=ja+jb)
     (Q:=λc W=>Gst st W/\((∃r t,c=(some r,t)/\pn it lt as bs r)\/∃os ja jb g ac bc,c=(none,KA it os,ja,jb,g,ac,bc)/\MI lt as bs os ja jb/\ia+ib<ja+jb)) (λf3 dV=>?_) ?_ #[g1,_,_,_,_,_,_,rfl,I2,bd]) ?_)
    ·intro y c ch _ hy zz;have#[g3,bt,pa,pb,mg,ac,bc,rfl,I3,hp]:=zz;rw[dV];dsimp -zeta only
     extract_lets s1 o1 s2 a1 s3 b1 s4 m1 s5 ac1 bc1 ib1 jp m2
     have key:∀g' (R:_->SortSt->Prop),(∀r t W,Gst st W->pn it lt as bs r->R (.done (some r,t)) W)->(∀os ja jb g ac bc W,Gst st W->MI lt as bs os ja jb->pa+pb<ja+jb->R (.done (none,KA it os,ja,jb,g,ac,bc)) W) ->
       (∀os ja jb g ac bc W,Gst st W->MI lt as bs os ja jb->pa+pb<ja+jb->R (.yield (none,KA it os,ja,jb,g,ac,bc)) W)->PyProof.Rows.wpS (model prog w) A E s (jp () g') R ch:=λg' R rE rD rY=>by
      apply cp (t5 λar q4=>?_);have g4:=g3.trans q4;have dm:=g4.kind.trans hk;have dL:=je I3.la;apply cp (ju (sv I3.lb) ?_);have G:PyProof.Rows.wpS (model prog w) A E s (ug false (it (bs[pb]'I3.lb)) (KA it as) pa ((KA it as).size-pa) 0) (λr W=>W=ar/\∃k,r=some k/\pa+k<=as.length/\Mrg lt (as++bs) (bt++(as.take (pa+k)).drop pa) (as.drop (pa+k)) (bs.drop pb)/\Le lt (bs[pb]'I3.lb) (as.drop (pa+k))) ar:=by
       rw[mz];show BJ O T dm hn sa I3.m dL I3.lb λk h1 h2 h3=>#[rfl,k,rfl,h1,h2,h3]
      apply cp (mj G ?_);intro _ dv zz;have#[e5,k,rfl,ck,mA,dc]:=zz;rw[e5];dsimp -zeta only
      extract_lets acount jp2 o2 a2
      have cd:∀be J,Mrg lt (as++bs) be (as.drop J) (bs.drop pb)->J+1<as.length->Le lt (bs[pb]'I3.lb) (as.drop J)->pa<=J->PyProof.Rows.wpS (model prog w) A E s (jp2 () (KA it be) J) R ar:=λbe J m' bg dy ed=>by
       apply cp (ju (sv I3.lb) ?_);rw[zo];have e:bs.drop pb=[bs[pb]'I3.lb]++bs.drop (pb+1):=cf I3.lb;have m2:=m';rw[e]at m2;have mB:=m2.right λz hz=>by have rfl:=au.mp hz;show dy
       by_cases q1:(pb+1==(KA it bs).size)=true
       ·show ew q1 (dh (rE _ _ _ g4 (pn.l mB (zs q1))))
       ·apply eu q1 ?_;have bu:pb+1<bs.length:=by have:=I3.lb;have:pb+1≠bs.length:=zn q1;(rename_i z1;show(ah ag).elim (λq1=>((ah aj).elim (λq2=>((ah this).elim (λq3=>(ba .V .a .V q3)) λq3=>(iq .V .c .B (.l .B .M) z1 q3))) λq2=>(gh .V .c (.l .S .D) (.l .D .a3) bg q2))) λq1=>(iq .V .c .Y (.l .B .U) lb q1))
        have ca:=je bg;apply cp (ju (sv ca) ?_);have G:PyProof.Rows.wpS (model prog w) A E s (ug true (it as[J]) (KA it bs) (pb+1) ((KA it bs).size-(pb+1)) 0) (λr W=>W=ar/\∃k,r=some k/\pb+1+k<=bs.length/\Mrg lt (as++bs) ((be++[bs[pb]'I3.lb])++(bs.take (pb+1+k)).drop (pb+1)) (as.drop J) (bs.drop (pb+1+k))/\Le lt as[J] (bs.drop (pb+1+k))) ar:=by
         rw[mz];show BI O T dm hn sb mB ca bu λk h1 h2 h3=>#[rfl,k,rfl,h1,h2,h3]
        apply cp (mj G ?_);intro _ dv zz;have#[e5,k2,rfl,bv,mC,da]:=zz;rw[e5];dsimp -zeta only
        extract_lets bcount ib3 jp3 o3 b3
        have cb:∀ao ai,Mrg lt (as++bs) ao (as.drop J) (bs.drop ai)->ai<bs.length->Le lt as[J] (bs.drop ai)->pb<=ai->PyProof.Rows.wpS (model prog w) A E s (jp3 () (KA it ao) ai) R ar:=λao ai mD df dx ec=>by
         apply cp (ju (sv ca) ?_);rw[zo];have e:as.drop J=[as[J]]++as.drop (J+1):=cf ca;rw[e]at mD;have mE:=mD.left λz hz=>by have rfl:=au.mp hz;show dx
         by_cases q2:(J+1+1==(KA it as).size)=true
         ·show ew q2 (dh (rE _ _ _ g4 (pn.r mE (zs q2) λhi=>last _ hi (zs q2))))
         ·apply eu q2 ?_;have I4:MI lt as bs (ao++[as[J]]) (J+1) ai:=#[mE,by have:J+1+1≠as.length:=zn q2;(show(ah ag).elim (λq1=>((ah aj).elim (λq2=>((ah this).elim (λq3=>(ba .aC .a .aC q3)) λq3=>(iq .aC .c .V (.l .B (.a .M .U)) bg q3))) λq2=>(iq .aC .c .V (.l .B .a3) bg q2))) λq1=>(gh .aC .c (.l .S .D) (.l .D .U) bu q1)),df];by_cases q3:(decide (acount<7)&&decide (bcount<7))=true
          ·show ew q3 (dh (rD _ _ _ _ _ _ _ g4 I4 (by omega)))
          ·show eu q3 (dh (rY _ _ _ _ _ _ _ g4 I4 (by omega)))
        by_cases q4:k2>0
        ·apply ew q4 ?_;have eo:o3=KA it (be++[bs[pb]'I3.lb]++(bs.take (pb+1+k2)).drop (pb+1)):=by
          show KA it _++(KA it bs).extract (pb+1) (pb+1+k2)=_;rw[rf,tf]
         rw[eo];by_cases q5:(pb+1+k2==(KA it bs).size)=true
         ·show ew q5 (dh (rE _ _ _ g4 (pn.l mC (zs q5))))
         ·apply eu q5 (cb _ (pb+1+k2) mC (by have:pb+1+k2≠bs.length:=zn q5;(show(ah ag).elim (λq1=>((ah aj).elim (λq2=>((ah this).elim (λq3=>(gu (.l .a2 .C) .a (.l .a2 .C) q3)) λq3=>(fh (.l .a2 .C) .c .cC (.l .C .a2) bv q3))) λq2=>(qy (.l .a2 .C) .c (.l .Z .F) (.l .F .a3) bg q2))) λq1=>(fh (.l .a2 .C) .c (.l .M .C) (.l .C .U) bu q1))) da (by show ow (.k .A .a2) .h))
        ·apply eu q4 ?_;obtain rfl:k2=0:=by(show fc .N .t (.g .O .A) q4)
         show cb _ (pb+1) mB bu da (by show nt (.k .A .M) .h)
      by_cases q4:k>0
      ·apply ew q4 ?_;have eo:o2=KA it (bt++(as.take (pa+k)).drop pa):=by
        show KA it _++(KA it as).extract pa (pa+k)=_;rw[rf,tf]
       rw[eo];by_cases q5:(pa+k+1==(KA it as).size)=true
       ·show ew q5 (dh (rE _ _ _ g4 (pn.r mA (zs q5) λhi=>last _ hi (zs q5))))
       ·apply eu q5 ?_;by_cases q6:(pa+k==(KA it as).size)=true
        ·show ew q6 (dh (rE _ _ _ g4 (pn.d mA (zs q6))))
        ·show eu q6 (cd _ (pa+k) mA (by have:pa+k+1≠as.length:=zn q5;have:pa+k≠as.length:=zn q6;(rename_i z1;show(ah ag).elim (λq1=>((ah aj).elim (λq2=>((ah z1).elim (λq3=>(gu (.l .aH .C) .a (.l .aH .C) q3)) λq3=>((ah this).elim (λq4=>(fh (.l .aH .C) .c (.l .C .aH) .K q3 q4)) λq4=>(fh (.l .aH .C) .c .F (.l .C .L) ck q4)))) λq2=>(fh (.l .aH .C) .c .a6 (.l .C .a3) la q2))) λq1=>(gh (.l .aH .C) .c (.l .O .D) (.l .D .U) lb q1))) dc (by show ow .bU .h))
      ·apply eu q4 ?_;obtain rfl:k=0:=by(show fc .N .t (.g .O .A) q4)
       show cd _ pa I3.m I3.la dc (az _)
     split
     ·apply key _ _ ?_ ?_ ?_
      ·intro r t W g hr;apply#[g,.inl #[r,t,rfl,hr]]
      ·intro os ja jb g ac bc W q I hl;apply#[q,.inr #[_,_,_,_,_,_,rfl,I,by show sN (.l .L .R) .b (.k (.a .L .F) .aC) (.l .aC .R) hp hl]]
      ·intro os ja jb g ac bc W q I hl;apply#[q,_,_,_,_,_,_,rfl,I,by show sN (.k (.a .L .S) .Y) .b (.k .aB .aC) (.l .aC .Y) hp hl]
     ·apply key _ _ ?_ ?_ ?_
      ·intro r t W g hr;apply#[g,.inl #[r,t,rfl,hr]]
      ·intro os ja jb g ac bc W q I hl;apply#[q,.inr #[_,_,_,_,_,_,rfl,I,by show sN (.l .L .R) .b (.k (.a .L .F) .aC) (.l .aC .R) hp hl]]
      ·intro os ja jb g ac bc W q I hl;apply#[q,_,_,_,_,_,_,rfl,I,by show sN (.k (.a .L .S) .Y) .b (.k .aB .aC) (.l .aC .Y) hp hl]
    ·intro c ch zz;have#[g3,bt,pa,pb,mg,ac,bc,rfl,I3,hp]:=zz;have:=I3.la;have:=I3.lb;simp[mz]at hp
     (rename_i z1;show#[(False.elim (eM .ff .m .V .R (.k (.a .a5 .aG) .X) z1 this hp)),(.inl (False.elim (eM .ff .m .V .R (.k (.a .a5 .aG) .X) z1 this hp)))])
    ·intro c ch zz;have#[g3,h3]:=zz;rcases h3 with ⟨r,t,rfl,hr⟩|⟨bt,pa,pb,mg,ac,bc,rfl,I3,hp⟩
     ·rw[dn];show dh #[g3,r,rfl,hr]
     ·rw[dn];apply cp (i8 ?_);show dh #[g3.trans #[_,rfl],_,_,_,_,rfl,I3,by show x+1<pa+pb;(show qy (.l .M .Q) .b (.l .A .Y) (.l .Y .Q) bl hp)]
 ·intro c bn zz;have#[g1,os,ia,ib,g,rfl,I,bl]:=zz;have:=I.la;have:=I.lb;simp[mz]at bl
  (rename_i z1;show#[(False.elim (pe .ff .m .V .R (.l .aG .X) z1 this bl)),(False.elim (pe .ff .m .V .R (.l .aG .X) z1 this bl))])
 ·rintro ⟨r0,c⟩ bn ⟨g1,r,e,hr⟩;obtain rfl:r0=some r:=e;rw[ck];show dh (h _ _ g1 hr)
end
variable {xs as bs os:List Nat}{k na nb:Nat}
abbrev Rl (lt:Nat->Nat->Bool)(x y:Nat):Bool:=lt y x
section
variable {prog:Program}{w:World}{A:Around}{E:QqV}{s:Shared}{kd:SortKind}{n:Nat}{it:Nat->Keyed}{lt:Nat->Nat->Bool}
def LtT.rl (T:LtT lt):LtT (Rl lt):=#[λa b h=>T.asym b a h,λa b c h k=>T.tr c b a k h]
def Srt.rl (h:Srt (Rl lt) xs):Srt lt xs.reverse:=List.pairwise_reverse.mpr h
def Srt.L9 (h:Srt lt xs):Srt (Rl lt) xs.reverse:=List.pairwise_reverse.mpr h
def o7 (xs:List Nat):(KA it xs).reverse=KA it xs.reverse:=by simp[KA]
def yC (xs:List Nat){i:Nat}(h:i<=k):(xs.take k).reverse=((xs.take k).drop i).reverse++(xs.take i).reverse:=by
 rw[<- List.reverse_append]
 congr 1
 have:=eh i (xs.take k);rw[List.take_take,xh h]at this;show this.symm
def dM (h0:0<k)(h:k<=xs.length):(xs.take k).reverse=[xs[k-1]'(by show fh .B .b .H .aA h (aa (fc .I .a .D h0)))]++(xs.take (k-1)).reverse:=by
 have e:xs.take k=xs.take (k-1)++[xs[k-1]'(by show fh .B .b .H .aA h (aa (fc .I .a .D h0)))]:=by
  have:=dz (l:=xs) (i:=k-1) (by show fh .B .b .H .aA h (aa (fc .I .a .D h0)));rw[<- this,aa h0]
 rw[e,List.reverse_append];rfl
structure MJ (lt:Nat->Nat->Bool)(as bs os:List Nat)(na nb:Nat):Prop where
 m:Mrg (Rl lt) (as++bs) os (bs.take nb).reverse (as.take na).reverse
 ha:0<na
 hal:na<=as.length
 hb:1<nb
 hbl:nb<=bs.length
def MJ.a0 (h:MJ lt as bs os na nb):na-1<as.length:=by have:=h.ha;have:=h.hal;(rename_i W;show fh .B .b .H .aA this (aa (fc .I .a .D W)))
def MJ.b0 (h:MJ lt as bs os na nb):nb-1<bs.length:=by have:=h.hb;have:=h.hbl;(rename_i W;show fh .B .b .H .aA this (aa (fc .I .a .a5 W)))
def Mrg.tkA (m:Mrg (Rl lt) (as++bs) os (bs.take nb).reverse (as.take na).reverse)(h0:0<na)(h:na<=as.length)(le:Le (Rl lt) (as[na-1]'(by show fh .B .b .H .aA h (aa (fc .I .a .D h0)))) (bs.take nb).reverse) :
  Mrg (Rl lt) (as++bs) (os++[as[na-1]'(by show fh .B .b .H .aA h (aa (fc .I .a .D h0)))]) (bs.take nb).reverse (as.take (na-1)).reverse:=by
 rw[dM h0 h]at m;show m.right λz hz=>by have rfl:=au.mp hz;show le
def Mrg.tkB (m:Mrg (Rl lt) (as++bs) os (bs.take nb).reverse (as.take na).reverse)(h0:0<nb)(h:nb<=bs.length)(le:Le (Rl lt) (bs[nb-1]'(by show fh .B .b .H .aA h (aa (fc .I .a .D h0)))) (as.take na).reverse) :
  Mrg (Rl lt) (as++bs) (os++[bs[nb-1]'(by show fh .B .b .H .aA h (aa (fc .I .a .D h0)))]) (bs.take (nb-1)).reverse (as.take na).reverse:=by
 rw[dM h0 h]at m;show m.left λz hz=>by have rfl:=au.mp hz;show le
def MJ.C2 (T:LtT lt)(h:MJ lt as bs os na nb)(c:lt (bs[nb-1]'h.b0) (as[na-1]'h.a0)=true) :
  Mrg (Rl lt) (as++bs) (os++[as[na-1]'h.a0]) (bs.take nb).reverse (as.take (na-1)).reverse:=by
 apply h.m.tkA h.ha h.hal ?_;have sx:=h.m.sx;rw[dM (je h.hb) h.hbl]at sx ⊢;show sx.le T.rl (T.asym _ _ c)
def MJ.C1 (T:LtT lt)(h:MJ lt as bs os na nb)(c:lt (bs[nb-1]'h.b0) (as[na-1]'h.a0)=false) :
  Mrg (Rl lt) (as++bs) (os++[bs[nb-1]'h.b0]) (bs.take (nb-1)).reverse (as.take na).reverse:=by
 apply h.m.tkB (je h.hb) h.hbl ?_;have sy:=h.m.sy;rw[dM h.ha h.hal]at sy ⊢;show sy.le T.rl c
def w8 {x:Nat}(h:x∈(xs.take k).reverse):∃j,j<k/\∃W:j<xs.length,x=xs[j]:=by
 have#[j,W,rfl]:=fu.mp (nc.mp h);rw[fb]at W;apply#[j,by show fh .B .b .G .H W (Ar.ji _ _).1,by show fh .B .b .G .H W (Ar.ji _ _).2.1,by simp]
def yK {i x:Nat}(h:x∈((xs.take k).drop i).reverse):∃j,i<=j/\j<k/\∃O:j<xs.length,x=xs[j]:=by
 have#[j,O,rfl]:=fu.mp (nc.mp h);rw[gz,fb]at O;apply#[i+j,by show ow .bU .h,by show Ar.sub _ _ (λJ U=>(mr .K .e .W .bS (.e (.a .D .A) .F) O (Ar.ji _ _).1 U)) λJ U=>(gh .K .c .W .bT O U),by show Ar.sub _ _ (λJ U=>(mr .K .e .W .bS (.e (.a .D .A) .F) O (Ar.ji _ _).2.1 U)) λJ U=>(gh .K .c .W .bT O U),by simp]
def zQ (O:Ora (model prog w) A s kd n it lt)(T:LtT lt){Q:Option Nat->SortSt->Prop}{st:SortSt}(hk:kindOf st=kd)(hn:∀x∈as++bs,x<n)(sa:Srt lt as)
  (m:Mrg (Rl lt) (as++bs) os (bs.take nb).reverse (as.take na).reverse) (ha:0<na) (W:na<=as.length) (hb:0<nb) (ag:nb<=bs.length)
  (h:∀k,k<=na->Mrg (Rl lt) (as++bs) (os++((as.take na).drop k).reverse) (bs.take nb).reverse (as.take k).reverse->Le (Rl lt) (bs[nb-1]'(by show fh .B .b .H .aA ag (aa (fc .I .a .D hb)))) (as.take k).reverse->Q (some k) st) :
  PyProof.Rows.wpS (model prog w) A E s (ug false (it (bs[nb-1]'(by show fh .B .b .H .aA ag (aa (fc .I .a .D hb))))) (KA it as) 0 na (na-1)) Q st:=by
 have ax:nb-1<bs.length:=by(show fh .B .b .H .aA ag (aa (fc .I .a .D hb)))
 have ap:∀{i},(hi:i<na)->as.getD i 0=as[i]'(by show fh .B .b .H .G W hi):=λ{i} hi=>by simp[List.getD,aq (show i<as.length by show fh .B .b .H .G W hi)]
 apply vn O (p:=λi=>as.getD i 0) (hn _ (dt _ (cj _))) (by show ba .B .a .aG (aa (fc .I .a .D ha))) (λi hi=>?_) (λi=>!lt bs[nb-1] (as.getD i 0)) (λi hi=>rfl) (λi j ao U hb=>?_) hk λk ai h1 h2=>?_
 ·rw[ap hi];apply#[hn _ (dk _ (cj _)),?_];rw[ky];show sv (by show fh .B .b .H .G W hi)
 ·rw[ap U]at hb;rw[ap (by show fh .B .b .J .M ao U)];have hb:lt bs[nb-1] (as[j]'(by show fh .B .b .H .G W U))=false:=by simpa using hb
  rcases lq ao with q|rfl
  ·rw[T.tr _ _ _ (sa.at (bb _) q (by show fh .B .b .H .G W U)) hb];rfl
  ·rw[hb];rfl
 ·apply h k ai ?_ λx hx=>?_
  ·have m':=m;rw[yC as ai]at m';apply m'.right λz hz=>?_;have#[j,U,aj,ar,rfl]:=yK hz;have:=h2 j U aj;rw[ap aj]at this;have sx:=m.sx;rw[dM hb ag]at sx ⊢;show sx.le T.rl (T.asym _ _ (by simpa using this))
  ·have#[j,U,aj,rfl]:=w8 hx;have:=h1 j U;rw[ap (by show fh .B .b .H .G ai U)]at this;show lt _ _=false;simpa using this
def zP (O:Ora (model prog w) A s kd n it lt)(T:LtT lt){Q:Option Nat->SortSt->Prop}{st:SortSt}(hk:kindOf st=kd)(hn:∀x∈as++bs,x<n)(sb:Srt lt bs)
  (m:Mrg (Rl lt) (as++bs) os (bs.take nb).reverse (as.take na).reverse) (ha:0<na) (ag:na<=as.length) (hb:0<nb) (W:nb<=bs.length)
  (h:∀k,k<=nb->Mrg (Rl lt) (as++bs) (os++((bs.take nb).drop k).reverse) (bs.take k).reverse (as.take na).reverse->Le (Rl lt) (as[na-1]'(by show fh .B .b .H .aA ag (aa (fc .I .a .D ha)))) (bs.take k).reverse->Q (some k) st) :
  PyProof.Rows.wpS (model prog w) A E s (ug true (it (as[na-1]'(by show fh .B .b .H .aA ag (aa (fc .I .a .D ha))))) (KA it bs) 0 nb (nb-1)) Q st:=by
 have ax:na-1<as.length:=by(show fh .B .b .H .aA ag (aa (fc .I .a .D ha)))
 have ap:∀{i},(hi:i<nb)->bs.getD i 0=bs[i]'(by show fh .B .b .H .G W hi):=λ{i} hi=>by simp[List.getD,aq (show i<bs.length by show fh .B .b .H .G W hi)]
 apply vn O (p:=λi=>bs.getD i 0) (hn _ (dk _ (cj _))) (by show ba .B .a .aG (aa (fc .I .a .D hb))) (λi hi=>?_) (λi=>lt (bs.getD i 0) as[na-1]) (λi hi=>rfl) (λi j ao U hb=>?_) hk λk ai h1 h2=>?_
 ·rw[ap hi];apply#[hn _ (dt _ (cj _)),?_];rw[ky];show sv (by show fh .B .b .H .G W hi)
 ·rw[ap U]at hb;rw[ap (by show fh .B .b .J .M ao U)];rcases lq ao with q|rfl
  ·cases e:lt (bs[i]'(by show pe .B .e .H .aF .aH W ao U)) as[na-1] with
   |true=>rfl
   |false =>
    have:=T.tr _ _ _ e (sb.at (bb _) q (by show fh .B .b .H .G W U));rw[hb]at this;cases this
  ·show hb
 ·apply h k ai ?_ λx hx=>?_
  ·have m':=m;rw[yC bs ai]at m';apply m'.left λz hz=>?_;have#[j,U,aj,ar,rfl]:=yK hz;have:=h2 j U aj;rw[ap aj]at this;have sy:=m.sy;rw[dM ha ag]at sy ⊢;show sy.le T.rl this
  ·have#[j,U,aj,rfl]:=w8 hx;have:=h1 j U;rw[ap (by show fh .B .b .H .G ai U)]at this;show T.asym _ _ this
def pn.hl (m:Mrg (Rl lt) (as++bs) os (bs.take nb).reverse (as.take na).reverse)(e:na=0) :
  pn it lt as bs ((KA it as).extract 0 na++(KA it bs).extract 0 nb++(KA it os).reverse):=by
 subst e;apply#[bs.take nb++os.reverse,?_,?_]
 ·rw[rf,rf,o7,tf,tf];rfl
 ·have:=m.MR;have e:bs.take nb++os.reverse=(os++(bs.take nb).reverse).reverse:=by simp
  rw[e];apply#[(mi _).trans this.1,this.2.rl]
def pn.hd (m:Mrg (Rl lt) (as++bs) os (bs.take nb).reverse (as.take na).reverse)(e:nb=0) :
  pn it lt as bs ((KA it as).extract 0 na++(KA it bs).extract 0 nb++(KA it os).reverse):=by
 subst e;apply#[as.take na++os.reverse,?_,?_]
 ·rw[rf,rf,o7,tf,tf];simp
 ·have:=m.J7 λy _ x W=>nomatch W;have e:as.take na++os.reverse=(os++(as.take na).reverse++(bs.take 0).reverse).reverse:=by simp
  rw[e];apply#[(mi _).trans this.1,this.2.rl]
def pn.hr (m:Mrg (Rl lt) (as++bs) os (bs.take nb).reverse (as.take na).reverse)(e:nb=1)(first:∀(h:0<bs.length),∀y∈as,lt y bs[0]=false) :
  pn it lt as bs ((KA it bs).extract 0 nb++(KA it as).extract 0 na++(KA it os).reverse):=by
 subst e;apply#[bs.take 1++as.take na++os.reverse,?_,?_]
 ·rw[rf,rf,o7,tf,tf];rfl
 ·have:=m.J7 λy U x O=>by
   have#[j,J,W,rfl]:=w8 O;obtain rfl:j=0:=by(show fc .N .t .cB J)
   show first W y (nz (nc.mp U))
  have e:bs.take 1++as.take na++os.reverse=(os++(as.take na).reverse++(bs.take 1).reverse).reverse:=by simp
  rw[e];apply#[(mi _).trans this.1,this.2.rl]
end
abbrev uB:Array Keyed->Array Keyed->StateT SortSt Sem (Array Keyed):=sortPriv% PySem.Builtin.mergeHi
section
variable {prog:Program}{w:World}{A:Around}{E:QqV}{s:Shared}{kd:SortKind}{n:Nat}{it:Nat->Keyed}{lt:Nat->Nat->Bool}
def t7 (O:Ora (model prog w) A s kd n it lt)(T:LtT lt){as bs:List Nat}{Q:Array Keyed->SortSt->Prop}{st:SortSt}(hk:kindOf st=kd)(hn:∀x∈as++bs,x<n)
  (sa:Srt lt as) (sb:Srt lt bs) (la:0<as.length) (lb:0<bs.length) (first:∀(h:0<bs.length),∀y∈as,lt y bs[0]=false) (last:lt (bs[bs.length-1]'(by show ba .B .a .aG (aa (fc .I .a .D lb)))) (as[as.length-1]'(by show ba .B .a .aG (aa (fc .I .a .D la))))=true)
  (h:∀r W,Gst st W->pn it lt as bs r->Q r W) :
  PyProof.Rows.wpS (model prog w) A E s (uB (KA it as) (KA it bs)) Q st:=by
 unfold uB;apply cp (wpS_lift (sr #[rfl,?_]));have ee:as.length-1<as.length:=by(show ba .B .a .aG (aa (fc .I .a .D la)))
 have za:=mz (it:=it) as;have zb:=mz (it:=it) bs;apply cp (ju (show(KA it as)[(KA it as).size-1]?=some (it as[as.length-1]) by rw[za];show sv ee) ?_);have m0:Mrg (Rl lt) (as++bs) [as[as.length-1]] (bs.take bs.length).reverse (as.take (as.length-1)).reverse:=by
  have base:Mrg (Rl lt) (as++bs) [] (bs.take bs.length).reverse (as.take as.length).reverse:=by
   rw[fo,fo];show {perm:=List.Perm.trans (lG (l₁:=[]++bs.reverse)) (List.Perm.append (mi _) (mi _)),so:=.nil,sx:=sb.L9,sy:=sa.L9,ax:=λo ho=>(nomatch ho),ay:=λo ho=>(nomatch ho)}
  apply base.tkA la (az _) ?_;have sx:=base.sx;rw[dM lb (az _)]at sx ⊢;show sx.le T.rl (T.asym _ _ last)
 have m1:Mrg (Rl lt) (as++bs) [as[as.length-1]] (bs.take (KA it bs).size).reverse (as.take ((KA it as).size-1)).reverse:=by rw[za,zb];show m0
 by_cases c1:((KA it as).size-1==0)=true
 ·show ew c1 (dh (h _ _ (.refl _) (pn.hl m1 (fy.mp c1))))
 apply eu c1 ?_;by_cases c2:((KA it bs).size==1)=true
 ·show ew c2 (dh (h _ _ (.refl _) (pn.hr m1 (fy.mp c2) first)))
 apply eu c2 ?_;apply cp (sU ?_);have i0:MJ lt as bs [as[as.length-1]] ((KA it as).size-1) (KA it bs).size:=by
  have dy:(KA it as).size-1≠0:=λq=>c1 (fy.mpr q);have ef:(KA it bs).size≠1:=λq=>c2 (fy.mpr q);apply#[m1,by show(ah dy).elim (λq1=>(fc .D .j .bK q1)) λq1=>(fc .D .a .D q1),by show fh .A .b .aL .aA za (aa (iq .I .d .Y .C la za)),by show(ah dy).elim (λq1=>(ba .a5 .j (.l .B .O) q1)) λq1=>((ah ef).elim (λq2=>(MY .a5 [[0,1,-1,1]] .Y .C .cB lb zb q2)) λq2=>(fc .a5 .a .a5 q2)),by show ba .A .a .C zb]
 generalize gallopOf st=g0;apply yg λk1 bv=>(mj (qt (I:=λx c W=>Gst st W/\∃os ia ib g,c=(none,ia,ib,KA it os,g)/\MJ lt as bs os ia ib/\x+ia+ib<=as.length+bs.length)
  (Q:=λc W=>Gst st W/\∃r,c.1=some r/\pn it lt as bs r) (λf1 ed=>?_) ?_ #[.refl _,_,_,_,_,rfl,i0,by show mr (.k (.a (.a .O .A) .B) .R) .e (.e .F .C) (.e .B .D) (.e .M .F) za zb (aa (iq .I .d .Y .C la za))]) ?_)
 ·intro x c cb _ hx zz;have#[g1,os,ia,ib,g,rfl,I,aj]:=zz;rw[ed];apply yg λk2 bg=>(mj (qt (I:=λ_ c W=>W=cb/\∃os ja z ac bc,c=(none,ja,z,KA it os,ac,bc)/\MJ lt as bs os ja z/\ja+z<=ia+ib)
   (Q:=λc W=>W=cb/\((∃r t,c=(some r,t)/\pn it lt as bs r)\/∃os ja z ac bc,c=(none,ja,z,KA it os,ac,bc)/\MJ lt as bs os ja z/\ja+z<=ia+ib)) (λf2 ec=>?_) ?_ #[rfl,_,_,_,_,_,rfl,I,az _]) ?_)
  ·intro y c dc _ hy zz;have#[rfl,os,ja,z,ac,bc,rfl,I,be]:=zz;rw[ec];have na:as[ja-1]'I.a0<n:=hn _ (dk _ (cj _));have nb:bs[z-1]'I.b0<n:=hn _ (dt _ (cj _));apply cp (ju (sv I.b0) ?_);apply cp (ju (sv I.a0) ?_);apply cp (i9 O (g1.kind.trans hk) nb na ?_);cases hc:lt (bs[z-1]'I.b0) (as[ja-1]'I.a0) with
   |true =>
    apply cp (ju (sv I.a0) ?_);have m:=I.C2 T hc;rw[zo];by_cases e:(ja-1==0)=true
    ·show ew e (dh #[rfl,.inl #[_,_,rfl,pn.hl m (fy.mp e)]])
    ·apply eu e ?_;have I2:MJ lt as bs (os++[as[ja-1]'I.a0]) (ja-1) z:=#[m,by have:=I.ha;have:ja-1≠0:=λq=>e (fy.mpr q);(rename_i z1;show(ah this).elim (λq1=>(fc .D .j .bK q1)) λq1=>(fc .D .a .D q1)),by have:=I.hal;(show fh .A .b .H .J this (oo _ _)),I.hb,I.hbl];split
     ·show dh #[rfl,.inr #[_,ja-1,z,_,_,rfl,I2,by show qy .bA .b (.k .aI .R) .cG be (oo _ _)]]
     ·show dh #[rfl,_,ja-1,z,_,_,rfl,I2,by show qy .bA .b (.k .aI .R) .cG be (oo _ _)]
   |false =>
    apply cp (ju (sv I.b0) ?_);have m:=I.C1 T hc;rw[zo];by_cases e:(z-1==1)=true
    ·show ew e (dh #[rfl,.inl #[_,_,rfl,pn.hr m (fy.mp e) first]])
    ·apply eu e ?_;have I2:MJ lt as bs (os++[bs[z-1]'I.b0]) ja (z-1):=#[m,I.ha,I.hal,by have:=I.hb;have:z-1≠1:=λq=>e (fy.mpr q);(rename_i z1;show(ah this).elim (λq1=>(MY .a5 [[0,1,-1,1]] (.l .U .B) .aG .cB z1 (aa (fc .I .a .a5 z1)) q1)) λq1=>(fc .a5 .a .a5 q1)),by have:=I.hbl;(show fh .A .b .H .J this (oo _ _))];split
     ·show dh #[rfl,.inr #[_,ja,z-1,_,_,rfl,I2,by show qy .bA .b (.k .a9 .R) (.k .B .F) be (oo _ _)]]
     ·show dh #[rfl,_,ja,z-1,_,_,rfl,I2,by show qy .bA .b (.k .a9 .R) (.k .B .F) be (oo _ _)]
  ·intro c dc zz;have#[rfl,h2]:=zz;apply#[rfl,.inr h2]
  ·intro c dc zz;have#[rfl,h2]:=zz;rcases h2 with ⟨r,t,rfl,hr⟩|⟨ei,ja,z,ac,bc,rfl,I2,be⟩
   ·rw[bg];show dh #[g1,r,rfl,hr]
   ·rw[bg];apply cp (wpS_lift (sr #[rfl,?_]));apply yg λk3 dx=>(mj (qt (I:=λx c W=>Gst st W/\∃os ja z g ac bc,c=(none,ja,z,KA it os,g,ac,bc)/\MJ lt as bs os ja z/\x+ja+z<=ia+ib)
     (Q:=λc W=>Gst st W/\((∃r t,c=(some r,t)/\pn it lt as bs r)\/∃os ja z g ac bc,c=(none,ja,z,KA it os,g,ac,bc)/\MJ lt as bs os ja z/\ja+z<ia+ib)) (λf3 eb=>?_) ?_ #[g1,_,ja,z,_,_,_,rfl,I2,by show lA (.k (.a (.a .O .A) .B) .R) .a .bA be]) ?_)
    ·intro y c cx _ hy zz;have#[g3,cd,pa,pb,mg,ac,bc,rfl,I3,hp]:=zz;rw[eb];dsimp -zeta only
     extract_lets s1 a1 s2 b1 s3 o1 s4 m1 s5 ac1 bc1 nb1 jp m2
     have key:∀g' (R:_->SortSt->Prop),(∀r t W,Gst st W->pn it lt as bs r->R (.done (some r,t)) W)->(∀os ja z g ac bc W,Gst st W->MJ lt as bs os ja z->ja+z<pa+pb->R (.done (none,ja,z,KA it os,g,ac,bc)) W) ->
       (∀os ja z g ac bc W,Gst st W->MJ lt as bs os ja z->ja+z<pa+pb->R (.yield (none,ja,z,KA it os,g,ac,bc)) W)->PyProof.Rows.wpS (model prog w) A E s (jp () g') R cx:=λg' R rE rD rY=>by
      apply cp (t5 λar q4=>?_);have g4:=g3.trans q4;have dv:=g4.kind.trans hk;apply cp (ju (sv I3.b0) ?_);have bd:=je I3.hb;have G:PyProof.Rows.wpS (model prog w) A E s (ug false (it (bs[pb-1]'I3.b0)) (KA it as) 0 pa (pa-1)) (λr W=>W=ar/\∃k,r=some k/\k<=pa/\Mrg (Rl lt) (as++bs) (cd++((as.take pa).drop k).reverse) (bs.take pb).reverse (as.take k).reverse/\Le (Rl lt) (bs[pb-1]'I3.b0) (as.take k).reverse) ar:=
       zQ O T dv hn sa I3.m I3.ha I3.hal bd I3.hbl λk h1 h2 h3=>#[rfl,k,rfl,h1,h2,h3]
      apply cp (mj G ?_);intro _ dL zz;have#[e5,k,rfl,bv,mA,dm]:=zz;rw[e5];dsimp -zeta only
      extract_lets kk acount jp2 o2 na2
      have ck:∀bl ag,Mrg (Rl lt) (as++bs) bl (bs.take pb).reverse (as.take ag).reverse->0<ag->ag<=pa->Le (Rl lt) (bs[pb-1]'I3.b0) (as.take ag).reverse->PyProof.Rows.wpS (model prog w) A E s (jp2 () ag (KA it bl)) R ar:=λbl ag m' bn bu ea=>by
       have ca:ag<=as.length:=kz bu I3.hal;apply cp (ju (sv I3.b0) ?_);rw[zo];have mB:=m'.tkB bd I3.hbl ea;by_cases q1:(pb-1==1)=true
       ·show ew q1 (dh (rE _ _ _ g4 (pn.hr mB (fy.mp q1) first)))
       ·apply eu q1 ?_;have dr:1<pb-1:=by have:=I3.hb;have:pb-1≠1:=λq=>q1 (fy.mpr q);(rename_i z1;show(ah this).elim (λq1=>(MY .a5 [[0,1,-1,1]] (.l .U .B) .aG .cB z1 (aa (fc .I .a .D bd)) q1)) λq1=>(fc .a5 .a .a5 q1))
        have ct:pb-1<=bs.length:=by have:=I3.hbl;(show fh .A .b .H .aA this (aa (fc .I .a .D bd)))
        have da:ag-1<as.length:=by(show fh .B .b .H .aA ca (aa (fc .I .a .D bn)))
        apply cp (ju (sv da) ?_);have G:PyProof.Rows.wpS (model prog w) A E s (ug true (it as[ag-1]) (KA it bs) 0 (pb-1) (pb-1-1)) (λr W=>W=ar/\∃k,r=some k/\k<=pb-1/\Mrg (Rl lt) (as++bs) ((bl++[bs[pb-1]'I3.b0])++((bs.take (pb-1)).drop k).reverse) (bs.take k).reverse (as.take ag).reverse/\Le (Rl lt) as[ag-1] (bs.take k).reverse) ar:=
         zP O T dv hn sb mB bn ca (je dr) ct λk h1 h2 h3=>#[rfl,k,rfl,h1,h2,h3]
        apply cp (mj G ?_);intro _ dL zz;have#[e5,k2,rfl,bg,mC,df]:=zz;rw[e5];dsimp -zeta only
        extract_lets kk2 bcount na3 jp3 o3 b3
        have ch:∀ao ai,Mrg (Rl lt) (as++bs) ao (bs.take ai).reverse (as.take ag).reverse->1<ai->ai<=pb-1->Le (Rl lt) as[ag-1] (bs.take ai).reverse->PyProof.Rows.wpS (model prog w) A E s (jp3 () ai (KA it ao)) R ar:=λao ai mD dn bt dV=>by
         apply cp (ju (sv da) ?_);rw[zo];have mE:=mD.tkA bn ca dV;by_cases q2:(ag-1==0)=true
         ·show ew q2 (dh (rE _ _ _ g4 (pn.hl mE (fy.mp q2))))
         ·apply eu q2 ?_;have I4:MJ lt as bs (ao++[as[ag-1]]) (ag-1) ai:=#[mE,by have:ag-1≠0:=λq=>q2 (fy.mpr q);(show(ah this).elim (λq1=>(fc .D .j .bK q1)) λq1=>(fc .D .a .D q1)),by show ba .A .a .B da,dn,by show fh .A .b .H .J ct bt];by_cases q3:(decide (acount<7)&&decide (bcount<7))=true
          ·show ew q3 (dh (rD _ (ag-1) ai _ _ _ _ g4 I4 (by show yw (.l .L .R) .k .bS (.k .B .G) (.e .aA .D) (.e .M .F) bu bt (aa (fc .I .a .D bd)) (aa (fc .I .a .D bn)))))
          ·show eu q3 (dh (rY _ (ag-1) ai _ _ _ _ g4 I4 (by show yw (.l .L .R) .k .bS (.k .B .G) (.e .aA .D) (.e .M .F) bu bt (aa (fc .I .a .D bd)) (aa (fc .I .a .D bn)))))
        by_cases q4:pb-1-k2>0
        ·apply ew q4 ?_;have eo:o3=KA it (bl++[bs[pb-1]'I3.b0]++((bs.take (pb-1)).drop k2).reverse):=by
          show KA it _++((KA it bs).extract k2 (pb-1)).reverse=_;rw[rf,o7,tf]
         rw[eo];by_cases q5:(k2==1)=true
         ·show ew q5 (dh (rE _ _ _ g4 (pn.hr mC (fy.mp q5) first)))
         ·apply eu q5 ?_;by_cases q6:(k2==0)=true
          ·show ew q6 (dh (rE _ _ _ g4 (pn.hd mC (fy.mp q6))))
          ·show eu q6 (ch _ k2 mC (by have:k2≠1:=λq=>q5 (fy.mpr q);have:k2≠0:=λq=>q6 (fy.mpr q);(rename_i z1;show(ah z1).elim (λq1=>((ah this).elim (λq2=>(fc .a5 .j .bK q2)) λq2=>(sO .a5 .c .cB .D q1 q2))) λq1=>(fc .a5 .a .a5 q1))) bg df)
        ·apply eu q4 ?_;obtain rfl:k2=pb-1:=by(show oa .C [[1,0,1,-1],[1,1,0,0]] .A (.g .O .C) .cD bg q4 (aa (ba .A .a .A bg)))
         show ch _ (pb-1) mB dr (az _) df
      by_cases q4:pa-k>0
      ·apply ew q4 ?_;have eo:o2=KA it (cd++((as.take pa).drop k).reverse):=by
        show KA it _++((KA it as).extract k pa).reverse=_;rw[rf,o7,tf]
       rw[eo];by_cases q5:(k==0)=true
       ·show ew q5 (dh (rE _ _ _ g4 (pn.hl mA (fy.mp q5))))
       ·show eu q5 (ck _ k mA (by have:k≠0:=λq=>q5 (fy.mpr q);(show(ah this).elim (λq1=>(fc .D .j .bK q1)) λq1=>(fc .D .a .D q1))) bv dm)
      ·apply eu q4 ?_;obtain rfl:k=pa:=by(show oa .C [[1,0,1,-1],[1,1,0,0]] .A (.g .O .C) .cD bv q4 (aa (ba .A .a .A bv)))
       show ck _ k I3.m I3.ha (az _) dm
     split
     ·apply key _ _ ?_ ?_ ?_
      ·intro r t W g hr;apply#[g,.inl #[r,t,rfl,hr]]
      ·intro os ja z g ac bc W q I hl;apply#[q,.inr #[_,_,_,_,_,_,rfl,I,by show sN (.l .L .R) .b (.k (.a .a5 .H) .R) (.l .L .aC) hp hl]]
      ·intro os ja z g ac bc W q I hl;apply#[q,_,_,_,_,_,_,rfl,I,by show sN (.k (.a .a2 .C) .Y) .b (.k (.a .aT .H) .Y) (.l .Q .aC) hp hl]
     ·apply key _ _ ?_ ?_ ?_
      ·intro r t W g hr;apply#[g,.inl #[r,t,rfl,hr]]
      ·intro os ja z g ac bc W q I hl;apply#[q,.inr #[_,_,_,_,_,_,rfl,I,by show sN (.l .L .R) .b (.k (.a .a5 .H) .R) (.l .L .aC) hp hl]]
      ·intro os ja z g ac bc W q I hl;apply#[q,_,_,_,_,_,_,rfl,I,by show sN (.k (.a .a2 .C) .Y) .b (.k (.a .aT .H) .Y) (.l .Q .aC) hp hl]
    ·intro c cx zz;have#[g3,cd,pa,pb,mg,ac,bc,rfl,I3,hp]:=zz;have:=I3.ha;have:=I3.hb;have:=I.hal;have:=I.hbl;simp[mz]at hp
     (rename_i z2 z1;show#[(False.elim (JQ .ff .m (.k .aB .Y) (.l .U .G) (.k (.a (.a .Y .H) .G) .Q) aj z2 hp)),(.inl (False.elim (JQ .ff .m (.k .aB .Y) (.l .U .G) (.k (.a (.a .Y .H) .G) .Q) aj z2 hp)))])
    ·intro c cx zz;have#[g3,h3]:=zz;rcases h3 with ⟨r,t,rfl,hr⟩|⟨cd,pa,pb,mg,ac,bc,rfl,I3,hp⟩
     ·rw[dx];show dh #[g3,r,rfl,hr]
     ·rw[dx];apply cp (i8 ?_);show dh #[g3.trans #[_,rfl],_,_,_,_,rfl,I3,by show x+1+pa+pb<=_;(show sN (.k (.a .a2 .C) .Y) .b (.k (.a .aT .H) .Y) (.l .Q .aC) aj hp)]
 ·intro c cb zz;have#[g1,os,ia,ib,g,rfl,I,aj]:=zz;have:=I.ha;have:=I.hb;simp[mz]at aj
  (show#[(False.elim (gh .ff .c .a5 (.k (.a (.a .Q .D) .A) .Q) this aj)),(False.elim (gh .ff .c .a5 (.k (.a (.a .Q .D) .A) .Q) this aj))])
 ·rintro ⟨r0,c⟩ cb ⟨g1,r,e,hr⟩;obtain rfl:r0=some r:=e;rw[bv];show dh (h _ _ g1 hr)
end
variable {st:SortSt}{pend:Array (Nat×Nat×Nat)}
abbrev mS:Nat->StateT SortSt Sem Bool:=sortPriv% PySem.Builtin.mergeAt
section
variable {prog:Program}{w:World}{A:Around}{E:QqV}{s:Shared}{kd:SortKind}{n:Nat}{it:Nat->Keyed}{lt:Nat->Nat->Bool}
structure SI (kd:SortKind)(it:Nat->Keyed)(st:SortSt)(os:List Nat)(pend:Array (Nat×Nat×Nat)):Prop where
 k:kindOf st=kd
 a:arrOf st=KA it os
 p:pendingOf st=pend
 f:failedOf st=none
def xp (xs:List Nat)(i:Nat):(KA it xs)[i]?=xs[i]?.map it:=by simp[KA]
def tX (U:Nat):∀(ms:List Keyed) (k:Nat) (pre ys post:List Keyed),pre.length=U+k->ys.length=ms.length ->
  (ms.zipIdx k).foldl (λ(a:Array Keyed) (x:Keyed×Nat)=>match x with|(p,j)=>a.setIfInBounds (U+j) p) (pre++(ys++post)).toArray=(pre++(ms++post)).toArray
 | [],k,pre,ys,post,_,W=>by
  obtain rfl:ys=[]:=tc W;rfl
 |m::ms,k,pre,[],post,_,W=>by cases W
 |m::ms,k,pre,y::ys,post,O,W=>by
  rw[List.zipIdx_cons,List.foldl_cons];have e:(match (m,k) with|(p,j)=>(pre++(y::ys++post)).toArray.setIfInBounds (U+j) p)=((pre++[m])++(ys++post)).toArray:=by
   dsimp only;rw[<- O];simp
  rw[e,tX U ms (k+1) (pre++[m]) ys post (by simp[O];(show ow (.e .aH .a7) .o)) (by simpa using W)];simp
def FX {W:SortSt}{Q:PUnit->SortSt->Prop}(h:Q #[] W):PyProof.Rows.wpS (model prog w) A E s (set W:StateT SortSt Sem PUnit) Q st:=by
 unfold PyProof.Rows.wpS;show ae #[rfl,h]
def zO {os:List Nat}{U:Array (Nat×Nat×Nat)}{Q:PUnit->SortSt->Prop}(I:SI kd it st os pend)(h:∀W,SI kd it W os U->Q #[] W) :
  PyProof.Rows.wpS (model prog w) A E s (set (SortSt.mk' (kindOf st) (arrOf st) U (gallopOf st) (failedOf st)):StateT SortSt Sem PUnit) Q st:=FX (h _ #[I.k,I.a,rfl,I.f])
def Gst.si {W:SortSt}(g:Gst st W){os:List Nat}(I:SI kd it st os pend):SI kd it W os pend:=by
 have#[g,rfl]:=g;apply#[I.k,I.a,I.p,I.f]
def t8 (O:Ora (model prog w) A s kd n it lt)(T:LtT lt){pre as bs post:List Nat}{i pa pb:Nat}{Q:Bool->SortSt->Prop}(I:SI kd it st (pre++(as++(bs++post))) pend)
  (hn:∀x∈pre++(as++(bs++post)),x<n) (sa:Srt lt as) (sb:Srt lt bs) (la:0<as.length) (lb:0<bs.length)
  (h1:pend[i]?=some (pre.length,as.length,pa)) (h2:pend[i+1]?=some (pre.length+as.length,bs.length,pb))
  (h:∀cs ag,cs.Perm (as++bs)->Srt lt cs->SI kd it ag (pre++(cs++post)) ((pend.setIfInBounds i (pre.length,as.length+bs.length,pa)).eraseIdxIfInBounds (i+1))->Q true ag) :
  PyProof.Rows.wpS (model prog w) A E s (mS i) Q st:=by
 unfold mS;apply cp (sU ?_);rw[show(sortPriv% PySem.Builtin.SortState.pending) st=pend from I.p,h1,h2];apply cp (zO I λao I1=>?_);rw[show(sortPriv% PySem.Builtin.SortState.a) st=KA it (pre++(as++(bs++post))) from I.a];generalize he:pre++(as++(bs++post))=os at hn I I1 ⊢;have atA:∀{j} (h:j<as.length),(KA it os)[pre.length+j]?=some (it as[j]):=λ{j} hj=>by
  subst he;rw[xp,bh (km _ _),oh,dq hj,aq hj];rfl
 have atB:∀{j} (h:j<bs.length),(KA it os)[pre.length+as.length+j]?=some (it bs[j]):=λ{j} hj=>by
  subst he;rw[xp,uj,bh (km _ _),oh,bh (km _ _),oh,dq hj,aq hj];rfl
 have bc:∀x∈as,x<n:=λx z=>hn x (by subst he;simp[z]);have ay:∀x∈bs,x<n:=λx z=>hn x (by subst he;simp[z]);have ap:∀{i},(hi:i<as.length)->as.getD i 0=as[i]'(by show ba .B .a .B hi):=λ{i} hi=>by simp[List.getD,aq (show i<as.length by show ba .B .a .B hi)]
 have bp:∀{i},(hi:i<bs.length)->bs.getD i 0=bs[i]'(by show ba .B .a .B hi):=λ{i} hi=>by simp[List.getD,aq (show i<bs.length by show ba .B .a .B hi)]
 apply cp (ju (x:=it bs[0]) (atB lb) ?_);have G:PyProof.Rows.wpS (model prog w) A E s (ug false (it bs[0]) (KA it os) pre.length as.length 0) (λr ag=>ag=ao/\∃k,r=some k/\k<=as.length/\(∀x∈as.take k,lt bs[0] x=false)/\∀x∈as.drop k,lt bs[0] x=true) ao:=by
  apply vn O (p:=λi=>as.getD i 0) (ay _ (cj _)) la (λi hi=>?_) (λi=>!lt bs[0] (as.getD i 0)) (λi hi=>rfl) (λi j aj hj hb=>?_) I1.k λk ai h1 h2=>#[rfl,k,rfl,ai,λx z=>?_,λx z=>?_]
  ·rw[ap hi];apply#[bc _ (cj _),atA hi]
  ·rw[ap hj]at hb;rw[ap (by show fh .B .b .J .M aj hj)];have hb:lt bs[0] (as[j]'(by show ba .B .a .B hj))=false:=by simpa using hb
   rcases lq aj with q|rfl
   ·rw[T.tr _ _ _ (sa.at (bb _) q (by show ba .B .a .B hj)) hb];rfl
   ·rw[hb];rfl
  ·have#[j,hj,rfl]:=fu.mp z;rw[fb]at hj;have:=h1 j (by show fh .B .b .G .H hj (Ar.ji _ _).1);rw[ap (by show fh .B .b .G .H hj (Ar.ji _ _).2.1)]at this;simpa using this
  ·have#[j,hj,rfl]:=fu.mp z;rw[gz]at hj;have:=h2 (k+j) (by show ow .bU .h) (by show gh .K .b .W .Q hj (aa (ba .A .a .A ai)));rw[ap (by show gh .K .b .W .Q hj (aa (ba .A .a .A ai)))]at this;simpa using this
 apply cp (mj G ?_);intro _ bv zz;have#[e2,k,rfl,bd,ch,bn]:=zz;rw[e2];have bt:∀x∈bs,lt x bs[0]=false:=λx z=>by
  have#[j,hj,rfl]:=fu.mp z;rcases Nat.eq_zero_or_pos j with rfl|q
  ·cases e:lt bs[0] bs[0] with
   |false=>rfl
   |true=>have:=T.asym _ _ e;rw[e]at this;cases this
  ·show sb.at (bb _) q hj
 have all1:∀x∈as.take k,Le lt x bs:=λx z y hy=>T.tr _ _ _ (ch x z) (bt y hy);dsimp -zeta only;by_cases q1:(as.length-k==0)=true
 ·apply ew q1 (dh (h (as++bs) _ (List.Perm.refl _) ?_ ?_))
  ·have:=fy.mp q1;obtain rfl:k=as.length:=by(show fh .C .C .bB .cD this (aa (ba .A .a .A bd)))
   rw[fo]at all1;show sa.app sb all1
  ·rw[bq,he];show I1
 apply eu q1 ?_;have ar:k<as.length:=by have:as.length-k≠0:=λq=>q1 (fy.mpr q);(show(ah this).elim (λq1=>(gu .B .j (.l .C .O) q1)) λq1=>(fh .B .b .cD .a6 (aa (ba .A .a .A bd)) q1))
 have hL:as.length-1<as.length:=by(show ba .B .a .aG (aa (fc .I .a .D la)))
 apply cp (ju (x:=it as[as.length-1]) (by rw[show pre.length+k+(as.length-k)-1=pre.length+(as.length-1) by(show Ar.sub _ _ (λq1 p1=>(Ar.sub _ _ (λq2 p2=>(eM .aY .A (.e .S .D) (.e .a5 .D) (.e .M (.a (.a .B .G) .F)) (aa (fc .I .a .D la)) p1 p2)) λq2 p2=>(yw .aY [[1,1,-1,1,0],[1,0,0,0,1]] (.e .S .D) (.e .a5 .D) (.k (.a (.a .B .G) .F) .U) .N (aa (fc .I .a .D la)) p1 q2 p2))) λq1 p1=>(qy .aY .v .cI (.k .F .D) ar q1))];show atA hL) ?_);have G:PyProof.Rows.wpS (model prog w) A E s (ug true (it as[as.length-1]) (KA it os) (pre.length+as.length) bs.length (bs.length-1)) (λr ag=>ag=ao/\∃k,r=some k/\k<=bs.length/\(∀x∈bs.take k,lt x as[as.length-1]=true)/\∀x∈bs.drop k,lt x as[as.length-1]=false) ao:=by
  apply vn O (p:=λi=>bs.getD i 0) (bc _ (cj _)) (by show ba .B .a .aG (aa (fc .I .a .D lb))) (λi hi=>?_) (λi=>lt (bs.getD i 0) as[as.length-1]) (λi hi=>rfl) (λi j aj hj hb=>?_) I1.k λk ai h1 h2=>#[rfl,k,rfl,ai,λx z=>?_,λx z=>?_]
  ·rw[bp hi];apply#[ay _ (cj _),atB hi]
  ·rw[bp hj]at hb;rw[bp (by show fh .B .b .J .M aj hj)];rcases lq aj with q|rfl
   ·cases e:lt (bs[i]'(by show fh .B .b .J .M aj hj)) as[as.length-1] with
    |true=>rfl
    |false =>
     have:=T.tr _ _ _ e (sb.at (bb _) q (by show ba .B .a .B hj));rw[hb]at this;cases this
   ·show hb
  ·have#[j,hj,rfl]:=fu.mp z;rw[fb]at hj;have:=h1 j (by show fh .B .b .G .H hj (Ar.ji _ _).1);rw[bp (by show fh .B .b .G .H hj (Ar.ji _ _).2.1)]at this;simpa using this
  ·have#[j,hj,rfl]:=fu.mp z;rw[gz]at hj;have:=h2 (k+j) (by show ow .bU .h) (by show gh .K .b .W .Q hj (aa (ba .A .a .A ai)));rw[bp (by show gh .K .b .W .Q hj (aa (ba .A .a .A ai)))]at this;simpa using this
 apply cp (mj G ?_);intro _ bv zz;have#[e2,k2,rfl,cb,bl,cd]:=zz;rw[e2];have bu:∀x∈as,lt as[as.length-1] x=false:=λx z=>by
  have#[j,hj,rfl]:=fu.mp z;rcases pf j (as.length-1) with q|q
  ·show sa.at (bb _) q hL
  ·obtain rfl:j=as.length-1:=by(show oa .C [[1,0,1,0],[1,1,0,-1]] .G .a2 (.e .P .C) hj q (aa (fc .I .a .D la)))
   cases e:lt as[as.length-1] as[as.length-1] with
   |false=>rfl
   |true=>have:=T.asym _ _ e;rw[e]at this;cases this
 have all2:∀x∈as,Le lt x (bs.drop k2):=λx z y hy=>T.tr _ _ _ (bu x z) (cd y hy);dsimp -zeta only;by_cases q2:(k2==0)=true
 ·apply ew q2 (dh (h (as++bs) _ (List.Perm.refl _) ?_ ?_))
  ·have:=fy.mp q2;subst this;show sa.app sb all2
  ·rw[bq,he];show I1
 apply eu q2 ?_;have ca:0<k2:=by have:k2≠0:=λq=>q2 (fy.mpr q);(show(ah this).elim (λq1=>(fc .D .j .bK q1)) λq1=>(fc .D .a .D q1))
 rw[rf,rf];have eA:(os.take (pre.length+as.length)).drop (pre.length+k)=as.drop k:=by
  subst he;rw[<- bq,List.take_left' (by simp),<- List.drop_drop,List.drop_left]
 have eB:(os.take (pre.length+as.length+k2)).drop (pre.length+as.length)=bs.take k2:=by
  subst he;rw[<- bq,show pre.length+as.length=(pre++as).length by simp,List.take_length_add_append,List.drop_left,List.take_append_of_le_length cb]
 rw[eA,eB]
 extract_lets x y jp
 have key:∀r ag,Gst ao ag->pn it lt (as.drop k) (bs.take k2) r->PyProof.Rows.wpS (model prog w) A E s (jp r) Q ag:=λr ag g hr=>by
  have#[ms,rfl,pm,sm]:=hr;have I3:=g.si I1;have hA:=jo.mp (show Srt lt (as.take k++as.drop k) by rw[eh];show sa);have hB:=jo.mp (show Srt lt (bs.take k2++bs.drop k2) by rw[eh];show sb);have e1:as.take k++(as.drop k++bs.take k2)++bs.drop k2=as++bs:=by
   rw[<- bq,eh,bq,eh]
  have ef:(KA it ms).toList.zipIdx.foldl (λ(a:Array Keyed) (x:Keyed×Nat)=>match x with|(p,j)=>a.setIfInBounds (pre.length+k+j) p) (arrOf ag)=KA it (pre++((as.take k++ms++bs.drop k2)++post)):=by
   have eo:os=(pre++as.take k)++((as.drop k++bs.take k2)++(bs.drop k2++post)):=by
    have:os=pre++((as++bs)++post):=by rw[<- he,bq as]
    rw[this,<- e1];simp only[bq]
   have:=tX (pre.length+k) (ms.map it) 0 ((pre++as.take k).map it) ((as.drop k++bs.take k2).map it) ((bs.drop k2++post).map it) (by simp;(show(Ar.ji _ _).2.2.elim (λq1=>(iq .C .g .A .a2 (Ar.ji _ _).1 q1)) λq1=>(oa .C .l .aI .A .b0 ar (Ar.ji _ _).1 q1))) (by simpa using pm.length_eq.symm);rw[<- cu,<- cu,<- eo,<- cu,<- cu]at this;rw[I3.a];apply Eq.trans this ?_;simp only[bq];rfl
  apply cp (i8 ?_);apply cp (sU ?_);apply dh ?_;rw[show(failedOf ag).isNone=true by rw[I3.f];rfl];apply h (as.take k++ms++bs.drop k2) _ ?_ ?_ #[I3.k,ef,I3.p,I3.f]
  ·apply((pm.append_left _).append_right _).trans ?_;rw[e1]
  ·apply Srt.app (Srt.app hA.1 sm λx z y hy=>?_) hB.2.1 λx z=>?_
   ·rcases cq.mp (pm.mem_iff.mp hy) with hy|hy
    ·show hA.2.2 x z y hy
    ·show all1 x z y (nz hy)
   ·rcases cq.mp z with z|z
    ·show all2 x (nz z)
    ·rcases cq.mp (pm.mem_iff.mp z) with z|z
     ·show all2 x (dJ z)
     ·show hB.2.2 x z
 have be:∀x∈as.drop k++bs.take k2,x<n:=λx z=>by
  rcases cq.mp z with z|z
  ·show bc _ (dJ z)
  ·show ay _ (nz z)
 have ax:0<(as.drop k).length:=by rw[gz];(show fh .D .d .aI .a1 ar (aa (ba .A .a .A bd)))
 have bg:0<(bs.take k2).length:=by rw[fb];(show(Ar.ji _ _).2.2.elim (λq1=>(iq .D .b .Y .a2 ca q1)) λq1=>(iq .D .b .Y .a2 lb q1))
 have b0:(bs.take k2)[0]=bs[0]:=oj;have al:(as.drop k)[(as.drop k).length-1]'(by show ba .B .a .aG (aa (fc .I .a .D ax)))=as[as.length-1]:=by
  rw[List.getElem_drop]
  congr 1
  rw[gz];(show Ar.sub _ _ (λq1 p1=>(Ar.sub _ _ (λq2 p2=>(mr .a1 .A (.e .S .D) (.e .aK .D) (.e .P .F) (aa (fc .I .a .D la)) p1 p2)) λq2 p2=>(FJ .a1 [[1,0,1,-1,1,0],[1,1,-1,0,0,1]] (.l .A .D) (.e .S .D) (.e .aK .D) (.k .F .U) .aN ar (aa (fc .I .a .D la)) p1 q2 p2))) λq1 p1=>(pe .a1 [[1,0,1,1],[0,1,0,1]] (.l .A .D) (.e .S .D) (.k .D .A) ar (aa (fc .I .a .D la)) q1))
 split
 ·apply cp (t6 O T I1.k be (sa.sublist (List.drop_sublist _ _)) (sb.sublist (List.take_sublist _ _)) ax bg ?_ (λi hi e y hy=>?_) key)
  ·rw[b0];show bn _ (cj _)
  ·have:=bl y hy;rw[<- al]at this;obtain rfl:i=(as.drop k).length-1:=by(show fh .C .s .aA (.e .P .C) e (aa (fc .I .a .D ax)))
   show T.asym _ _ this
 ·apply cp (t7 O T I1.k be (sa.sublist (List.drop_sublist _ _)) (sb.sublist (List.take_sublist _ _)) ax bg (λ_ y hy=>?_) ?_ key)
  ·rw[b0];show T.asym _ _ (bn y hy)
  ·rw[al];show bl _ (cj _)
end
section
variable {st:SortSt}{pend:Array (Nat×Nat×Nat)}{xs rest pre X Y Z:List Nat}{m q:Nat}
variable {prog:Program}{w:World}{A:Around}{E:QqV}{s:Shared}{kd:SortKind}{n:Nat}{it:Nat->Keyed}{lt:Nat->Nat->Bool}
def yf (O:Ora (model prog w) A s kd n it lt){os:List Nat}{i j x y:Nat}{Q:Option Bool->SortSt->Prop}(I:SI kd it st os pend)(W:∀x∈os,x<n)
  (J:os[i]?=some x) (U:os[j]?=some y) (h:Q (some (lt x y)) st):PyProof.Rows.wpS (model prog w) A E s (ltAt' i j) Q st:=by
 rw[ltAt'_eq];apply cp (sU ?_);dsimp only;rw[show arrOf st=KA it os from I.a];apply cp (ju (x:=it x) (by rw[xp,J];rfl) ?_);apply cp (ju (x:=it y) (by rw[xp,U];rfl) ?_);show i9 O I.k (W _ (fe J)) (W _ (fe U)) h
def w7 (xs ys zs:List Nat):mirror (KA it (xs++(ys++zs))) xs.length (xs.length+ys.length) ((xs.length+ys.length-xs.length)/2)=KA it (xs++(ys.reverse++zs)):=by
 apply fR λk=>?_;rw[getElem?_mirror_all (by rw[mz];simp)];rw[xp,xp,xp];by_cases h:xs.length<=k/\k<xs.length+ys.length
 ·rw[cn h]
  congr 1
  have e1:(xs++(ys++zs))[xs.length+(xs.length+ys.length)-1-k]?=ys[ys.length-1-(k-xs.length)]?:=by
   rw[bh (by show Ar.sub _ _ (λW O=>(Ar.sub _ _ (λq2 z=>(mr .A .F (.l .C .T) (.e .a1 (.a .A .T)) (.e .Q .F) h.2 O z)) λq2 z=>(mr .A .u (.l .C .T) (.e .a1 (.a .A .T)) .bS h.2 O q2))) λW O=>(gu .A [[2,1]] (.k (.a .A .X) .U) W)),dq (by show Ar.sub _ _ (λW O=>(Ar.sub _ _ (λq2 z=>(Ar.sub _ _ (λq3 p3=>(yw .B .k .Z (.e .X .F) (.e .aL .G) (.e .aA (.a .C .a6)) h.1 O z p3)) λq3 p3=>(yw .B .k .bG (.e .T .F) (.e .aR .G) .cA h.2 O z p3))) λq2 z=>(mr .B .e .bG (.e .T .F) .bC h.2 O z))) λW O=>(pe .B .e .Z (.l .D .a6) .N h.1 h.2 O))]
   congr 1;(show OU .C [[1,1,-1,-1,1,-1,-1],[1,-1,1,1,-1,1,1]] (.e .S .D) (.e .a5 .H) (.e (.a .I .U) (.a .G (.a .G .D))) (.e .a8 .C) (.e (.a .J .H) .I) (.e .aT .J) (aa (fh .I .b .aK (.l .C .aF) h.1 h.2)) (aa (ba .A .a .A h.1)) (aa (gu .cV .a (.l .C .L) h.2)) (aa (mr .A .u (.l .C .Y) (.e .P .F) .bL h.2 (aa (fh .I .b .aK (.l .C .aF) h.1 h.2)) (aa (ba .A .a .A h.1)))) (aa (gh .A .d (.l .A .R) (.e .P (.a .C .R)) h.2 (aa (gu .cV .a (.l .C .L) h.2)))) (aa (mr .A .F (.l .C .T) (.e .a1 (.a .A .T)) (.e .Q .F) h.2 (aa (gu .cV .a (.l .C .L) h.2)) (aa (gh .A .d (.l .A .R) (.e .P (.a .C .R)) h.2 (aa (gu .cV .a (.l .C .L) h.2)))))))
  have e2:(xs++(ys.reverse++zs))[k]?=ys[ys.length-1-(k-xs.length)]?:=by
   rw[bh (by show ba .A .a .A h.1),dq (by rw[iy];(show gh .B .b .bG .bL h.2 (aa (ba .A .a .A h.1)))),List.getElem?_reverse (by show gh .B .b .bG .bL h.2 (aa (ba .A .a .A h.1)))]
  rw[e1,e2]
 ·rw[br h]
  congr 1
  rcases pf k xs.length with q|q
  ·rw[dq q,dq q]
  ·have e1:(xs++(ys++zs))[k]?=zs[k-xs.length-ys.length]?:=by rw[bh q,bh (by show(cv.mp h).elim (λW=>(gh .A .c .Z (.j .C .D) q W)) λW=>(gh .A .n .bD (.g .D .a0) (aa (ba .A .a .A q)) W))]
   have e2:(xs++(ys.reverse++zs))[k]?=zs[k-xs.length-ys.length]?:=by rw[bh q,bh (by rw[iy];(show(cv.mp h).elim (λW=>(gh .A .c .Z (.j .C .D) q W)) λW=>(gh .A .n .bD (.g .D .a0) (aa (ba .A .a .A q)) W))),iy]
   rw[e1,e2]
def lJ {ys zs:List Nat}{i j:Nat}{Q:Unit->SortSt->Prop}(I:SI kd it st (xs++(ys++zs)) pend)(O:i=xs.length)(U:j=xs.length+ys.length)
  (h:∀W,SI kd it W (xs++(ys.reverse++zs)) pend->Q () W):PyProof.Rows.wpS (model prog w) A E s (reverseSlice' i j) Q st:=by
 subst O;subst U;rw[reverseSlice'_eq];apply i8 (h _ #[I.k,?_,I.p,I.f]);show mirror (arrOf st) _ _ _=_;rw[show arrOf st=KA it (xs++(ys++zs)) from I.a,w7]
def Srt.last (T:LtT lt)(h:Srt lt xs)(h0:0<xs.length):∀x∈xs,lt (xs[xs.length-1]'(by show ba .B .a .aG (aa (fc .I .a .D h0)))) x=false:=λx U=>by
 have#[j,W,rfl]:=fu.mp U;rcases pf j (xs.length-1) with q|q
 ·show h.at (bb _) q (by show ba .B .a .aG (aa (fc .I .a .D h0)))
 ·obtain rfl:j=xs.length-1:=by(show oa .C [[1,0,1,0],[1,1,0,-1]] .G .a2 (.e .P .C) W q (aa (fc .I .a .D h0)))
  cases e:lt (xs[xs.length-1]'(by show ba .B .a .B W)) (xs[xs.length-1]'(by show ba .B .a .B W)) with
  |false=>rfl
  |true=>have:=T.asym _ _ e;rw[e]at this;cases this
def Srt.snoc (T:LtT lt){l z:Nat}(h:Srt lt xs)(hl:xs.getLast?=some l)(hz:lt z l=false):Srt lt (xs++[z]):=by
 apply Srt.app h (jk _ _) λx J y O=>?_;have rfl:=au.mp O;have#[U,rfl]:=List.getLast?_eq_some_iff.mp hl;have W:lt l x=false:=by
  have:=h.last T (by simp) x J;simpa using this
 show T.tr _ _ _ W hz
def xV (T:LtT lt){W:Nat}{Q:Option (Option Nat)×Nat->SortSt->Prop}{F:Nat->Option (Option Nat)×Nat->StateT SortSt Sem (ForInStep (Option (Option Nat)×Nat))}(hr:rest.length=W)
  (hF:∀x m a b (R:ForInStep (Option (Option Nat)×Nat)->SortSt->Prop),0<m->rest[m]?=some a->rest[m-1]?=some b->(lt a b=true->R (.done (none,m)) st)->(lt a b=false->R (.yield (none,m+1)) st)->PyProof.Rows.wpS (model prog w) A E s (F x (none,m)) R st)
  {J:Nat} (h0:0<J) (hm:J<=W) (so:Srt lt (rest.take J))
  (h:∀m,J<=m->m<=W->Srt lt (rest.take m)->(m=W\/∃a b,rest[m]?=some a/\rest[m-1]?=some b/\lt a b=true)->Q (none,m) st) :
  PyProof.Rows.wpS (model prog w) A E s (forIn [J:W] (none,J) F) Q st:=by
 apply mj (rk (I:=λx c U=>U=st/\c=(none,x)/\J<=x/\x<=W/\Srt lt (rest.take x))
  (Q:=λc U=>U=st/\∃m,c=(none,m)/\J<=m/\m<=W/\Srt lt (rest.take m)/\(m=W\/∃a b,rest[m]?=some a/\rest[m-1]?=some b/\lt a b=true)) ?_ ?_ #[rfl,rfl,az _,hm,so]) ?_
 ·intro x c U _ hx zz;have#[rfl,rfl,h1,h2,h3]:=zz;have ag:x<rest.length:=by(show fh .B .n .aX .G hr hx)
  have ai:x-1<rest.length:=by(rename_i z;show pe .B [[1,-1,1,1]] .aX .aH (.e .M .D) hr hx (aa (iq .I .b .Y .a2 h0 z)))
  have e1:=aq ag;have e2:=aq ai;apply hF x x _ _ _ (by(rename_i z;show iq .D .b .Y .a2 h0 z)) e1 e2 (λc=>?_) λc=>?_
  ·apply#[rfl,x,rfl,h1,h2,h3,.inr #[_,_,e1,e2,c]]
  ·apply#[rfl,rfl,by(rename_i z;show ba .O .a .A z),by show ba .S .a .B hx,?_];rw[dz ag];apply h3.snoc T ?_ c;rw[List.getLast?_eq_getElem?,fb,xh (by show fh .A .n .aX .G hr hx),List.getElem?_take_of_lt (by(rename_i z;show ba .B .a .aG (aa (iq .I .b .Y .a2 h0 z)))),e2]
 ·intro c U zz;have#[rfl,rfl,h1,h2,h3]:=zz;rw[Nat.max_eq_right hm]at h3 ⊢;apply#[rfl,W,rfl,hm,az _,h3,.inl rfl]
 ·intro c U zz;have#[rfl,m,rfl,h1,h2,h3,h4]:=zz;show h m h1 h2 h3 h4
def hZ:(pre++rest)[pre.length+m]?=rest[m]?:=by
 rw[bh (km _ _),oh]
def lT (h:0<m):(pre++rest)[pre.length+m-1]?=rest[m-1]?:=by
 rw[Nat.add_sub_assoc h,hZ]
structure DI (lt:Nat->Nat->Bool)(rest X Y Z:List Nat)(m q:Nat):Prop where
 n:X.length+Y.length=m
 y:Y.length=q+1
 p:(X++(Y++Z)).Perm rest
 so:Srt (Rl lt) (X++Y)
 eq:∀a∈Y,∀b∈Y,lt a b=false
def DI.rev (d:DI lt rest X Y Z m q):Srt (Rl lt) (X++Y.reverse):=by
 have#[I,B,J]:=jo.mp d.so;apply Srt.app I ?_ λx U y W=>J x U y (nc.mp W);apply List.pairwise_of_forall_mem_list λa O b hb=>?_;show d.eq a (nc.mp O) b (nc.mp hb)
def DI.Q9 (d:DI lt rest X Y Z m q)(h:m<rest.length):∃z W,Z=z::W:=by
 cases Z with
 |nil=>have:=d.p.length_eq;have:=d.n;simp at *;(rename_i U;show pe .ff [[0,1,1,-1]] .B (.e .R .A) (.e .R .B) h U this)
 |cons z W=>refine#[z,W,rfl]
def DI.getL (d:DI lt rest X Y Z m q):∃W l,Y=W++[l]:=by
 have h:Y≠[]:=λe=>by have:=d.y;rw[e]at this;cases this
 apply#[Y.dropLast,Y.getLast h,(List.dropLast_concat_getLast h).symm]
def oE (O:Ora (model prog w) A s kd n it lt)(T:LtT lt){Q:Option Nat->SortSt->Prop}(I:SI kd it st (pre++rest) pend)
  (hn:∀x∈pre++rest,x<n) (h0:0<rest.length)
  (h:∀m ao J,0<m->m<=rest.length->ao.Perm rest->Srt lt (ao.take m)->SI kd it J (pre++ao) pend->Q (some m) J) :
  PyProof.Rows.wpS (model prog w) A E s (countRun' pre.length rest.length) Q st:=by
 rw[countRun'_eq];have nn:∀{r:List Nat},r.Perm rest->∀x∈pre++r,x<n:=λ{r} hp x hx=>hn x (by
  rcases cq.mp hx with hx|hx
  ·show dk _ hx
  ·show dt _ (hp.mem_iff.mp hx))
 apply cp (xV T rfl (λx m a b R hm e1 e2 r1 r2=>?_) Nat.one_pos h0 ?_ λm ai ar so hq=>?_)
 ·apply cp (yf O I hn (hZ.trans e1) ((lT hm).trans e2) ?_);cases hc:lt a b with
  |true=>show dh (r1 hc)
  |false=>show dh (r2 hc)
 ·rw[dz h0];show jk _ _
 dsimp -zeta only;by_cases c1:(m==rest.length)=true
 ·show ew c1 (dh (h m rest st ai ar (.refl _) so I))
 apply eu c1 ?_;have bt:m<rest.length:=by have:m≠rest.length:=λq=>c1 (fy.mpr q);(show(ah this).elim (λq1=>(ba .B .a .B q1)) λq1=>(iq .B .c .A .U ar q1))
 have#[z,b,ez,eb,bg]:∃a b,rest[m]?=some a/\rest[m-1]?=some b/\lt a b=true:=by
  rcases hq with q|q
  ·(show False.elim (iq .ff [[0,1,-1]] .B .C bt q))
  ·show q
 have#[hz,rfl]:=av.mp ez;have#[aj,rfl]:=av.mp eb;have eZ:rest.drop m=rest[m]::rest.drop (m+1):=cf hz;have lm:(rest.take m).length=m:=by rw[fb];(show hq.elim (λq1=>(fh .C [[0,1,-1],[0,1,-1]] .aI .aX bt q1)) λq1=>((Ar.ji _ _).2.2.elim (λq2=>(iq .C .g .A .a2 (Ar.ji _ _).1 q2)) λq2=>(oa .C .l .aK .A .b0 ar (Ar.ji _ _).1 q2)))
 extract_lets n1 q0 jp
 have key:∀X J,SI kd it J (pre++(X++([rest[m]]++rest.drop (m+1)))) pend->X.Perm (rest.take m)->Srt (Rl lt) (X++[rest[m]])->PyProof.Rows.wpS (model prog w) A E s (jp ()) Q J:=λX J I' pX sX=>by
  apply cp (wpS_lift (sr #[rfl,?_]));have d0:DI lt rest X [rest[m]] (rest.drop (m+1)) (m+1) 0:={
   n:=by rw[pX.length_eq,lm];rfl
   y:=rfl
   p:=by
    apply(pX.append_right _).trans ?_;rw[lF,<- eZ,eh]
   so:=sX
   eq:=λa ha b hb=>by
    have rfl:=au.mp ha;have rfl:=au.mp hb;cases e:lt rest[m] rest[m] with
    |false=>rfl
    |true=>have:=T.asym _ _ e;rw[e]at this;cases this}
  apply cp (mj (rk (I:=λx c J=>∃X Y Z q,c=(none,x,q)/\SI kd it J (pre++(X++(Y++Z))) pend/\DI lt rest X Y Z x q/\m<x/\x<=rest.length)
   (Q:=λc J=>∃X Y Z q x,c=(none,x,q)/\SI kd it J (pre++(X++(Y++Z))) pend/\DI lt rest X Y Z x q/\m<x/\x<=rest.length) ?_ ?_ #[X,_,_,0,rfl,I',d0,by omega,by omega]) ?_)
  ·intro x c bd _ hx zz;have#[X,Y,Z,q,rfl,I2,d,h1,h2]:=zz;have#[z,Z',rfl]:=d.Q9 hx;have#[Y',l,rfl]:=d.getL;have dn:=d.n;have dy:=d.y;rw[aw,iv]at dn dy;have bl:=nn d.p;have ea:(pre++(X++(Y'++[l]++z::Z')))[pre.length+x]?=some z:=by
    rw[hZ,<- bq,bh (by simp;(show gu .L .a (.e .a7 .C) dn))];simp;rw[show x-(X.length+(Y'.length+1))=0 by(show gh .N [[1,0,0],[1,-1,1]] (.e .aQ .D) (.e (.a .A .aQ) .D) dn (aa (gu .L .a (.e .a7 .C) dn)))];rfl
   have eb:(pre++(X++(Y'++[l]++z::Z')))[pre.length+x-1]?=some l:=by
    rw[lT (by show ba .D .a .U h1),bh (by show gh .A .d (.e (.a .A .S) .D) (.e .P .D) dn (aa (gu .I .a (.e .aQ .A) dn))),bq,bh (by show Ar.sub _ _ (λq1 p1=>(Ar.sub _ _ (λq2 p2=>(mr .A .F (.e (.a .C .M) .D) (.e .a1 .D) (.e .Q .F) dn p1 p2)) λq2 p2=>(mr .A .u (.e (.a .C .M) .D) (.e .a1 .D) .bS dn p1 q2))) λq1 p1=>(gh .A .b (.e (.a .C .M) .D) (.k .D .U) dn q1)),show x-1-X.length-Y'.length=0 by(show Ar.sub _ _ (λq1 p1=>(Ar.sub _ _ (λq2 p2=>(Ar.sub _ _ (λq3 p3=>(yw .N [[1,0,0,0,0],[1,-1,1,1,1]] (.e .aQ .D) (.e .X .F) (.e .aI .G) (.e .aA .D) dn p1 p2 p3)) λq3 p3=>(mr .N [[1,0,0,0],[1,1,1,1]] .a1 .b3 .bC p1 p2 p3))) λq2 p2=>(fh .N .x .a1 .bB p1 p2))) λq1 p1=>(fc .N .t .N p1))];rfl
   have sn:lt l z=false->Srt (Rl lt) (X++(Y'++[l])++[z]):=λe=>d.so.snoc T.rl (by simp) e;have be:lt z z=false:=by
    cases e:lt z z with
    |false=>rfl
    |true=>have:=T.asym _ _ e;rw[e]at this;cases this
   have grow:∀ag,SI kd it ag (pre++(X++((Y'++[l]).reverse++z::Z'))) pend->lt z l=true ->
     ∃X2 Y2 Z2,SI kd it ag (pre++(X2++(Y2++Z2))) pend/\DI lt rest X2 Y2 Z2 (x+1) 0:=λag I4 hc=>by
    have cb:=T.asym _ _ hc;apply#[X++(Y'++[l]).reverse,[z],Z',by rw[bq];show I4,?_,rfl,?_,?_,?_]
    ·simp;(show gu (.e .a7 .C) .i (.e .a7 .C) dn)
    ·apply List.Perm.trans ?_ d.p;rw[bq];show((mi _).append_right _).append_left _
    ·apply Srt.app d.rev (jk _ _) λa ha y hy=>?_;have rfl:=au.mp hy;show lt a y=false;have:Rl lt l a=false:=by
      have bu:Srt (Rl lt) ((X++Y')++[l]):=by rw[bq];show d.so
      have:=bu.last T.rl (by simp only[aw,iv];(show ow (.l .O .aH) .h)) a (by
       rw[bq];rcases cq.mp ha with ha|ha
       ·show dk _ ha
       ·show dt _ (nc.mp ha))
      simpa using this
     show T.tr _ _ _ cb this
    ·intro a ha b hb;have rfl:=au.mp ha;have rfl:=au.mp hb;show be
   apply cp (yf O I2 bl ea eb ?_);cases hc:lt z l with
   |true =>
    apply ew rfl ?_
    extract_lets jp3
    by_cases c3:q>0
    ·apply ew c3 (cp (lJ (xs:=pre++X) (ys:=Y'++[l]) (zs:=z::Z') (by rw[bq];show I2) (by simp;(show eM .aY .A (.e (.a .C .Z) .F) (.e .Z .aA) (.e (.a .A .aA) .a8) dn dy (aa (qy (.k .M .Q) .d (.e (.a .D .a1) .C) (.e .a1 .M) dn dy)))) (by simp;(show lA (.e .L (.a .X .Z)) .f (.e (.a .C .Z) .B) dn)) λag I4=>?_));rw[bq]at I4;have#[X2,Y2,Z2,I5,d5]:=grow ag I4 hc;show dh #[X2,Y2,Z2,0,rfl,I5,d5,by show ba .aM .a .B h1,by show ba .S .a .B hx]
    ·apply eu c3 ?_;obtain rfl:Y'=[]:=tc (by show iq .N .x (.e .M .P) (.g .O .B) dy c3);have#[X2,Y2,Z2,I5,d5]:=grow bd I2 hc;show dh #[X2,Y2,Z2,0,rfl,I5,d5,by show ba .aM .a .B h1,by show ba .S .a .B hx]
   |false =>
    apply eu gq ?_;apply cp (yf O I2 bl eb ea ?_);cases hc2:lt l z with
    |true=>show ew rfl (dh #[X,_,_,q,x,rfl,I2,d,h1,by show ba .A .a .B hx])
    |false =>
     apply eu gq ?_;apply dh #[X,Y'++[l]++[z],Z',q+1,rfl,by simpa using I2,#[by simp;(show gu (.e (.a .A (.a .B .W)) .S) .i (.e .a7 .C) dn),by simp;(show ba .C .i (.e .M .P) dy),by simpa using d.p,by simpa using sn hc2,?_],by show ba .aM .a .B h1,by show ba .S .a .B hx];have al:∀a∈Y'++[l],lt a z=false/\lt z a=false:=λa ha =>
      #[T.tr _ _ _ hc2 (d.eq a ha l (by simp)),T.tr _ _ _ (d.eq l (by simp) a ha) hc]
     intro a ha b hb;rcases cq.mp ha with ax|ax
     ·rcases cq.mp hb with aj|aj
      ·show d.eq a ax b aj
      ·rw[au.mp aj];show(al a ax).1
     ·rw[au.mp ax];rcases cq.mp hb with aj|aj
      ·show(al b aj).2
      ·rw[au.mp aj];show be
  ·intro c bd zz;have#[X,Y,Z,q,rfl,I2,d,h1,h2]:=zz;apply#[X,Y,Z,q,_,rfl,I2,d,h1,h2]
  ·intro c bd zz;have#[X,Y,Z,q,x,rfl,I2,d,h1,h2]:=zz;have dn:=d.n;have dy:=d.y;dsimp -zeta only
   extract_lets r2 s2 n2 q2 jp2
   have ck:s2.fst=x:=rfl;have ch:s2.snd=q:=rfl;have ay:∀bc,SI kd it bc (pre++(X++(Y.reverse++Z))) pend->PyProof.Rows.wpS (model prog w) A E s (jp2 ()) Q bc:=λbc I3=>by
    apply cp (lJ (xs:=pre) (ys:=X++Y.reverse) (zs:=Z) (by rw[bq];show I3) rfl (by simp;(show gu .aY .f (.e .Q .A) dn)) λag I4=>?_);have hp:((X++Y.reverse).reverse++Z).Perm rest:=by
     apply List.Perm.trans ?_ d.p;rw[<- bq];show((mi _).trans ((mi _).append_left _)).append_right _
    have bn:((X++Y.reverse).reverse).length=x:=by simp;(show gu .a1 .i (.e .aF .C) dn)
    have bv:Srt lt (((X++Y.reverse).reverse++Z).take x):=by
     rw[List.take_left' bn];show d.rev.rl
    apply cp (xV T hp.length_eq (λx m a b R hm e1 e2 r1 r2=>?_) (by show ba .D .a .U h1) h2 bv λm' ai ar so hq=>?_)
    ·apply cp (yf O I4 (nn hp) (hZ.trans e1) ((lT hm).trans e2) ?_);cases hc:lt a b with
     |true=>show dh (r1 hc)
     |false=>show dh (r2 hc)
    ·show dh (h m' _ _ (by show fh .D .b .aI .b0 h1 ai) ar hp so I4)
   by_cases c3:q>0
   ·apply ew c3 (cp (lJ (xs:=pre++X) (ys:=Y) (zs:=Z) (by rw[bq];show I2) (by simp;(show eM .aY .A .b3 (.e .D .aA) (.e (.a .A .aA) .a8) dn dy (aa (qy (.k .M .Q) .d (.e .Y .C) (.e .F .M) dn dy)))) (by simp;(show lA (.e .L (.a .X .D)) .f (.e .R .B) dn)) λag I4=>?_));rw[bq]at I4;show ay _ I4
   ·apply eu c3 (ay _ ?_);have:Y.reverse=Y:=by
     match Y,dy with
     | [y],_=>rfl
     | [],dy=>cases dy
     |a::b::Y,dy=>simp at dy;(show False.elim (iq .ff .c (.g .O .A) .bJ c3 dy))
    rw[this];show I2
 have eR:rest=rest.take m++([rest[m]]++rest.drop (m+1)):=by rw[lF,<- eZ,eh]
 have ca:(rest.take m).getLast?=some (rest[m-1]):=by
  rw[List.getLast?_eq_getElem?,lm,List.getElem?_take_of_lt (by show ba .B .a .aG (aa (fc .I .a .I ai))),eb]
 by_cases c2:m>1
 ·apply ew c2 ?_;have e0:rest[0]?=some rest[0]:=aq h0;apply cp (yf O I hn (by rw[<- Nat.add_zero pre.length];show hZ.trans e0) ((lT ai).trans eb) ?_);cases hc:lt rest[0] rest[m-1] with
  |true=>show ew rfl (dh (h m rest st ai ar (.refl _) so I))
  |false =>
   apply eu gq ?_;apply cp (lJ (xs:=pre) (ys:=rest.take m) (zs:=[rest[m]]++rest.drop (m+1)) (by rw[<- eR];show I) rfl (by rw[lm]) λag I4=>?_);apply key _ _ I4 (mi _) ?_;have cd:=T.asym _ _ bg;apply Srt.app so.L9 (jk _ _) λa ha y hy=>?_;have rfl:=au.mp hy;show lt a rest[m]=false;have ha:=nc.mp ha;have#[j,hj,rfl]:=fu.mp ha;rw[lm]at hj;have e1:lt ((rest.take m)[j]'(by(rename_i z2 z1;show ba .B .a .B z2))) rest[0]=false:=by
    rcases Nat.eq_zero_or_pos j with rfl|q
    ·cases e:lt ((rest.take m)[0]'(by show iq .D .d (.k .U .B) .C ai lm)) rest[0] with
     |false=>rfl
     |true=>rw[oj]at e;have:=T.asym _ _ e;rw[e]at this;cases this
    ·have:=so.at (i:=0) (bb _) q (by(rename_i z2 z1;show ba .B .a .B z2));rw[oj (i:=0)]at this;show this
   show T.tr _ _ _ cd (T.tr _ _ _ hc e1)
 ·apply eu c2 ?_;obtain rfl:m=1:=by(show sO (.e .A .U) [[1,1,0],[1,0,1]] .I (.g .U .A) ai c2)
  apply key _ _ (by rw[<- eR];show I) (.refl _) ?_;have:rest.take 1=[rest[0]]:=by rw[dz h0];rfl
  rw[this];apply Srt.app (jk _ _) (jk _ _) λa ha y hy=>?_;have rfl:=au.mp hy;have rfl:=au.mp ha;show T.asym _ _ bg
end
section
variable {prog:Program}{w:World}{A:Around}{E:QqV}{s:Shared}{kd:SortKind}{n:Nat}{it:Nat->Keyed}{lt:Nat->Nat->Bool}
def xH (xs ys zs:List Nat)(z:Nat):bubble (KA it (xs++(ys++z::zs))) (xs.length+ys.length) ys.length=KA it (xs++(z::(ys++zs))):=by
 apply fR λk=>?_;rw[getElem?_bubble (by rw[mz];simp) _ (by show ow .T .h),xp,xp,xp,xp];by_cases h:k=xs.length+ys.length-ys.length
 ·rw[cn h];obtain rfl:k=xs.length:=by(show gh .C .B .cL (.e .R .aG) h (aa (ow .T .h)))
  rw[bh (by show ow .bU .h),bh (by show gu .A .y (.e .Q .a0) (aa (ow .bU .h))),bh (by show nt (.k .A .A) .h)];simp
 ·rw[br h];by_cases O:xs.length+ys.length-ys.length<k/\k<=xs.length+ys.length
  ·rw[cn O]
   congr 1
   have e1:(xs++(ys++z::zs))[k-1]?=ys[k-1-xs.length]?:=by
    rw[bh (by show mr .A .F .R (.e .aU .a9) (.e .P .D) O.1 (aa (ow .T .h)) (aa (ba .I .a .U O.1))),dq (by show Ar.sub _ _ (λW p1=>(Ar.sub _ _ (λJ p2=>(mr .B .e (.k .C (.a .D .B)) (.e .T .F) (.e .a1 .C) O.2 p1 p2)) λJ p2=>(yw .B .k .R (.k .D .aI) (.e .a9 .G) .cA O.1 O.2 p1 p2))) λW p1=>(nS .B .D .R (.k .D .aI) (.e .a6 .aI) .N O.1 O.2 (aa (ow .T .h)) p1))]
   have e2:(xs++(z::(ys++zs)))[k]?=ys[k-1-xs.length]?:=by
    rw[bh (by show gh .A .d .M (.e .R .T) O.1 (aa (ow .T .h))),show k-xs.length=(k-1-xs.length)+1 by show mr .a3 .E .c8 (.e .a1 .D) (.e .Q .F) (aa (gh .A .d .M (.e .R .T) O.1 (aa (ow .T .h)))) (aa (ba .I .a .U O.1)) (aa (mr .A .F .R (.e .aU .a9) (.e .P .D) O.1 (aa (ow .T .h)) (aa (ba .I .a .U O.1)))),xu,dq (by show Ar.sub _ _ (λW p1=>(Ar.sub _ _ (λJ p2=>(mr .B .e (.k .C (.a .D .B)) (.e .T .F) (.e .a1 .C) O.2 p1 p2)) λJ p2=>(yw .B .k .R (.k .D .aI) (.e .a9 .G) .cA O.1 O.2 p1 p2))) λW p1=>(nS .B .D .R (.k .D .aI) (.e .a6 .aI) .N O.1 O.2 (aa (ow .T .h)) p1))]
   rw[e1,e2]
  ·rw[br O]
   congr 1
   rcases pf k xs.length with q|q
   ·rw[dq q,dq q]
   ·have e1:(xs++(ys++z::zs))[k]?=zs[k-xs.length-ys.length-1]?:=by
     rw[bh (by show ba .A .a .A q),bh (by show(ah h).elim (λW=>(mr .A .m .Z (.e .aK .a0) .cI q (aa (ow .T .h)) W)) λW=>((cv.mp O).elim (λJ=>(gh .A .c .R .bX W J)) λJ=>(gh .A .n .bD (.j .D .a0) (aa (ba .A .a .A q)) J))),show k-xs.length-ys.length=(k-xs.length-ys.length-1)+1 by show Ar.sub _ _ (λW p1=>(ba .a3 .f .bJ p1)) λW p1=>((ah h).elim (λJ=>(eM .a3 [[0,1,1,1],[0,1,1,1]] .Z (.e .a5 (.a .C .G)) .cI q (aa (ow .T .h)) J)) λJ=>(Ar.sub _ _ (λq3 p3=>((cv.mp O).elim (λq4=>(pe .a3 [[0,0,1,1],[1,1,0,0]] (.k .A .U) .R .bX W J q4)) λq4=>(Ar.sub _ _ (λq5 p5=>(nR .a3 [[1,0,1,-1,1,-1],[1,1,0,0,0,0]] (.k .A .U) .aN .b3 (.j .F (.a .D .G)) (.e .aT .C) W p1 p3 q4 p5)) λq5 p5=>(yw .a3 [[0,-1,1,1,0],[1,0,0,0,1]] .b3 (.j .F (.a .D .G)) (.k .C .G) .N p3 q4 q5 p5)))) λq3 p3=>(yw .a3 [[0,-1,0,1,1],[1,0,1,0,0]] (.e .R .aL) (.k .A .U) (.l .C .G) (.k .G .F) (aa (ow .T .h)) W J q3))),xu];try rfl
    have e2:(xs++(z::(ys++zs)))[k]?=zs[k-xs.length-ys.length-1]?:=by
     rw[bh (by show ba .A .a .A q),show k-xs.length=(k-xs.length-1)+1 by show Ar.sub _ _ (λW p1=>(ba .a3 .f .bJ p1)) λW p1=>((ah h).elim (λJ=>(yw .a3 [[0,1,1,0,1],[1,0,0,1,0]] .Z (.e .a5 (.a .C .G)) (.k .A .U) .cI q (aa (ow .T .h)) W J)) λJ=>(nR .a3 [[1,-1,-1,0,1,1],[1,0,0,1,0,0]] (.e .R .aL) (.e .a9 .G) (.k .A .U) .aN (.l .C .G) (aa (ow .T .h)) (aa (ba .A .a .A q)) W p1 J)),xu,bh (by show(ah h).elim (λW=>(mr .A .m .Z (.e .aK .a0) .cI q (aa (ow .T .h)) W)) λW=>(Ar.sub _ _ (λJ p2=>((cv.mp O).elim (λq3=>(gh .A .c .R .bX W q3)) λq3=>(Ar.sub _ _ (λq4 p4=>(mr .A [[1,-1,1,-1]] .b3 (.j .F (.a .D .A)) (.e .P .C) p2 q3 p4)) λq4 p4=>(mr .A [[1,-1,1,1]] .b3 (.j .F (.a .D .A)) (.k .C .U) p2 q3 q4)))) λJ p2=>(mr .A [[0,-1,1,1]] (.e .a0 (.a .D .A)) (.l .C .F) (.k .F .D) (aa (ow .T .h)) W J)))]
     congr 1;(show(ah h).elim (λW=>(eM .C [[0,1,1,1],[0,1,1,1]] .Z (.e .a5 (.a .C .G)) .cI q (aa (ow .T .h)) W)) λW=>(Ar.sub _ _ (λJ p2=>((cv.mp O).elim (λq3=>(gh .C .v .R .bX W q3)) λq3=>(Ar.sub _ _ (λq4 p4=>(Ar.sub _ _ (λq5 p5=>(Ar.sub _ _ (λq6 p6=>(mr .C .E .c8 (.e .aR .Z) (.e .P .F) p4 p5 p6)) λq6 p6=>(nS .C [[1,0,0,0,1],[1,1,-1,1,0]] .c8 (.e .aR .Z) (.k .F .U) .aN p4 p5 q6 p6))) λq5 p5=>(pe .C [[0,1,0,1],[1,0,1,1]] .Z .c8 (.k .Z .C) q4 p4 q5))) λq4 p4=>(Ar.sub _ _ (λq5 p5=>(Ar.sub _ _ (λq6 p6=>(nS .C [[1,1,0,1,1],[1,0,1,0,0]] .Z .N (.e .P .F) (.e .aL .S) q4 p4 p5 p6)) λq6 p6=>(oa .C [[0,0,1,1],[0,1,0,1]] (.k .U .C) (.e .P .C) .bB q5 p5 p6))) λq5 p5=>(iq .C .g .N .aN p4 p5))))) λJ p2=>(eM .C [[0,-1,1,1],[0,-1,1,1]] (.e .R .aL) (.l .C .G) (.k .G .F) (aa (ow .T .h)) W J)))
    rw[e1,e2]
def kT (O:Ora (model prog w) A s kd n it lt)(T:LtT lt){pre rest:List Nat}{pend:Array (Nat×Nat×Nat)}{m ok:Nat}{Q:Bool->SortSt->Prop}{st:SortSt}(I:SI kd it st (pre++rest) pend)
  (hn:∀x∈pre++rest,x<n) (hm:m<=rest.length) (bl:ok<=m) (h0:0<ok) (so:Srt lt (rest.take ok))
  (h:∀ao aj,ao.Perm rest->Srt lt (ao.take m)->SI kd it aj (pre++ao) pend->Q true aj) :
  PyProof.Rows.wpS (model prog w) A E s (binarySort' pre.length m ok) Q st:=by
 rw[binarySort'_eq];rw[Nat.max_eq_left h0];apply cp (mj (rk (I:=λk c aj=>∃r',c=(none,())/\r'.Perm rest/\Srt lt (r'.take k)/\SI kd it aj (pre++r') pend)
  (Q:=λc aj=>∃r',c=(none,())/\r'.Perm rest/\Srt lt (r'.take m)/\SI kd it aj (pre++r') pend) ?_ ?_ #[rest,rfl,.refl _,so,I]) ?_)
 ·intro k c ar bu bt zz;have#[r',rfl,hp,hs,I2]:=zz;have hl:=hp.length_eq;have bn:∀x∈pre++r',x<n:=λx hx=>hn x (by
   rcases cq.mp hx with hx|hx
   ·show dk _ hx
   ·show dt _ (hp.mem_iff.mp hx))
  have ag:k<r'.length:=by(show pe .B .p .Z .G (.e .B .D) hm bt hl)
  have ez:(pre++r')[pre.length+k]?=some r'[k]:=hZ.trans (aq ag);have sat:∀{i j} (bc:i<=j) (hj:j<k),lt (r'[j]'(by show fh .B .b .M .G ag hj)) (r'[i]'(by show pe .B .e .M .aF .aH ag bc hj))=false:=λ{i j} bc hj=>by
   rcases lq bc with q|rfl
   ·have:=hs.at (bb _) q (by rw[fb];(show(Ar.ji _ _).2.2.elim (λq1=>(fh .B .b .G .H hj q1)) λq1=>(pe .B .e .R .G .cJ ag hj q1)));rw[oj,oj]at this;show this
   ·cases e:lt (r'[i]'(by show fh .B .b .M .G ag hj)) (r'[i]'(by show fh .B .b .M .G ag hj)) with
    |false=>rfl
    |true=>have:=T.asym _ _ e;rw[e]at this;cases this
  apply cp (mj (rk (I:=λx c aj=>aj=ar/\∃l r,c=(none,l,r)/\l<=r/\r<=k/\r-l<=k-x/\(∀i (hi:i<l) (ai:i<k),lt r'[k] (r'[i]'(by show fh .B .b .M .G ag ai))=false)/\∀i (hi:r<=i) (ai:i<k),lt r'[k] (r'[i]'(by show fh .B .b .M .G ag ai))=true)
   (Q:=λc aj=>aj=ar/\∃l,c=(none,l,l)/\l<=k/\(∀i (hi:i<l) (ai:i<k),lt r'[k] (r'[i]'(by show fh .B .b .M .G ag ai))=false)/\∀i (hi:l<=i) (ai:i<k),lt r'[k] (r'[i]'(by show fh .B .b .M .G ag ai))=true) ?_ ?_
   #[rfl,0,k,rfl,bb _,az _,az _,λi hi=>absurd hi (xg _),λi hi ai=>absurd ai (tg.mpr hi)]) ?_)
  ·intro x c ax _ hx zz;have#[rfl,l,r,rfl,h1,h2,h3,h4,h5]:=zz;by_cases c1:l>=r
   ·apply ew c1 (dh ?_);obtain rfl:l=r:=by(show iq .C .g .A .a2 h1 c1)
    apply#[rfl,l,rfl,h2,h4,h5]
   ·apply eu c1 ?_;have ay:(l+r)/2<k:=by(show mr .B [[2,2,1,1]] .H (.j .C .D) (.e (.a (.m 2 .A) .F) .aM) h2 c1 (Ar.eJ _ 2 (by decide)).2)
    apply cp (yf O I2 bn ez (hZ.trans (aq (show(l+r)/2<r'.length by show fh .B .b .M .G ag ay))) ?_);cases hc:lt r'[k] (r'[(l+r)/2]'(by show fh .B .b .M .G ag ay)) with
    |true =>
     apply ew rfl (dh #[rfl,l,(l+r)/2,rfl,by show pe .A [[2,1,1,-1]] (.j .C .A) (.l .D .W) (.e (.a .aD .D) .X) c1 (Ar.eJ _ 2 (by decide)).1 (Ar.eJ _ 2 (by decide)).2,by show ba .A .a .B ay,by show OT .A [[2,1,1,-1,1,2,-1]] .Z (.e (.a (.m 2 .F) .G) (.a .H .I)) (.e (.a .C .H) .I) (.e (.a .D .J) .K) (.e (.a .A .H) .F) (.e (.a .B (.a .J .U)) .K) h3 (Ar.eJ _ 2 (by decide)).2 (aa (ba .A .a .A h1)) (aa (ba .A .a .B hx)) (aa (pe .A [[2,1,1,-1]] (.j .C .A) (.l .D .W) (.e (.a .aD .D) .X) c1 (Ar.eJ _ 2 (by decide)).1 (Ar.eJ _ 2 (by decide)).2)) (aa (ba .S .a .B hx)),h4,λi hi ai=>?_]);cases e:lt r'[k] (r'[i]'(by show fh .B .b .M .G ag ai)) with
     |true=>rfl
     |false=>have:=T.tr _ _ _ (sat hi ai) e;rw[hc]at this;cases this
    |false =>
     apply eu gq (dh #[rfl,(l+r)/2+1,r,rfl,by show gh .S [[2,1,1]] (.j .B .C) (.e (.a (.m 2 .A) .D) .a6) c1 (Ar.eJ _ 2 (by decide)).2,by show ba .A .a .A h2,by show QJ .A [[2,1,1,-1,-1,1,2,-1]] .Z (.l .F .W) (.e (.a (.m 2 .G) .F) (.a .H .I)) (.e (.a .C .H) .I) (.e (.a .D .J) .K) (.e (.a .A .aA) .I) (.e (.a .B (.a .J .U)) .K) h3 (Ar.eJ _ 2 (by decide)).1 (Ar.eJ _ 2 (by decide)).2 (aa (ba .A .a .A h1)) (aa (ba .A .a .B hx)) (aa (gh .S [[2,1,1]] (.j .B .C) (.e (.a (.m 2 .A) .D) .a6) c1 (Ar.eJ _ 2 (by decide)).2)) (aa (ba .S .a .B hx)),λi hi ai=>?_,h5]);show T.tr _ _ _ (sat (show i<=(l+r)/2 by show ba .A .a .aM hi) ay) hc
  ·intro c ax zz;have#[rfl,l,r,rfl,h1,h2,h3,h4,h5]:=zz;obtain rfl:l=r:=by simp at h3;(show fh .C .C .bB .cD h3 (aa (ba .A .a .A h1)))
   apply#[rfl,l,rfl,h2,h4,h5]
  ·intro c ax zz;have#[rfl,l,rfl,h2,h4,h5]:=zz;have eR:r'=r'.take l++((r'.take k).drop l++r'[k]::r'.drop (k+1)):=by
    rw[<- cf ag,<- bq];have:r'.take l++(r'.take k).drop l=r'.take k:=by
     have:=eh l (r'.take k)
     rwa [List.take_take,xh h2]at this
    rw[this,eh]
   have lx:(r'.take l).length=l:=by rw[fb];(show(Ar.ji _ _).2.2.elim (λq1=>(iq .C .g .A .a2 (Ar.ji _ _).1 q1)) λq1=>(zg .C [[1,1,1,0,1],[1,0,0,1,0]] .R .aK .A (.k .D .A) ag h2 (Ar.ji _ _).1 q1))
   have ly:((r'.take k).drop l).length=k-l:=by rw[gz,fb];(show(Ar.ji _ _).2.2.elim (λq1=>(Ar.sub _ _ (λq2 p2=>(nS .C [[1,0,1,1,-1],[1,1,-1,0,1]] .Z .c4 .bM (.e .a9 .C) (Ar.ji _ _).1 (aa (ba .A .a .A h2)) q1 p2)) λq2 p2=>(nS .C [[1,1,1,1,0],[1,0,0,0,1]] .bD .cK .bS .N (aa (ba .A .a .A h2)) q1 q2 p2))) λq1=>(mr .C [[0,1,1,1],[0,1,1,1]] .R .bS .cK ag (Ar.ji _ _).1 q1))
   apply cp (m:=moveDown' _ _) ?_;rw[moveDown'_eq];apply i8 (dh #[r'.take l++(r'[k]::((r'.take k).drop l++r'.drop (k+1))),rfl,?_,?_,#[I2.k,?_,I2.p,I2.f]])
   ·apply List.Perm.trans ?_ hp
    conv=>rhs;rw[eR]
    show List.perm_middle.symm.append_left _
   ·have e:(r'.take l++(r'[k]::((r'.take k).drop l++r'.drop (k+1)))).take (k+1)=r'.take l++(r'[k]::(r'.take k).drop l):=by
     rw[<- aO,<- bq];show List.take_left' (by rw[aw,ir,lx,ly];(show gu (.e .a7 .S) .i (.e .aF .C) (aa (ba .A .a .A h2))))
    rw[e];have bg:Srt lt (r'.take l++(r'.take k).drop l):=by
     have:=eh l (r'.take k);rw[List.take_take,xh h2]at this;rw[this];show hs
    have#[a1,a2,a3]:=jo.mp bg;have be:∀x∈r'.take l,lt r'[k] x=false:=λx hx=>by
     have#[j,hj,rfl]:=fu.mp hx;rw[lx]at hj;rw[oj];show h4 j hj (by(rename_i z1;show pe .B .e .H (.e .D .C) (.l .A .D) h2 lx z1))
    have bd:∀x∈(r'.take k).drop l,lt x r'[k]=false:=λx hx=>by
     have#[j,hj,rfl]:=fu.mp hx;rw[ly]at hj;rw[List.getElem_drop,oj];show T.asym _ _ (h5 (l+j) (by show ow .bU .h) (by(rename_i z1;show mr .K .e (.e .D .F) .W (.e .aK .C) ly z1 (aa (ba .A .a .A h2)))))
    apply Srt.app a1 (lu.mpr #[bd,a2]) λx hx y hy=>?_;rcases cw.mp hy with rfl|hy
    ·show be x hx
    ·show a3 x hx y hy
   ·show bubble (arrOf ax) (pre.length+k) (pre.length+k-(pre.length+l))=_;rw[show arrOf ax=KA it (pre++r') from I2.a];have:=xH (it:=it) (pre++r'.take l) ((r'.take k).drop l) (r'.drop (k+1)) r'[k];rw[bq,<- eR,aw,lx,ly,bq]at this;rw[show pre.length+k-(pre.length+l)=k-l by show qy .C .z .bD (.e (.a .A .aR) .aL) (aa (ba .A .a .A h2)) (aa (gu (.k .L .X) .a .aK h2)),<- this]
    congr 1;(show lA (.e .L (.a .X .D)) .f (.e .aM .B) (aa (ba .A .a .A h2)))
 ·intro c ar zz;have#[r',rfl,hp,hs,I2]:=zz;rw[Nat.max_eq_right bl]at hs;apply#[r',rfl,hp,hs,I2]
 ·intro c ar zz;have#[r',rfl,hp,hs,I2]:=zz;show dh (h r' ar hp hs I2)
end
variable {st:SortSt}{all rest:List Nat}{rs:List (List Nat×Nat)}
abbrev jB:StateT SortSt Sem Unit:=sortPriv% PySem.Builtin.sortRuns
abbrev my:Nat->List (List Nat×Nat)->List (Nat×Nat×Nat)
 |_,[]=>[]
 |a,r::rs=>(a,r.1.length,r.2)::my (a+r.1.length) rs
abbrev flat (rs:List (List Nat×Nat)):List Nat:=rs.flatMap (·.1)
def wq (xs ys:List (List Nat×Nat)):flat (xs++ys)=flat xs++flat ys:=kr
def nr (x:List Nat×Nat)(ys:List (List Nat×Nat)):flat (x::ys)=x.1++flat ys:=rfl
def cZ:∀(xs ys:List (List Nat×Nat)) (k:Nat),my k (xs++ys)=my k xs++my (k+(flat xs).length) ys
 | [],ys,k=>rfl
 |x::xs,ys,k=>by
  show _::my _ (xs++ys)=_::(_++_);rw[cZ xs ys,nr,aw,uj]
def eV:∀(xs:List (List Nat×Nat)) (k:Nat),(my k xs).length=xs.length
 | [],_=>rfl
 |_::xs,_=>dj (·+1) (eV xs _)
section
variable {prog:Program}{w:World}{A:Around}{E:QqV}{s:Shared}{kd:SortKind}{n:Nat}{it:Nat->Keyed}{lt:Nat->Nat->Bool}
structure RI (kd:SortKind)(it:Nat->Keyed)(lt:Nat->Nat->Bool)(st:SortSt)(all:List Nat)(rs:List (List Nat×Nat))(rest:List Nat):Prop where
 si:SI kd it st (flat rs++rest) (my 0 rs).toArray
 p:(flat rs++rest).Perm all
 so:∀r∈rs,Srt lt r.1/\0<r.1.length
def RI.le (I:RI kd it lt st all rs rest):rs.length<=(flat rs).length:=by
 have:=I.so;clear I;induction rs with
 |nil=>show az _
 |cons r rs W =>
  have h:=(this r (.head _)).2;have:=W λq U=>this q (.tail _ U);rw[nr,aw,ir];(show fh (.k .M .Q) .b .Y .J h this)
def RI.merge (O:Ora (model prog w) A s kd n it lt)(T:LtT lt){i:Nat}{Q:Bool->SortSt->Prop}(I:RI kd it lt st all rs rest)(hn:∀x∈all,x<n)(z:i+1<rs.length)
  (h:∀J W,J.length+1=rs.length->RI kd it lt W all J rest->(flat J).length=(flat rs).length->Q true W):PyProof.Rows.wpS (model prog w) A E s (mS i) Q st:=by
 have#[xs,a,pa,b,pb,ys,rfl,hx]:∃xs a pa b pb ys,rs=xs++(a,pa)::(b,pb)::ys/\xs.length=i:=
  ⟨rs.take i,(rs[i]'(by show ba .B .a .V z)).1,(rs[i]'(by show ba .B .a .V z)).2,(rs[i+1]'z).1,(rs[i+1]'z).2,rs.drop (i+1+1),by
   show rs=rs.take i++rs[i]'(by show ba .B .a .V z)::rs[i+1]::rs.drop (i+1+1);rw[<- cf z,<- cf (by show ba .B .a .V z),eh],by rw[fb];(show(Ar.ji _ _).2.2.elim (λq1=>(iq .C .g .A .a2 (Ar.ji _ _).1 q1)) λq1=>(oa .C [[1,1,0,1],[0,1,1,1]] (.l .P .C) .A .b0 z (Ar.ji _ _).1 q1))⟩
 subst hx;have e0:flat (xs++(a,pa)::(b,pb)::ys)++rest=flat xs++(a++(b++(flat ys++rest))):=by
  rw[wq,nr,nr];simp only[bq]
 have si:=I.si;rw[e0]at si;have pp:=I.p;rw[e0]at pp;have#[sa,la]:=I.so (a,pa) (by simp);have#[sb,lb]:=I.so (b,pb) (by simp);rw[cZ]at si;have hl:=eV xs 0;apply t8 (pa:=pa) (pb:=pb) O T si (λx hx=>hn x (pp.mem_iff.mp hx)) sa sb la lb ?_ ?_ λcs W hp sc ag=>?_
 ·simp[my,hl]
 ·simp[my,hl]
 ·have hc:cs.length=a.length+b.length:=by rw[hp.length_eq,aw]
  have hf:(flat (xs++(cs,pa)::ys)).length=(flat (xs++(a,pa)::(b,pb)::ys)).length:=by
   rw[wq,wq,nr,nr,nr];simp only[aw];(show QO (.e .aP (.a .A (.a .D .aR))) .i (.e .B .Y) hc)
  apply h (xs++(cs,pa)::ys) W (by simp;(show ow (.e (.a .a7 .U) (.a .A (.a .P .U))) .o)) #[?_,?_,λr hr=>?_] hf
  ·rw[wq,nr,bq,bq,cZ];have:((my 0 xs++my (0+(flat xs).length) ((a,pa)::(b,pb)::ys)).toArray.setIfInBounds xs.length ((flat xs).length,a.length+b.length,pa)).eraseIdxIfInBounds (xs.length+1)=(my 0 xs++my (0+(flat xs).length) ((cs,pa)::ys)).toArray:=by
    simp[my,<- hl,hc,uj];rw[List.eraseIdx_append_of_length_le (by show nt (.k .A .M) .h)];simp
   rw[<- this];show ag
  ·rw[wq,nr,bq,bq];apply List.Perm.trans ?_ pp;apply lI _ ?_;rw[<- bq a];show hp.append_right _
  ·rcases cq.mp hr with q|q
   ·show I.so r (dk _ q)
   ·rcases cw.mp q with rfl|q
    ·apply#[sc,by show fh .D .d .Y (.e .A .a6) lb hc]
    ·show I.so r (dt _ (.tail _ (.tail _ q)))
def RI.len (I:RI kd it lt st all rs rest):(flat rs).length+rest.length=all.length:=by
 have:=I.p.length_eq
 rwa [aw]at this
def RI.push {m:Nat}(I:RI kd it lt st all rs rest)(h0:0<m)(O:m<=rest.length)(so:Srt lt (rest.take m)) :
  RI kd it lt (SortSt.mk' (kindOf st) (arrOf st) ((pendingOf st).push ((flat rs).length,m,0)) (gallopOf st) (failedOf st)) all (rs++[(rest.take m,0)]) (rest.drop m)/\(flat (rs++[(rest.take m,0)])).length=(flat rs).length+m:=by
 have hl:(rest.take m).length=m:=by rw[fb];(show(Ar.ji _ _).2.2.elim (λW=>(iq .C .g .A .a2 (Ar.ji _ _).1 W)) λW=>(oa .C .l .aK .A .b0 O (Ar.ji _ _).1 W))
 have e:flat (rs++[(rest.take m,0)])=flat rs++rest.take m:=by rw[wq,nr];simp[flat]
 have U:flat rs++rest.take m++rest.drop m=flat rs++rest:=by rw[bq,eh]
 apply#[#[#[I.si.k,?_,?_,I.si.f],?_,λr hr=>?_],?_]
 ·rw[e,U];show I.si.a
 ·rw[cZ];show(pendingOf st).push _=_;rw[show pendingOf st=(my 0 rs).toArray from I.si.p,ky];simp[my,hl]
 ·rw[e,U];show I.p
 ·rcases cq.mp hr with q|q
  ·show I.so r q
  ·have rfl:=au.mp q;apply#[so,by rw[hl];show h0]
 ·rw[e,aw,hl]
def RI.power {pw:Nat}(I:RI kd it lt st all rs rest)(h0:0<rs.length) :
  ∃W,RI kd it lt (SortSt.mk' (kindOf st) (arrOf st) ((pendingOf st).modify ((pendingOf st).size-1) λx=>(x.1,x.2.1,pw)) (gallopOf st) (failedOf st)) all W rest/\(flat W).length=(flat rs).length:=by
 have#[ys,b,rfl]:∃ys b,rs=ys++[b]:=#[_,_,(List.dropLast_concat_getLast (λe=>by rw[e]at h0;cases h0)).symm];have e:flat (ys++[(b.1,pw)])=flat (ys++[b]):=by rw[wq,wq,nr,nr]
 apply#[ys++[(b.1,pw)],#[#[I.si.k,?_,?_,I.si.f],?_,λr hr=>?_],by rw[e]]
 ·rw[e];show I.si.a
 ·apply Eq.trans (b:=(pendingOf st).modify ((pendingOf st).size-1) λx=>(x.1,x.2.1,pw)) rfl ?_;rw[show pendingOf st=(my 0 (ys++[b])).toArray from I.si.p,cZ,cZ];have:=eV ys 0;apply fR λk=>?_;rw[Array.getElem?_modify];simp[my,this];rcases Nat.lt_trichotomy k ys.length with q|rfl|q
  ·rw[br (by show ba (.u .A .B) .a .U q),dq (by show fh .B .n .aX .G this q),dq (by show fh .B .n .aX .G this q)]
  ·rw[cn rfl,bh (by show ba .A .a .C this),bh (by show ba .A .a .C this)];simp[this]
  ·rw[br (by show ba (.u .A .B) .w .B q),pz (by simp;(show fh .S .b .cL .M this q)),pz (by simp;(show fh .S .b .cL .M this q))]
 ·rw[e];show I.p
 ·rcases cq.mp hr with q|q
  ·show I.so r (dk _ q)
  ·have rfl:=au.mp q;show I.so b (by simp)
def wpS_sortRuns (O:Ora (model prog w) A s kd n it lt)(T:LtT lt){Q:Unit->SortSt->Prop}(I:SI kd it st all #v[])(hn:∀x∈all,x<n)
  (h:∀os ao pd,os.Perm all->Srt lt os->SI kd it ao os pd->Q () ao):PyProof.Rows.wpS (model prog w) A E s jB Q st:=by
 unfold jB;apply cp (sU ?_);rw[show(sortPriv% PySem.Builtin.SortState.a) st=KA it all from I.a,mz];dsimp -zeta only
 extract_lets sz minrun lo0
 have bt:sz=all.length:=rfl
 clear_value sz
 have I0:RI kd it lt st all [] all:=#[I,.refl _,λr hr=>nomatch hr];apply cp (mj (rk (I:=λx c st=>∃rs rest,c=(none,(flat rs).length)/\RI kd it lt st all rs rest/\x<=(flat rs).length)
  (Q:=λc st=>∃rs,c=(none,(flat rs).length)/\RI kd it lt st all rs []) ?_ ?_ #[[],all,rfl,I0,bb _]) ?_)
 ·intro x c ca _ hx zz;have#[rs,rest,rfl,I1,bg]:=zz;have aj:=I1.len;rw[<- bt]at aj
  extract_lets lo jp force n3
  by_cases c1:lo>=sz
  ·apply ew c1 (dh #[rs,rfl,?_]);have c1:(flat rs).length>=sz:=c1;obtain rfl:rest=[]:=tc (by(rename_i z1;show fh .N .x (.e .aF .C) .H aj z1));show I1
  apply eu c1 ?_;have c1:¬(flat rs).length>=sz:=c1;have df:0<rest.length:=by(rename_i z1;show fh .D .n (.e .aF .C) (.j .C .B) aj z1)
  have bu:sz-lo=rest.length:=by show sz-(flat rs).length=_;(rename_i z1;show gh .C .z (.e .a6 .D) .c8 aj (aa (ba .A .a (.j .B .A) z1)))
  rw[bu];have nn:∀x∈flat rs++rest,x<n:=λx hx=>hn x (I1.p.mem_iff.mp hx);apply cp (oE O T I1.si nn df λm ar bc bd hm bv cb cd=>?_);have I2:RI kd it lt bc all rs ar:=#[cd,(bv.append_left _).trans I1.p,I1.so];dsimp -zeta only
  extract_lets m1
  have key:∀m ai ax (R:ForInStep (Option Unit×Nat)->SortSt->Prop),(∀rs rest ao,RI kd it lt ao all rs rest->x+1<=(flat rs).length->R (.yield (none,(flat rs).length)) ao)->0<m->m<=ai.length->Srt lt (ai.take m)->RI kd it lt ax all rs ai->PyProof.Rows.wpS (model prog w) A E s (jp () m) R ax:=λm ai ax R hR bd hm bn I3=>by
   apply cp (sU ?_);rw[show(sortPriv% PySem.Builtin.SortState.pending) ax=(my 0 rs).toArray from I3.si.p]
   extract_lets lo2 jp2
   have bl:∀ag ay,RI kd it lt ay all ag ai->(flat ag).length=(flat rs).length->PyProof.Rows.wpS (model prog w) A E s (jp2 ()) R ay:=λag ay I4 e4=>by
    have#[I5,e5]:=I4.push bd hm bn;rw[e4]at I5 e5;apply cp (i8 (dh ?_));have:=hR _ _ _ I5 (by show pe .S .p .J (.l .O .D) (.e .B .R) bg bd e5);rw[e5]at this;show this
   cases hb:(my 0 rs).toArray.back? with
   |none=>show bl rs ax I3 rfl
   |some v =>
    have h0:0<rs.length:=by
     cases rs with
     |nil=>cases hb
     |cons r rs=>show Nat.succ_pos _
    dsimp -zeta only
    extract_lets pw
    apply cp (mj (rk (I:=λ_ c ao=>c=(none,())/\∃ag,RI kd it lt ao all ag ai/\(flat ag).length=(flat rs).length/\0<ag.length)
     (Q:=λc ao=>c=(none,())/\∃ag,RI kd it lt ao all ag ai/\(flat ag).length=(flat rs).length/\0<ag.length) ?_ (λc ao h=>h) #[rfl,rs,I3,rfl,h0]) ?_)
    ·intro y c ay _ hy zz;have#[rfl,ag,I4,e4,p4]:=zz;apply cp (sU ?_);rw[show(sortPriv% PySem.Builtin.SortState.pending) ay=(my 0 ag).toArray from I4.si.p]
     extract_lets p
     have ps:p.size=ag.length:=by show(my 0 ag).toArray.size=_;simp[eV]
     cases hq:(if p.size>1 then p[p.size-2]? else none) with
     |none=>show dh #[rfl,ag,I4,e4,p4]
     |some v =>
      dsimp -zeta only;by_cases c2:v.2.2<=pw
      ·show ew c2 (dh #[rfl,ag,I4,e4,p4])
      ·apply eu c2 ?_;have hs:1<ag.length:=by
        rw[ps]at hq;by_cases q:ag.length>1
        ·show q
        ·rw[br q]at hq;cases hq
       apply cp (I4.merge O T hn (by rw[ps];(rename_i z6 z5 z4 z3 z2 z1;show ba .V .a (.e .aV .B) (aa (fc (.k .W .A) .a .a5 hs)))) λbe cx l5 I5 e5=>?_);show dh #[rfl,be,I5,e5.trans e4,by show iq .D .d (.l .U .B) .aG hs l5]
    ·intro c ay zz;have#[rfl,ag,I4,e4,p4]:=zz;have#[be,I5,e5]:=I4.power (pw:=pw) p4;apply cp (i8 ?_);show bl be _ I5 (e5.trans e4)
  by_cases c2:m1<minrun
  ·apply ew c2 ?_;apply cp (wpS_lift (sr #[rfl,?_]));have ct:m<=force:=by
    show m<=min (sz-lo) minrun;have:m<minrun:=c2;rw[bu];(rename_i z1;show(Ar.ji _ _).2.2.elim (λq1=>(fh .A .b .J .H hm q1)) λq1=>(fh .A .b .G .H c2 q1))
   have ck:force<=ar.length:=by
    show min (sz-lo) minrun<=_;rw[bu,bv.length_eq];(show ba .A .a .A (Ar.ji _ _).1)
   have dc:∀x∈flat rs++ar,x<n:=λx hx=>hn x (I2.p.mem_iff.mp hx);apply cp (kT O T cd dc ck ct bd cb λai ax ch bn da=>?_);apply eu (by simp) ?_;show key force ai ax _ (λrs rest ao I h=>#[rs,rest,rfl,I,h]) (by show iq .D .b .Y .a2 bd ct) (by rw[ch.length_eq];show ck) bn #[da,(ch.append_left _).trans I2.p,I2.so]
  ·apply eu c2 ?_;show key m ar bc _ (λrs rest ao I h=>#[rs,rest,rfl,I,h]) bd (by rw[bv.length_eq];show hm) cb I2
 ·intro c ca zz;have#[rs,rest,rfl,I1,bg]:=zz;have aj:=I1.len;rw[<- bt]at aj;obtain rfl:rest=[]:=tc (by simp at bg;(show fh .N .x (.e .aF .C) .H aj bg));apply#[rs,rfl,I1]
 ·intro c ca zz;have#[rs,rfl,I1]:=zz;dsimp -zeta only;have dm:=I1.le;have aj:=I1.len;rw[<- bt]at aj;apply cp (mj (rk (I:=λx c ao=>c=(none,())/\∃rs,RI kd it lt ao all rs []/\rs.length+x<=sz)
   (Q:=λc ao=>c=(none,())/\∃rs,RI kd it lt ao all rs []/\rs.length<=1) ?_ ?_ #[rfl,rs,I1,by simp at aj;(show fh (.k (.a .A .O) .B) .b .J .aL dm aj)]) ?_)
  ·intro x c bc _ hx zz;have#[rfl,rs,I2,hl]:=zz;apply cp (sU ?_);rw[show(sortPriv% PySem.Builtin.SortState.pending) bc=(my 0 rs).toArray from I2.si.p]
   extract_lets p i before j
   have ps:p.size=rs.length:=by show(my 0 rs).toArray.size=_;simp[eV]
   by_cases c1:p.size<=1
   ·show ew c1 (dh #[rfl,rs,I2,by show iq (.k .A .U) .n .cH (.k .B .U) ps c1])
   apply eu c1 ?_;have hj:j+1<rs.length:=by
    have:j<=p.size-2:=by
     show(if _ then _ else _)<=_;split
     ·show oo _ _
     ·show az _
    (show pe .V .e .aL .aF (.e (.a .D .W) .C) ps this (aa (fc (.k .W .A) .a (.j .A .U) c1)))
   apply cp (I2.merge O T hn hj λbe cx l5 I5 e5=>?_);show dh #[rfl,be,I5,by show gh .L .b (.k (.a .D .B) .C) (.e .M .D) hl l5]
  ·intro c bc zz;have#[rfl,rs,I2,hl]:=zz;apply#[rfl,rs,I2,by simp at hl;(show ba (.k .A .U) .a (.k .L .B) hl)]
  ·intro c bc zz;have#[rfl,rs,I2,hl]:=zz;apply dh (h _ _ _ I2.p ?_ I2.si);cases rs with
   |nil=>show .nil
   |cons r rs =>
    obtain rfl:rs=[]:=by simpa using hl
    rw[dg,nr];rw[show flat ([]:List (List Nat×Nat))=[] from rfl,dg];show(I2.so r (.head _)).1
end
abbrev itV (vs:List Value)(i:Nat):Keyed:=(vs.getD i Value.none,vs.getD i Value.none)
def vF (vs:List Value):vs.toArray.zip vs.toArray=KA (itV vs) (List.range vs.length):=by
 apply fR λi=>?_;rw[xp];rcases pf i vs.length with h|h
 ·rw[wg h];simp[itV,h]
 ·rw[pz (by rw[kc];show h)];simp[h]
section
variable {prog:Program}{w:World}{A:Around}{E:QqV}{s:Shared}{kd:SortKind}{lt:Nat->Nat->Bool}
def kI {a:Addr}{vs:List Value}{n:Nat}{P:Fin->Shared->Prop}(T:LtT lt)(ho:s.heap.get? a=some (seqObj "list" vs.toArray n))(hz:vs.length<=sizeLine)
  (hk:∀H:Heap,(∀b o,b≠a->s.heap.get? b=some o->H.get? b=some o)->2<=vs.length->∀Q:SortKind->Shared->Prop,Q kd {s with heap:=H}->wpAny (model prog w) A (keyKind' vs.toArray) Q E {s with heap:=H})
  (hO:∀H:Heap,(∀b o,b≠a->s.heap.get? b=some o->H.get? b=some o)->Ora (model prog w) A {s with heap:=H} kd vs.length (itV vs) lt)
  (h:∀os h' k,os.Perm (List.range vs.length)->Srt lt os->(∀b o,b≠a->s.heap.get? b=some o->h'.get? b=some o)->h'.get? a=some (seqObj "list" (os.map λi=>vs.getD i Value.none).toArray k)->P (.done (.ret .none)) {s with heap:=h'}) :
  wpAny (model prog w) A (Builtin.«list.sort» #[[.ref a],[]]) P E s:=by
 have s1:=ye s.heap a (Obj.mapSeq λ_=>(#v[]:Array Value));have#[e1,ag]:∃e1,(s.heap.update a (Obj.mapSeq λ_=>(#v[]:Array Value))).get? a=some (seqObj "list" #v[] e1):=#[_,get?_update_seq ho λ_=>#v[]];rw[list_sort_plain];apply ab (listItems_at ho rfl ?_);apply ab (listUpdate_at ho rfl ?_ (by rw[dp];show hz) (bb _));apply ab (seqEpoch_at ag rfl ?_);apply ab (wpAny_newTuple ?_ (by show vs.length<=_;show hz));apply ab (wpAny_newList ?_ (bb _));apply dw ?_;show wpAny _ A _ P E {s with heap:=((s.heap.update a (Obj.mapSeq λ_=>(#v[]:Array Value))).push (seqObj "tuple" vs.toArray 0)).push (seqObj "list" #v[] 0)};dsimp only;have other:∀b o,b≠a->s.heap.get? b=some o->(((s.heap.update a (Obj.mapSeq λ_=>(#v[]:Array Value))).push (seqObj "tuple" vs.toArray 0)).push (seqObj "list" #v[] 0)).get? b=some o:=λb o hb e =>
  bw _ (bw _ (by rw[s1.2 b hb];show e))
 have B:(((s.heap.update a (Obj.mapSeq λ_=>(#v[]:Array Value))).push (seqObj "tuple" vs.toArray 0)).push (seqObj "list" #v[] 0)).get? a=some (seqObj "list" #v[] e1):=bw _ (bw _ ag);generalize ((s.heap.update a (Obj.mapSeq λ_=>(#v[]:Array Value))).push (seqObj "tuple" vs.toArray 0)).push (seqObj "list" #v[] 0)=H at other B;have hl:vs.toArray.size=vs.length:=dp;have fin:∀os:List Nat,os.Perm (List.range vs.length)->Srt lt os->P (.done (.ret .none)) {s with heap:=H.update a (Obj.mapSeq λ_=>(os.map λi=>vs.getD i Value.none).toArray)}:=λos z so=>by
  have#[c2,ai]:∃c2,(H.update a (Obj.mapSeq λ_=>(os.map λi=>vs.getD i Value.none).toArray)).get? a=some (seqObj "list" (os.map λi=>vs.getD i Value.none).toArray c2):=#[_,get?_update_seq B λ_=>(os.map λi=>vs.getD i Value.none).toArray];have s2:=ye H a (Obj.mapSeq λ_=>(os.map λi=>vs.getD i Value.none).toArray);show h os _ c2 z so (λb o hb e=>by rw[s2.2 b hb];show other b o hb e) ai
 have last:∀(U:SortSt) (os:List Nat),arrOf U=KA (itV vs) os->failedOf U=none->os.Perm (List.range vs.length)->Srt lt os ->
   wpAny (model prog w) A (do
    let sorted:=(arrOf U).map (·.2)
    let J:=(← seqEpoch a) != e1
    Builtin.List.listUpdate (.ref a) λ_=>sorted
    if let some e:=failedOf U then rule "list.sort.comparison-raised";throw e
    if J then rule "list.sort.modified";raiseError "ValueError" "list modified during sort"
    ret .none) P E {s with heap:=H}:=λU os ha hf z so=>by
  have e:(arrOf U).map (·.2)=(os.map λi=>vs.getD i Value.none).toArray:=by
   rw[ha];simp[KA,itV]
  rw[e];apply ab (seqEpoch_at B rfl ?_);apply ab (listUpdate_at B rfl ?_ (bb _) (by rw[dp,ak,z.length_eq,kc];(show ba .O .a .A hz)));rw[hf];simp only[bne_self_eq_false,gp,md];show ae (fin os z so)
 by_cases h2:vs.toArray.size<2
 ·rw[cn h2,cn h2];apply ab (ae ?_);rw[StateT.run_pure];apply ab (ae ?_);apply last _ (List.range vs.length) (vF vs) rfl (.refl _) ?_;rw[hl]at h2;obtain h3|h3:vs.length=0\/vs.length=1:=by(show kn λq1=>((ah (uq.mp q1).1).elim (λq2=>(fc .ff .j .bK q2)) λq2=>((ah (uq.mp q1).2).elim (λq3=>(sO .ff .c .D .cB q2 q3)) λq3=>(sO .ff .c (.l .A .W) .a5 h2 q3))))
  ·rw[h3];show .nil
  ·rw[h3];show jk _ _
 ·rw[br h2,br h2];rw[hl]at h2;apply ab (hk H other (by show fc (.k .W .A) .a (.g .A .W) h2) _ ?_);apply ab (du (show PyProof.Rows.wpS (model prog w) A E {s with heap:=H} jB (λ_ U=>∃os,arrOf U=KA (itV vs) os/\failedOf U=none/\os.Perm (List.range vs.length)/\Srt lt os) (SortSt.mk' kd (vs.toArray.zip vs.toArray) #v[] 7 none) from
   wpS_sortRuns (hO H other) T #[rfl,vF vs,rfl,rfl] (λx hx=>gj.mp hx) λos U pd z so I=>#[os,I.a,I.f,z,so]) ?_ λ_ _ e=>e)
  rintro ⟨⟨⟩,U⟩ s' ⟨rfl,os,ha,hf,z,so⟩;show last U os ha hf z so
end
end MP
end
section
namespace MP
open PySem PyProof.Rows PySem.W
variable {ts:List (Int×Int×Int)}{C:Addr}{h:Heap}{vs:List Value}
abbrev tl (t:Int×Int×Int):List Int:=[t.1,t.2.1,t.2.2]
def yP (s t:Int×Int×Int):leT s t=!(ke (tl t) (tl s)):=rfl
abbrev LeT (s t:Int×Int×Int):Prop:=s.1<t.1\/(s.1=t.1/\(s.2.1<t.2.1\/(s.2.1=t.2.1/\s.2.2<=t.2.2)))
def yr (s t:Int×Int×Int):leT s t=true↔LeT s t:=by
 rw[yP,jg];unfold LeT;by_cases J:t.1=s.1
 ·rw[show ke (tl t) (tl s)=ke [t.2.1,t.2.2] [s.2.1,s.2.2] from cn J];by_cases z:t.2.1=s.2.1
  ·rw[show ke [t.2.1,t.2.2] [s.2.1,s.2.2]=ke [t.2.2] [s.2.2] from cn z];by_cases h3:t.2.2=s.2.2
   ·rw[show ke [t.2.2] [s.2.2]=false from cn h3];apply#[λ_=>.inr #[J.symm,.inr #[z.symm,eO h3.symm]],λ_=>rfl]
   ·rw[show ke [t.2.2] [s.2.2]=decide (t.2.2<s.2.2) from br h3,iY]
    (show#[λO=>(.inr #[(tq .aB .f .cP J),(.inr #[(tq .aB .f .cP z),(tq (.ik .A .B) .a (.ig .B .A) O)])]),λO=>((pv h3).elim (λW=>(O.elim (λU=>(iS .aT .c .bQ (.il .D .C) J U)) λU=>(U.2.elim (λI=>(iS .aT .c .bQ (.il .D .C) z I)) λI=>(tq .aT .a (.ik .B .A) I.2)))) λW=>(tq .aT .a .b6 W))])
  ·rw[show ke [t.2.1,t.2.2] [s.2.1,s.2.2]=decide (t.2.1<s.2.1) from br z,iY]
   (show#[λO=>(.inr #[(tq .aB .f .cP J),(.inl ((pv z).elim (λW=>(nT .aJ .c (.ig .B .A) .b6 O W)) λW=>(tq .aJ .a .aJ W)))]),λO=>((pv z).elim (λW=>(O.elim (λU=>(iS .aT .c .bQ (.il .D .C) J U)) λU=>(U.2.elim (λI=>(tq .aT .a .b6 I)) λI=>(tq .aT .a .cP I.1)))) λW=>(tq .aT .a .b6 W))])
 ·rw[show ke (tl t) (tl s)=decide (t.1<s.1) from br J,iY]
  (show#[λO=>(.inl ((pv J).elim (λW=>(nT .aJ .c (.ig .B .A) .b6 O W)) λW=>(tq .aJ .a .aJ W))),λO=>((pv J).elim (λW=>(O.elim (λU=>(tq .aT .a .b6 U)) λU=>(tq .aT .a .cP U.1))) λW=>(tq .aT .a .b6 W))])
def LeT.trans {a b c:Int×Int×Int}(J:LeT a b)(O:LeT b c):LeT a c:=by
 unfold LeT at *;rcases J with p|⟨p,U⟩
 ·show .inl (O.elim (λW=>(iU .aJ .b (.il .A .C) (.il .C .B) p W)) λW=>(iU .aJ .b (.il .A .C) (.ie .C .B) p W.1))
 ·rcases O with q|⟨q,W⟩
  ·show .inl (iU .aJ .b (.ie .A .C) (.il .C .B) p q)
  ·apply .inr #[p.trans q,?_];rcases U with p|⟨p,U⟩
   ·show .inl (W.elim (λW=>(iU .aJ .b (.il .A .C) (.il .C .B) p W)) λW=>(iU .aJ .b (.il .A .C) (.ie .C .B) p W.1))
   ·rcases W with q|⟨q,W⟩
    ·show .inl (iU .aJ .b (.ie .A .C) (.il .C .B) p q)
    ·show .inr #[p.trans q,Int.le_trans U W]
def LeT.total (a b:Int×Int×Int):LeT a b\/LeT b a:=by
 rcases Int.lt_trichotomy a.1 b.1 with h|h|h
 ·show .inl (.inl h)
 ·rcases Int.lt_trichotomy a.2.1 b.2.1 with g|g|g
  ·show .inl (.inr #[h,.inl g])
  ·show(Int.le_total a.2.2 b.2.2).imp (λk=>.inr #[h,.inr #[g,k]]) λk=>.inr #[h.symm,.inr #[g.symm,k]]
  ·show .inr (.inr #[h.symm,.inl g])
 ·show .inr (.inl h)
def LeT.PD {a b:Int×Int×Int}(h1:LeT a b)(z:LeT b a):a=b:=by
 unfold LeT at *;have I:a.1=b.1:=by(show h1.elim (λU=>(z.elim (λW=>(nT .aB .g .aJ .b6 U W)) λW=>(tq .aB .f .cP W.1))) λU=>(tq .aB .i .aB U.1))
 have e2:a.2.1=b.2.1:=by(show h1.elim (λU=>(iS .aB [[0,-1,1],[0,-1,1]] .bQ (.il .C .D) I U)) λU=>(z.elim (λW=>(iS .aB .v .bQ (.il .D .C) I W)) λW=>(U.2.elim (λJ=>(W.2.elim (λO=>(nT .aB .g .aJ .b6 J O)) λO=>(tq .aB .f .cP O.1))) λJ=>(tq .aB .i .aB J.1))))
 have e3:a.2.2=b.2.2:=by(show h1.elim (λU=>(iS .aB [[0,-1,1],[0,-1,1]] .bQ (.il .C .D) I U)) λU=>(z.elim (λW=>(iS .aB .v .bQ (.il .D .C) I W)) λW=>(U.2.elim (λJ=>(iS .aB [[0,-1,1],[0,-1,1]] .bQ (.il .C .D) e2 J)) λJ=>(W.2.elim (λO=>(iS .aB .v .bQ (.il .D .C) e2 O)) λO=>(nT .aB .g (.ik .A .B) (.ik .B .A) J.2 O.2)))))
 show zc I (zc e2 e3)
def gJ:∀{a b:List (Int×Int×Int)},a.Perm b->a.Pairwise LeT->b.Pairwise LeT->a=b
 | [],b,W,_,_=>by simpa using W.nil_eq
 |x::a,[],W,_,_=>by have:=W.length_eq;simp at this
 |x::a,y::b,W,I,hb=>by
  have J:=lu.mp I;have O:=lu.mp hb;have U:x=y:=by
   have z:LeT y x:=by
    have:x∈y::b:=W.mem_iff.mp (.head _);rcases cw.mp this with rfl|h
    ·unfold LeT;(show .inr #[(qE (.ie .A .A) .o),(.inr #[(qE (.ie .A .A) .o),(qE (.ik .A .A) .h)])])
    ·show O.1 x h
   have B:LeT x y:=by
    have:y∈x::a:=W.mem_iff.mpr (.head _);rcases cw.mp this with rfl|h
    ·unfold LeT;(show .inr #[(qE (.ie .A .A) .o),(.inr #[(qE (.ie .A .A) .o),(qE (.ik .A .A) .h)])])
    ·show J.1 y h
   show B.PD z
  subst U;rw[gJ (W.cons_inv) J.2 O.2]
def gM (ts:List (Int×Int×Int)):(ts.mergeSort leT).Pairwise LeT:=by
 have h:=List.pairwise_mergeSort (le:=leT) (λa b c O U=>(yr a c).mpr (((yr a b).mp O).trans ((yr b c).mp U))) (λa b=>by
  rcases LeT.total a b with h|h
  ·rw[(yr a b).mpr h];rfl
  ·rw[(yr b a).mpr h];simp) ts
 show h.imp λW=>(yr _ _).mp W
abbrev yM (ts:List (Int×Int×Int))(i j:Nat):Bool:=ke (tl (ts.getD i (0,0,0))) (tl (ts.getD j (0,0,0)))
def dP {i j:Nat}:yM ts j i=false↔LeT (ts.getD i (0,0,0)) (ts.getD j (0,0,0)):=by
 rw[<- yr,yP];unfold yM;cases ke (tl (ts.getD j (0,0,0))) (tl (ts.getD i (0,0,0)))<;>simp
def IF (ts:List (Int×Int×Int)):LtT (yM ts) where
 asym:=λa b h=>by
  rw[dP];have U:¬LeT (ts.getD b (0,0,0)) (ts.getD a (0,0,0)):=λhl=>by rw[<- dP]at hl;rw[h]at hl;cases hl
  rcases LeT.total (ts.getD a (0,0,0)) (ts.getD b (0,0,0)) with W|W
  ·show W
  ·show absurd W U
 tr:=λa b c U W=>by
  rw[dP]at *;show U.trans W
def tS {os:List Nat}(J:os.Perm (List.range ts.length))(O:Srt (yM ts) os):os.map (λi=>ts.getD i (0,0,0))=ts.mergeSort leT:=by
 apply gJ ?_ ?_ (gM ts)
 ·have W:=J.map λi=>ts.getD i (0,0,0);have U:((List.range ts.length).map λi=>ts.getD i (0,0,0))=ts:=by
   apply List.ext_getElem ?_ ?_
   ·simp
   ·intro i W U;simp at W;simp[List.getD,W]
  rw[U]at W;show W.trans (List.mergeSort_perm ts leT).symm
 ·show gT.mpr (O.imp λh=>dP.mp h)
def getD_mem {α:Type}{l:List α}{i:Nat}{d:α}(h:i<l.length):l.getD i d∈l:=by
 rw[jl,aq h];simp
abbrev Mts (C:Addr)(h:Heap):List (Int×Int×Int)->List Value->Prop
 | []=>λvs=>vs=[]
 |t::ts=>λvs=>∃x dd ws n us,vs=.ref x::us/\h.get? x=some (d6 C dd ws n)/\IntsAre ws (tl t)/\Mts C h ts us
def Mts.length:{ts:List (Int×Int×Int)}->{vs:List Value}->Mts C h ts vs->ts.length=vs.length
 | []=>λe=>e▸rfl
 |_::_=>λW=>by have#[_,_,_,_,_,e,_,_,r]:=W;show e▸dj (·+1) r.length
def Mts.at (m:Mts C h ts vs)(i:Nat)(W:i<ts.length):∃x dd ws n,vs.getD i Value.none=.ref x/\h.get? x=some (d6 C dd ws n)/\IntsAre ws (tl (ts.getD i (0,0,0))):=by
 induction ts generalizing vs i with
 |nil=>show absurd W (xg i)
 |cons t ts U =>
  have#[x,dd,ws,n,us,e,g,q,r]:=m;subst e;cases i with
  |zero=>refine#[x,dd,ws,n,rfl,g,q]
  |succ i=>show U r i (Nat.lt_of_succ_lt_succ W)
def Mts.mono {h':Heap}(hk:kf h h'):{ts:List (Int×Int×Int)}->{vs:List Value}->Mts C h ts vs->Mts C h' ts vs
 | []=>λe=>e
 |_::_=>λW=>by have#[x,dd,ws,n,us,e,g,q,r]:=W;apply#[x,dd,ws,n,us,e,hk _ _ g (.inl #[λq=>(nomatch q),_,_,rfl]),q,r.mono hk]
def Mts.of {G:Stc}:{ts:List (Int×Int×Int)}->{vs:List Value}->VRs G h (ts.map mtV) vs->Mts G.cM h ts vs
 | []=>λe=>e
 |t::_=>λW=>by have#[_,us,e,#[a,ws,n,dd,U,g,r],rest]:=W;apply#[a,dd,ws,n,us,U▸e,g,qb (ns:=tl t) r,Mts.of rest]
def Mts.vr {G:Stc}:{ts:List (Int×Int×Int)}->{vs:List Value}->Mts G.cM h ts vs->VRs G h (ts.map mtV) vs
 | []=>λe=>e
 |t::_=>λW=>by have#[x,_,_,_,us,e,g,q,r]:=W;apply#[.ref x,us,e,.mt g (VRs.ints (ns:=tl t) q),r.vr]
def Mts.pick (m:Mts C h ts vs):(l:List Nat)->(∀i∈l,i<ts.length)->Mts C h (l.map λi=>ts.getD i (0,0,0)) (l.map λi=>vs.getD i Value.none)
 | []=>λ_=>rfl
 |i::l=>λhl=>by
  have#[x,dd,ws,n,e,g,U]:=m.at i (hl i (.head _));apply#[x,dd,ws,n,l.map λi=>vs.getD i Value.none,dj (·::_) e,g,U,m.pick l λj W=>hl j (.tail _ W)]
section
variable {G:Stc}{A:Around}{E:QqV}{s:Shared}{σ:St}
def uE (K:uh G){a:Addr}{n:Nat}{P:Fin->Shared->Prop}(hu:A.units<cLine)(U:∀b o,G.hb.get? b=some o->s.heap.get? b=some o)(z:G.hb.get? a=none)(ho:IsL s.heap a vs.toArray n)(m:Mts G.cM s.heap ts vs)(hz:ts.length<=sizeLine)
  (h:∀h' J k,At a s.heap h'->IsL h' a J.toArray k->Mts G.cM s.heap (ts.mergeSort leT) J->P (.done (.ret .none)) {s with heap:=h'}):wpAny G.M A (Builtin.«list.sort» #[[.ref a],[]]) P E s:=by
 have#[N,mN,nm,q,k0,k2,k3,hC,hN,hi,ag,_]:=K.here;have W:=m.length;have frz:∀{H:Heap},(∀b o,b≠a->s.heap.get? b=some o->H.get? b=some o)->kf s.heap H:=λ{H} other b o e f=>other b o (λq=>by subst q;rw[show s.heap.get? b=_ from ho]at e;cases e;show zl rfl rfl f) e;apply kI (kd:=oneType') (IF ts) ho (by rw[<- W];show hz) (λH other h2 Q' hq=>?_) (λH other i j C hi hj hc=>?_) λos h' k hp so keep I=>?_
 ·have mH:=m.mono (frz other);apply kas_kind (T:=.ref G.cM) h2 (λv hv=>?_) (by rfl) (by simp) hq;have#[i,hi,rfl]:=fu.mp hv;have#[x,dd,ws,k,e,g,_]:=mH.at i (fh .B .n .aX .G W hi);have e':vs[i]=.ref x:=by rw[<- e];simp[List.getD,hi]
  rw[e'];intro A Q E s' hk hq;unfold typeOf;apply ab (iX (hk _ _ g) ?_);show ae hq
 ·have mH:=m.mono (frz other);have aj:H.get? G.cM=some (gE G.cM N nm q k0 k2 k3):=other _ _ (λq=>by subst q;rw[z]at hC;cases hC) (U _ _ hC);have ai:H.Ns N mN:=by
   have#[o,es,ep,O,r]:=hN;apply#[o,es,ep,other _ _ (λq=>by subst q;rw[z]at O;cases O) (U _ _ O),r]
  have#[x,dd,ws,k,e,g,hx]:=mH.at i (fh .B .n .aX .G W hi);have#[y,de,us,k',e',g',hy]:=mH.at j (fh .B .n .aX .G W hj);show wpAny _ _ (keyLt' oneType' (vs.getD i Value.none) (vs.getD j Value.none)) _ _ _;rw[e,e'];show IB hu aj ai ag g g' hx hy rfl hc
 ·apply h h' _ k #[keep,#[_,I],λo e=>by have rfl:=af (e.symm.trans ho);show zl rfl rfl] I ?_;rw[<- tS (by rw[W];show hp) so];apply m.pick os λi hi=>?_;have:=gj.mp (hp.mem_iff.mp hi)
  (show fh .B .n .aX .G W this)
def C7 {C:Cal}{sc:Scope}{d:Nat}{a:Ex}{o:Expr}{apos pos:Pos}(K:uh G)(ha:gi G C sc d a o)(hb:um o=true)(J:(apos.endLine==pos.line)=true) :
  gi G C sc d (.bm .sort a .nil) (.Call (.Attribute o "sort" apos) [] [] pos):=λA E env ρ σ Q s c h =>
 uc hb rfl (by decide) J (rn (ha c h) λv σ₁ s₁ w q vr r x pl =>
  pE (k:=.sort) r vr q.1 (ub rfl oq (c.go r x) q.2 λvs σ₂ s₂ ws I ag r₂ U=>by
   have O:=vr.mono U.frz;have#[b,rfl,W]:=ue (v:=v) I;have#[rfl,ts,e,W]:=yG (vs:=vs) W;have rfl:=ag;have rfl:=O;have#[us,n,hl,hv]:=r₂.L _ _ e;have ai:=r₂.new b (.inl (by rw[e];rfl));apply oe PySem.F.slot_list_sort #[_,hl,rfl] PyProof.Rows.entry_list_sort (uE K (by have:=c.ao.units;show A.units+1<_;(show gu .V .a (.l (.a (.a .A (.m 30 .C)) .aX) .B) this)) r₂.base ai hl (Mts.of hv) (ou (by have:=r₂.Ll _ _ e;rwa [ak]at this)) λh' ar k z aj m'=>#[_,rfl,?_]) (PyProof.Rows.args_list_sort _);have hz:((ts.mergeSort leT).map mtV).length<=bx:=by
    have:=(List.mergeSort_perm ts leT).length_eq;have h2:=r₂.Ll _ _ e;rw[ak]at h2 ⊢;rw[this];show h2
   have R':=r₂.putL z (λq=>by rw[e]at q;cases q) aj m'.vr hz;apply#[.none,_,W,.none,R',x.trans (U.to (Evo.putL z (λq=>by rw[e]at q;cases q) _))]))
end
structure rd (G:Stc)(fN fM:Addr):Prop where
 made:Looks G.M G.hb (Bind.madeBy (.ref G.cM)) none
 here:Looks G.M G.hb (Bind.madeHere "tuple.__new__" (.ref G.cM)) ()
 chk:∀x,Looks G.M G.hb (checkBuiltinCall "tuple.__new__" #[[.ref G.cM,x],[]]) ()
 mro:Looks G.M G.hb (mroOf (.ref G.cM)) [.ref G.cM,.type "tuple",.type "object"]
 self:Looks G.M G.hb (isSubtype (.ref G.cM) (.ref G.cM)) true
 tup:Looks G.M G.hb (isSubtype (.ref G.cM) (.type "tuple")) true
 init:Looks G.M G.hb (typeLookup (.ref G.cM) "__init__") (some (.builtin "object.__init__"))
 call:Looks G.M G.hb (specialOf (.ref G.cM) "__call__") (some (.builtin "type.__call__"))
 typ:Looks G.M G.hb (isInstance (.ref G.cM) (.type "type")) true
 isT:Looks G.M G.hb (isType (.ref G.cM)) true
 del:Looks G.M G.hb (classHasDel G.cM) false
 new:∀(A:Around) (E:QqV) (s:Shared) (Q:QqV),(∀b o,G.hb.get? b=some o->s.heap.get? b=some o)->Q (.ref fN) {s with toks:=s.toks+1}->wpAny G.M A (getAttr (.ref G.cM) "__new__") Q E s
 make:∀(A:Around) (E:QqV) (s:Shared) (expr:Bool) (Q:QqV),(∀b o,G.hb.get? b=some o->s.heap.get? b=some o)->Q (.ref s.heap.objs.size) {s with heap:=s.heap.push {cls:=.type "method",data:=.fields #v[.ref fM,.ref G.cM]},toks:=s.toks+1}->wpAny G.M A (getAttr (.ref G.cM) "_make" expr) Q E s
 typNew:∀(A:Around) (E:QqV) (s:Shared) (expr:Bool) (Q:QqV),Q (.builtin "tuple.__new__") {s with toks:=s.toks+1}->wpAny G.M A (getAttr (.type "tuple") "__new__" expr) Q E s
def vU:plainId "tuple.__new__"=true:=by decide +kernel
def wY:entryFor table "tuple.__new__"=some Builtin.«tuple.__new__»:=eN (by kernel_rfl)
section
variable {G:Stc}{A:Around}{E:QqV}{s:Shared}{fN fM:Addr}
public abbrev dX (G:Stc)(h:Heap):Prop:=∀b o,G.hb.get? b=some o->h.get? b=some o
def zY (K:rd G fN fM){x:Addr}{ws:List Value}{n:Nat}{Q:QqV}(hb:dX G s.heap)(O:IsT s.heap x ws.toArray n)(hz:ws.length<=bx)
  (h:∀h' y dd,(∀b o,s.heap.get? b=some o->h'.get? b=some o)->s.heap.get? y=none->h'.get? y=some (d6 G.cM dd ws 0)->Q (.ref y) {s with heap:=h'}) :
  wpAny G.M A (call (.builtin "tuple.__new__") [.ref G.cM,.ref x]) Q E s:=by
 apply su (fK vU wY ((K.chk (.ref x)) _ _ _ _ hb ?_));unfold Builtin.«tuple.__new__»;dsimp only;apply ab (K.isT _ _ _ _ hb ?_);simp -iota only[cO,gp,md];apply ab (K.tup _ _ _ _ hb ?_);simp -iota only[cO,gp,md];apply ab (K.here _ _ _ _ hb ?_);apply ab (K.init _ _ _ _ hb ?_);rw[cn (by decide)];have U:ws.toArray.size<=sizeLine:=by rw[dp];show ou hz
 apply ab (gc (a:=()) rfl ?_);apply ab (gc (a:=()) rfl ?_);apply ab ?_;apply wpAny_collect_seq x (.inr rfl) O rfl rfl (λh₁ W=>ab (ae ?_)) U;apply ab (wpAny_alloc ?_);unfold newObj newObjAsIs;dsimp only;rw[br (by simp only[dp]at U ⊢;(show ba .b2 .a .a2 U))];apply ab (ab (wpAny_alloc ?_));have hk:∀b o,s.heap.get? b=some o->((h₁.push {cls:=.type "dict",data:=.dict #v[]}).push (d6 G.cM (some h₁.objs.size) ws 0)).get? b=some o:=λb o e=>bw _ (bw _ (W b o e));have e:ws.toArray.toList.toArray=ws.toArray:=by simp
 apply ab (K.del _ _ _ _ (λb o e=>hk b o (hb b o e)) ?_);simp -iota only[gp,md];apply ae (ae ?_);have J:(h₁.push {cls:=.type "dict",data:=.dict #v[]}).objs.size=h₁.objs.size+1:=jh ..;show Q (.ref (h₁.push {cls:=.type "dict",data:=.dict #v[]}).objs.size) _;apply h _ _ (some h₁.objs.size) hk ?_ (fj _ rfl);rw[J];cases hq:s.heap.get? (h₁.objs.size+1) with
 |none=>rfl
 |some o=>show absurd (jz (W _ _ hq)) (tg.mpr (dI _))
abbrev rK (p0 p1 p2 p3 p4 p5 p6 p7 p8 p9 p10:Pos)(doc:Str)(c0 c1:Nat):List Stmt:=
 [.Expr (.Constant (.str doc) c0 p0) p1,.Return (some (.Call (.Attribute (.Name "tuple" p2) "__new__" p3) [.Name "_cls" p4,.Tuple [.Name "a" p5,.Name "b" p6,.Name "size" p7] c1 p8] [] p9)) p10]
abbrev d4 (more:List (Str×Const)):Scope:=
 {kind:=.function,names:=[("_cls",.local),("a",.local),("b",.local),("size",.local),("tuple",.globalImplicit)],isGenerator:=false,isCoroutine:=false,more:=more}
def qT {C:Cal}{sc:Scope}{d:Nat}{x:Str}{k:Nat}{p pos:Pos}:zw G C sc d .pass (.Expr (.Constant (.str x) k p) pos):=λA E env ρ σ K s c h =>
 wpAny_Expr (by
  show wpAny _ _ (mkText x) _ _ s;apply wpAny_mkText ?_;show rq.here .next h c.F c.R) (by unfold interactive;rw[c.eo.kind];rfl) (eQ rfl _ _ _)
def AX (K:rd G fN fM){pl:Sem Bool}{Q:Value×List Value->Shared->Prop}(h:Q (.builtin "tuple.__new__",[]) {s with toks:=s.toks+1}):wpAny G.M A (getMethod (.type "tuple") "__new__" pl) Q E s:=by
 unfold getMethod specialOf;have W:typeOf (.type "tuple")=pure (.type "type"):=by first|rfl|kernel_rfl
 apply ab (ab (gc W (gc KF.slot_tga.lookup ?_)));dsimp only;rw[cn canon_tga];show ab (K.typNew _ _ _ _ _ (ae h))
variable {σ:St}
def pS {C:Cal}{sc:Scope}{d:Nat}{env:Env}{ρ:Fr}{c e:Ex}{B I:Expr}{p apos pos:Pos}{vs:List V}{τ:St->Prop}{Q:QqV}(Kg:GOk G)(K:rd G fN fM)(hc:gi G C sc d c B)(he:gi G C sc d e I)(W:noStar [B,I]=true)(U:(apos.endLine==pos.line)=true)
  (hx:sc.names.lookup ("tuple":Str)=some .globalImplicit) (hg:G.gl "tuple"=some (.type "tuple")) (z:Cx G sc d A env ρ σ s)
  (hw:wpE C c ρ σ λv σ'=>wpE C e ρ σ' λu O=>v=.obj G.cM/\u=.T vs/\vs.length<=bx/\τ O)
  (k:∀σ₁ s₁ y,τ σ₁->VR G s₁.heap (.mt vs) (.ref y)->Rel G σ₁ s₁.heap->Go [] σ s σ₁ s₁->Q (.ref y) s₁) :
  wpAny G.M A (eval (.Call (.Attribute (.Name "tuple" p) "__new__" apos) [B,I] [] pos) env) Q E s:=by
 apply uc rfl W (by simp) U (nj Kg z.eo z.R (by rw[z.es];show hx) (by decide) hg λpl=>?_);apply AX K ?_;have ag:qk G C sc d %[c,e|0] [B,I]:=jv hc (jv he oq (gr (gr W).2).1) (gr W).1;apply ub (P:=λus σ=>on2 us λv u=>v=.obj G.cM/\u=.T vs/\vs.length<=bx/\τ σ) W ag (z.at (s₁:={s with toks:=s.toks+1}) z.F z.R) hw λus σ₁ s₁ ws q vr r J=>?_;have#[v,u,rfl,rfl,rfl,hz,q]:=kF (vs:=us) q;have#[w1,w2,rfl,rfl,a,us,n,rfl,g,rr]:=vr.two;apply zY K r.base g (by rw[<- rr.length];show hz) λh' y dd hk hy hm=>?_;show k σ₁ _ y q (.mt hm (rr.mono λb o e _=>hk b o e)) (r.keeps hk) ((Go.refl.tok.trans J).to (Evo.keeps hk))
def d9 {n:Nat}{dflt:List V}{b:qa}{vs:List V}{i:Nat}{v:V}(h:vs[i]?=some v):frameOf #[n,dflt,b] vs i=some v:=by
 unfold frameOf i3;rw[dq (av.mp h).1];show h
def oU {d:Nat}{p0 p1 p2 p3 p4 p5 p6 p7 p8 p9 O:Pos}{doc:Str}{c0 c1:Nat}{more:List (Str×Const)}{x y z:V}{wx wy wz:Value}{Q:V->St->Prop}(Kg:GOk G)(K:rd G fN fM)(Kf:FnAt G fN 4 [] (d4 more) (rK p0 p1 p2 p3 p4 p5 p6 p7 p8 p9 O doc c0 c1))(U:(p3.endLine==p9.line)=true)(hg:G.gl "tuple"=some (.type "tuple"))
  (ao:AOk A (d+1)) (R:Rel G σ s.heap) (vx:VR G s.heap x wx) (vy:VR G s.heap y wy) (vz:VR G s.heap z wz) (h:Q (.mt [x,y,z]) σ):wpAny G.M A (call (.ref fN) [.ref G.cM,wx,wy,wz]) (jx G [] σ s Q) E s:=by
 apply qC (b:=.nil) (vs:=[.obj G.cM,x,y,z]) (d:=d) Kf (λA' E' env s' c=>?_) ao R %[.obj _,vx,vy,vz|0] (by simp) (by simp);have B:Cal:=λ_ _ _ _=>False;have l:∀(i:Nat) (nm:Str) (p:Pos),(d4 more).names[i]?=some (nm,.local)->jq nm=true->gi G B (d4 more) d (.l i) (.Name nm p):=λi nm p hi hn=>lL hi rfl hn;apply ua (du (qT (C:=B) (K:=λfl ρ' σ'=>fl=.next/\ρ'=frameOf #[4,[],.nil] [.obj G.cM,x,y,z]/\σ'=σ) c #[rfl,rfl,rfl]) (λf ag lf=>?_) λ_ _ x=>x);have#[fl,ρ',σ',fr,#[rfl,rfl,J],I,R2,x2]:=lf;rw[J]at I R2 x2;cases fr;apply ua (wpAny_Return_some ?_);have ht:gi G B (d4 more) d (.T %[.l 1,.l 2,.l 3|0]) (.Tuple [.Name "a" p5,.Name "b" p6,.Name "size" p7] c1 p8):=
  y5 (jv (l 1 _ _ rfl (by decide)) (jv (l 2 _ _ rfl (by decide)) (jv (l 3 _ _ rfl (by decide)) oq λ_=>rfl) λ_=>rfl) λ_=>rfl)
 apply pS (vs:=[x,y,z]) (τ:=λσ'=>σ'=σ) Kg K (l 0 _ _ rfl (by decide)) ht rfl U rfl hg (c.at I R2) ?_ λσ₁ s₁ yy q vr r W=>?_
 ·apply#[.obj G.cM,d9 rfl,x,d9 rfl,y,d9 rfl,z,d9 rfl,bz rfl,rfl,rfl,bz rfl,rfl]
 ·rw[q]at r W;apply#[.ret (.mt [x,y,z]),_,σ,.ret vr,h,I.evo W.e,r,x2.trans W.wide]
end
variable {y:Addr}{dd:Option Addr}{ws:List Value}{n:Nat}
def mQ:Slot "object" "__init__" "object.__init__":=
 Slot.of (owner:="object") (n:="__init__") (by rw[ip,fq];kernel_rfl) (by decide +kernel) (by decide +kernel) (by decide +kernel) (.inl (by decide +kernel)) (by rw[mx];kernel_rfl)
def u5:entryFor table "object.__init__"=some Builtin.«object.__init__»:=eN (by kernel_rfl)
def vX:builtinKind "object.__init__"=some .slot:=by kernel_rfl
def u4:splitId "object.__init__"=some ("object","__init__"):=by kernel_rfl
def vY (a:Value)(rest:List Value):argsOk "object.__init__" #[a::rest,[]]:=by unfold argsOk;kernel_rfl
section
variable {G:Stc}{A:Around}{E:QqV}{s:Shared}{fN fM:Addr}{σ:St}
def mW (K:rd G fN fM){h:Heap}{base:Value}{r:Bool}(hb:dX G h)(W:h.get? y=some (d6 G.cM dd ws n))(U:Looks G.M G.hb (isSubtype (.ref G.cM) base) r):Looks G.M h (isInstance (.ref y) base) r:=λA Q E s hk O=>by
 unfold isInstance typeOf;apply ab (ab (iX (hk _ _ W) (ae ?_)));show U _ _ _ _ (λb o e=>hk _ _ (hb _ _ e)) O
def AV (K:rd G fN fM){rest:List Value}{P:Fin->Shared->Prop}(hb:dX G s.heap)(O:s.heap.get? y=some (d6 G.cM dd ws n))(U:P (.done (.ret .none)) s) :
  wpAny G.M A (Builtin.«object.__init__» #[.ref y::rest,[]]) P E s:=by
 have W:∀{R:QqV},R (.ref G.cM) s->wpAny G.M A (typeOf (.ref y)) R E s:=λ{R} hr=>by
  unfold typeOf;show ab (iX O (ae hr))
 unfold Builtin.«object.__init__»;dsimp only;by_cases hr:(!rest.isEmpty||!([]:List (Str×Value)).isEmpty)=true
 ·rw[cn hr];apply ab (W (ab (K.init _ _ _ _ hb (ab (K.made _ _ _ _ hb ?_)))));have I:(some (Value.builtin "object.__init__") != some (Value.builtin "object.__init__"))=false:=bne_self_eq_false _;have J:((none:Option String) != some "object.__new__")=true:=rfl;rw[I,J];show ae U
 ·rw[br hr];show ae U
def AW (K:rd G fN fM)(W:Looks G.M G.hb (isSubtype (.ref G.cM) (.type "object")) true){n:Nat}{rest:List Value}{Q:QqV}(hb:dX G s.heap)(U:s.heap.get? y=some (d6 G.cM dd ws n))(O:Q .none s) :
  wpAny G.M A (call (.builtin "object.__init__") (.ref y::rest)) Q E s:=by
 have J:∀(A:Around) (E:QqV) (R:Unit->Shared->Prop),R () s->wpAny G.M A (checkBuiltinCall "object.__init__" #[.ref y::rest,[]]) R E s:=λA E R hr =>
  check_slot (M:=G.M) (i:="object.__init__") (owner:="object") (n:="__init__") (self:=.ref y) (rest:=rest) (kw:=[]) vX u4 (mW K hb U W) (vY (.ref y) rest) hr
 apply su ?_;apply fK (id:="object.__init__") (b:=Builtin.«object.__init__») mQ.plain u5 ?_;apply J _ _ _ ?_;show AV K hb U O
def qQ (K:rd G fN fM)(W:Looks G.M G.hb (isSubtype (.ref G.cM) (.type "object")) true){rest:List Value}{Q:Option Value->Shared->Prop}(hb:dX G s.heap)(J:s.heap.get? y=some (d6 G.cM dd ws n))(I:Q (some .none) s) :
  wpAny G.M A (callSpecial? (.ref y) "__init__" rest []) Q E s:=by
 have U:∀{R:QqV},R (.ref G.cM) s->wpAny G.M A (typeOf (.ref y)) R E s:=λ{R} hr=>by
  unfold typeOf;show ab (iX J (ae hr))
 have O:∀{R:Option Value->Shared->Prop},R (some (.builtin "object.__init__")) s->wpAny G.M A (specialOf (.ref y) "__init__") R E s:=λ{R} hr=>by
  unfold specialOf;show ab (U (K.init _ _ _ _ hb hr))
 unfold callSpecial?;apply ab (O ?_);dsimp only;apply dw ?_;apply ab (gc (mQ.bind (.ref y)) ?_);apply ab ?_;show AW K W hb J (ae I)
structure qG (G:Stc)(fN:Addr):Prop where
 fn:∃p0 p1 p2 p3 p4 p5 p6 p7 p8 p9 p10 doc c0 c1 more,FnAt G fN 4 [] (d4 more) (rK p0 p1 p2 p3 p4 p5 p6 p7 p8 p9 p10 doc c0 c1)/\(p3.endLine==p9.line)=true
 tup:G.gl "tuple"=some (.type "tuple")
 obj:Looks G.M G.hb (isSubtype (.ref G.cM) (.type "object")) true
def lW {d:Nat}{x y z:V}{wx wy B:Value}{Q:V->St->Prop}{P:Fin->Shared->Prop}(Kg:GOk G)(K:rd G fN fM)(J:qG G fN)(ao:AOk A (d+1))(R:Rel G σ s.heap)(vx:VR G s.heap x wx)(vy:VR G s.heap y wy)(vz:VR G s.heap z B)(h:Q (.mt [x,y,z]) σ)
  (hP:∀w s',jx G [] σ s Q w s'->P (.done (.ret w)) s'):wpAny G.M A (Builtin.«type.__call__» #[[.ref G.cM,wx,wy,B],[]]) P E s:=by
 have#[p0,p1,p2,p3,p4,p5,p6,p7,p8,p9,ag,doc,c0,c1,more,Kf,W]:=J.fn;have hb:dX G s.heap:=R.base;unfold Builtin.«type.__call__»;dsimp only;rw[br (show ¬((Value.ref G.cM==Value.type "type")=true) from gq)];apply ab (K.mro _ _ _ _ hb ?_);rw[br (by simp)];apply ab (K.made _ _ _ _ hb ?_);dsimp only;apply ab (K.new _ _ _ _ hb ?_);apply ab (dw ?_);apply du (oU (Q:=λv σ'=>v=.mt [x,y,z]/\σ'=σ) Kg K Kf W J.tup ao R vx vy vz #[rfl,rfl]) (λw s' l=>?_) λ_ _ e=>e;have#[v,σ',#[rfl,O],vr,r,I]:=l;rw[O]at r I;have#[yy,ws,n,dd,rfl,g,rr]:=vr;have U:dX G s'.heap:=r.base;apply ab ((mW K U g K.self) _ _ _ s' (λ_ _ e=>e) ?_);simp only[cO,gp,md];apply ab (dw (qQ K J.obj U g ?_));simp only[bne_self_eq_false,gp,md];show ae (hP _ _ #[_,σ,h,.mt g rr,r,Go.refl.tok.trans I])
def xG {d:Nat}{x y z:V}{O U W:Value}{Q:V->St->Prop}(Kg:GOk G)(K:rd G fN fM)(Kn:qG G fN)(Km:uh G)(ao:AOk A (d+2))(R:Rel G σ s.heap)(vx:VR G s.heap x O)(B:VR G s.heap y U)(I:VR G s.heap z W)(h:Q (.mt [x,y,z]) σ) :
  wpAny G.M A (call (.ref G.cM) [O,U,W]) (jx G [] σ s Q) E s:=by
 have#[N,mN,nm,q,k0,k2,k3,hC,hN,_]:=Km.here;have J:=R.base _ _ hC;apply su (vf ?_);show wpAny _ A.in1 (callAny (.ref G.cM) #[[O,U,W],[]]) _ _ s;unfold callAny;apply ab (zh J ?_);show wpAny _ _ (callAny.viaDunder (.ref G.cM) #[[O,U,W],[]]) _ _ s;unfold callAny.viaDunder;apply ab (K.call _ _ _ _ R.base ?_);dsimp only;apply ab (gc (tc_bind (.ref G.cM)) ?_);dsimp only;apply ab (gc (a:=true) (by rfl) ?_);rw[cn rfl];apply ae #[rfl,?_];apply codeAny_call_builtin_at (j9 _ (by decide +kernel)) entry_typeCall ?_;apply check_slot (M:=G.M) (i:="type.__call__") (owner:="type") (n:="__call__") tc_kind tc_split (K.typ.keeps R.base) (tc_args _ _ _) ?_;apply lW (d:=d) Kg K Kn (ao.make _ _) R vx B I h λw s' l=>?_;show l
end
end MP
end
section
namespace MP
open PySem PyProof.Rows PySem.W
section
variable {G:Stc}{A:Around}{E:QqV}{s:Shared}{fN fM:Addr}{σ:St}
def nQ (K:rd G fN fM)(J:uh G){pos:Pos}{args:List (Bool×Sem Value)}{Q:QqV}(W:args.any (·.1)=false)
  (h:wpAny G.M A (evalArgs (.ref G.cM) true args []) (λx s₁=>dX G s₁.heap/\wpAny G.M A (call (.ref G.cM) x.pos x.kw) Q E s₁) E s):wpAny G.M A (callWith pos (.ref G.cM) [] args []) Q E s:=by
 have#[N,mN,nm,q,k0,k2,k3,O,I,_]:=J.here;unfold callWith;apply ab (dw (du h (λx s₁ h₁=>ab (jd ?_)) λ_ _ x=>x));have#[hb,U]:=h₁;simp -iota only[W,List.any_nil,i7];apply ab (m:=keeperOf (.ref G.cM)) ?_;unfold keeperOf;apply ab (zh (hb _ _ O) ?_);apply ab (K.call _ _ _ _ hb ?_);rw[cn (by decide)];apply ae ?_;show ab (du U (λr s₂ hr=>ab (dw (wpAny_point (ae hr)))) λ_ _ x=>x)
def qR {C:Cal}{sc:Scope}{d:Nat}{a b c:Ex}{x:Str}{I J O:Expr}{p pos:Pos}(Kg:GOk G)(K:rd G fN fM)(Kn:qG G fN)(Km:uh G)(hd:2<=d)(ha:gi G C sc d a I)(hb:gi G C sc d b J)(hc:gi G C sc d c O)(W:noStar [I,J,O]=true)
  (hx:sc.names.lookup x=some .globalImplicit) (hn:jq x=true) (hv:G.gl x=some (.ref G.cM)):gi G C sc d (.N a b c) (.Call (.Name x p) [I,J,O] [] pos):=λA E env ρ σ Q s z h=>by
 have B:qk G C sc d %[a,b,c|0] [I,J,O]:=jv ha (jv hb (jv hc oq (gr (gr (gr W).2).2).1) (gr (gr W).2).1) (gr W).1;have ag:AOk A (d-2+2):=by rw[aa hd];show z.ao
 apply Call_ (nj Kg z.eo z.R (by rw[z.es];show hx) hn hv (nQ K Km (ki W pos env) (qc (ki W pos env) (oM (P:=λvs σ=>on3 vs λx y z=>Q (.mt [x,y,z]) σ) (B z h) λvs σ₁ s₁ ws q vr r U=>#[r.base,?_]))));have#[u1,u2,u3,rfl,q]:=NS q;have#[w1,w2,w3,rfl,va,vb,vc]:=vr.three;show U.back (xG Kg K Kn Km ag r va vb vc q)
def vI:splitId "tuple.__len__"=some ("tuple","__len__"):=by kernel_rfl
def AQ:builtinKind "tuple.__len__"=some .slot:=by kernel_rfl
end
section
variable {prog:Program}{w:World}{A:Around}{E:QqV}{h:Heap}{g:Array GenState}{d:Drawn}{t:Nat}{os:OsState}{C N:Addr}{nm q:Str}{k0 k2 k3:Option Value}{mN:Str->Option Value}{dd:Option Addr}
def NY {x:Addr}{ws:List Value}{n:Nat}{Q:QqV}(J:h.get? C=some (gE C N nm q k0 k2 k3))(I:h.Ns N mN)(hl:mN "__len__"=none)(O:h.get? x=some (d6 C dd ws n))(hz:ws.length<=bx)
  (B:∀u tk,Q (.int ws.length u) #[h,g,d,tk,os]):wpAny (model prog w) A (call (.builtin "len") [.ref x]) Q E #[h,g,d,t,os]:=by
 apply Calls.call_function_entry kind_len plain_len entry_len (args_len1 _) ?_;unfold Builtin.«len»;have U:=PySem.F.slot_tuple_len.lookup;have W:h.get? x=some {cls:=.ref C,dict:=dd,data:=.seq ws.toArray n,slots:=#v[]}:=O;unfold bx at hz
 repeat (first|(with_reducible refine rt W ?_)|(with_reducible refine xy J I U ?_;rw[hl])|wp_step)
 apply gc (PySem.F.slot_tuple_len.bind (.ref x)) ?_;dsimp only;apply ab (wD J O vI (.inl AQ) PySem.F.slot_tuple_len.plain PySem.F.entry_tuple_len (PySem.F.args_tuple_len_1 _) ?_);unfold Builtin.«tuple.__len__»;apply ab (gc (a:=(.ref x,[])) (by rfl) ?_);dsimp only;apply ab (m:=Builtin.Tuple.tupleItemsOf (.ref x)) (ab (xd W rfl (ae ?_)));apply ab (wpAny_mkInt (ae #[_,rfl,ae ?_]));dsimp only;apply ab (dw ?_);apply gc (a:=((ws.toArray.size:Nat):Int)) (by rfl) ?_;apply ab (wpAny_letGo ?_);rw[br (by simp),br (by simp only[dp];(show fc (.ij .M .L) .a .b8 hz))];apply ab (wpAny_mkInt (ae #[_,rfl,?_]));simpa using B _ _
end
section
variable {G:Stc}{A:Around}{E:QqV}{s:Shared}{fN fM:Addr}{σ:St}
abbrev mT (p:Fin 20->Pos)(doc:Str)(c0 c1:Nat)(rest:List Stmt):List Stmt:=
 [.Expr (.Constant (.str doc) c0 (p 0)) (p 1),.Assign [.Name "result" (p 2)] (.Call (.Attribute (.Name "tuple" (p 3)) "__new__" (p 4)) [.Name "cls" (p 5),.Name "iterable" (p 6)] [] (p 7)) (p 8),
  .If (.Compare (.Call (.Name "len" (p 9)) [.Name "result" (p 10)] [] (p 11)) [.NotEq] [.Constant (.int 3) c1 (p 12)] (p 13)) rest [] (p 14),.Return (some (.Name "result" (p 15))) (p 16)]
abbrev qx (ns:List (Str×NameKind))(more:List (Str×Const)):Scope:=
 {kind:=.function,names:=("cls",.local)::("iterable",.local)::("result",.local)::ns,isGenerator:=false,isCoroutine:=false,more:=more}
def B7 {d:Nat}{p:Fin 20->Pos}{doc:Str}{c0 c1:Nat}{rest:List Stmt}{ns:List (Str×NameKind)}{more:List (Str×Const)}{x y z:V}{w:Value}{Q:V->St->Prop}(Kg:GOk G)(K:rd G fN fM)(Km:uh G)(Kf:FnAt G fM 2 [] (qx ns more) (mT p doc c0 c1 rest))(J:((p 4).endLine==(p 7).line)=true)(hg:G.gl "tuple"=some (.type "tuple"))(ag:G.gl "len"=some (.builtin "len"))
  (ht:(qx ns more).names.lookup ("tuple":Str)=some .globalImplicit) (hl:(qx ns more).names.lookup ("len":Str)=some .globalImplicit)
  (ao:AOk A (d+1)) (R:Rel G σ s.heap) (vx:VR G s.heap (.T [x,y,z]) w) (h:Q (.mt [x,y,z]) σ):codeAny G.M A (.call (.ref fM) #[[.ref G.cM,w],[]]) (wants (jx G [] σ s Q) E) s:=by
 have#[N,mN,nm,q,k0,k2,k3,hC,hN,_,_,bd,_]:=Km.here;apply q9 (b:=.nil) (vs:=[.obj G.cM,.T [x,y,z]]) (d:=d) Kf (λA' E' env s' c=>?_) ao R %[.obj _,vx|0] (by simp) (by simp);have C0:Cal:=λ_ _ _ _=>False;have l:∀(i:Nat) (nm:Str) (p:Pos),(qx ns more).names[i]?=some (nm,.local)->jq nm=true->gi G C0 (qx ns more) d (.l i) (.Name nm p):=λi nm p hi hn=>lL hi rfl hn;apply ua (du (qT (C:=C0) (K:=λfl ρ' σ'=>fl=.next/\ρ'=frameOf #[2,[],.nil] [.obj G.cM,.T [x,y,z]]/\σ'=σ) c #[rfl,rfl,rfl]) (λf bn lf=>?_) λ_ _ x=>x);have#[fl,ρ',σ',fr,#[rfl,rfl,bc],F2,R2,x2]:=lf;rw[bc]at F2 R2 x2;cases fr;apply ua ?_;rw[exec_Assign];apply ab (jd ?_);rw[xj rfl];apply ab (ae ?_);rw[br (by decide)];apply ab (pS (vs:=[x,y,z]) (τ:=λσ'=>σ'=σ) Kg K (l 0 _ _ rfl (by decide)) (l 1 _ _ rfl (by decide)) rfl J ht hg (c.at F2 R2) #[.obj G.cM,d9 rfl,.T [x,y,z],d9 rfl,rfl,rfl,bz rfl,rfl] λσ₁ s₁ yy I vr r U=>?_);rw[I]at r U;rw[qP (sc:=qx ns more) (r:=none) rfl c.es (by unfold Env.blockKind;rw[c.eo.kind];rfl)];apply ab (ae ?_);show wpAny G.M A' (do assignAll (.ref yy) [assign (.Name "result" (p 2)) env];pure Flow.next) _ _ _;apply ab ?_;show wpAny G.M A' (assign (.Name "result" (p 2)) env (.ref yy)) _ _ _;apply assign_Name (gV (X:=envX env) (i:=2) (k:=.local) c.eo (F2.evo U.e) r (by rw[c.es];rfl) rfl (λ_ _ e=>nomatch e) vr (.head _) (λ_ _ e=>nomatch e) λW F3 R3 x3=>ae ?_);dsimp only;have#[_,ws,n,dd,ey,g,rr]:=vr.mono x3.frz;cases ey;have bt:=rr.length;have B:upd (frameOf #[2,[],.nil] [.obj G.cM,.T [x,y,z]]) 2 (V.mt [x,y,z]) 2=some (.mt [x,y,z]):=cm _ _ _;apply ua (wpAny_If ?_);apply eC ?_ rfl;have aj:dX G W.heap:=R3.base;have ai:∀(E:QqV) (Q:QqV) (tk:Nat) (pp:Pos),(∀w,VR G W.heap (.mt [x,y,z]) w->Q w {W with toks:=tk})->wpAny G.M A' (eval (.Name "result" pp) env) Q E {W with toks:=tk}:=λE Q tk pp hq =>
  wpAny_Name (iG (s:={W with toks:=tk}) (i:=2) (k:=.local) c.eo F3 (by rw[c.es];rfl) rfl (by decide) B hq) (by decide)
 apply Call_ (nj Kg c.eo R3 (by rw[c.es];show hl) (by decide) ag ?_);apply Calls.callWith_builtin rfl (Calls.evalArgs_plain (Calls.spliced_cons (ai _ _ _ _ λw ar=>kS ?_)));have#[be,bg,n',bu,rfl,g',ay]:=ar;have O:=ay.length;apply NY (aj _ _ hC) (hN.keeps aj) bd g' (by rw[<- O];simp[bx]) λu bl=>?_;apply wpAny_Constant_int ?_;rw[<- O];apply ne_int (vj ?_);have e:((([x,y,z]:List V).length:Int) != 3)=false:=rfl;rw[e];apply wpAny_execs_nil ?_;dsimp only;apply ua (wpAny_Return_some (ai _ _ _ _ λw2 ax=>?_));apply#[.ret (.mt [x,y,z]),_,σ,.ret ax,h,F3,R3,x2.trans (U.wide.trans x3.tok)]
end
end MP
end
section
namespace MP
open PySem PyProof.Rows PySem.W
def pJ:Manifest.owners.lookup (String.ofList ['p','a','m'].reverse)=some Manifest.sig_map:=by kernel_rfl
def zq:Slot "map" "__next__" "map.__next__":=
 .of (owner:="map") (n:="__next__") (by rw[ip,fq];kernel_rfl) (by decide +kernel) (by decide +kernel) (by decide +kernel)
  (by first|show .inl (by decide +kernel)|show .inr (by decide +kernel)) (by rw[mx];kernel_rfl)
def gK:Slot "map" "__iter__" "map.__iter__":=
 .of (owner:="map") (n:="__iter__") (by rw[ip,fq];kernel_rfl) (by decide +kernel) (by decide +kernel) (by decide +kernel)
  (by first|show .inl (by decide +kernel)|show .inr (by decide +kernel)) (by rw[mx];kernel_rfl)
def oK:Slot "map" "__init__" "object.__init__":=
 .of (owner:="object") (n:="__init__") (by rw[ip,fq];kernel_rfl) (by decide +kernel) (by decide +kernel) (by decide +kernel)
  (by first|show .inl (by decide +kernel)|show .inr (by decide +kernel)) (by rw[mx];kernel_rfl)
def nF:entryFor table "map.__next__"=some Builtin.«map.__next__»:=eN (by kernel_rfl)
def oQ:entryFor table "map.__new__"=some Builtin.«map.__new__»:=eN (by kernel_rfl)
def nG:entryFor table "map.__iter__"=some Builtin.«dict_keyiterator.__iter__»:=
 entryFor_alias (id':="dict_keyiterator.__iter__") (by kernel_rfl) (by first|rfl|decide +kernel|(unfold String.splitOn;simp +decide [String.splitOnAux])) (by decide +kernel) (by kernel_rfl)
def oX (a:Value):argsOk "map.__next__" #[[a],[]]:=by
 unfold argsOk;rw[lD (id:="map.__next__") (n:=['_','_','t','x','e','n','_','_']) (o:=['p','a','m']) (by kernel_rfl) pJ];kernel_rfl
def oY (a:Value):argsOk "map.__iter__" #[[a],[]]:=by
 unfold argsOk;rw[lD (id:="map.__iter__") (n:=['_','_','r','e','t','i','_','_']) (o:=['p','a','m']) (by kernel_rfl) pJ];kernel_rfl
def vA (a b c:Value):argsOk "object.__init__" #[[a,b,c],[]]:=by
 unfold argsOk;rw[lD (id:="object.__init__") (n:=['_','_','t','i','n','i','_','_']) (o:=['t','c','e','j','b','o']) (by kernel_rfl) F.owner_object];kernel_rfl
def yI:mroOf (.type "map")=pure [.type "map",.type "object"]:=by rw[mroOf_type];kernel_rfl
def mU:typeLookup (.type "map") "__new__"=pure (some (.builtin "map.__new__")):=by rw[ip,fq];kernel_rfl
def xE:TypeCalled "map" "map.__new__" "object.__init__":=
 #[by decide +kernel,by decide +kernel,#[_,_,yI],madeBy_type yI mU (by decide +kernel),by decide +kernel,by rw[mx];kernel_rfl,oK]
def qL (a b:Value):checkTypeCall "map" #[[a,b],[]]=pure ():=by kernel_rfl
def u7 (a b:Value):checkBuiltinCall "map.__new__" #[[.type "map",a,b],[]]=pure ():=by kernel_rfl
def w9:typeLookup (.type "map") "__len__"=pure none:=by rw[ip,fq];kernel_rfl
def uD:typeLookup (.type "map") "__length_hint__"=pure none:=by rw[ip,fq];kernel_rfl
def GN:isSubtype (.type "map") (.type "map")=pure true:=by rw[mx];kernel_rfl
variable {f:Value}
public abbrev kP (h:Heap)(m t it:Addr)(f:Value):Prop:=h.get? m=some {cls:=.type "map",data:=.fields #v[.ref t,f]}/\h.get? t=some {cls:=.type "tuple",data:=.seq #v[.ref it]}
section
variable {prog:Program}{w:World}{A:Around}{E:QqV}{s:Shared}
def I9 (f:Value)(l:Addr)(items:Array Value) :
  Meets (Builtin.«map.__new__» #[[.type "map",f,.ref l],[]]) (λ_ R s=>s.heap.IsList l items /\
   R (.ok (.ret (.ref (s.heap.objs.size+2)))) {s with heap:=((s.heap.push {cls:=.type "list_iterator",data:=.fields #v[.ref l,.int 0 0]}).push {cls:=.type "tuple",data:=.seq #v[.ref s.heap.objs.size]}).push {cls:=.type "map",data:=.fields #v[.ref (s.heap.objs.size+1),f]}}):=
 .of_wp λprog w A R s h=>by
  have#[U,h]:=h;have W:(s.heap.push {cls:=.type "list_iterator",data:=.fields #v[.ref l,.int 0 0]}).objs.size=s.heap.objs.size+1:=jh ..;unfold Builtin.«map.__new__» Builtin.SmallTypes.newClass;apply ab ?_;dsimp only;apply ab (gc (a:=true) (by rfl) ?_);rw[br (by decide)];apply ab (gc (a:=true) GN ?_);rw[br (by decide)];apply ae ?_;dsimp only;apply ab (gc (a:=()) (by rfl) ?_);rw[br (by simp)];unfold Builtin.SmallTypes.iterAll;apply ab ?_;simp only[List.drop_succ_cons,rv,qi,pq];apply ab (ab (ab (dw (wpAny_pyIter_list U (ae ?_)))));dsimp only;apply ae (ae ?_);show wpAny _ _ (newTuple [Value.ref s.heap.objs.size]>>=_) _ _ _;apply ab (m:=newTuple _) (mw ?_ (by first|size_fits|rfl));apply ab ?_;show wpAny _ _ (newObj (.type "map") (.fields [_,_].toArray)) _ _ _;apply mw ?_ (by first|size_fits|rfl);apply ae #[_,rfl,?_];have O:((s.heap.push {cls:=.type "list_iterator",data:=.fields #v[.ref l,.int 0 0]}).push {cls:=.type "tuple",data:=.seq #v[.ref s.heap.objs.size]}).objs.size=s.heap.objs.size+2:=by rw[jh,W]
  simp only[Array.toList_push,List.nil_append,W,O,List.headD];show h
def F7 {l:Addr}{items:Array Value}{Q:QqV}(I:s.heap.IsList l items)
  (h:∀h',kP h' (s.heap.objs.size+2) (s.heap.objs.size+1) s.heap.objs.size f->h'.IsListIter s.heap.objs.size l 0->h'.objs.size=s.heap.objs.size+3->(∀b o,s.heap.get? b=some o->h'.get? b=some o)->Q (.ref (s.heap.objs.size+2)) {s with heap:=h'}) :
  wpAny (model prog w) A (call (.type "map") [f,.ref l]) Q E s:=by
 apply callType_new xE (by decide) (qL _ _) (u7 _ _) (λobj=>vA obj _ _) oQ (I9 f l items) #[I,?_];have J:(s.heap.push {cls:=.type "list_iterator",data:=.fields #v[.ref l,.int 0 0]}).objs.size=s.heap.objs.size+1:=jh ..;have O:((s.heap.push {cls:=.type "list_iterator",data:=.fields #v[.ref l,.int 0 0]}).push {cls:=.type "tuple",data:=.seq #v[.ref s.heap.objs.size]}).objs.size=s.heap.objs.size+2:=by rw[jh,J]
 have W:=fj ((s.heap.push {cls:=.type "list_iterator",data:=.fields #v[.ref l,.int 0 0]}).push {cls:=.type "tuple",data:=.seq #v[.ref s.heap.objs.size]}) (o:={cls:=.type "map",data:=.fields #v[.ref (s.heap.objs.size+1),f]}) rfl;have U:=fj (s.heap.push {cls:=.type "list_iterator",data:=.fields #v[.ref l,.int 0 0]}) (o:={cls:=.type "tuple",data:=.seq #v[.ref s.heap.objs.size]}) rfl;rw[O]at W;rw[J]at U;apply#[#[_,W,rfl],h _ #[W,bw _ U] #[_,bw _ (bw _ (fj _ rfl)),rfl,rfl] (by rw[jh,O]) λb o x=>bw _ (bw _ (bw _ x))]
def v5 {W f:Addr}{v:Value}{args:List Value}{R:Result->Shared->Prop}(U:s.heap.get? W=some {cls:=.type "method",data:=.fields #v[.ref f,v]})(h:codeAny (model prog w) A (.call (.ref f) #[v::args,[]]) R s):codeAny (model prog w) A (.call (.ref W) #[args,[]]) R s:=by
 apply vf ?_;show wpAny _ _ (callAny (.ref W) #[args,[]]) _ _ _;unfold callAny;apply ab (zh U ?_);dsimp only;rw[cn (by decide)];show ae #[rfl,h]
def vS {m t it:Addr}{Q:QqV}(U:kP s.heap m t it f)(h:Q (.ref m) s):wpAny (model prog w) A (pyIter (.ref m)) Q E s:=by
 have W:s.TypeIs (.ref m) "map":=#[_,U.1,rfl];apply wpAny_pyIter_slot W gK (oe gK W nG ?_ (oY _));show wpAny _ _ (ret (.ref m)) _ _ s;show ae #[_,rfl,"map",_,W,zq.lookup,h]
def mM {m t it:Addr}{Q:Option Value->Shared->Prop}(O:kP s.heap m t it f)
  (h:wpAny (model prog w) A.in1 (Builtin.SmallTypes.nextOf (.ref it)) (λx s₁=>kP s₁.heap m t it f/\wpAny (model prog w) A.in1 (call f [x]) (λv s'=>Q (some v) s') (λ_ _=>False) s₁) (λe s'=>s'.TypeIs e "StopIteration"/\Q none s') s):wpAny (model prog w) A (pyNext (.ref m)) Q E s:=by
 have J:s.TypeIs (.ref m) "map":=#[_,O.1,rfl];unfold pyNext;apply ab (wpAny_attempt (oB (name:=Str.ofString "__next__") J zq (oe zq J nF ?_ (oX _))));show wpAny _ _ (field (.ref m) 0>>=_) _ _ s;apply ab (kR O.1 rfl (x:=.ref t) rfl ?_);apply ab (xd O.2 rfl ?_);dsimp only;apply ab ?_;simp only[List.forIn_toArray,qi,pq];apply ab (ab (dw (du h (λx s₁ h₁=>ae ?_) λe s₁ h₁=>?_)))
 ·dsimp only;apply ae ?_;have#[W,h₁]:=h₁;apply ab (kR W.1 rfl (x:=f) rfl ?_);apply ab (dw (du h₁ (λv s₂ U=>?_) λ_ _ x=>x.elim));show ab (wpAny_letGo (ae #[_,rfl,ae U]))
 ·show ab (wpAny_isInstance (T:="StopIteration") (b:=true) h₁.1 isSubtype_stop (ae h₁.2))
end
end MP
end
section
namespace MP
open PySem PyProof.Rows PySem.W
structure nW (G:Stc)(fM:Addr):Prop where
 here:∃(p:Fin 20->Pos) (doc:Str) (c0 c1:Nat) (rest:List Stmt) (ns:List (Str×NameKind)) (more:List (Str×Const)),FnAt G fM 2 [] (qx ns more) (mT p doc c0 c1 rest)/\((p 4).endLine==(p 7).line)=true /\
  (qx ns more).names.lookup ("tuple":Str)=some .globalImplicit/\(qx ns more).names.lookup ("len":Str)=some .globalImplicit
 tup:G.gl "tuple"=some (.type "tuple")
 len:G.gl "len"=some (.builtin "len")
def yh (σ:St)(a:Addr)(xs ys:List V):(σ.di a xs).di a ys=σ.di a ys:=by
 unfold St.di
 congr 1
 funext j
 simp only[upd];split<;>rfl
def AOk.ins {A:Around}{d k:Nat}(h:AOk A (d+1))(hk:k<=30):AOk {A with units:=A.units+k} d:=#[h.handled,by have:=h.depth;dsimp only;(show gu (.l (.a (.a .A (.m 3 .B)) (.n 20)) .C) .a .bN this),by have:=h.units;dsimp only;(show gh (.l (.a (.a .L (.m 30 .C)) .aX) .D) .b (.k .B (.n 30)) (.l (.a (.a .A (.m 30 .S)) .aX) .D) hk this)]
def yD {G:Stc}{σ:St}{h h':Heap}{it:Addr}(R:Rel G σ h)(hd:¬σ.dom it)(hb:G.hb.get? it=none)(W:∀o,h.get? it=some o->¬Frz o)(hk:∀b o,b≠it->h.get? b=some o->h'.get? b=some o):Rel G σ h':=
 R.same (λb o e U=>hk b o (λq=>hd (q▸U)) e) (λb o e f=>hk b o (λq=>W o (q▸e) f) e) λb o e=>hk b o (λq=>by rw[q,hb]at e;cases e) (R.base b o e)
section
variable {G:Stc}{A:Around}{E:QqV}{s:Shared}{fN fM:Addr}{σ₀ σ:St}
def L6 {α:Type}{l:List α}(h:l.length=2):∃a b,l=[a,b]:=by
 have#[a,r,rfl]:=vh h;have#[b,r,rfl]:=vh (nu h);have rfl:=List.length_eq_zero_iff.mp (nu (nu h));apply#[a,b,rfl]
def BV {α:Type}{l:List α}(h:l.length=3):∃a b c,l=[a,b,c]:=by
 have#[a,r,rfl]:=vh h;have#[b,c,rfl]:=L6 (nu h);apply#[a,b,c,rfl]
def AJ {d:Nat}{l S it m t q:Addr}{ts:List (List V)}{res:Value}{R:Result->Shared->Prop}(Kg:GOk G)(K:rd G fN fM)(Km:uh G)(Mk:nW G fM)(ao:AOk A (d+2))(dn:∀t∈ts,t.length=3)(eb:l≠S)(dc:σ.L l=some (ts.map V.T))(hz:ts.length<=bx)
  (own:∀b∈[it,m,t,q],s.heap.get? b=none/\¬σ.dom b/\b≠S/\G.hb.get? b=none) (dV:m≠it) (dv:t≠it) (dx:q≠it)
  (hR:∀s',Rel G (σ.di S (ts.map V.mt)) s'.heap->Go [] σ₀ s (σ.di S (ts.map V.mt)) s'->R (.ok (.ret res)) s') :
  ∀(k i:Nat) (s':Shared),ts.length-i=k->i<=ts.length->Rel G (σ.di S ((ts.take i).map V.mt)) s'.heap->Go [] σ₀ s (σ.di S ((ts.take i).map V.mt)) s'->kP s'.heap m t it (.ref q)->s'.heap.get? q=some {cls:=.type "method",data:=.fields #v[.ref fM,.ref G.cM]}->s'.heap.IsListIter it l i ->
   codeAny G.M A (.builtin "list.extend.loop" #[[.ref S,.ref m,res],[]]) R s':=by
 have#[p,doc,c0,c1,rest,ns,more,Kf,cb,ct,ea]:=Mk.here;have nd:∀(xs:List V),∀b∈[it,m,t,q],¬(σ.di S xs).dom b:=λxs b hb dm=>(dB dm).elim (own b hb).2.1 (own b hb).2.2.1;have I:it∈[it,m,t,q]:=.head _;have mm:m∈[it,m,t,q]:=.tail _ (.head _);have tm:t∈[it,m,t,q]:=.tail _ (.tail _ (.head _));have qm:q∈[it,m,t,q]:=.tail _ (.tail _ (.tail _ (.head _)));have nf:∀{h:Heap} {i:Nat},h.IsListIter it l i->∀o,h.get? it=some o->¬Frz o:=λ{h i} da o e=>by
  have#[o',dL,ef,ee]:=da;have rfl:=af (dL.symm.trans e);show pj ef ee (by decide) (by decide)
 have hL:∀(xs:List V),(σ.di S xs).L l=some (ts.map V.T):=λxs=>by simp only[St.di,er eb];show dc
 have ck:∀b∈[it],s.heap.get? b=none:=λb hb=>by have rfl:=au.mp hb;show(own _ I).1
 intro k;induction k with
 |zero =>
  intro i s' hk hi Rr x hm hq hit;have ec:i=ts.length:=by(show fh .C .C .bB .cD hk (aa (ba .A .a .A hi)))
  subst ec;apply ze F.entry_extend_loop ?_;rw[fS F.plain_extend_loop _];show wpAny _ A.in1 (pyNext (.ref m)>>=_) _ _ _;have#[ws,n,hl,bv]:=Rr.L l _ (hL _);have bg:=bv.length;apply ab (mM hm (wpAny_nextOf_list_end (A:=A.in1.in1) ao.handled hit hl.isList (by rw[List.getElem?_toArray,<- gH.symm];simp at bg;(show ba .A .y .cH bg)) λh' e he df=>#[df,?_]));have J:∀b o,b≠it->s'.heap.get? b=some o->h'.get? b=some o:=he;have R':=yD Rr (nd _ _ I) (own _ I).2.2.2 (nf hit) J;have x':=x.but (s':={s' with heap:=h'}) (λb o hb e=>J b o (λq=>hb (q▸.head _)) e) .rfl ck;rw[fo]at R' x';show ae (hR _ R' x')
 |succ k ih =>
  intro i s' hk hi Rr x hm hq hit;have ai:i<ts.length:=by(show gh .B .n (.e .C .Z) .cD hk (aa (ba .A .a .A hi)))
  apply ze F.entry_extend_loop ?_;rw[fS F.plain_extend_loop _];show wpAny _ A.in1 (pyNext (.ref m)>>=_) _ _ _;have#[ws,n,hl,bv]:=Rr.L l _ (hL _);have#[w,hw,vr]:=bv.get (i:=i) (v:=.T ts[i]) (by simp[ai]);apply ab (mM hm (wpAny_nextOf_list_item hit hl.isList (by simpa using hw) λh₁ bc ca=>?_));have J:∀b o,b≠it->s'.heap.get? b=some o->h₁.get? b=some o:=λb o hb e=>by rw[ca.2 b hb];show e
  have cx:=yD Rr (nd _ _ I) (own _ I).2.2.2 (nf hit) J;have cd:=x.but (s':={s' with heap:=h₁}) (λb o hb e=>J b o (λq=>hb (q▸.head _)) e) .rfl ck;have ag:kP h₁ m t it (.ref q):=#[J _ _ dV hm.1,J _ _ dv hm.2];have ar:=J _ _ dx hq;apply#[ag,su (v5 ar ?_)];have hf:kf s'.heap h₁:=λb o e f=>J b o (λq=>nf hit o (q▸e) f) e;have h3:=dn ts[i] (cj ai);have#[a,b,c,bl]:=BV h3;rw[bl]at vr;apply codeAny_mono (B7 (s:={s' with heap:=h₁}) (A:=A.in1.in1) (d:=d) (Q:=λv σ'=>v=.mt [a,b,c]/\σ'=σ.di S ((ts.take i).map V.mt)) (E:=λ_ _=>False) Kg K Km Kf cb Mk.tup Mk.len ct ea (ao.ins (k:=2) (zv (.k .W (.n 30)) .h)) cx (vr.mono hf) #[rfl,rfl]) λr s₂ hr=>?_;cases r with
  |error e=>show hr.elim
  |ok fl =>
   cases fl with
   |ret w' =>
    have#[v,σ',#[rfl,rfl],bu,bt,be]:=hr;have O:∀b∈[it,m,t,q],∀o,h₁.get? b=some o->s₂.heap.get? b=some o:=λb hb o e=>be.keep b o e (nd _ b hb) (λh=>nomatch h);have hS:(σ.di S ((ts.take i).map V.mt)).L S=some ((ts.take i).map V.mt):=cm _ _ _;have#[us,n',ax,aj]:=bt.L S _ hS;have ay:=aj.length;have ed:us.length=i:=by rw[<- ay];simp;(show(Ar.ji _ _).2.2.elim (λq1=>(iq .C .g .A .a2 (Ar.ji _ _).1 q1)) λq1=>(oa .C .l .aK .A .b0 hi (Ar.ji _ _).1 q1))
    have dr:(ts.take (i+1)).map V.mt=(ts.take i).map V.mt++[.mt [a,b,c]]:=by rw[dz ai,bl];simp
    have ch:us.length+1<=sizeLine:=by rw[ed];show ou (fh .S .b .H .G hz ai)
    have#[bn,bd]:=zU (f:=λx=>x.push w') bt hS ax (aj.append %[bu|0]) (by simp;(show pe .S .e .H .aH .aF hz ai (Ar.ji _ _).1)) (by simp);rw[yh,<- dr]at bn bd;show wpAny _ A.in1 (updateSeq S (·.push w')>>=_) _ _ _;have ne:∀z∈[it,m,t,q],S≠z:=λz hz e=>(own z hz).2.2.1 e.symm;have U:∀z∈[it,m,t,q],∀o,s₂.heap.get? z=some o->(s₂.heap.update S (Obj.mapSeq (·.push w'))).get? z=some o:=λz hz o e=>(uw _ _ (ne z hz)).trans e;apply ab (wpAny_updateSeq ax rfl (ae #[plainId_quiet F.plain_extend_loop _,?_]) (by simp only[dp];(show ba .A .a .S ch)) (by simp only[Array.size_push,dp];(show ba .aQ .a .S ch)));have#[o1,dy,r1]:=bc;show ih (i+1) _ (mr .C .q (.e .C .P) .b3 (.e (.a .A .Z) .F) hk (aa (ba .A .a .A hi)) (aa (ba .S .a .B ai))) (ba .S .a .B ai) bn ((cd.trans be).to bd) #[U _ mm _ (O _ mm _ ag.1),U _ tm _ (O _ tm _ ag.2)] (U _ qm _ (O _ qm _ ar)) #[o1,U _ I _ (O _ I _ dy),r1]
   |_=>show hr.elim
end
section
variable {prog:Program}{w:World}{A:Around}{E:QqV}{s:Shared}
def oW {m t it:Addr}{f:Value}{Q:QqV}(hm:kP s.heap m t it f)
  (h:∀h' n',(∀b o,s.heap.get? b=some o->h'.get? b=some o)->IsL h' s.heap.objs.size #v[] n'->codeAny (model prog w) A.in1 (.builtin "list.extend.loop" #[[.ref s.heap.objs.size,.ref m,.none],[]]) (wants (λr s₂=>r=.none/\Q (.ref s.heap.objs.size) s₂) E) {s with heap:=h'}) :
  wpAny (model prog w) A (call (.type "list") [.ref m]) Q E s:=by
 apply callType_codes (Q₁:=λobj s₁=>obj=.ref s.heap.objs.size/\s₁={s with heap:=s.heap.push {cls:=.type "list",data:=.seq #v[]}}) F.called_list (F.typeCall_list_1 _) F.entry_list_init
  (code_list_new _ #[rfl,rfl]) λobj s₁ h₁=>?_
 have#[rfl,rfl]:=h₁;have B:(s.heap.push {cls:=.type "list",data:=.seq #v[]}).get? s.heap.objs.size=some {cls:=.type "list",data:=.seq #v[]}:=fj _ rfl;apply#[#[_,B,rfl],F.args_list_init_2 _ _,?_];generalize ag:s.heap.objs.size=S at B h;have lt:∀{b:Addr} {o:Obj},s.heap.get? b=some o->S≠b:=λ{b o} e q=>by have:=jz e;rw[ag,q]at this;show kg _ this
 have z:S≠m:=lt hm.1;show wpAny _ _ (do let old←Builtin.List.listItems (.ref S);Builtin.List.listUpdate (.ref S) (λ_=>#v[]);letGo old.toList.reverse;Builtin.List.listExtendWith (.ref S) (.ref m) .none) _ _ _;apply ab ?_;unfold Builtin.List.listItems;apply ab (xd B rfl (ae ?_));show wpAny _ _ (updateSeq S (λ_=>#v[])>>=λ_=>letGo (#v[]:Array Value).toList.reverse>>=λ_=>Builtin.List.listExtendWith (.ref S) (.ref m) .none) _ _ _;apply ab (wpAny_updateSeq B rfl ?_);have O:=eH (Obj.mapSeq (λ_=>(#v[]:Array Value))) B rfl;apply ab (wpAny_letGo ?_);have J:∀b o,s.heap.get? b=some o->((s.heap.push {cls:=.type "list",data:=.seq #v[]}).update S (Obj.mapSeq (λ_=>(#v[]:Array Value)))).get? b=some o:=
  λb o e=>(uw _ _ (lt e)).trans (bw _ e)
 have W:kP ((s.heap.push {cls:=.type "list",data:=.seq #v[]}).update S (Obj.mapSeq (λ_=>(#v[]:Array Value)))) m t it f:=#[J _ _ hm.1,J _ _ hm.2];unfold Builtin.List.listExtendWith;apply ab (i5 (T:="map") #[_,W.1,rfl] ?_);have h1:Builtin.List.listSameRef (.ref S) (.ref m)=false:=by simp[Builtin.List.listSameRef,z]
 have h2:(Value.type "map" == Value.type "list")=false:=by decide
 have h3:(Value.type "map" == Value.type "tuple")=false:=by decide
 simp only[h1,h2,h3,i7,gp,md];apply ab (vS W ?_);apply ab (dw ?_);unfold Builtin.List.listLengthHint;apply ab (gG (T:="map") #[_,W.1,rfl] w9 ?_);show wpAny _ _ (specialOf (Value.ref m) (Str.ofString "__length_hint__")>>=_) _ _ _;apply ab (gG (T:="map") #[_,W.1,rfl] uD ?_);apply ae ?_;show wpAny _ _ (rule "list.extend.makes-room" >>= λ_=>Builtin.List.listTouch (.ref S)>>=λ_=>again (.builtin "list.extend.loop" #[[.ref S,.ref m,.none],[]])) _ _ _;apply ab (sr ?_);apply ab ?_;show wpAny _ _ (updateSeq S (·.push .none)>>=λ_=>updateSeq S (·.pop)) _ _ _;apply ab (wpAny_updateSeq O rfl ?_);have U:=eH (Obj.mapSeq (·.push Value.none)) O rfl;apply wpAny_updateSeq (hz:=by seq_fits) U rfl ?_;have I:=eH (Obj.mapSeq (·.pop)) U rfl;apply ae #[plainId_quiet F.plain_extend_loop _,h _ _ (λb o e=>?_) I];have hb:S≠b:=lt e;show(uw _ _ hb).trans ((uw _ _ hb).trans (J b o e))
end
end MP
end
section
namespace MP
open PySem PyProof.Rows PySem.W
section
variable {G:Stc}{fN fM:Addr}{C:Cal}{sc:Scope}{d:Nat}
def oJ {e:Ex}{xl xm xM:Str}{y:Expr}{p p' ay ap pos I:Pos}(Kg:GOk G)(K:rd G fN fM)(Km:uh G)(Mk:nW G fM)(hd:3<=d)(he:gi G C sc d e y)(bn:noStar [y]=true)
  (hl:sc.names.lookup xl=some .globalImplicit) (dv:jq xl=true) (dr:G.gl xl=some (.type "list"))
  (hm:sc.names.lookup xm=some .globalImplicit) (dn:jq xm=true) (df:G.gl xm=some (.type "map"))
  (hM:sc.names.lookup xM=some .globalImplicit) (dL:jq xM=true) (dy:G.gl xM=some (.ref G.cM)) :
  gi G C sc d (.M e) (.Call (.Name xl p) [.Call (.Name xm p') [.Attribute (.Name xM ay) "_make" ap,y] [] I] [] pos):=λA E env ρ σ Q s c h=>by
 have R:=c.R;have bd:noStar [.Attribute (.Name xM ay) "_make" ap,y]=true:=bn;apply Call_ (nj Kg c.eo R (by rw[c.es];show hl) dv dr (fL (ki (args:=[.Call (.Name xm p') [.Attribute (.Name xM ay) "_make" ap,y] [] I]) rfl pos env) (qc (ki (args:=[.Call (.Name xm p') [.Attribute (.Name xM ay) "_make" ap,y] [] I]) rfl pos env) (spliced_more ?_ rfl))));apply Call_ (nj Kg c.eo R (by rw[c.es];show hm) dn df (fL (ki bd I env) (qc (ki bd I env) (spliced_more ?_ rfl))));apply Attribute_name (nj Kg c.eo R (by rw[c.es];show hM) dL dy (K.make _ _ _ _ _ R.base ?_));have R0:=R.push {cls:=.type "method",data:=.fields #v[.ref fM,.ref G.cM]};have x0:Go [] σ s σ {s with heap:=s.heap.push {cls:=.type "method",data:=.fields #v[.ref fM,.ref G.cM]},toks:=s.toks+1}:=Go.refl.to (Evo.push _ _ _ _);apply spliced_more (rn (he (c.go R0 x0) h) λv σ₁ s₁ w q vr r ag=>?_) ((gr bn).1 env);have#[l,ts,rfl,ai,h3,q]:=q;have rfl:=vr;apply kS ?_;have#[us,n,hL,dV]:=r.L _ _ ai;have hz:=r.Ll _ _ ai;simp only[ak]at hz;have aj:s.heap.get? s.heap.objs.size=none:=none_at_size _;have bu:¬σ.dom s.heap.objs.size:=λdm=>by have#[o,e]:=R.sh dm;rw[aj]at e;cases e
 have ca:(s.heap.push {cls:=.type "method",data:=.fields #v[.ref fM,.ref G.cM]}).get? s.heap.objs.size=some {cls:=.type "method",data:=.fields #v[.ref fM,.ref G.cM]}:=fj _ rfl;have bv:=ag.keep _ _ ca bu (λh=>nomatch h);have bt:¬σ₁.dom s.heap.objs.size:=λdm=>(ag.dom _ dm).elim bu λe=>by rw[ca]at e;cases e
 apply F7 hL.isList λW ar hit z hk=>?_;have r₂:=r.keeps hk;have bl:Go [] σ s σ₁ {s₁ with heap:=W}:=(x0.trans ag).to (Evo.keeps hk);apply kS ?_;apply oW ar λbc n' O ax=>?_;have hS:W.get? W.objs.size=none:=none_at_size _;have ch:At W.objs.size W bc:=At.grow hS O ax;have cd:σ₁.L W.objs.size=none:=by
  cases hq:σ₁.L W.objs.size with
  |none=>rfl
  |some ys=>have#[o,ho,_]:=r₂.sE hq;rw[hS]at ho;cases ho
 have ck:=r₂.putL (ws:=[]) (xs:=[]) ch (λ_=>hS) ax .nil (bz rfl);have bg:Evo [] σ₁ W (σ₁.di W.objs.size []) bc:=Evo.putL ch (λ_=>hS) [];have old:∀b,s₁.heap.objs.size<=b->s.heap.get? b=none/\¬σ₁.dom b/\G.hb.get? b=none:=λb hb=>by
  have e1:s₁.heap.get? b=none:=sd hb;apply#[(x0.trans ag).new e1,λdm=>?_,?_]
  ·have#[o,e]:=r.sh dm;rw[e1]at e;cases e
  ·cases hq:G.hb.get? b with
   |none=>rfl
   |some o=>have:=r.base _ _ hq;rw[e1]at this;cases this
 have be:s.heap.objs.size<s₁.heap.objs.size:=jz bv;have own:∀b∈[s₁.heap.objs.size,s₁.heap.objs.size+2,s₁.heap.objs.size+1,s.heap.objs.size],s.heap.get? b=none/\¬σ₁.dom b/\b≠W.objs.size/\G.hb.get? b=none:=λb hb=>by
  have cb:b<W.objs.size:=by
   simp only[cw,zy,or_false]at hb;rcases hb with rfl|rfl|rfl|rfl<;>(first|show ba .B .y .aV z Ar.y|show ba (.l .aV .B) .y .aV z Ar.y|show ba .V .y .aV z Ar.y|show fh .B .n (.e .B (.a .C (.n 3))) .G z be Ar.y|omega)
  by_cases J:s₁.heap.objs.size<=b
  ·have#[o1,o2,o3]:=old b J;apply#[o1,o2,kj cb,o3]
  ·simp only[cw,zy,or_false]at hb;rcases hb with rfl|rfl|rfl|rfl
   ·(show#[(False.elim (fc .ff .j (.j .A .A) J)),#[(λq1=>(fc .ff .j (.j .A .A) J)),#[(ba (.u .A .B) .r .aV z),(False.elim (fc .ff .j (.j .A .A) J))]]])
   ·(show#[(False.elim (fc .ff .j (.j .A .aV) J)),#[(λq1=>(fc .ff .j (.j .A .aV) J)),#[(ba (.u .aV .B) .r .aV z),(False.elim (fc .ff .j (.j .A .aV) J))]]])
   ·(show#[(False.elim (fc .ff .j (.j .A .M) J)),#[(λq1=>(fc .ff .j (.j .A .M) J)),#[(ba (.u .M .B) .r .aV z),(False.elim (fc .ff .j (.j .A .M) J))]]])
   ·apply#[aj,bt,kj cb,?_];cases hq:G.hb.get? s.heap.objs.size with
    |none=>rfl
    |some o=>have:=R.base _ _ hq;rw[aj]at this;cases this
 have dx:l≠W.objs.size:=λe=>by rw[e,cd]at ai;cases ai
 have#[oi,dc,ri]:=hit;have da:(s₁.heap.objs.size+2:Nat)≠s₁.heap.objs.size:=by(show nt (.u .aV .A) .h)
 have cx:(s₁.heap.objs.size+1:Nat)≠s₁.heap.objs.size:=by(show nt (.u .M .A) .h)
 have ct:(s.heap.objs.size:Nat)≠s₁.heap.objs.size:=by(show ba (.u .A .B) .w .B be)
 apply AJ (it:=s₁.heap.objs.size) (m:=s₁.heap.objs.size+2) (t:=s₁.heap.objs.size+1) (q:=s.heap.objs.size) (S:=W.objs.size) (l:=l) (σ₀:=σ) (σ:=σ₁) (s:=s) (d:=d-3) (A:=A.in1) Kg K Km Mk ((AOk.less c.ao (d':=d-3+2+1) (ba (.k (.a .aV .U) .B) .a (.e (.a .A (.n 3)) .B) (aa (fc (.k (.n 3) .A) .a (.k (.n 3) .A) hd)))).ins (k:=1) (zv (.k .U (.n 30)) .h)) h3 dx ai hz own da cx ct
  (λs' R' x'=>#[rfl,_,_,q _ cd,.L _,R',x']) ts.length 0 _ rfl (bb _) (by simpa using ck) (by simpa using bl.to bg) #[O _ _ ar.1,O _ _ ar.2] (O _ _ (hk _ _ bv)) #[oi,O _ _ dc,ri]
end
variable {k:Nat}{ts:List (List Int)}
def DU {a b:List Int}(h:ke a b=true):ke b a=false:=by
 induction a generalizing b with
 |nil=>cases h
 |cons x a W =>
  cases b with
  |nil=>rfl
  |cons y b =>
   have h:(if x=y then ke a b else decide (x<y))=true:=h;show(if y=x then ke b a else decide (y<x))=false;by_cases c:x=y
   ·rw[cn c]at h;rw[cn c.symm];show W h
   ·rw[br c]at h;rw[br λq=>c q.symm];have h:=cg h;show fw (tq .aT .a .b6 h)
def MD {a b c:List Int}(J:a.length=b.length)(h2:b.length=c.length)(g1:ke b a=false)(g2:ke c b=false):ke c a=false:=by
 induction a generalizing b c with
 |nil=>cases c<;>rfl
 |cons x a I =>
  cases b with
  |nil=>cases J
  |cons y b =>
   cases c with
   |nil=>rfl
   |cons z c =>
    have g1:(if y=x then ke b a else decide (y<x))=false:=g1;have g2:(if z=y then ke c b else decide (z<y))=false:=g2;show(if z=x then ke c a else decide (z<x))=false;by_cases U:y=x
    ·subst U;rw[cn rfl]at g1;by_cases W:z=y
     ·rw[cn W]at g2 ⊢;show I (nu J) (nu h2) g1 g2
     ·rw[br W]at g2 ⊢;show g2
    ·rw[br U]at g1;have g1:=xq g1;by_cases W:z=y
     ·subst W;rw[br U];show fw g1
     ·rw[br W]at g2;have g2:=xq g2;rw[br ((pv U).elim (λO=>(iU (.iu .A .B) .c (.ig .C .B) (.il .C .B) g1 O)) λO=>(iU (.iu .A .B) .b (.ig .A .C) (.il .B .C) g2 O))];show fw (iU .aT .b (.ig .C .B) (.ig .A .C) g1 g2)
abbrev itT (k:Nat)(ts:List (List Int))(i:Nat):List Int:=ts.getD i (List.replicate k 0)
abbrev ltT (k:Nat)(ts:List (List Int))(i j:Nat):Bool:=ke (itT k ts i) (itT k ts j)
def fZ (h:∀t∈ts,t.length=k)(i:Nat):(itT k ts i).length=k:=by
 unfold itT;rw[jl];rcases pf i ts.length with q|q
 ·rw[aq q];show h _ (cj _)
 ·rw[pz q];show List.length_replicate
def MA (h:∀t∈ts,t.length=k):LtT (ltT k ts):=
 #[λa b=>DU,λa b c=>MD ((fZ h _).trans (fZ h _).symm) ((fZ h _).trans (fZ h _).symm)]
abbrev TpI (h:Heap)(v:Value)(ns:List Int):Prop:=∃a ws n,v=.ref a/\IsT h a ws.toArray n/\IntsAre ws ns
section
variable {prog:Program}{w:World}{A:Around}{E:QqV}{s:Shared}
def MC {Q:Bool->Shared->Prop}{ns ms:List Int}{ws us:List Value}(J:IntsAre ws ns)(i:Nat)(O:IntsAre us ms)(hl:ns.length=ms.length)(U:Q (ke ns ms) s):KatLex prog w A true false Q (ws.zip us) i s:=by
 induction J generalizing us ms i with
 |nil =>
  cases O with
  |nil=>show kat_nil U
  |cons=>cases hl
 | @cons a z ws ns J I =>
  cases O with
  |nil=>cases hl
  | @cons b B us ms O =>
   have U:Q (if a=b then ke ns ms else decide (a<b)) s:=U;apply kat_cons (wpAny_eqBool_int ?_);by_cases W:a=b
   ·rw[cn W]at U;rw[show(a==b)=true from fy.mpr W];show kat_yes (I (i+1) O (nu hl) U)
   ·rw[br W]at U;rw[show(a==b)=false from mn.mpr W];apply kat_no ?_;cases i with
    |zero=>show oneLt_int U
    |succ i=>show kat_one _ _ (lt_int U)
def kat_tups {h:Heap}{vs:List Value}(hl:vs.length=ts.length)(J:∀(i:Nat) v t,vs[i]?=some v->ts[i]?=some t->TpI h v t/\t≠[]):∃U,KatTups h vs U/\U.length=vs.length/\∀v∈U,∃n t,v=Value.int n t:=by
 induction vs generalizing ts with
 |nil=>refine#[[],.nil,rfl,λv W=>nomatch W]
 |cons v vs B =>
  cases ts with
  |nil=>cases hl
  |cons t ts =>
   have#[U,h1,h2,z]:=B (nu hl) λi v t e1 e2=>J (i+1) v t e1 e2;have#[#[a,ws,n,rfl,g,hi],O]:=J 0 _ _ rfl rfl;cases hi with
   |nil=>show(O rfl).elim
   | @cons x I ws ns hi =>
    apply#[.int x I::U,.cons g rfl rfl rfl h1,dj (·+1) h2,λv W=>?_];rcases cw.mp W with rfl|W
    ·apply#[_,_,rfl]
    ·show z v W
def tK {l:Addr}{ws:List Value}{Q:QqV}(hl:s.heap.IsList l ws.toArray)(hz:ws.length<=sizeLine)(O:ws.length=ts.length)(hk:∀t∈ts,t.length=k)(k0:k≠0)(ht:∀(i:Nat) v t,ws[i]?=some v->ts[i]?=some t->TpI s.heap v t)
  (h:∀os h' c e,os.Perm (List.range ts.length)->Srt (ltT k ts) os->(∀b o,s.heap.get? b=some o->h'.get? b=some o)->s.heap.get? c=none->h'.get? c=some (seqObj "list" (os.map λi=>ws.getD i Value.none).toArray e)->Q (.ref c) {s with heap:=h'}) :
  wpAny (model prog w) A (call (.builtin "sorted") [.ref l]) Q E s:=by
 apply Calls.call_function_entry kind_sorted plain_sorted entry_sorted (args_sorted1 _) ?_;unfold Builtin.«sorted»;apply ab (m:=checkCount "sorted" 1 1 _) (ae ?_);apply ab (collect_list hl ?_ (by simpa using hz));apply ab (wpAny_newList ?_ (by simpa using hz));have J:((s.heap.push (seqObj "list" #v[] 0)).update s.heap.objs.size (Obj.mapSeq (·++ws.toArray))).objs.size=s.heap.objs.size+1:=by
  rw[Heap.size_update,size_push']
 have ag:(((s.heap.push (seqObj "list" #v[] 0)).update s.heap.objs.size (Obj.mapSeq (·++ws.toArray))).push (seqObj "list" ws.toArray 0)).get? (s.heap.objs.size+1)=some (seqObj "list" ws.toArray 0):=by
  rw[<- J];show fj _ rfl
 have keep:∀b o,s.heap.get? b=some o->(((s.heap.push (seqObj "list" #v[] 0)).update s.heap.objs.size (Obj.mapSeq (·++ws.toArray))).push (seqObj "list" ws.toArray 0)).get? b=some o:=λb o q=>by
  have I:b<s.heap.objs.size:=jz q;rw[Heap.get?_push_ne _ _ _ (by rw[J];show kj (Nat.lt_succ_of_lt I)),Heap.get?_update_ne _ _ _ _ (kj I),Heap.get?_push_ne _ _ _ (kj I)];show q
 show wpAny _ _ _ _ _ {s with heap:=((s.heap.push (seqObj "list" #v[] 0)).update s.heap.objs.size (Obj.mapSeq (·++ws.toArray))).push (seqObj "list" ws.toArray 0)};rw[J];have U:s.heap.get? (s.heap.objs.size+1)=none:=sd (dI _);have old:∀{H:Heap},(∀b o,b≠s.heap.objs.size+1->(((s.heap.push (seqObj "list" #v[] 0)).update s.heap.objs.size (Obj.mapSeq (·++ws.toArray))).push (seqObj "list" ws.toArray 0)).get? b=some o->H.get? b=some o)->∀b o,s.heap.get? b=some o->H.get? b=some o:=λz b o e =>
  z b o (λq=>by rw[q,U]at e;cases e) (keep b o e)
 apply ab (dw (oe slot_list_sort #[_,ag,rfl] entry_list_sort ?body (args_list_sort _)))
 case body =>
  apply kI (s:={s with heap:=((s.heap.push (seqObj "list" #v[] 0)).update s.heap.objs.size (Obj.mapSeq (·++ws.toArray))).push (seqObj "list" ws.toArray 0)}) (kd:=tuples' true) (MA hk) ag hz (λH z h2 Q' hq=>?_) (λH z i j C hi hj hc=>?_) λos h' e hp so z ao=>?_
  ·have o:=old z;have#[fs,f1,f2,f3]:=kat_tups (h:=H) O λi v t e1 e2=>by
    have#[a,us,n,rfl,g,hi]:=ht i v t e1 e2;apply#[#[a,us,n,rfl,o _ _ g,hi],λq=>?_];have:=hk t (fe e2);rw[q]at this;show k0 this.symm
   apply kat_kind (T:=.type "int") f1 (iq .D .d (.k .W .B) .C h2 f2) (λv hv=>?_) (by decide +kernel) ?_
   ·have#[n,t,rfl]:=f3 v hv;show Looks.of_pure rfl
   ·rw[show(Value.type "int" != Value.type "tuple")=true by decide +kernel];show hq
  ·have o:=old z;have at_:∀{i},i<ws.length->TpI H (ws.getD i Value.none) (itT k ts i):=λ{i} hi=>by
    have e1:=aq hi;have e2:=aq (show i<ts.length by show fh .B .b .aL .G O hi);have#[a,us,n,e,g,aj]:=ht i _ _ e1 e2;unfold itT;rw[jl,jl,e1,e2];apply#[a,us,n,e,o _ _ g,aj]
   have#[a,us,n,ea,ga,ia]:=at_ hi;have#[b,zs,m,eb,gb,ib]:=at_ hj;show wpAny _ _ (keyLt' (tuples' true) (ws.getD i Value.none) (ws.getD j Value.none)) _ _ _;rw[ea,eb];apply kat_lt ga rfl gb rfl ?_;have ai:(itT k ts i).length=(itT k ts j).length:=(fZ hk _).trans (fZ hk _).symm;have hd:decide (us.toArray.size<zs.toArray.size)=false:=fw (by rw[dp,dp,ia.length,ib.length,ai];show kg _);rw[hd];show MC ia 0 ib ai hc
  ·apply#[_,rfl,ae #[_,rfl,h os h' _ e (by rw[<- O];show hp) so (old z) U ao]]
end
end MP
end
section
namespace MP
open PySem PyProof.Rows
section
variable {e:Ex}{x:Str}{y:Expr}{p pos:Pos}
variable {G:Stc}{C:Cal}{sc:Scope}{d:Nat}
def qS {k:BF}{id:String}{W:Addr->St->(V->St->Prop)->Prop}(K:GOk G)(z:gi G C sc d e y)(O:noStar [y]=true)(J:sc.names.lookup x=some .globalImplicit)(B:jq x=true)(I:G.gl x=some (.builtin id))
  (hk:∀vs σ Q,tF k vs σ Q->on1 vs λv=>ym v λa=>W a σ Q)
  (hc:∀{A E σ s a Q},AOk A d->Rel G σ s.heap->W a σ Q->wpAny G.M A (call (.builtin id) [.ref a]) (jx G [] σ s Q) E s) :
  gi G C sc d (.bf k %[e|0]) (.Call (.Name x p) [y] [] pos):=λA E env ρ σ Q s c h=>by
 apply gX (P:=λvs σ=>tF k vs σ Q) K O (jv z oq (gr O).1) J B I c h λvs σ₁ s₁ ws q vr r U=>?_;have#[v,rfl,q]:=iL (vs:=vs) (hk vs σ₁ Q q);have#[a,rfl,q]:=ue (v:=v) q;have#[w,rfl,rfl]:=vr.one;show U.back (hc c.ao r q)
def CF (K:GOk G)(he:gi G C sc d e y)(ai:noStar [y]=true)(hx:sc.names.lookup x=some .globalImplicit)(hn:jq x=true)(hv:G.gl x=some (.builtin "max")) :
  gi G C sc d (.bf .maxL %[e|0]) (.Call (.Name x p) [y] [] pos):=qS (k:=.maxL) (W:=λa σ Q=>∃ns:List Int,σ.L a=some (ns.map V.int)/\ns≠[]/\∀m∈ns,(∀n∈ns,n<=m)->Q (.int m) σ) K he ai hx hn hv (λ_ _ _ q=>q) @λA E σ s a Q ao R q=>by
 have#[ns,e,aj,q]:=q;have#[ws,n,hl,ag]:=R.L _ _ e;have hi:=qb ag;have#[xs,ex]:=hi.allInts.items;have O:ns=xs.toList.map (·.1):=by
  rw[<- hi.numsOf,<- nums_intItems,<- ex]
 have U:0<xs.size:=by
  have h3:=List.length_pos_iff.mpr aj;rw[O,ak,Array.length_toList]at h3;show h3
 have z:=hl.isList;rw[ex]at z;apply max_intList ao.handled z U λv h' tk hv hk=>?_;have zz:=intItems_at hv;clear hv;have#[t,rfl]:=zz;have#[h1,h2]:=argBest_gt (numAt xs) (xs.size-1);apply#[_,_,q _ ?_ λa ha=>?_,.int _ _,R.keeps hk,Go.refl.to (Evo.keeps hk)]
 ·rw[O,numAt_eq];show getD_mem (by rw[ak,Array.length_toList];(show fh .B .b .J (.e .S .B) h1 (aa (fc .I .a .D U))))
 ·rw[O]at ha;have#[j,hj,rfl]:=mem_getD ha;rw[ak,Array.length_toList]at hj;rw[<- numAt_eq];show h2 j (fh .A .d .G (.e .P .C) hj (aa (fc .I .a .D U)))
def GP (K:GOk G)(he:gi G C sc d e y)(J:noStar [y]=true)(z:sc.names.lookup x=some .globalImplicit)(hn:jq x=true)(hv:G.gl x=some (.builtin "sum")) :
  gi G C sc d (.bf .sum %[e|0]) (.Call (.Name x p) [y] [] pos):=qS (k:=.sum) (W:=λa σ Q=>∃ns:List Int,σ.L a=some (ns.map V.int)/\Q (.int ns.sum) σ) K he J z hn hv (λ_ _ _ q=>q) @λA E σ s a Q ao R q=>by
 have#[ns,e,q]:=q;have#[ws,n,hl,O]:=R.L _ _ e;have B:=qb O;have#[xs,ex]:=B.allInts.items;have I:ns=xs.toList.map (·.1):=by
  rw[<- B.numsOf,<- nums_intItems,<- ex]
 have U:=hl.isList;rw[ex]at U;have es:preSum (numAt xs) xs.size=ns.sum:=by rw[preSum_eq,jW (by simp),I]
 apply sum_intListG ao.handled U λh' tk t' hk=>?_;rw[es];apply#[.int ns.sum,σ,q,.int _ _,R.keeps hk,Go.refl.to (Evo.keeps hk)]
def VRs.pick {h:Heap}{f:Nat->V}{g:Nat->Value}:(l:List Nat)->(∀i∈l,VR G h (f i) (g i))->VRs G h (l.map f) (l.map g)
 | []=>λ_=>.nil
 |i::l=>λhl=>.cons (hl i (.head _)) (VRs.pick l λj W=>hl j (.tail _ W))
def vJ (K:GOk G)(he:gi G C sc d e y)(ag:noStar [y]=true)(hx:sc.names.lookup x=some .globalImplicit)(hn:jq x=true)(hv:G.gl x=some (.builtin "sorted")) :
  gi G C sc d (.bf .sorted %[e|0]) (.Call (.Name x p) [y] [] pos):=qS (k:=.sorted) (W:=λa σ Q=>∃(ts:List (List Int)) (k:Nat),k≠0/\σ.L a=some (ts.map iT)/\(∀t∈ts,t.length=k)/\∀J:List (List Int),J.Perm ts->J.Pairwise (λx y=>ke y x=false)->∀c,σ.L c=Option.none->Q (.L c) (σ.di c (J.map iT))) K he ag hx hn hv (λ_ _ _ q=>q) @λA E σ s a Q ao R q=>by
 have#[ts,k,k0,e,hk,q]:=q;have#[ws,n,hl,O]:=R.L _ _ e;have U:ws.length=ts.length:=by have:=O.length;simpa using this.symm
 have hz:=R.Ll _ _ e;have B:ts.length<=bx:=by rwa [ak]at hz
 apply tK hl.isList (by rw[U];show ou B) U hk k0 (λi v t hv ht=>?_) λos h' c e' hp so keep I hc=>?_
 ·have#[w,hw,vr]:=O.get (i:=i) (v:=iT t) (by rw[cy,ht];rfl);rw[hv]at hw;cases hw;have#[a,us,n,rfl,g,r]:=vr;apply#[a,us,n,rfl,g,qb (ns:=t) r]
 ·have hm:∀i∈os,i<ts.length:=λi hi=>gj.mp (hp.mem_iff.mp hi);have z:(os.map (itT k ts)).Perm ts:=by
   have h1:=hp.map (itT k ts);have h2:(List.range ts.length).map (itT k ts)=ts:=by
    apply List.ext_getElem ?_ ?_
    ·simp
    ·intro i h1 h2;simp at h1;simp[itT,List.getD,h1]
   rwa [h2]at h1
  apply AL (vs:=(os.map (itT k ts)).map iT) (ws:=os.map λi=>ws.getD i Value.none) (n:=e') R .refl I keep hc ?_ ?_ (q _ z (gT.mpr so))
  ·rw[jf];apply VRs.pick os λi hi=>?_;have e1:=aq (hm i hi);have#[w,hw,vr]:=O.get (i:=i) (v:=iT (ts[i]'(hm i hi))) (by rw[cy,e1];rfl);show VR G _ (iT (itT k ts i)) (ws.getD i Value.none);unfold itT;rw[jl,jl,e1,hw];show vr
  ·rw[ak,z.length_eq];show B
end
section
variable {G:Stc}{C:Cal}{sc:Scope}{d:Nat}
end
section
variable {G:Stc}{C:Cal}{sc:Scope}{d:Nat}
end
end MP
end
section
set_option genInjectivity false
set_option genSizeOf false
set_option backward.match.sparseCases false
namespace MP
open PySem PyProof.Rows PySem.W
section
variable {pos:Pos}{b:Ex}{y:Expr}
variable {G:Stc}{C:Cal}{sc:Scope}{d:Nat}
def CK:gi G C sc d .dct0 (.Dict [] [] pos):=λ_ _ _ _ _ _ _ c h =>
 wpAny_Dict_empty #[.dct _,_,h _ c.R.freshD,.dct _,c.R.putD (At.push _) (λ_=>none_at_size _) (λb f e=>c.R.DO (none_at_size _) e rfl) (Heap.DictOf.new _) .nil (by simp[bx]),Go.refl.to (Evo.putD (At.push _) (λ_=>none_at_size _) _)]
def GU {op:BoolOp}(h:gi G C sc d b y):gi G C sc d b (.BoolOp op [y] pos):=λ_ _ _ _ _ _ _ c q=>BoolOp_one (h c q)
def A7 (h:uv G C sc d b y):uv G C sc d b (.BoolOp .And [y] pos):=λ_ _ _ _ _ _ _ c q =>
 isTrue_and (oN (h c q) λt σ₁ s₁ q r x=>by
  cases t with
  |true=>show isTrue_and_nil (mv.back x (mv.here q r))
  |false=>show mv.back x (mv.here q r))
def A6 (h:uv G C sc d b y):uv G C sc d b (.BoolOp .Or [y] pos):=λ_ _ _ _ _ _ _ c q =>
 isTrue_or (oN (h c q) λt σ₁ s₁ q r x=>by
  cases t with
  |false=>show isTrue_or_nil (mv.back x (mv.here q r))
  |true=>show mv.back x (mv.here q r))
end
structure Tab where
 cap:Str->Bool
 gl:List (Str×Value)
 attrs:List Str
 meths:List (Nat×Str)
 fns:List (Nat×Addr)
 cM:Addr
 cS:Addr
structure TabOk (G:Stc)(T:Tab)(C:Cal)(d:Nat):Prop where
 g:GOk G
 gl:∀x v,T.gl.lookup x=some v->G.gl x=some v
 attrs:G.attrs=T.attrs
 cap:G.cap=T.cap
 cal:fI G (λk=>T.fns.lookup k) C (d-1)
 lam:nX G C (d-1)
 meth:∀k name,T.meths.lookup k=some name->∃f,T.fns.lookup k=some f/\MethAt G name f
 init:∃f,T.fns.lookup 0=some f/\o9 G f
 cM:G.cM=T.cM
 cS:G.cS=T.cS
 mt:∃fN fM,rd G fN fM/\qG G fN/\nW G fM
 ma:uh G
 unp:BD G
 d3:3<=d
abbrev gB (i:Nat)(x:Expr):Option Expr:=match i with|0=>(vw x).b.1|_=>(vw x).b.2
abbrev kq (x:Expr):List Comprehension×Scope:=(vw x).g
abbrev hdG:List Comprehension->Expr×Expr×List Expr
 |g::_=>(g.target,g.iter,g.ifs)
 | []=>(default,default,[])
abbrev MG (x:Expr):Bool:=iN 0 x&&!(kids x).isEmpty
abbrev gN (x:Expr):BoolOp×List Expr×Pos:=((vw x).op,kids x,x.pos)
def OM {x:Expr}(h:MG x=true):∃z r,(gN x).2.1=z::r/\x=.BoolOp (gN x).1 (z::r) (gN x).2.2:=by
 cases x
 case BoolOp =>
  cases values with
  |nil=>cases h
  |cons z r=>refine#[z,r,rfl,rfl]
 all_goals show Bool.noConfusion (show false=true from h)
abbrev many (x:Expr):Bool:=!(kids x).tail.tail.isEmpty
abbrev bo (op:BoolOp)(a b:Expr)(p:Pos)(m:Bool):Expr:=.BoolOp op (a::bif m then (gN b).2.1 else [b]) p
abbrev DL (op:BoolOp)(b:Expr)(p:Pos)(m:Bool):Bool:=!m||(MG b&&(decide ((gN b).1=op)&&decide ((gN b).2.2=p)))
abbrev hint (op:BoolOp)(x:Expr):Expr:=bif many x then .BoolOp op (kids x).tail x.pos else kid 1 x
def v8 {op:BoolOp}{b:Expr}{p:Pos}:(m:Bool)->DL op b p m=true->m=false\/∃z r,b=.BoolOp op (z::r) p/\∀a,bo op a b p m=.BoolOp op (a::z::r) p
 |false,_=>.inl rfl
 |true,h=>by
  have#[h0,W]:=band (show(MG b&&(decide ((gN b).1=op)&&decide ((gN b).2.2=p)))=true from h);have#[W,O]:=band W;have U:=cg W;clear W;have rfl:=U;have rfl:=cg O;have#[z,r,e,J]:=OM h0;show .inr #[z,r,J,λa=>dj (λl=>Expr.BoolOp (gN b).1 (a::l) (gN b).2.2) e]
abbrev glob (T:Tab)(sc:Scope)(x:Str)(v:Value):Bool:=decide (sc.names.lookup x=some .globalImplicit)&&(jq x&&decide (T.gl.lookup x=some v))
abbrev rH (x:Expr):Bool:=!(iN 7 x)
abbrev qU (sc:Scope):Tg->Expr->Expr
 |.v i=>λx=>.Name (yn sc i) x.pos
 |.T is=>λx=>.Tuple (ud sc is (kids x)) (exK x) x.pos
abbrev DK (T:Tab)(sc:Scope):Tg->Expr->Bool
 |.v i=>λ_=>ownAt T.cap sc i
 |.T is=>λx=>rA T.cap sc is
abbrev Exs.isNil:Exs->Bool
 |.nil=>true
 |_=>false
abbrev FH:BF->Nat
 |.len=>1
 |.divmod=>2
 |.set=>0
 |.maxL=>1
 |.sum=>1
 |.sorted=>1
abbrev Exs.len:Exs->Nat
 |.nil=>0
 |.cons _ es=>es.len+1
abbrev zG:BF->Value
 |.len=>.builtin "len"
 |.divmod=>.builtin "divmod"
 |.maxL=>.builtin "max"
 |.sum=>.builtin "sum"
 |.sorted=>.builtin "sorted"
 |.set=>.type "set"
abbrev IT:BF->Bool
 |_=>false
abbrev isSort:BM->Bool
 |.sort=>true
 |_=>false
abbrev nm (x:Expr):Expr:=.Name (om x) x.pos
abbrev Ex.isNone:Ex->Bool
 |.none=>true
 |_=>false
mutual
noncomputable def reE (T:Tab):Ex->Scope->Expr->Expr
 |.none=>λ_ x=>.Constant .none (exK x) x.pos
 |.bool b=>λ_ x=>.Constant (.bool b) (exK x) x.pos
 |.int i=>λ_ x=>.Constant (.int i) (exK x) x.pos
 |.str t=>λ_ x=>.Constant (.str t) (exK x) x.pos
 |.l i=>λsc x=>.Name (yn sc i) x.pos
 |.b op a b=>λsc x=>.BinOp (reE T a sc (kid 0 x)) (binOp op) (reE T b sc (kid 1 x)) x.pos
 |.neg a=>λsc x=>.UnaryOp .USub (reE T a sc (kid 0 x)) x.pos
 |.not a=>λsc x=>.UnaryOp .Not (reE T a sc (kid 0 x)) x.pos
 |.and a b=>λsc x=>bo .And (reE T a sc (kid 0 x)) (reE T b sc (hint .And x)) x.pos (many x)
 |.or a b=>λsc x=>bo .Or (reE T a sc (kid 0 x)) (reE T b sc (hint .Or x)) x.pos (many x)
 |.c op a b=>λsc x=>.Compare (reE T a sc (kid 0 x)) [kN op] [reE T b sc (kid 1 x)] x.pos
 |.I c a b=>λsc x=>.IfExp (reE T c sc (kid 0 x)) (reE T a sc (kid 1 x)) (reE T b sc (kid 2 x)) x.pos
 |.L es=>λsc x=>.List (vq T es sc (kids x)) x.pos
 |.T es=>λsc x=>.Tuple (vq T es sc (kids x)) (exK x) x.pos
 |.dct0=>λ_ x=>.Dict [] [] x.pos
 |.call _ es=>λsc x=>.Call (nm (kid 0 x)) (vq T es sc (kids x).tail) [] x.pos
 |.meth e m es=>λsc x=>.Call (.Attribute (reE T e sc (kid 0 (kid 0 x))) ((T.meths.lookup m).getD "") (kid 0 x).pos) (vq T es sc (kids x).tail) [] x.pos
 |.attr e i=>λsc x=>.Attribute (reE T e sc (kid 0 x)) ((T.attrs[i]?).getD "") x.pos
 |.g e=>λsc x=>.Attribute (reE T e sc (kid 0 x)) "get" x.pos
 |.h e=>λsc x=>.Attribute (reE T e sc (kid 0 x)) "__contains__" x.pos
 |.bm k e es=>λsc x=>.Call (.Attribute (reE T e sc (kid 0 (kid 0 x))) (sL k) (kid 0 x).pos) (vq T es sc (kids x).tail) [] x.pos
 |.bf k es=>λsc x=>.Call (nm (kid 0 x)) (vq T es sc (kids x).tail) [] x.pos
 |.w f es=>λsc x=>.Call (.Name (yn sc f) (kid 0 x).pos) (vq T es sc (kids x).tail) [] x.pos
 |.sub e i=>λsc x=>.Subscript (reE T e sc (kid 0 x)) (reE T i sc (kid 1 x)) x.pos
 |.slc e lo hi=>λsc x=>.Subscript (reE T e sc (kid 0 x)) (.Slice ((gB 0 (kid 1 x)).map (reE T lo sc)) ((gB 1 (kid 1 x)).map (reE T hi sc)) none (kid 1 x).pos) x.pos
 |.K _ it t cs more=>λsc x=>.ListComp (D8 T more (tj (kq x).2 sc) (kid 0 x))
   (#[qU (tj (kq x).2 sc) t (hdG (kq x).1).1,tW T it sc (hdG (kq x).1).2.1,vq T cs (tj (kq x).2 sc) (hdG (kq x).1).2.2,0]::D6 T more (tj (kq x).2 sc) (kq x).1.tail) (kq x).2 x.pos
 |.n es=>λsc x=>.Call (nm (kid 0 x)) (vq T es sc (kids x).tail) [] x.pos
 |.N a b c=>λsc x=>.Call (nm (kid 0 x)) [reE T a sc (kid 1 x),reE T b sc (kid 2 x),reE T c sc (kid 3 x)] [] x.pos
 |.M e=>λsc x=>.Call (nm (kid 0 x)) [.Call (nm (kid 0 (kid 1 x))) [.Attribute (nm (kid 0 (kid 1 (kid 1 x)))) "_make" (kid 1 (kid 1 x)).pos,reE T e sc (kid 2 (kid 1 x))] [] (kid 1 x).pos] [] x.pos
 |.dead=>λ_ x=>x
noncomputable def vq (T:Tab):Exs->Scope->List Expr->List Expr
 |.nil=>λ_ _=>[]
 |.cons e es=>λsc l=>reE T e sc (l.headD default)::vq T es sc l.tail
noncomputable def tW (T:Tab):It->Scope->Expr->Expr
 |.rng1 e=>λsc x=>.Call (nm (kid 0 x)) [reE T e sc (kid 1 x)] [] x.pos
 |.rng2 e f=>λsc x=>.Call (nm (kid 0 x)) [reE T e sc (kid 1 x),reE T f sc (kid 2 x)] [] x.pos
 |.enum e=>λsc x=>.Call (nm (kid 0 x)) [reE T e sc (kid 1 x)] [] x.pos
 |.seq e=>λsc x=>reE T e sc x
noncomputable def D6 (T:Tab):Gens->Scope->List Comprehension->List Comprehension
 |.elt _=>λ_ _=>[]
 |.cons it t cs more=>λsc l=>#[qU sc t (hdG l).1,tW T it sc (hdG l).2.1,vq T cs sc (hdG l).2.2,0]::D6 T more sc l.tail
noncomputable def D8 (T:Tab):Gens->Scope->Expr->Expr
 |.elt e=>λsc x=>reE T e sc x
 |.cons _ _ _ more=>λsc x=>D8 T more sc x
end
abbrev tOk:Ex->Bool
 |.not a=>tOk a
 |.and a b=>tOk a&&tOk b
 |.or a b=>tOk a&&tOk b
 |.I _ a b=>tOk a&&tOk b
 |.c _ _ _=>true
 |.l _=>true
 |.attr _ _=>true
 |.w _ _=>true
 |.sub _ _=>true
 |.b _ _ _=>true
 |.dead=>true
 |_=>false
mutual
noncomputable def okE (T:Tab):Ex->Scope->Expr->Bool
 |.none=>λ_ _=>true
 |.bool _=>λ_ _=>true
 |.int _=>λ_ _=>true
 |.str _=>λ_ _=>true
 |.l i=>λsc _=>kindAt isVar sc i
 |.b _ a b=>λsc x=>okE T a sc (kid 0 x)&&okE T b sc (kid 1 x)
 |.neg a=>λsc x=>okE T a sc (kid 0 x)
 |.not a=>λsc x=>okE T a sc (kid 0 x)
 |.and a b=>λsc x=>okE T a sc (kid 0 x)&&(okE T b sc (hint .And x)&&DL .And (reE T b sc (hint .And x)) x.pos (many x))
 |.or a b=>λsc x=>okE T a sc (kid 0 x)&&(okE T b sc (hint .Or x)&&DL .Or (reE T b sc (hint .Or x)) x.pos (many x))
 |.c op a b=>λsc x=>okE T a sc (kid 0 x)&&(okE T b sc (kid 1 x)&&!(behindInMarks (kN op) (reE T b sc (kid 1 x))))
 |.I c a b=>λsc x=>tOk c&&(okE T c sc (kid 0 x)&&(okE T a sc (kid 1 x)&&okE T b sc (kid 2 x)))
 |.L es=>λsc x=>noStar (vq T es sc (kids x))&&oP T es sc (kids x)
 |.T es=>λsc x=>noStar (vq T es sc (kids x))&&oP T es sc (kids x)
 |.dct0=>λ_ _=>true
 |.call f es=>λsc x=>(T.fns.lookup f).any (λa=>glob T sc (om (kid 0 x)) (.ref a))&&(noStar (vq T es sc (kids x).tail)&&oP T es sc (kids x).tail)
 |.meth e m es=>λsc x=>(T.meths.lookup m).isSome&&(okE T e sc (kid 0 (kid 0 x))&&(um (reE T e sc (kid 0 (kid 0 x)))&&(((kid 0 x).pos.endLine==x.pos.line)&&(decide ((vq T es sc (kids x).tail).length<30) &&
   (noStar (vq T es sc (kids x).tail)&&oP T es sc (kids x).tail)))))
 |.attr e i=>λsc x=>(T.attrs[i]?).isSome&&(um (reE T e sc (kid 0 x))&&okE T e sc (kid 0 x))
 |.g e=>λsc x=>um (reE T e sc (kid 0 x))&&okE T e sc (kid 0 x)
 |.h e=>λsc x=>um (reE T e sc (kid 0 x))&&okE T e sc (kid 0 x)
 |.bm k e es=>λsc x=>(!isSort k||es.isNil)&&(okE T e sc (kid 0 (kid 0 x))&&(um (reE T e sc (kid 0 (kid 0 x)))&&(((kid 0 x).pos.endLine==x.pos.line)&&(decide ((vq T es sc (kids x).tail).length<30) &&
   (noStar (vq T es sc (kids x).tail)&&oP T es sc (kids x).tail)))))
 |.bf k es=>λsc x=>Nat.beq es.len (FH k)&&(glob T sc (om (kid 0 x)) (zG k)&&(noStar (vq T es sc (kids x).tail)&&oP T es sc (kids x).tail))
 |.w f es=>λsc x=>kindAt isVar sc f&&(noStar (vq T es sc (kids x).tail)&&oP T es sc (kids x).tail)
 |.sub e i=>λsc x=>!(isSlice (reE T i sc (kid 1 x)))&&(okE T e sc (kid 0 x)&&okE T i sc (kid 1 x))
 |.slc e lo hi=>λsc x=>okE T e sc (kid 0 x)&&((match gB 0 (kid 1 x) with|none=>lo.isNone|some l=>okE T lo sc l)&&(match gB 1 (kid 1 x) with|none=>hi.isNone|some l=>okE T hi sc l))
 |.K fv it t cs more=>λsc x=>HW T it sc (isTup (qU (tj (kq x).2 sc) t (hdG (kq x).1).1)) (hdG (kq x).1).2.1&&(DK T (tj (kq x).2 sc) t (hdG (kq x).1).1&&(HX T cs (tj (kq x).2 sc) (hdG (kq x).1).2.2 &&
   (LV T more (tj (kq x).2 sc) (kq x).1.tail (kid 0 x)&&(rH (tW T it sc (hdG (kq x).1).2.1)&&(decide ((kq x).2.kind=.function)&&(decide (((kq x).2.names.map (·.1)).Nodup) &&
   (rG sc fv 0 (kq x).2.names&&rB (kq x).2 (#[qU (tj (kq x).2 sc) t (hdG (kq x).1).1,tW T it sc (hdG (kq x).1).2.1,vq T cs (tj (kq x).2 sc) (hdG (kq x).1).2.2,0]::D6 T more (tj (kq x).2 sc) (kq x).1.tail))))))))
 |.n es=>λsc x=>!es.isNil&&(glob T sc (om (kid 0 x)) (.ref T.cS)&&(noStar (vq T es sc (kids x).tail)&&oP T es sc (kids x).tail))
 |.N a b c=>λsc x=>glob T sc (om (kid 0 x)) (.ref T.cM)&&(noStar [reE T a sc (kid 1 x),reE T b sc (kid 2 x),reE T c sc (kid 3 x)]&&(okE T a sc (kid 1 x)&&(okE T b sc (kid 2 x)&&okE T c sc (kid 3 x))))
 |.M e=>λsc x=>glob T sc (om (kid 0 x)) (.type "list")&&(glob T sc (om (kid 0 (kid 1 x))) (.type "map")&&(glob T sc (om (kid 0 (kid 1 (kid 1 x)))) (.ref T.cM)&&(noStar [reE T e sc (kid 2 (kid 1 x))]&&okE T e sc (kid 2 (kid 1 x)))))
 |.dead=>λ_ _=>true
noncomputable def oP (T:Tab):Exs->Scope->List Expr->Bool
 |.nil=>λ_ _=>true
 |.cons e es=>λsc l=>okE T e sc (l.headD default)&&oP T es sc l.tail
noncomputable def HX (T:Tab):Exs->Scope->List Expr->Bool
 |.nil=>λ_ _=>true
 |.cons e es=>λsc l=>tOk e&&(okE T e sc (l.headD default)&&HX T es sc l.tail)
noncomputable def HW (T:Tab):It->Scope->Bool->Expr->Bool
 |.rng1 e=>λsc _ x=>glob T sc (om (kid 0 x)) (.type "range")&&(noStar [reE T e sc (kid 1 x)]&&okE T e sc (kid 1 x))
 |.rng2 e f=>λsc _ x=>glob T sc (om (kid 0 x)) (.type "range")&&(noStar [reE T e sc (kid 1 x),reE T f sc (kid 2 x)]&&(okE T e sc (kid 1 x)&&okE T f sc (kid 2 x)))
 |.enum e=>λsc tp x=>tp&&(glob T sc (om (kid 0 x)) (.type "enumerate")&&(noStar [reE T e sc (kid 1 x)]&&okE T e sc (kid 1 x)))
 |.seq e=>λsc _ x=>okE T e sc x
noncomputable def LV (T:Tab):Gens->Scope->List Comprehension->Expr->Bool
 |.elt e=>λsc _ x=>okE T e sc x
 |.cons it t cs more=>λsc l x=>HW T it sc (isTup (qU sc t (hdG l).1)) (hdG l).2.1&&(DK T sc t (hdG l).1&&(HX T cs sc (hdG l).2.2&&(LV T more sc l.tail x&&rH (tW T it sc (hdG l).2.1))))
end
abbrev yE (T:Tab)(sc:Scope):Tgt->Expr->Expr
 |.v i=>λx=>.Name (yn sc i) x.pos
 |.attr o i=>λx=>.Attribute (reE T o sc (kid 0 x)) ((T.attrs[i]?).getD "") x.pos
 |.sub o i=>λx=>.Subscript (reE T o sc (kid 0 x)) (reE T i sc (kid 1 x)) x.pos
 |.T is=>λx=>.Tuple (ud sc is (kids x)) (exK x) x.pos
abbrev KC (T:Tab)(sc:Scope):Tgt->Expr->Bool
 |.v i=>λ_=>ownAt T.cap sc i
 |.attr o i=>λx=>okE T o sc (kid 0 x)&&(T.attrs[i]?).isSome
 |.sub o i=>λx=>okE T o sc (kid 0 x)&&okE T i sc (kid 1 x)
 |.T is=>λx=>rA T.cap sc is
abbrev zr (T:Tab)(sc:Scope):List Tgt->List Expr->List Expr
 | []=>λ_=>[]
 |t::ts=>λl=>yE T sc t (l.headD default)::zr T sc ts l.tail
abbrev mP (T:Tab)(sc:Scope):List Tgt->List Expr->Bool
 | []=>λ_=>true
 |t::ts=>λl=>KC T sc t (l.headD default)&&mP T sc ts l.tail
abbrev stB (x:Stmt):List Stmt×List Stmt:=((sw x).b,(sw x).c)
abbrev wJ:List Tgt->Bool
 | [.v _]=>true
 |_=>false
abbrev wK:Ex->Bool
 |.K _ _ _ _ _=>true
 |_=>false
abbrev E9:List Tgt->Option (List Nat)
 | [.T is]=>some is
 |_=>none
abbrev KD (T:Tab)(sc:Scope)(ts:List Tgt)(e:Ex)(xs hs:List Expr)(y:Expr):Option (Option (List Str))->Bool
 |none=>false
 |some none=>mP T sc ts hs&&(dN y||(wJ ts&&wK e))
 |some (some names)=>(E9 ts).any λis=>dN y&&(NT T.cap sc is names&&decide is.Nodup)
abbrev O4:Bop->Bool
 |.add=>true
 |.sub=>true
 |_=>false
mutual
noncomputable def reS (T:Tab)(sc:Scope):Stm->Stmt->Stmt
 |.a ts e=>λx=>.Assign (zr T sc ts (eI x).tail) (reE T e sc (st0 x)) x.pos
 |.aug i op e=>λx=>.AugAssign (.Name (yn sc i) ((eI x).getD 1 default).pos) (binOp op) (reE T e sc (st0 x)) x.pos
 |.expr e=>λx=>.Expr (reE T e sc (st0 x)) x.pos
 |.C c t e=>λx=>.If (reE T c sc (st0 x)) (qW T sc t (stB x).1) (qW T sc e (stB x).2) x.pos
 |.loop c b=>λx=>.While (reE T c sc (st0 x)) (qW T sc b (stB x).1) [] x.pos
 |.each t it b=>λx=>.For (qU sc t ((eI x).getD 1 default)) (tW T it sc (st0 x)) (qW T sc b (stB x).1) [] x.pos
 |.ret e=>λx=>.Return ((eI x).head?.map (reE T e sc)) x.pos
 |.brk=>λx=>.Break x.pos
 |.cont=>λx=>.Continue x.pos
 |.pass=>λx=>bif (eI x).isEmpty then .Pass x.pos else .Expr (.Constant (.str (z7 (st0 x))) (exK (st0 x)) (st0 x).pos) x.pos
 |.dead=>λx=>x
noncomputable def qW (T:Tab)(sc:Scope):qa->List Stmt->List Stmt
 |.nil=>λ_=>[]
 |.cons s ss=>λl=>reS T sc s (l.headD default)::qW T sc ss l.tail
end
mutual
noncomputable def okS (T:Tab)(sc:Scope):Stm->Stmt->Bool
 |.a ts e=>λx=>okE T e sc (st0 x)&&KD T sc ts e (zr T sc ts (eI x).tail) (eI x).tail (reE T e sc (st0 x)) (swp sc (zr T sc ts (eI x).tail) (reE T e sc (st0 x)))
 |.aug i op e=>λx=>O4 op&&(ownAt T.cap sc i&&okE T e sc (st0 x))
 |.expr e=>λx=>dN (reE T e sc (st0 x))&&okE T e sc (st0 x)
 |.C c t e=>λx=>tOk c&&(okE T c sc (st0 x)&&(oO T sc t (stB x).1&&oO T sc e (stB x).2))
 |.loop c b=>λx=>tOk c&&(okE T c sc (st0 x)&&oO T sc b (stB x).1)
 |.each t it b=>λx=>DK T sc t ((eI x).getD 1 default)&&(HW T it sc (isTup (qU sc t ((eI x).getD 1 default))) (st0 x)&&(oO T sc b (stB x).1&&rH (tW T it sc (st0 x))))
 |.ret e=>λx=>match (eI x).head? with
  |some y=>okE T e sc y
  |none=>e.isNone
 |.brk=>λ_=>true
 |.cont=>λ_=>true
 |.pass=>λ_=>true
 |.dead=>λ_=>true
noncomputable def oO (T:Tab)(sc:Scope):qa->List Stmt->Bool
 |.nil=>λ_=>true
 |.cons s ss=>λl=>okS T sc s (l.headD default)&&oO T sc ss l.tail
end
end MP
end
section
namespace MP
open PySem PyProof.Rows PySem.W
section
variable {sc:Scope}{x y u:Expr}{α:Type}{e a b:Ex}{p pos:Pos}{es:Exs}{args:List Expr}{n:Nat}
variable {G:Stc}{T:Tab}{C:Cal}{d:Nat}
def qd (K:TabOk G T C d){x:Str}{v:Value}(h:glob T sc x v=true):sc.names.lookup x=some .globalImplicit/\jq x=true/\G.gl x=some v:=
 #[cg (band h).1,(band (band h).2).1,K.gl _ _ (cg (band (band h).2).2)]
def fX (h:rH x=true):∀env v,foldedSetIterable x env v=pure v:=by
 intro env v;cases x<;>first|rfl|show Bool.noConfusion (show false=true from h)
def TabOk.own (K:TabOk G T C d){i:Nat}(h:ownAt T.cap sc i=true):∃k,sc.names[i]?=some (yn sc i,k)/\Own G (yn sc i) k/\jq (yn sc i)=true:=vW (by rw[K.cap];show h)
def qN (K:TabOk G T C d):(t:Tg)->(x:Expr)->DK T sc t x=true->xn G C sc d t (qU sc t x)
 |.v i,x,h=>by have#[k,U,W,O]:=K.own h;show GG (C:=C) U W
 |.T is,x,h=>GH (C:=C) K.unp (by rw[K.cap];show h)
def n7 {a:Option α}{d:α}(h:a.isSome=true):a=some (a.getD d):=by
 cases a with
 |none=>cases h
 |some x=>rfl
def sM (K:TabOk G T C d){i:Nat}(h:(T.attrs[i]?).isSome=true):G.attrs[i]?=some ((T.attrs[i]?).getD ""):=by
 rw[K.attrs];show n7 h
def OO {op:BoolOp}{m:Bool}(H:∀z r,gi G C sc d a x->gi G C sc d b (.BoolOp op (z::r) p)->gi G C sc d e (.BoolOp op (x::z::r) p))(W:gi G C sc d a x)(hb:gi G C sc d b y)(h:DL op y p m=true) :
  gi G C sc d e (bo op x y p m):=by
 rcases v8 m h with rfl|⟨z,r,rfl,U⟩
 ·show H y [] W (GU hb)
 ·rw[U];show H z r W hb
def ON {op:BoolOp}{m:Bool}(H:∀z r,uv G C sc d a x->uv G C sc d b (.BoolOp op (z::r) p)->uv G C sc d e (.BoolOp op (x::z::r) p))(W:uv G C sc d a x)(hb:uv G C sc d b y)(h:DL op y p m=true) :
  uv G C sc d e (bo op x y p m):=by
 rcases v8 m h with rfl|⟨z,r,rfl,U⟩
 ·show H y [] W (by cases op;show A7 hb;show A6 hb)
 ·rw[U];show H z r W hb
def A5 (K:TabOk G T C d){f:Nat}(h:((T.fns.lookup f).any λa=>glob T sc (om x) (.ref a))=true)(W:qk G C sc d es args)(U:noStar args=true):gi G C sc d (.call f es) (.Call (nm x) args [] pos):=by
 have#[a,e,h]:=any_some h;have#[g1,g2,g3]:=qd K h;show CN K.g (K.cal.more (oo _ _)) e W U g1 g2 g3
def A2 (K:TabOk G T C d){m:Nat}{o:Expr}{ap:Pos}(h:(T.meths.lookup m).isSome=true)(J:gi G C sc d e o)(z:um o=true)(B:(ap.endLine==pos.line)=true)(I:decide (args.length<30)=true)(U:noStar args=true)(W:qk G C sc d es args) :
  gi G C sc d (.meth e m es) (.Call (.Attribute o ((T.meths.lookup m).getD "") ap) args [] pos):=by
 have#[f,O,M]:=K.meth _ _ (n7 h);show CE (K.cal.more (oo _ _)) O M J W z U (cg I) B
def HD (K:TabOk G T C d){k:BM}{o:Expr}{ap:Pos}(h:(!isSort k||es.isNil)=true)(B:es.isNil=true->args=[])(U:gi G C sc d e o)(J:um o=true)(O:(ap.endLine==pos.line)=true)(z:decide (args.length<30)=true)(I:noStar args=true)(W:qk G C sc d es args) :
  gi G C sc d (.bm k e es) (.Call (.Attribute o (sL k) ap) args [] pos):=by
 by_cases hk:k=.sort
 ·subst hk;have rfl:=B h;cases es with
  |nil=>show C7 K.ma U J O
  |cons _ _=>cases h
 ·show LI K.g hk U W J I (cg z) O
def D7 {l:List Expr}:(es:Exs)->es.isNil=true->vq T es sc l=[]
 |.nil,_=>rfl
def HP {l:List Expr}:(es:Exs)->(!es.isNil)=true->vq T es sc l≠[]
 |.cons _ _,_=>List.cons_ne_nil _ _
def A1 (K:TabOk G T C d)(W:args≠[])(h:glob T sc (om x) (.ref T.cS)=true)(O:noStar args=true)(U:qk G C sc d es args):gi G C sc d (.n es) (.Call (nm x) args [] pos):=by
 have#[g1,g2,g3]:=qd K h;have#[f,J,M]:=K.init;show CD K.g K.cal (kz (by decide) K.d3) J M U O W g1 g2 (K.cS▸g3)
def oI (K:TabOk G T C d){c:Ex}{v w:Expr}(h:glob T sc (om x) (.ref T.cM)=true)(W:noStar [u,v,w]=true)(O:gi G C sc d a u)(hb:gi G C sc d b v)(U:gi G C sc d c w):gi G C sc d (.N a b c) (.Call (nm x) [u,v,w] [] pos):=by
 have#[g1,g2,g3]:=qd K h;have#[fN,fM,I,J,B]:=K.mt;show qR K.g I J K.ma (kz (by decide) K.d3) O hb U W g1 g2 (K.cM▸g3)
def lX (K:TabOk G T C d){z:Expr}{q:Pos}(h1:glob T sc (om x) (.type "list")=true)(h2:glob T sc (om y) (.type "map")=true)(h3:glob T sc (om z) (.ref T.cM)=true)(I:noStar [u]=true)(B:gi G C sc d e u) :
  gi G C sc d (.M e) (.Call (nm x) [.Call (nm y) [.Attribute (nm z) "_make" q,u] [] p] [] pos):=by
 have#[g1,g2,g3]:=qd K h1;have#[J,k2,k3]:=qd K h2;have#[O,U,W]:=qd K h3;have#[fN,fM,Mk,Mn,Mm]:=K.mt;show oJ K.g Mk K.ma Mm K.d3 B I g1 g2 g3 J k2 k3 O U (K.cM▸W)
def jL (h:e.isNone=true):e=.none:=by
 cases e<;>first|rfl|show Bool.noConfusion h
def J9 {l m:List α}{a:α}(h:l.drop n=a::m):l[n]?=some a:=by
 have:=dj (λl=>l[0]?) h;simpa using this
def J8 {l m:List α}{a:α}(h:l.drop n=a::m):l.drop (n+1)=m:=by
 have:=dj (λl=>l.drop 1) h;simpa using this
def eU:(W:Gens)->(l:List Comprehension)->∀g∈D6 T W sc l,g.is_async=0
 |.elt _,_,_,h=>nomatch h
 |.cons _ _ _ more,l,g,h=>(cw.mp h).elim (λe=>e▸rfl) (eU more l.tail g)
def ft {p:Prop}(h:false=true):p:=Bool.noConfusion h
def HF (K:TabOk G T C d):(k:BF)->Nat.beq 1 (FH k)=true->IT k=false->glob T sc (om x) (zG k)=true->noStar [u]=true->gi G C sc d e u->gi G C sc d (.bf k %[e|0]) (.Call (nm x) [u] [] pos)
 |.len=>λ_ _ h W U=>by have#[g1,g2,g3]:=qd K h;show GY K.g U W g1 g2 g3
 |.maxL=>λ_ _ h W U=>by have#[g1,g2,g3]:=qd K h;show CF K.g U W g1 g2 g3
 |.sum=>λ_ _ h W U=>by have#[g1,g2,g3]:=qd K h;show GP K.g U W g1 g2 g3
 |.sorted=>λ_ _ h W U=>by have#[g1,g2,g3]:=qd K h;show vJ K.g U W g1 g2 g3
 |.divmod=>λh=>ft h
 |.set=>λh=>ft h
def HE (K:TabOk G T C d){f:Ex}{v:Expr}:(k:BF)->Nat.beq 2 (FH k)=true->glob T sc (om x) (zG k)=true->noStar [u,v]=true->gi G C sc d e u->gi G C sc d f v->gi G C sc d (.bf k %[e,f|0]) (.Call (nm x) [u,v] [] pos)
 |.divmod=>λ_ h W O U=>by have#[g1,g2,g3]:=qd K h;show vL K.g O U W g1 g2 g3
 |.len=>λh=>ft h
 |.set=>λh=>ft h
 |.maxL=>λh=>ft h
 |.sum=>λh=>ft h
 |.sorted=>λh=>ft h
def HH (K:TabOk G T C d):(k:BF)->Nat.beq 0 (FH k)=true->glob T sc (om x) (zG k)=true->gi G C sc d (.bf k .nil) (.Call (nm x) [] [] pos)
 |.set=>λ_ h=>by have#[g1,g2,g3]:=qd K h;show C9 K.g g1 g2 g3
 |.len=>λh=>ft h
 |.divmod=>λh=>ft h
 |.maxL=>λh=>ft h
 |.sum=>λh=>ft h
 |.sorted=>λh=>ft h
def bf3 (k:BF)(h:Nat.beq (n+3) (FH k)=true):False:=by
 cases k<;>first|show nomatch (show Nat.beq (n+2) 0=true from h)|show nomatch (show Nat.beq (n+3) 0=true from h)|show nomatch (show Nat.beq (n+1) 0=true from h)
mutual
theorem mq (K:TabOk G T C d):(e:Ex)->(sc:Scope)->(x:Expr)->okE T e sc x=true->gi G C sc d e (reE T e sc x)
 |.none=>λsc x h=>CC
 |.bool b=>λsc x h=>CP
 |.int i=>λsc x h=>H8
 |.str t=>λsc x h=>GQ
 |.l i=>λsc x h=>by have#[k,h1,W,U]:=fY h;show lL h1 W U
 |.b op a b=>λsc x h=>y7 (mq K a sc _ (band h).1) (mq K b sc _ (band h).2)
 |.neg a=>λsc x h=>GW (mq K a sc _ h)
 |.not a=>λsc x h=>GV (mq K a sc _ h)
 |.and a b=>λsc x h=>let W:=band (band h).2;OO (λ_ _=>snd_and) (mq K a sc _ (band h).1) (mq K b sc _ W.1) W.2
 |.or a b=>λsc x h=>let W:=band (band h).2;OO (λ_ _=>LD) (mq K a sc _ (band h).1) (mq K b sc _ W.1) W.2
 |.c op a b=>λsc x h=>let W:=band (band h).2;HA (mq K a sc _ (band h).1) (mq K b sc _ W.1) ((jg _).mp W.2)
 |.I c a b=>λsc x h=>let W:=band (band h).2;let U:=band W.2;GZ (kX K c sc _ (band h).1 W.1) (mq K a sc _ U.1) (mq K b sc _ U.2)
 |.L es=>λsc x h=>GX (iH K es sc _ (band h).1 (band h).2)
 |.T es=>λsc x h=>y5 (iH K es sc _ (band h).1 (band h).2)
 |.dct0=>λsc x h=>CK
 |.call f es=>λsc x h=>let W:=band (band h).2;A5 K (band h).1 (iH K es sc _ W.1 W.2) W.1
 |.meth e m es=>λsc x h=>let W:=band (band h).2;let U:=band W.2;let O:=band U.2;let J:=band O.2;let I:=band J.2
  A2 K (band h).1 (mq K e sc _ W.1) U.1 O.1 J.1 I.1 (iH K es sc _ I.1 I.2)
 |.attr e i=>λsc x h=>let W:=band (band h).2;tQ K.g (mq K e sc _ W.2) W.1 (sM K (band h).1)
 |.g e=>λsc x h=>vM (mq K e sc _ (band h).2) (band h).1
 |.h e=>λsc x h=>vK (mq K e sc _ (band h).2) (band h).1
 |.bm k e es=>λsc x h=>let W:=band (band h).2;let U:=band W.2;let O:=band U.2;let J:=band O.2;let I:=band J.2
  HD K (band h).1 (D7 es) (mq K e sc _ W.1) U.1 O.1 J.1 I.1 (iH K es sc _ I.1 I.2)
 |.bf k .nil=>λsc x h=>HH K k (band h).1 (band (band h).2).1
 |.bf k %[e|0]=>λsc x h=>let W:=band (band h).2;let O:=band W.2
  HF K k (band h).1 rfl W.1 O.1 (mq K e sc _ (band O.2).1)
 |.bf k %[e,f|0]=>λsc x h=>let W:=band (band h).2;let O:=band W.2;let J:=band O.2
  HE K k (band h).1 W.1 O.1 (mq K e sc _ J.1) (mq K f sc _ (band J.2).1)
 |.bf k (.cons e (.cons f (.cons g r)))=>λsc x h=>(bf3 k (band h).1).elim
 |.w f es=>λsc x h=>let W:=band (band h).2;by have#[k,e1,e2,e3]:=fY (band h).1;show pF K.g (K.lam.more (oo _ _)) e1 e2 e3 (iH K es sc _ W.1 W.2) W.1
 |.sub e i=>λsc x h=>let W:=band (band h).2;y6 (mq K e sc _ W.1) (mq K i sc _ W.2) ((jg _).mp (band h).1)
 |.slc e lo hi=>λsc x h=>let W:=band (band h).2;GR (mq K e sc _ (band h).1)
   (by
    cases B:gB 0 (kid 1 x) with
    |none=>show .inl #[jL (by have:=W.1;rw[B]at this;show this),rfl]
    |some y=>show .inr #[_,rfl,mq K lo sc y (by have:=W.1;rw[B]at this;show this)])
   (by
    cases B:gB 1 (kid 1 x) with
    |none=>show .inl #[jL (by have:=W.2;rw[B]at this;show this),rfl]
    |some y=>show .inr #[_,rfl,mq K hi sc y (by have:=W.2;rw[B]at this;show this)])
 |.K fv it t cs more=>λsc x h=>let W:=band (band h).2;let U:=band W.2;let O:=band U.2;let J:=band O.2;let I:=band J.2;let h7:=band I.2;let z:=band h7.2
  tO (yA K it sc _ _ (band h).1) (qN K t _ W.1) (yB K cs _ _ U.1) (CW K more _ _ _ _ _ _ 0 rfl (λg hg=>(cw.mp hg).elim (λe=>e▸rfl) (eU more _ g)) O.1) (fX J.1) (cg I.1) (cg h7.1) z.1 z.2 (eU more _)
 |.n es=>λsc x h=>let W:=band (band h).2;let U:=band W.2;A1 K (HP es (band h).1) W.1 U.1 (iH K es sc _ U.1 U.2)
 |.N a b c=>λsc x h=>let W:=band (band h).2;let U:=band W.2;let O:=band U.2;oI K (band h).1 W.1 (mq K a sc _ U.1) (mq K b sc _ O.1) (mq K c sc _ O.2)
 |.M e=>λsc x h=>let W:=band (band h).2;let U:=band W.2;let O:=band U.2;lX K (band h).1 W.1 U.1 O.1 (mq K e sc _ O.2)
 |.dead=>λsc x h=>A4
theorem kX (K:TabOk G T C d):(e:Ex)->(sc:Scope)->(x:Expr)->tOk e=true->okE T e sc x=true->uv G C sc d e (reE T e sc x)
 |.not a=>λsc x t h=>CS (kX K a sc _ t h)
 |.and a b=>λsc x t h=>let W:=band (band h).2;ON (λ_ _=>CV) (kX K a sc _ (band t).1 (band h).1) (kX K b sc _ (band t).2 W.1) W.2
 |.or a b=>λsc x t h=>let W:=band (band h).2;ON (λ_ _=>HJ) (kX K a sc _ (band t).1 (band h).1) (kX K b sc _ (band t).2 W.1) W.2
 |.c op a b=>λsc x t h=>let W:=band (band h).2;CU (mq K a sc _ (band h).1) (mq K b sc _ W.1) ((jg _).mp W.2)
 |.I c a b=>λsc x t h=>let W:=band (band h).2;let U:=band W.2;CT (kX K c sc _ (band h).1 W.1) (kX K a sc _ (band t).1 U.1) (kX K b sc _ (band t).2 U.2)
 |.l i=>λsc x t h=>by have#[k,O,W,U]:=fY h;show yk (lL O W U) (λ_ _=>rfl) λρ σ Q q=>q
 |.attr e i=>λsc x t h=>let W:=band (band h).2;yk (tQ K.g (mq K e sc _ W.2) W.1 (sM K (band h).1)) (λ_ _=>rfl) λρ σ Q q=>q
 |.w f es=>λsc x t h=>let W:=band (band h).2;by have#[k,B,I,J]:=fY (band h).1;show yk (pF K.g (K.lam.more (oo _ _)) B I J (iH K es sc _ W.1 W.2) W.1) (λ_ _=>rfl) λρ σ Q q=>q
 |.sub e i=>λsc x t h=>let W:=band (band h).2;yk (y6 (mq K e sc _ W.1) (mq K i sc _ W.2) ((jg _).mp (band h).1)) (λ_ _=>rfl) λρ σ Q q=>q
 |.b op a b=>λsc x t h=>yk (y7 (mq K a sc _ (band h).1) (mq K b sc _ (band h).2)) (λ_ _=>rfl) λρ σ Q q=>q
 |.dead=>λsc x t h=>A3
 |.none=>λ_ _ t _=>ft t
 |.bool _=>λ_ _ t _=>ft t
 |.int _=>λ_ _ t _=>ft t
 |.str _=>λ_ _ t _=>ft t
 |.neg _=>λ_ _ t _=>ft t
 |.L _=>λ_ _ t _=>ft t
 |.T _=>λ_ _ t _=>ft t
 |.dct0=>λ_ _ t _=>ft t
 |.call _ _=>λ_ _ t _=>ft t
 |.meth _ _ _=>λ_ _ t _=>ft t
 |.g _=>λ_ _ t _=>ft t
 |.h _=>λ_ _ t _=>ft t
 |.bm _ _ _=>λ_ _ t _=>ft t
 |.bf _ _=>λ_ _ t _=>ft t
 |.slc _ _ _=>λ_ _ t _=>ft t
 |.K _ _ _ _ _=>λ_ _ t _=>ft t
 |.n _=>λ_ _ t _=>ft t
 |.N _ _ _=>λ_ _ t _=>ft t
 |.M _=>λ_ _ t _=>ft t
theorem iH (K:TabOk G T C d):(es:Exs)->(sc:Scope)->(l:List Expr)->noStar (vq T es sc l)=true->oP T es sc l=true->qk G C sc d es (vq T es sc l)
 |.nil=>λsc l W h=>oq
 |.cons e es=>λsc l W h=>jv (mq K e sc _ (band h).1) (iH K es sc _ (gr W).2 (band h).2) (gr W).1
theorem yB (K:TabOk G T C d):(es:Exs)->(sc:Scope)->(l:List Expr)->HX T es sc l=true->tu G C sc d es (vq T es sc l)
 |.nil=>λsc l h=>B5
 |.cons e es=>λsc l h=>let W:=band (band h).2;xA (kX K e sc _ (band h).1 W.1) (yB K es sc _ W.2)
theorem yA (K:TabOk G T C d):(it:It)->(sc:Scope)->(U:Bool)->(x:Expr)->HW T it sc U x=true->gQ G C sc d U it (tW T it sc x)
 |.rng1 e,sc,U,x,h=>let W:=band (band h).2;by have#[g1,g2,g3]:=qd K (band h).1;show IQ K.g (mq K e sc _ W.2) W.1 g1 g2 g3
 |.rng2 e f,sc,U,x,h=>let W:=band (band h).2;let O:=band W.2;by have#[g1,g2,g3]:=qd K (band h).1;show IP K.g (mq K e sc _ O.1) (mq K f sc _ O.2) W.1 g1 g2 g3
 |.enum e,sc,true,x,h=>let W:=band h;let O:=band W.2;by have#[g1,g2,g3]:=qd K W.1;show IS K.g (mq K e sc _ O.2) O.1 g1 g2 g3
 |.enum e,sc,false,x,h=>nomatch h
 |.seq e,sc,U,x,h=>MF (mq K e sc _ h)
theorem CW (K:TabOk G T C d):(W:Gens)->(sc:Scope)->(x:Expr)->(l:List Comprehension)->(gens:List Comprehension)->(scope:Scope)->(pos:Pos)->(depth:Nat)->gens.drop (depth+1)=D6 T W sc l->(∀g∈gens,g.is_async=0)->LV T W sc l x=true->uz G C sc d W (D8 T W sc x) gens scope pos depth
 |.elt e=>λsc x l gens scope pos depth hd U h=>BC (mq K e sc _ h) (gH.mpr (oD.mp hd))
 |.cons it t cs more=>λsc x l gens scope pos depth hd U h =>
  let I:=band (band h).2;let J:=band I.2;let O:=band J.2
  xP (yA K it sc _ _ (band h).1) (qN K t _ I.1) (yB K cs _ _ J.1) (CW K more sc x _ gens scope pos (depth+1) (J8 hd) U O.1) (J9 hd) (λz B=>U z (fe B)) (fX O.2)
end
end
section
variable {e:Ex}
variable {G:Stc}{T:Tab}{C:Cal}{d:Nat}{sc:Scope}
def LJ (K:TabOk G T C d):(t:Tgt)->(x:Expr)->KC T sc t x=true->jT G C sc d t (yE T sc t x)
 |.v i,x,h=>by have#[k,U,W,O]:=K.own h;show xZ U W
 |.attr o i,x,h=>BX K.g (mq K o sc _ (band h).1) (sM K (band h).2)
 |.sub o i,x,h=>GF (mq K o sc _ (band h).1) (mq K i sc _ (band h).2)
 |.T is,x,h=>GD K.unp (by rw[K.cap];show h)
def ER (t:Tgt)(x:Expr)(xs:List Expr)(env:Env):assignEach (yE T sc t x::xs) env=(false,assign (yE T sc t x) env)::assignEach xs env:=by
 cases t<;>rfl
def y9 (K:TabOk G T C d):(ts:List Tgt)->(l:List Expr)->mP T sc ts l=true->gD G C sc d ts (zr T sc ts l)
 | [],_,_=>.nil
 |t::ts,l,h=>.cons (LJ K t _ (band h).1) (ER t _ _) (y9 K ts _ (band h).2)
def BW:(ts:List Tgt)->(l:List Expr)->wJ ts=true->mP T sc ts l=true->∃i x p,ts=[.v i]/\zr T sc ts l=[.Name x p]/\x=yn sc i/\ownAt T.cap sc i=true
 | []=>λl q h=>ft q
 |t::r=>λl q h=>by
  cases t<;>cases r<;>first|refine⟨_,_,_,rfl,rfl,rfl,(band h).1⟩|show ft q
def PO:(ts:List Tgt)->(is:List Nat)->E9 ts=some is->ts=[.T is]
 | []=>λis h=>jn h
 |t::r=>λis h=>by
  cases t<;>cases r<;>first|show jn h|(have rfl:=af h;rfl)
def NJ (K:TabOk G T C d)(t:Tg)(x:Expr)(h:DK T sc t x=true):zI G C sc d t (qU sc t x):=xn.plain (C:=C) (qN K t x h)
def OS {op:Bop}(h:O4 op=true):op=.add\/op=.sub:=by
 cases op<;>first|show .inl rfl|show .inr rfl|show Bool.noConfusion h
def JF (h:wK e=true):∃fv it t cs more,e=.K fv it t cs more:=by
 cases e<;>first|refine⟨_,_,_,_,_,rfl⟩|show Bool.noConfusion h
def HK (K:TabOk G T C d){ts:List Tgt}{pos:Pos}{l:List Expr}{y:Expr}(hc:wK e=true)(hv:wJ ts=true)(ht:mP T sc ts l=true)(h:okE T e sc y=true):zw G C sc d (.a ts e) (.Assign (zr T sc ts l) (reE T e sc y) pos):=by
  have#[fv,it,t,cs,more,rfl]:=JF hc;have#[i,x',p',rfl,e2,rfl,hk]:=BW ts l hv ht;have#[kd,o1,o2,o3]:=K.own hk;rw[e2];have z:=band (band h).2;have B:=band z.2;have I:=band B.2;have J:=band I.2;have O:=band J.2;have U:=band O.2;have W:=band U.2;show mF o1 o2 (yA K it sc _ _ (band h).1) (qN K t _ z.1) (yB K cs _ _ B.1) (CW K more _ _ _ _ _ _ 0 rfl (λg hg=>(cw.mp hg).elim (λe=>e▸rfl) (eU more _ g)) I.1) (fX J.1) (cg O.1) (cg U.1) W.1 W.2 (eU more _)
def A9 (K:TabOk G T C d){ts:List Tgt}{pos:Pos}{l:List Expr}{y:Expr}(h:okE T e sc y=true):(o:Option (Option (List Str)))->swp sc (zr T sc ts l) (reE T e sc y)=o->KD T sc ts e (zr T sc ts l) l (reE T e sc y) o=true->zw G C sc d (.a ts e) (.Assign (zr T sc ts l) (reE T e sc y) pos)
 |none,_,U=>nomatch U
 |some none,O,U=>(Classical.em (dN (reE T e sc y)=true)).elim (λJ=>vO (y9 K ts l (band U).1) (mq K e sc y h) J O) λJ =>
  ((xi ..).mp (band U).2).elim (λW=>absurd W J) λW=>HK K (band W).2 (band W).1 (band U).1 h
 |some (some names),O,U=>by
  have#[is,I,W]:=any_some U;have rfl:=PO ts is I;show snd_swap K.unp (mq K e sc y h) (band W).1 O (by rw[K.cap];show(band (band W).2).1) (cg (band (band W).2).2)
mutual
theorem PT (K:TabOk G T C d):(s:Stm)->(x:Stmt)->okS T sc s x=true->zw G C sc d s (reS T sc s x)
 |.a ts e=>λx h=>A9 K (band h).1 _ rfl (band h).2
 |.aug i op e=>λx h=>by
  have#[k,I,J,O]:=K.own (band (band h).2).1;show HI (OS (band h).1) (mq K e sc _ (band (band h).2).2) I J O
 |.expr e=>λx h=>CH (mq K e sc _ (band h).2) (band h).1
 |.C c t e=>λx h=>let W:=band (band h).2;let U:=band W.2;CM (kX K c sc _ (band h).1 W.1) (pG K t _ U.1) (pG K e _ U.2)
 |.loop c b=>λx h=>let W:=band (band h).2;CG (kX K c sc _ (band h).1 W.1) (pG K b _ W.2)
 |.each t it b=>λx h=>let W:=band (band h).2;let U:=band W.2;CI (NJ K t _ (band h).1) (yA K it sc _ _ W.1) (pG K b _ U.1) (fX U.2)
 |.ret e=>λx h=>by
  show zw G C sc d _ (.Return ((eI x).head?.map (reE T e sc)) x.pos);have h:(match (eI x).head? with|some y=>okE T e sc y|none=>e.isNone)=true:=h;cases q:(eI x).head? with
  |some y=>rw[q]at h;show GS (mq K e sc y h)
  |none=>rw[q]at h;have rfl:=jL h;show CA
 |.brk=>λx h=>HC
 |.cont=>λx h=>CL
 |.pass=>λx h=>by
  show zw G C sc d _ (bif (eI x).isEmpty then _ else _);cases (eI x).isEmpty
  ·show qT
  ·show CB
 |.dead=>λx h=>CJ
theorem pG (K:TabOk G T C d):(b:qa)->(l:List Stmt)->oO T sc b l=true->gP G C sc d b (qW T sc b l)
 |.nil=>λl h=>A8
 |.cons s ss=>λl h=>vP (PT K s _ (band h).1) (pG K ss _ (band h).2)
end
end
structure sT (G:Stc)(T:Tab):Prop where
 g:GOk G
 gl:∀x v,T.gl.lookup x=some v->G.gl x=some v
 attrs:G.attrs=T.attrs
 cap:G.cap=T.cap
 meth:∀k name,T.meths.lookup k=some name->∃f,T.fns.lookup k=some f/\MethAt G name f
 init:∃f,T.fns.lookup 0=some f/\o9 G f
 cM:G.cM=T.cM
 cS:G.cS=T.cS
 mt:∃fN fM,rd G fN fM/\qG G fN/\nW G fM
 ma:uh G
structure xQ (G:Stc)(T:Tab)(P:Nat->Option Fn):Prop where
 base:sT G T
 lam:∀k cs a,G.clo k cs a->∃n sc e b,P (1000+k)=some #[n+cs.length,[],.cons (.ret b) .nil]/\KV G a n cs sc e/\okE T b sc e=true/\reE T b sc e=e
 fn:∀k a,T.fns.lookup k=some a->∃fn sc body,P k=some fn/\FnAt G a fn.n fn.dflt sc body/\oO T sc fn.body body=true/\qW T sc fn.body body=body
section
variable {G:Stc}{T:Tab}{P:Nat->Option Fn}
def sT.tab (B:sT G T){C:Cal}{d:Nat}(W:fI G (λk=>T.fns.lookup k) C (d-1))(hl:nX G C (d-1))(hd:3<=d):TabOk G T C d:=
 #[B.g,B.gl,B.attrs,B.cap,W,hl,B.meth,B.init,B.cM,B.cS,B.mt,B.ma,PN B.ma,hd]
def zE (K:xQ G T P):∀n,fI G (λk=>T.fns.lookup k) (ku P n) (2*n+2)/\nX G (ku P n) (2*n+2)
 |0=>⟨λk a hk=>by
  have#[fn,sc,body,hp,W,hc]:=K.fn k a hk;have#[o,fd,I,J,_]:=W.here;apply#[#[o,fd,I,J],λao R vr h=>h.elim],λk cs a hk=>by
  have#[m,sc,e,b,hp,W,hc]:=K.lam k cs a hk;have#[o,fd,I,J,_]:=W.here;apply#[#[o,fd,I,J],λao R vr h=>h.elim]⟩
 |n+1=>by
  have#[ax,ag]:=zE K n;have tb:TabOk G T (ku P n) (2*n+3):=K.base.tab ax ag (nt (.k (.n 3) (.a (.m 2 .A) (.n 3))) .h);apply#[λk a hk=>?_,λk cs a hk=>?_]
  ·have#[fn,sc,body,hp,W,hc]:=K.fn k a hk;have#[o,fd,I,J,_]:=W.here;apply#[#[o,fd,I,J],@λA E vs ws σ Q s ao R vr h=>?_];have#[ay,U,z,B,h]:=h;have rfl:=af (hp.symm.trans U);show JL (b:=fn.body) (d:=2*n+3) W (hc.2▸pG tb fn.body body hc.1) ao R vr z B h
  ·have#[m,sc,e,b,hp,W,aj,ai]:=K.lam k cs a hk;have#[o,fd,I,J,_]:=W.here;apply#[#[o,fd,I,J],@λA E vs ws σ Q s ao R vr h=>?_];have#[ay,U,z,B,h]:=h;have rfl:=af (hp.symm.trans U);have ar:frameOf #[m+cs.length,[],.cons (.ret b) .nil] (vs++cs)=λi=>(vs++cs)[i]?:=by
    funext i
    unfold frameOf i3;dsimp only;rw[List.drop_nil,dg]
   rw[ar]at h;have hl:vs.length=m:=by
    rw[aw]at z B;dsimp only[List.length_nil]at z B
    (show fh .C .g (.k .X .Q) (.k .Q (.a .X .O)) z B)
   show F8 (d:=2*n+3) W (ai▸mq tb b sc e aj) ao R vr hl h
def MV (K:xQ G T P)(n:Nat):fI G (λk=>T.fns.lookup k) (ku P n) (2*n+2):=(zE K n).1
end
end MP
end
section
set_option backward.match.sparseCases false
namespace MP
open PySem PyProof.Rows PySem.W
variable {G:Stc}{h h₀:Heap}{d:Data}{a:Addr}{T:Tab}{fn:Fn}
abbrev L3:Value->Tok
 |.int _ t=>t
 |.str _ t=>t
 |_=>0
abbrev xY:Value->Addr
 |.ref a=>a
 |_=>0
abbrev x9:V->Value->Bool
 |.none=>λw=>decide (w=.none)
 |.bool a=>λw=>decide (w=.bool a)
 |.int a=>λw=>decide (w=.int a (L3 w))
 |.str a=>λw=>decide (w=.str a (L3 w))
 |_=>λ_=>false
abbrev lS:List V->List Value->Bool
 | []=>λws=>ws.isEmpty
 |v::vs=>λws=>!ws.isEmpty&&(x9 v (ws.headD .none)&&lS vs ws.tail)
def B4 {v:V}{w:Value}(e:x9 v w=true):VR G h v w:=by
 cases v<;>first|show cg e▸.none|show cg e▸.bool _|show cg e▸.int _ _|show cg e▸.str _ _|show Bool.noConfusion e
def nK:(vs:List V)->(ws:List Value)->lS vs ws=true->VRs G h vs ws
 | []=>λws e=>by
  cases ws with
  |nil=>show .nil
  |cons w ws=>show Bool.noConfusion (show false=true from e)
 |v::vs=>λws e=>by
  cases ws with
  |nil=>show Bool.noConfusion (show false=true from e)
  |cons w ws =>
   have e:=band (show(x9 v w&&lS vs ws)=true from e);show .cons (B4 e.1) (nK vs ws e.2)
abbrev sC:Data->Option FuncData
 |.func f=>some f
 |_=>none
abbrev nI:Data->Option (Array Value)
 |.fields vs=>some vs
 |_=>none
abbrev zA:Data->Option (Array Value×Nat)
 |.seq vs n=>some (vs,n)
 |_=>none
def pZ {f:FuncData}(h:sC d=some f):d=.func f:=by
 cases d<;>first|show dj _ (af h)|show jn h
def oS {f:Array Value}(h:nI d=some f):d=.fields f:=by
 cases d<;>first|show dj _ (af h)|show jn h
def x7 {f:Array Value×Nat}(h:zA d=some f):d=.seq f.1 f.2:=by
 cases d<;>first|show af h▸rfl|show jn h
abbrev FC:FuncBody->Option (List Stmt)
 |.stmts b=>some b
 |.expr _=>none
def FA {d:FuncBody}{f:List Stmt}(h:FC d=some f):d=.stmts f:=by
 cases d
 ·show dj _ (af h)
 ·show jn h
abbrev told {α:Type}(f:Data->Option α)(h:Heap)(a:Addr):Option α:=(h.get? a).bind λo=>f o.data
def qM {α:Type}{f:Data->Option α}{x:α}(e:told f h a=some x):∃o,h.get? a=some o/\f o.data=some x:=gf.mp e
abbrev zC (h:Heap)(cd:Value)(q:Str):Bool:=decide (cd=.ref (xY cd))&&(told nI h (xY cd)).any λvs=>(vs[1]?:Option Value).any λw=>decide (w=.str q (L3 w))
abbrev JC (h:Heap)(dflt:List V)(v:Value):Bool:=(decide (v=.none)&&dflt.isEmpty)||(decide (v=.ref (xY v))&&(told zA h (xY v)).any λds=>lS dflt ds.1.toList)
abbrev O8 (T:Tab)(h:Heap)(fn:Fn)(fd:FuncData)(body:List Stmt):Bool:=
 decide (fd.scope.kind=.function)&&(!fd.scope.isCoroutine&&(!fd.scope.isGenerator&&(decide ((fd.scope.names.map (·.1)).Nodup)&&(fd.scope.names.all (λp=>p.2 != .free)&&(fd.closure.isEmpty&&(decide (fd.globals=mainGlobals)&&(decide (fd.builtins=builtinsNs) &&
 (zC h fd.code fd.qualname&&(cY fd.params&&(tn (fd.params.args.map (·.arg)) fd.scope.names&&(decide (fd.params.args.length=fn.n)&&(JC h fn.dflt fd.defaults&&(decide (fn.dflt.length<=fn.n)&&oO T fd.scope fn.body body)))))))))))))
abbrev MM (fd:FuncData):Option (Scope×List Stmt):=(FC fd.body).map λb=>(fd.scope,b)
abbrev bodyOf (h:Heap)(a:Addr):Option (Scope×List Stmt):=(told sC h a).bind MM
abbrev pR (T:Tab)(h:Heap)(fn:Fn)(a:Addr):Bool:=(told sC h a).any λfd=>(FC fd.body).any λb=>O8 T h fn fd b
def xC {cd:Value}{q:Str}(e:zC h cd q=true):h.CodeRec cd q:=by
 have#[vs,U,I]:=any_some (band e).2;have#[o,O,hd]:=qM U;have#[w,W,J]:=any_some I;apply#[_,o,vs,_,cg (band e).1,O,oS hd,W.trans (dj some (cg J))]
def rJ {l:List (Str×NameKind)}(h:l.all (λp=>p.2 != .free)=true)(i:Nat)(x:Str):l[i]?≠some (x,.free):=λe =>
 absurd (jy.mp h _ (fe e)) (by simp)
def KO (hk:∀b o,h₀.get? b=some o->G.hb.get? b=some o)(B:G.hb.NoLimit)(e:pR T h₀ fn a=true):∃x,bodyOf h₀ a=some x/\FnAt G a fn.n fn.dflt x.1 x.2/\oO T x.1 fn.body x.2=true:=by
 have#[fd,h1,e]:=any_some e;have#[b,h2,e]:=any_some e;have#[o,ho,hd]:=qM h1;have g1:=band e;have g2:=band g1.2;have g3:=band g2.2;have g4:=band g3.2;have g5:=band g4.2;have g6:=band g5.2;have g7:=band g6.2;have g8:=band g7.2;have g9:=band g8.2;have I:=band g9.2;have J:=band I.2;have O:=band J.2;have U:=band O.2;have W:=band U.2;apply#[(fd.scope,b),(gf.mpr #[fd,h1,dj (Option.map λb=>(fd.scope,b)) h2]),#[B,cg g1.1,(jg _).mp g2.1,(jg _).mp g3.1,cg g4.1,rJ g5.1,o,fd,hk _ _ ho,pZ hd,rfl,FA h2,j5.mp g6.1,cg g7.1,cg g8.1,(xC g9.1).keeps hk,I.1,J.1,cg O.1,?_,cg W.1],W.2];apply((xi ..).mp U.1).imp (λq=>#[cg (band q).1,j5.mp (band q).2]) λq=>?_;have#[ds,h3,q2]:=any_some (band q).2;have#[ot,z,ag]:=qM h3;apply#[_,ot,ds.1.toList,ds.2,cg (band q).1,hk _ _ z,x7 ag,nK _ _ q2]
abbrev LN (T:Tab)(fn:Fn)(x:Scope×List Stmt):Scope×List Stmt:=(x.1,qW T x.1 fn.body x.2)
def O7 (hk:∀b o,h₀.get? b=some o->G.hb.get? b=some o)(W:G.hb.NoLimit)(e:pR T h₀ fn a=true)(U:bodyOf h₀ a=(bodyOf h₀ a).map (LN T fn)) :
  ∃sc body,FnAt G a fn.n fn.dflt sc body/\oO T sc fn.body body=true/\qW T sc fn.body body=body:=by
 have#[x,O,I,J]:=KO hk W e;rw[O]at U;apply#[x.1,x.2,I,J,(dj Prod.snd (af U)).symm]
def yV (hk:∀b o,h₀.get? b=some o->G.hb.get? b=some o)(W:G.hb.NoLimit)(e:pR T h₀ fn a=true){f:Scope×List Stmt->Scope×List Stmt}(O:bodyOf h₀ a=(bodyOf h₀ a).map f):∃x,bodyOf h₀ a=some x/\FnAt G a fn.n fn.dflt (f x).1 (f x).2:=by
 have#[x,U,J,_]:=KO hk W e;rw[U]at O;apply#[x,U,af O▸J]
end MP
end
section
namespace MP
namespace SM
abbrev fn0:Fn:=⟨5,[.none,.str "",.str "",.bool true],(.cons .pass
 (.cons (.a [(.attr (.l 0) 0)] (.l 1))
 (.cons (.a [(.attr (.l 0) 1),(.attr (.l 0) 2)] .none)
 (.cons (.a [(.attr (.l 0) 3)] (.l 4))
 (.cons (.expr (.meth (.l 0) 1 %[.l 2,.l 3|0]))
 .nil)))))⟩
abbrev fn1:Fn:=⟨3,[],(.cons .pass
 (.cons (.expr (.meth (.l 0) 2 %[.l 1|0]))
 (.cons (.expr (.meth (.l 0) 3 %[.l 2|0]))
 .nil)))⟩
abbrev fn2:Fn:=⟨2,[],(.cons .pass
 (.cons (.C (.c .is (.l 1) (.attr (.l 0) 1)) (.cons (.ret .none)
 .nil) .nil)
 (.cons (.a [(.attr (.l 0) 1)] (.l 1))
 (.cons (.a [(.attr (.l 0) 4),(.attr (.l 0) 5)] .none)
 .nil))))⟩
abbrev fn3:Fn:=⟨2,[],(.cons .pass
 (.cons (.C (.c .is (.l 1) (.attr (.l 0) 2)) (.cons (.ret .none)
 .nil) .nil)
 (.cons (.a [(.attr (.l 0) 2)] (.l 1))
 (.cons (.a [(.attr (.l 0) 4),(.attr (.l 0) 5)] .none)
 (.cons (.a [(.attr (.l 0) 6)] .none)
 (.cons (.expr (.meth (.l 0) 4 .nil))
 .nil))))))⟩
abbrev fn4:Fn:=⟨1,[],(.cons (.a [(.v 1)] (.attr (.l 0) 2))
 (.cons (.a [(.attr (.l 0) 7),(.v 2)] .dct0)
 (.cons (.each (.T [3,4]) (.enum (.l 1)) (.cons (.a [(.v 5)] (.bm .setdefault (.l 2) %[.l 4,.L .nil|0]))
 (.cons (.expr (.bm .append (.l 5) %[.l 3|0]))
 .nil)))
 (.cons (.a [(.attr (.l 0) 8),(.v 6)] (.bf .set .nil))
 (.cons (.a [(.v 7)] (.attr (.l 0) 0))
 (.cons (.C (.l 7) (.cons .dead
 (.cons (.each (.v 4) (.seq (.l 6)) (.cons .dead
 .nil))
 .nil)) .nil)
 (.cons (.a [(.attr (.l 0) 9),(.v 8)] (.bf .set .nil))
 (.cons (.a [(.v 9)] (.bf .len %[.l 1|0]))
 (.cons (.C (.and (.attr (.l 0) 3) (.c .ge (.l 9) (.int 200))) (.cons (.a [(.v 10)] (.b .add (.b .fdiv (.l 9) (.int 100)) (.int 1)))
 (.cons .dead
 (.cons (.each (.v 4) (.seq (.l 8)) (.cons .dead
 .nil))
 .nil))) .nil)
 .nil)))))))))⟩
abbrev fn5:Fn:=⟨5,[.int 0,.none,.int 0,.none],(.cons .pass
 (.cons (.a [(.T [5,6,7,8])] (.T %[.attr (.l 0) 1,.attr (.l 0) 2,.attr (.l 0) 7,.h (.attr (.l 0) 8)|0]))
 (.cons (.C (.c .is (.l 2) .none) (.cons (.a [(.v 2)] (.bf .len %[.l 5|0]))
 .nil) .nil)
 (.cons (.C (.c .is (.l 4) .none) (.cons (.a [(.v 4)] (.bf .len %[.l 6|0]))
 .nil) .nil)
 (.cons (.a [.T [9,10,11]] (.T %[.l 1,.l 3,.int 0|0]))
 (.cons (.a [(.v 12)] .dct0)
 (.cons (.a [(.v 13)] (.L .nil))
 (.cons (.each (.v 14) (.rng2 (.l 1) (.l 2)) (.cons (.a [(.v 15)] (.g (.l 12)))
 (.cons (.a [(.v 16)] .dct0)
 (.cons (.each (.v 17) (.seq (.bm .get (.l 7) %[.sub (.l 5) (.l 14),.l 13|0])) (.cons (.C (.c .lt (.l 17) (.l 3)) (.cons .cont
 .nil) .nil)
 (.cons (.C (.c .ge (.l 17) (.l 4)) (.cons .brk
 .nil) .nil)
 (.cons (.a [(.v 18),(.sub (.l 16) (.l 17))] (.b .add (.w 15 %[.b .sub (.l 17) (.int 1),.int 0|0]) (.int 1)))
 (.cons (.C (.c .gt (.l 18) (.l 11)) (.cons (.a [.T [9,10,11]] (.T %[.b .add (.b .sub (.l 14) (.l 18)) (.int 1),.b .add (.b .sub (.l 17) (.l 18)) (.int 1),.l 18|0]))
 .nil) .nil)
 .nil)))))
 (.cons (.a [(.v 12)] (.l 16))
 .nil)))))
 (.cons (.loop (.and (.c .gt (.l 9) (.l 1)) (.and (.c .gt (.l 10) (.l 3)) (.and (.not (.w 8 %[.sub (.l 6) (.b .sub (.l 10) (.int 1))|0])) (.c .eq (.sub (.l 5) (.b .sub (.l 9) (.int 1))) (.sub (.l 6) (.b .sub (.l 10) (.int 1))))))) (.cons (.a [.T [9,10,11]] (.T %[.b .sub (.l 9) (.int 1),.b .sub (.l 10) (.int 1),.b .add (.l 11) (.int 1)|0]))
 .nil))
 (.cons (.loop (.and (.c .lt (.b .add (.l 9) (.l 11)) (.l 2)) (.and (.c .lt (.b .add (.l 10) (.l 11)) (.l 4)) (.and (.not (.w 8 %[.sub (.l 6) (.b .add (.l 10) (.l 11))|0])) (.c .eq (.sub (.l 5) (.b .add (.l 9) (.l 11))) (.sub (.l 6) (.b .add (.l 10) (.l 11))))))) (.cons (.aug 11 .add (.int 1))
 .nil))
 (.cons (.loop (.and (.c .gt (.l 9) (.l 1)) (.and (.c .gt (.l 10) (.l 3)) (.and (.w 8 %[.sub (.l 6) (.b .sub (.l 10) (.int 1))|0]) (.c .eq (.sub (.l 5) (.b .sub (.l 9) (.int 1))) (.sub (.l 6) (.b .sub (.l 10) (.int 1))))))) (.cons (.a [.T [9,10,11]] (.T %[.b .sub (.l 9) (.int 1),.b .sub (.l 10) (.int 1),.b .add (.l 11) (.int 1)|0]))
 .nil))
 (.cons (.loop (.and (.c .lt (.b .add (.l 9) (.l 11)) (.l 2)) (.and (.c .lt (.b .add (.l 10) (.l 11)) (.l 4)) (.and (.w 8 %[.sub (.l 6) (.b .add (.l 10) (.l 11))|0]) (.c .eq (.sub (.l 5) (.b .add (.l 9) (.l 11))) (.sub (.l 6) (.b .add (.l 10) (.l 11))))))) (.cons (.a [(.v 11)] (.b .add (.l 11) (.int 1)))
 .nil))
 (.cons (.ret (.N (.l 9) (.l 10) (.l 11)))
 .nil)))))))))))))⟩
abbrev fn6:Fn:=⟨1,[],(.cons .pass
 (.cons (.C (.c .isNot (.attr (.l 0) 4) .none) (.cons (.ret (.attr (.l 0) 4))
 .nil) .nil)
 (.cons (.a [.T [1,2]] (.T %[.bf .len %[.attr (.l 0) 1|0],.bf .len %[.attr (.l 0) 2|0]|0]))
 (.cons (.a [(.v 3)] (.L %[.T %[.int 0,.l 1,.int 0,.l 2|0]|0]))
 (.cons (.a [(.v 4)] (.L .nil))
 (.cons (.loop (.l 3) (.cons (.a [(.T [5,6,7,8])] (.bm .pop (.l 3) .nil))
 (.cons (.a [(.T [9,10,11]),(.v 12)] (.meth (.l 0) 5 %[.l 5,.l 6,.l 7,.l 8|0]))
 (.cons (.C (.l 11) (.cons (.expr (.bm .append (.l 4) %[.l 12|0]))
 (.cons (.C (.and (.c .lt (.l 5) (.l 9)) (.c .lt (.l 7) (.l 10))) (.cons (.expr (.bm .append (.l 3) %[.T %[.l 5,.l 9,.l 7,.l 10|0]|0]))
 .nil) .nil)
 (.cons (.C (.and (.c .lt (.b .add (.l 9) (.l 11)) (.l 6)) (.c .lt (.b .add (.l 10) (.l 11)) (.l 8))) (.cons (.expr (.bm .append (.l 3) %[.T %[.b .add (.l 9) (.l 11),.l 6,.b .add (.l 10) (.l 11),.l 8|0]|0]))
 .nil) .nil)
 .nil))) .nil)
 .nil))))
 (.cons (.expr (.bm .sort (.l 4) .nil))
 (.cons (.a [(.v 13),(.v 14),(.v 15)] (.int 0))
 (.cons (.a [(.v 16)] (.L .nil))
 (.cons (.each (.T [17,18,19]) (.seq (.l 4)) (.cons (.C (.and (.c .eq (.b .add (.l 13) (.l 15)) (.l 17)) (.c .eq (.b .add (.l 14) (.l 15)) (.l 18))) (.cons (.aug 15 .add (.l 19))
 .nil) (.cons (.C (.l 15) (.cons (.expr (.bm .append (.l 16) %[.T %[.l 13,.l 14,.l 15|0]|0]))
 .nil) .nil)
 (.cons (.a [.T [13,14,15]] (.T %[.l 17,.l 18,.l 19|0]))
 .nil)))
 .nil))
 (.cons (.C (.l 15) (.cons (.expr (.bm .append (.l 16) %[.T %[.l 13,.l 14,.l 15|0]|0]))
 .nil) .nil)
 (.cons (.expr (.bm .append (.l 16) %[.T %[.l 1,.l 2,.int 0|0]|0]))
 (.cons (.a [(.attr (.l 0) 4)] (.M (.l 16)))
 (.cons (.ret (.attr (.l 0) 4))
 .nil))))))))))))))⟩
end SM
namespace SM
abbrev fn7:Fn:=⟨1,[],(.cons .pass
 (.cons (.C (.c .isNot (.attr (.l 0) 5) .none) (.cons (.ret (.attr (.l 0) 5))
 .nil) .nil)
 (.cons (.a [(.v 1),(.v 2)] (.int 0))
 (.cons (.a [(.attr (.l 0) 5),(.v 3)] (.L .nil))
 (.cons (.each (.T [4,5,6]) (.seq (.meth (.l 0) 6 .nil)) (.cons (.a [(.v 7)] (.str ""))
 (.cons (.C (.and (.c .lt (.l 1) (.l 4)) (.c .lt (.l 2) (.l 5))) (.cons (.a [(.v 7)] (.str "replace"))
 .nil) (.cons (.C (.c .lt (.l 1) (.l 4)) (.cons (.a [(.v 7)] (.str "delete"))
 .nil) (.cons (.C (.c .lt (.l 2) (.l 5)) (.cons (.a [(.v 7)] (.str "insert"))
 .nil) .nil)
 .nil))
 .nil))
 (.cons (.C (.l 7) (.cons (.expr (.bm .append (.l 3) %[.T %[.l 7,.l 1,.l 4,.l 2,.l 5|0]|0]))
 .nil) .nil)
 (.cons (.a [.T [1,2]] (.T %[.b .add (.l 4) (.l 6),.b .add (.l 5) (.l 6)|0]))
 (.cons (.C (.l 6) (.cons (.expr (.bm .append (.l 3) %[.T %[.str "equal",.l 4,.l 1,.l 5,.l 2|0]|0]))
 .nil) .nil)
 .nil))))))
 (.cons (.ret (.l 3))
 .nil))))))⟩
end SM
namespace R9
open SM
abbrev IZ:Fn:=⟨2,[],(.cons (.a [(.v 2)] (.L .nil))
 (.cons (.each (.v 3) (.rng1 (.bf .len %[.l 0|0])) (.cons (.each (.v 4) (.rng1 (.bf .len %[.l 1|0])) (.cons (.a [(.v 5)] (.int 0))
 (.cons (.loop (.and (.c .lt (.b .add (.l 3) (.l 5)) (.bf .len %[.l 0|0])) (.and (.c .lt (.b .add (.l 4) (.l 5)) (.bf .len %[.l 1|0])) (.c .eq (.sub (.l 0) (.b .add (.l 3) (.l 5))) (.sub (.l 1) (.b .add (.l 4) (.l 5)))))) (.cons (.aug 5 .add (.int 1))
 (.cons (.expr (.bm .append (.l 2) %[.T %[.neg (.l 5),.l 3,.l 4|0]|0]))
 .nil)))
 .nil)))
 .nil))
 (.cons (.a [(.v 6)] (.L .nil))
 (.cons (.each (.T [7,3,4]) (.seq (.bf .sorted %[.l 2|0])) (.cons (.a [(.v 8)] (.bool true))
 (.cons (.each (.T [9,10,11]) (.seq (.l 6)) (.cons (.C (.not (.or (.and (.c .le (.b .sub (.l 3) (.l 7)) (.l 9)) (.c .le (.b .sub (.l 4) (.l 7)) (.l 10))) (.and (.c .le (.b .add (.l 9) (.l 11)) (.l 3)) (.c .le (.b .add (.l 10) (.l 11)) (.l 4))))) (.cons (.a [(.v 8)] (.bool false))
 .nil) .nil)
 .nil))
 (.cons (.C (.l 8) (.cons (.expr (.bm .append (.l 6) %[.T %[.l 3,.l 4,.neg (.l 7)|0]|0]))
 .nil) .nil)
 .nil))))
 (.cons (.ret (.bf .sorted %[.l 6|0]))
 .nil)))))⟩
abbrev QA:Fn:=⟨3,[],(.cons (.a [(.v 3)] (.L %[.T %[.int 0,.int 0|0]|0]))
 (.cons (.each (.T [4,5,6]) (.seq (.l 0)) (.cons (.expr (.bm .extend (.l 3) %[.L %[.T %[.l 4,.l 5|0],.T %[.b .add (.l 4) (.l 6),.b .add (.l 5) (.l 6)|0]|0]|0]))
 .nil))
 (.cons (.expr (.bm .append (.l 3) %[.T %[.l 1,.l 2|0]|0]))
 (.cons (.a [(.v 7)] (.L .nil))
 (.cons (.each (.v 8) (.rng2 (.int 1) (.bf .len %[.l 3|0])) (.cons (.a [(.T [9,10])] (.sub (.l 3) (.b .sub (.l 8) (.int 1))))
 (.cons (.a [(.T [11,12])] (.sub (.l 3) (.l 8)))
 (.cons (.a [(.v 13)] (.I (.c .eq (.b .mod (.l 8) (.int 2)) (.int 0)) (.str "equal") (.I (.c .eq (.l 9) (.l 11)) (.str "insert") (.I (.c .eq (.l 10) (.l 12)) (.str "delete") (.str "replace")))))
 (.cons (.C (.c .ne (.T %[.l 9,.l 10|0]) (.T %[.l 11,.l 12|0])) (.cons (.expr (.bm .append (.l 7) %[.T %[.l 13,.l 9,.l 11,.l 10,.l 12|0]|0]))
 .nil) .nil)
 .nil)))))
 (.cons (.ret (.l 7))
 .nil))))))⟩
abbrev IY:Fn:=⟨1,[],(.cons (.a [(.T [1,2])] (.T %[.L %[.T %[.L .nil,.L .nil|0]|0],.L %[.int 0|0]|0]))
 (.cons (.each (.v 3) (.seq (.slc (.l 0) .none (.int 63))) (.cons (.a [(.T [4,5])] (.bf .divmod %[.l 3,.int 4|0]))
 (.cons (.C (.c .eq (.l 5) (.int 0)) (.cons (.expr (.bm .insert (.l 2) %[.b .mod (.l 4) (.b .add (.bf .len %[.l 2|0]) (.int 1)),.bf .len %[.l 1|0]|0]))
 (.cons (.expr (.bm .append (.l 1) %[.T %[.L .nil,.L .nil|0]|0]))
 .nil)) .nil)
 (.cons (.a [(.v 6)] (.b .add (.b .mul (.int 3) (.bf .len %[.l 1|0])) (.b .mod (.l 4) (.int 3))))
 (.cons (.C (.or (.c .eq (.l 5) (.int 1)) (.c .eq (.l 5) (.int 2))) (.cons (.expr (.bm .append (.sub (.sub (.l 1) (.neg (.int 1))) (.int 0)) %[.l 6|0]))
 .nil) .nil)
 (.cons (.C (.or (.c .eq (.l 5) (.int 1)) (.c .eq (.l 5) (.int 3))) (.cons (.expr (.bm .append (.sub (.sub (.l 1) (.neg (.int 1))) (.int 1)) %[.l 6|0]))
 .nil) .nil)
 .nil))))))
 (.cons (.a [(.v 7)] (.K [] (.seq (.l 1)) (.T [1,2]) .nil (.elt (.call 10 %[.l 1,.l 2|0]))))
 (.cons (.a [(.v 8)] (.K [] (.seq (.l 7)) (.v 1) .nil (.elt (.bf .maxL %[.b .add (.L %[.int 0|0]) (.K [] (.seq (.l 1)) (.T [1,2,3]) .nil (.elt (.l 3)))|0]))))
 (.cons (.a [(.v 9)] (.L .nil))
 (.cons (.each (.T [11,10]) (.seq (.bf .sorted %[.K [(2,8)] (.rng1 (.bf .len %[.l 1|0])) (.v 1) .nil (.elt (.T %[.neg (.sub (.l 2) (.l 1)),.l 1|0]))|0])) (.cons (.C (.c .eq (.K [(2,10),(3,2)] (.seq (.l 9)) (.v 1) %[.c .ne (.c .lt (.l 1) (.l 2)) (.c .lt (.bm .index (.l 3) %[.l 1|0]) (.bm .index (.l 3) %[.l 2|0]))|0] (.elt (.l 1))) (.L .nil)) (.cons (.expr (.bm .append (.l 9) %[.l 10|0]))
 .nil) .nil)
 .nil))
 (.cons (.a [(.T [12,13,14])] (.T %[.L .nil,.L .nil,.L .nil|0]))
 (.cons (.each (.v 10) (.rng1 (.bf .len %[.l 1|0])) (.cons (.a [(.v 15)] (.bf .sum %[.K [(3,1)] (.seq (.slc (.l 2) .none (.bm .index (.l 2) %[.l 10|0]))) (.v 1) .nil (.elt (.bf .len %[.sub (.sub (.l 3) (.l 1)) (.int 1)|0]))|0]))
 (.cons (.C (.c .isIn (.l 10) (.l 9)) (.cons (.expr (.bm .extend (.l 14) %[.K [(5,15),(6,12)] (.seq (.sub (.l 7) (.l 10))) (.T [1,2,3]) .nil (.elt (.T %[.b .add (.bf .len %[.l 6|0]) (.l 1),.b .add (.l 5) (.l 2),.l 3|0]))|0]))
 .nil) .nil)
 (.cons (.expr (.bm .extend (.l 12) %[.b .add (.sub (.sub (.l 1) (.l 10)) (.int 0)) (.I (.c .lt (.l 10) (.b .sub (.bf .len %[.l 1|0]) (.b .mod (.bf .len %[.l 0|0]) (.int 2)))) (.L %[.b .sub (.neg (.int 1)) (.l 10)|0]) (.L .nil))|0]))
 .nil))))
 (.cons (.each (.v 10) (.seq (.l 2)) (.cons (.expr (.bm .extend (.l 13) %[.sub (.sub (.l 1) (.l 10)) (.int 1)|0]))
 .nil))
 (.cons (.ret (.c .eq (.meth (.n %[.none,.l 12,.l 13|0]) 7 .nil) (.call 11 %[.l 14,.bf .len %[.l 12|0],.bf .len %[.l 13|0]|0])))
 .nil))))))))))⟩
abbrev P (k:Nat):Option Fn:=match k with
 |0=>some fn0|1=>some fn1|2=>some fn2|3=>some fn3|4=>some fn4|5=>some fn5|6=>some fn6|7=>some fn7|10=>some IZ|11=>some QA|12=>some IY|_=>none
abbrev tab:Tab where
 cap:=λ_=>false
 gl:=[("len",.builtin "len"),("sorted",.builtin "sorted"),("sum",.builtin "sum"),("min",.builtin "min"),("max",.builtin "max"),("divmod",.builtin "divmod"),("set",.type "set"),("list",.type "list"),("range",.type "range"),("map",.type "map"),("enumerate",.type "enumerate"),("tuple",.type "tuple"),("Match",.ref 135),("SequenceMatcher",.ref 242),("_law_told",.ref 253),("_law_codes",.ref 260),("law",.ref 265)]
 attrs:=["isjunk","a","b","autojunk","matching_blocks","opcodes","fullbcount","b2j","bjunk","bpopular"]
 meths:=[(0,"__init__"),(1,"set_seqs"),(2,"set_seq1"),(3,"set_seq2"),(4,"_SequenceMatcher__chain_b"),(5,"find_longest_match"),(6,"get_matching_blocks"),(7,"get_opcodes")]
 fns:=[(0,160),(1,167),(2,174),(3,181),(4,188),(5,196),(6,203),(7,210),(10,253),(11,260),(12,265)]
 cM:=135
 cS:=242
end R9
end MP
end
section
namespace MP
open PySem PyProof.Rows PySem.W
abbrev newOf (b:List Stmt):List Stmt:=
 let s0:=b.getD 0 default;let s1:=b.getD 1 default;let d:=st0 s0;let c:=st0 s1;let f:=kid 0 c;let t:=kid 2 c
 rK d.pos s0.pos (kid 0 f).pos f.pos (kid 1 c).pos (kid 0 t).pos (kid 1 t).pos (kid 2 t).pos t.pos c.pos s1.pos (z7 d) (exK d) (exK t)
abbrev HZ (b:List Stmt):Bool:=(kid 0 (st0 (b.getD 1 default))).pos.endLine==(st0 (b.getD 1 default)).pos.line
abbrev rN (b:List Stmt):List Pos:=
 let s0:=b.getD 0 default;let s1:=b.getD 1 default;let s2:=b.getD 2 default;let s3:=b.getD 3 default;let c:=st0 s1;let q:=st0 s2;let l:=kid 0 q
 [(st0 s0).pos,s0.pos,((eI s1).getD 1 default).pos,(kid 0 (kid 0 c)).pos,(kid 0 c).pos,(kid 1 c).pos,(kid 2 c).pos,c.pos,s1.pos,(kid 0 l).pos,(kid 1 l).pos,l.pos,(kid 1 q).pos,q.pos,s2.pos,(st0 s3).pos,s3.pos]
abbrev DF (l:List Pos):Fin 20->Pos:=λi=>l.getD i.1 #[0,0,0,0]
abbrev M8 (b:List Stmt):List Stmt:=mT (DF (rN b)) (z7 (st0 (b.getD 0 default))) (exK (st0 (b.getD 0 default))) (exK (kid 1 (st0 (b.getD 2 default)))) (sw (b.getD 2 default)).b
abbrev DT (b:List Stmt):Bool:=(DF (rN b) 4).endLine==(DF (rN b) 7).line
end MP
end
section
set_option backward.match.sparseCases false
open PySem PySem.W PyProof.Rows
set_option maxHeartbeats 0
namespace Mine
open MP
abbrev tB (w:World)(os:OsState):Thread:=#[LZ (i3 (tA w os)),(tA w os).code,(tA w os).pos,(tA w os).stack]
abbrev XB (w:World)(os:OsState):Option (Flow×SharedT×Code×Pos):=NO TB pw w 11 an 1 400 (sA w os) (tB w os)
abbrev s3 (w:World)(os:OsState):SharedT:=(XB w os).elim (S4 w os) (·.2.1)
abbrev F (w:World)(os:OsState):Shared:=(s3 w os).abs
abbrev viewOf (p:Program):Program:={p with main:={p.main with body:=[0,2,3,4,5,7,8,9].filterMap λi=>p.main.body[i]?}}
abbrev qv:Program:=viewOf pw
public abbrev loose:List Str:=[Str.ofString "_tuplegetter",Str.ofString "Match",Str.ofString "SequenceMatcher"]
@[reducible] def rw9:=PySem.Challenge.rw_dm0056_09
public abbrev Xt:Shared->Bool:=λs=>xlAt qv [] s&&recOk (RowW.records rw9.row.toRowW) s
abbrev yO (w:World)(s:Shared):Bool:=staticsOk (importedModules pw.main.body) (boot_heap w.params) s.heap&&namesBound pw s.heap&&gensDone s&&laidKept (boot_heap w.params) s.heap
abbrev IX (h:Heap)(x:Str):Option Value:=(h.nsMap mainGlobals x).or (h.nsMap builtinsNs x)
abbrev jH (h:Heap)(a:Addr)(xs:List Str):Bool:=xs.all λx=>(h.nsMap a x).isNone
abbrev isFn (h:Heap)(a:Addr):Bool:=(h.get? a).any λo=>decide (o.cls=.type "function")&&(sC o.data).isSome
abbrev fragOf (h:Heap)(as:List Addr):Frag:=as.filterMap λa=>(h.get? a).map λo=>(a,o)
public abbrev K8 (h:Heap):Frag:=fragOf h [135,134,136,91,2,82,89]
abbrev OJ:qa:=.cons .dead %[.dead|0]
abbrev OI:qa:=.cons .dead %[.dead,.dead,.dead|0]
abbrev DS:List (Str×NameKind):=[("tuple",.globalImplicit),("len",.globalImplicit),("TypeError",.globalImplicit)]
abbrev DM (h:Heap):Bool:=h.isNs mainGlobals&&h.isNs builtinsNs&&h.isNs 241&&h.isNs 134&&h.isNs cStatics&&(h.nsMap cStatics "sys.recursionlimit").isNone&&(h.get? sysModules).isSome
abbrev EG (h:Heap):Bool:=R9.tab.gl.all λp=>decide (IX h p.1=some p.2)
abbrev rM (h:Heap):Bool:=R9.tab.meths.all λp=>decide ((h.nsMap 241 p.2)=(R9.tab.fns.lookup p.1).map Value.ref)
abbrev yU (h:Heap):Bool:=R9.tab.fns.all λp=>isFn h p.2&&match R9.P p.1 with|some fn=>pR R9.tab h fn p.2|none=>false
abbrev newOk (h:Heap):Bool:=pR R9.tab h #[4,[],OJ] 82&&(bodyOf h 82).any λx=>HZ x.2
abbrev wB (h:Heap):Bool:=pR R9.tab h #[2,[],OI] 89&&(bodyOf h 89).any λx=>DT x.2
abbrev NV (x:Scope×List Stmt):Scope×List Stmt:=(d4 [],newOf x.2)
abbrev KH (x:Scope×List Stmt):Scope×List Stmt:=(qx DS [],M8 x.2)
abbrev LM (k:Nat)(x:Scope×List Stmt):Scope×List Stmt:=match R9.P k with
 |some fn=>LN R9.tab fn x
 |none=>x
abbrev sJ (h:Heap):List (Option (Scope×List Stmt)):=R9.tab.fns.map λp=>bodyOf h p.2
abbrev zF (h:Heap):List (Option (Scope×List Stmt)):=R9.tab.fns.map λp=>(bodyOf h p.2).map (LM p.1)
structure Obs (P:Params)(h:Heap):Prop where
 nss:DM h=true
 no241:jH h 241 ("__getattribute__" :: "__getattr__" :: "__setattr__" :: R9.tab.attrs)=true
 no134:jH h 134 ["__iter__","__lt__","__len__","__init__"]=true
 gls:EG h=true
 meths:rM h=true
 fns:yU h=true
 new:newOk h=true
 make:wB h=true
 sJ:sJ h=zF h
 newB:bodyOf h 82=(bodyOf h 82).map NV
 makeB:bodyOf h 89=(bodyOf h 89).map KH
 g242:h.get? 242=some (excClassObj "SequenceMatcher" "SequenceMatcher" 242 241 [.type "object"] [.type "object"] true [] [] false none none none none (some (.str "SequenceMatcher" 389)) (some (.str "SequenceMatcher" 397)) (some (.bool true)) "object.__new__")
 g135:h.get? 135=some (gE 135 134 "Match" "Match" (some (.ref 65)) (some (.str "Match" 253)) (some (.str "Match" 261)))
 l1:peek (K8 h) #[pw,P] (mroOf (.ref 135))=some [.ref 135,.type "tuple",.type "object"]
 l2:peek (K8 h) #[pw,P] (isType (.ref 135))=some true
 l3:peek (K8 h) #[pw,P] (isSubtype (.ref 135) (.ref 135))=some true
 l4:peek (K8 h) #[pw,P] (isSubtype (.ref 135) (.type "tuple"))=some true
 l5:peek (K8 h) #[pw,P] (isSubtype (.ref 135) (.type "object"))=some true
 l6:peek (K8 h) #[pw,P] (classHasDel 135)=some false
 l7:peek (K8 h) #[pw,P] (typeLookup (.ref 135) "__init__")=some (some (.builtin "object.__init__"))
 l8:peek (K8 h) #[pw,P] (specialOf (.ref 135) "__call__")=some (some (.builtin "type.__call__"))
 l9:peek (K8 h) #[pw,P] (isInstance (.ref 135) (.type "type"))=some true
 l10:peek (K8 h) #[pw,P] (Bind.madeBy (.ref 135))=some none
 l11:peek (K8 h) #[pw,P] (Bind.madeHere "tuple.__new__" (.ref 135))=some ()
 l12:(λx:Value=>peek (K8 h) #[pw,P] (checkBuiltinCall "tuple.__new__" #[[.ref 135,x],[]]))=λx=>some ()
 m1:readsIn (K8 h) 135 (.type "type")=true
 m2:findCls (K8 h) (.ref 135) (.type "type") "__new__"=some (.get (.builtin "staticmethod.__get__") (.ref 136) .none (.ref 135))
 m3:findCls (K8 h) (.ref 135) (.type "type") "_make"=some (.get (.builtin "classmethod.__get__") (.ref 91) .none (.ref 135))
 m4:recIn (K8 h) 136 "staticmethod"=some [.ref 82]
 m5:recIn (K8 h) 91 "classmethod"=some [.ref 89,.bool false]
abbrev asked (w:World)(s:Shared)(h:Heap)(P:Params):=
 ((yO w s,openSeen qv loose (importedModules pw.main.body) Xt true s),
  (DM h&&jH h 241 ("__getattribute__" :: "__getattr__" :: "__setattr__" :: R9.tab.attrs)&&jH h 134 ["__iter__","__lt__","__len__","__init__"]&&EG h&&rM h&&yU h&&newOk h&&wB h),
  (sJ h,bodyOf h 82,bodyOf h 89,h.get? 242,h.get? 135),
  (peek (K8 h) #[pw,P] (mroOf (.ref 135)),peek (K8 h) #[pw,P] (isType (.ref 135)),peek (K8 h) #[pw,P] (isSubtype (.ref 135) (.ref 135)),peek (K8 h) #[pw,P] (isSubtype (.ref 135) (.type "tuple")),peek (K8 h) #[pw,P] (isSubtype (.ref 135) (.type "object")),
  peek (K8 h) #[pw,P] (classHasDel 135),peek (K8 h) #[pw,P] (typeLookup (.ref 135) "__init__"),peek (K8 h) #[pw,P] (specialOf (.ref 135) "__call__"),peek (K8 h) #[pw,P] (isInstance (.ref 135) (.type "type")),peek (K8 h) #[pw,P] (Bind.madeBy (.ref 135)),
  peek (K8 h) #[pw,P] (Bind.madeHere "tuple.__new__" (.ref 135)),λx:Value=>peek (K8 h) #[pw,P] (checkBuiltinCall "tuple.__new__" #[[.ref 135,x],[]])),
  (readsIn (K8 h) 135 (.type "type"),findCls (K8 h) (.ref 135) (.type "type") "__new__",findCls (K8 h) (.ref 135) (.type "type") "_make",recIn (K8 h) 136 "staticmethod",recIn (K8 h) 91 "classmethod"))
def atB:(λw os=>((XB w os).map λr=>(r.1,r.2.2.1),asked w (F w os) (F w os).heap w.params))=λw os=>(some (.next,cE),((true,openGood qv loose),true,
  (zF (F w os).heap,(bodyOf (F w os).heap 82).map NV,(bodyOf (F w os).heap 89).map KH,some (excClassObj "SequenceMatcher" "SequenceMatcher" 242 241 [.type "object"] [.type "object"] true [] [] false none none none none (some (.str "SequenceMatcher" 389)) (some (.str "SequenceMatcher" 397)) (some (.bool true)) "object.__new__"),
   some (gE 135 134 "Match" "Match" (some (.ref 65)) (some (.str "Match" 253)) (some (.str "Match" 261)))),
  (some [.ref 135,.type "tuple",.type "object"],some true,some true,some true,some true,some false,some (some (.builtin "object.__init__")),some (some (.builtin "type.__call__")),some true,some none,some (),λ_=>some ()),
  (true,some (.get (.builtin "staticmethod.__get__") (.ref 136) .none (.ref 135)),some (.get (.builtin "classmethod.__get__") (.ref 91) .none (.ref 135)),some [.ref 82],some [.ref 89,.bool false]))):=by
 delta F s3 XB tB LZ PySem.W.Fast.tw4202317264376624991
 rw[wV]
 kernel_rfl
end Mine
end
section
open PySem PySem.W PyProof.Rows
set_option maxHeartbeats 0
namespace Mine
open MP
def AP {p q:Program}{loose:List Str}{Xt:Shared->Bool}{N:Nat}{g0:Bool}{W:Params->Heap}{U:Array GenState}{J:Drawn}{O I:Nat}{ag:Option Value}{M:Nat}{F:World->OsState->Shared}
  (B:∀w:World,(fencedOpening treeTable p w N).map (λs=>(s.heap,s.gens,s.drawn,s.toks))=some (W w.params,U,J,O))
  (z:∀w:World,((W w.params).isNs mainGlobals&&U.size==0,(W w.params).objs.size,(W w.params).nsMap mainGlobals "__annotations__")=(true,I,ag))
  (run:∀(w:World) (os:OsState),topRun treeTable p w I ag M #[W w.params,U,J,O,os] (topStub p)=some (F w os)) (le:Nat.ble M N=true)
  (yO:∀(w:World) (os:OsState),(staticsOk (importedModules p.main.body) (W w.params) (F w os).heap&&namesBound p (F w os).heap&&gensDone (F w os)&&laidKept (W w.params) (F w os).heap)=true)
  (seen:∀(w:World) (os:OsState),openSeen q loose (importedModules p.main.body) Xt g0 (F w os)=openGood q loose) :
  LeftO p q loose Xt (λs=>s.heap) (λw=>(F w ((fencedOpening treeTable p w N).elim {} (·.os))).heap) N g0:=λw=>by
 have#[#[h,gs,d,k,os],e,e']:=jr.mp (B w);have zz:=by simpa using e'
 clear e';have#[rfl,rfl,rfl,rfl]:h=W w.params/\gs=U/\d=J/\k=O:=zz;have#[z1,z2,z3]:_/\_/\_:=by simpa only[ui] using z w
 have r:=topRun_mono (N-M) _ _ _ _ (run w os);rw[show M+(N-M)=N by have:=bz le;(show gu .a1 .i (.e .aF .C) (aa (ba .A .a .A this)))]at r;have t:topFrom treeTable p w N #[W w.params,gs,d,k,os]=some (F w os):=by
  unfold topFrom;dsimp only;rw[z1,z2,z3,r];show(match staticsOk (importedModules p.main.body) (W w.params) (F w os).heap&&namesBound p (F w os).heap&&gensDone (F w os)&&laidKept (W w.params) (F w os).heap with|true=>_|false=>_)=_;rw[yO w os]
 unfold openEnds;rw[e];show(topFrom treeTable p w N _).map _=_;rw[t];apply dj some (zc (seen w os) ?_);show(F w os).heap=_;dsimp only;rw[e];rfl
def lh {α W:Type}{a c:α}{b d:W}(h:(a,b)=(c,d)):a=c:=dj (·.1) h
def jj {α W:Type}{a c:α}{b d:W}(h:(a,b)=(c,d)):b=d:=dj (·.2) h
def O0 {w:World}{os:OsState}:yO w (F w os)=true:=lh (lh (jj (kx (kx atB w) os)))
def obs (w:World)(os:OsState):Obs w.params (F w os).heap:=by
 have v:=jj (jj (kx (kx atB w) os));generalize (F w os).heap=h at v ⊢;generalize w.params=P at v ⊢;have J:=lh v;have W:=lh (jj v);have O:=lh (jj (jj v));have U:=jj (jj (jj v));simp only[fp]at J;have#[#[#[#[#[#[#[a1,a2],a3],a4],a5],a6],a7],a8]:=J;have b:=jj O;have c:=jj b;have d:=jj c;have e:=jj d;have f:=jj e;have g:=jj f;have i:=jj g;have j:=jj i;have k:=jj j;have l:=jj k;have m:=jj U;have n:=jj m;have o:=jj n;apply#[a1,a2,a3,a4,a5,a6,a7,a8,lh W,lh (jj W),lh (jj (jj W)),lh (jj (jj (jj W))),jj (jj (jj (jj W))),lh O,lh b,lh c,lh d,lh e,lh f,lh g,lh i,lh j,lh k,lh l,jj l,lh U,lh m,lh n,lh o,jj o]
def LL (w:World)(os:OsState):topRun treeTable pw w 11 an 2381 (S0 w os) (topStub pw)=some (F w os):=by
 have hp:=kx (kx pre w) os;have hb:=kx (kx blk w) os;have hA:=kx (kx atA w) os;have hv:=lh (kx (kx atB w) os);have hf:=λc q s=>kx (kx (kx (kx fin w) c) q) s;have#[#[fl,I,c3,q3],O,e]:=jr.mp hv;have z:fl=.next:=lh e
 have ag:c3=cE:=jj e;subst z;subst ag;have hF:F w os=I.abs:=by
  unfold F s3;rw[O];rfl
 have U:XA w os=some (sA w os,tA w os):=by
  have J:=lh hA;unfold sA tA;cases q:XA w os with
  |none=>rw[q]at J;cases J
  |some x=>rfl
 have B:tB w os=tA w os:=by
  unfold tB;rw[<- jj hA]
 unfold XB at O;rw[B]at O;rw[hF];generalize sA w os=sa at U O;generalize tA w os=ta at U O;unfold XA at U;unfold th0 at U;rw[OR]at U;have e3:TB=treeTable:=PySem.W.Fast.te14364793385576792824.symm;have e1:goT=@segGoT:=PySem.W.Fast.te10295753902157049106.symm;have e2:NO=@segRunT:=PySem.W.Fast.te10110043849684766642.symm;rw[e1,e3]at U;rw[e2,e3]at O;rw[e3]at hp hb hf;have hs:=seg_go (n:=1966) (N:=400) (segGo_of U) (segRun_of O);apply go_top (n:=12) (N:=2369) hp (piece_block (n:=1) (N:=2368) hb ?_);have:=piece_app (n:=2366) (N:=2) (l:=bE) (rest:=[]) (env:=J6) hs (piece_nil (hf _ _ _));rw[dg]at this;show this
end Mine
end
section
open PySem PySem.W PyProof.Rows
set_option maxHeartbeats 0
namespace Mine
open MP
def NZ:∀w:World,((boot_heap w.params).isNs mainGlobals&&(#[[]]:Array GenState).size==0,(boot_heap w.params).objs.size,(boot_heap w.params).nsMap mainGlobals "__annotations__")=(true,11,an):=by
 have h:(λw:World=>((boot_heap w.params).isNs mainGlobals&&(#[[]]:Array GenState).size==0,(boot_heap w.params).objs.size,(boot_heap w.params).nsMap mainGlobals "__annotations__"))=λw=>(true,11,an):=by kernel_rfl
 show λw=>kx h w
abbrev H1 (w:World):Heap:=(F w ((fencedOpening treeTable pw w 4418).elim {} (·.os))).heap
abbrev hook:Hook where
 α:=Heap
 obs:=λs=>s.heap
 val:=H1
 says:=λw h=>∀a o,(H1 w).get? a=some o->h.get? a=some o
 of:=λw s e a o h=>by rw[e];show h
 keeps:=λw h h' x k a o e=>k a o (x a o e)
def left:LeftO pw qv loose Xt (λs=>s.heap) H1 4418 true:=AP (boot_open (by kernel_rfl) (by decide +kernel) (λs=>by kernel_rfl)) NZ LL (by decide +kernel) (λw os=>O0) λw os=>jj (lh (jj (kx (kx atB w) os)))
def head (U:∀(d:DefRec) (W:List (Str×Expr)),defOf qv rw9.row.name=some (d,W)->WalkO qv loose (XL qv []) hook.says rw9.row.toRowW d W λf vs=>PySem.call f vs):rw9.Holds:=by
 w_on
 apply holds_law (by decide +kernel) λO=>?_;apply holds_open (q:=qv) (loose:=loose) (Xt:=Xt) (XP:=XL qv []) (Yf:=hook.obs) (Ya:=hook.val) (YP:=hook.says) (N:=4418) left hook.of hook.keeps (λs e=>xl_of s (Bool.and_eq_true_iff.mp e).1) XL.keeps (by rfl) (by rfl) (by rfl) (λs e=>recFacts_of (Bool.and_eq_true_iff.mp e).2) (by first|rfl|fail "no head") (by first|assumption|decide +kernel) (by decide +kernel) #[rfl,rfl,rfl,rfl,rfl,by decide +kernel] ?hw ?U
 case hw=>w_witness2
 case U=>show U _ _ (by rfl)
def LW (w:World):Obs w.params (H1 w):=obs w _
end Mine
end
section
set_option tactic.hygienic true
open PySem PySem.W PyProof.Rows
set_option maxHeartbeats 0
namespace Mine
open MP
def BU (x:Str)(W:x∈R9.tab.attrs):typeLookup (.type "object") x=pure none:=by
 simp only[R9.tab,cw,zy,or_false]at W;rcases W with rfl|rfl|rfl|rfl|rfl|rfl|rfl|rfl|rfl|rfl<;>(rw[ip,fq];kernel_rfl)
abbrev G8 (w:World)(h0 hb:Heap):Stc:={prog:=pw,w:=w,hb:=hb,cM:=135,cS:=242,attrs:=R9.tab.attrs,gl:=IX h0,cap:=λ_=>false,clo:=λ_ _ _=>False}
section
variable {w:World}{h0 hb:Heap}(ob:Obs w.params h0)
include ob
def u6:h0.isNs mainGlobals=true/\h0.isNs builtinsNs=true/\h0.isNs 241=true/\h0.isNs 134=true/\h0.isNs cStatics=true/\h0.nsMap cStatics "sys.recursionlimit"=none/\∃o,h0.get? sysModules=some o:=by
 have h:=ob.nss;unfold DM at h;simp only[fp,vl]at h;have#[#[#[#[#[#[z,B],I],J],O],U],W]:=h;apply#[z,B,I,J,O,U,cz.mp W]
omit ob in
def qu {h:Heap}{a:Addr}{xs:List Str}(e:jH h a xs=true){x:Str}(W:x∈xs):h.nsMap a x=none:=by
 unfold jH at e;rw[jy]at e;show vl.mp (e x W)
variable (hk:∀a o,h0.get? a=some o->hb.get? a=some o)
include hk
def MB:hb.NoLimit:=by
 have#[z,B,I,J,U,W,O]:=u6 ob;apply#[_,(zf U).keeps hk,W]
def OL:ClsAt hb 242 241 (h0.nsMap 241):=by
 have#[z,B,W,I,J,O,U]:=u6 ob;apply#[#[_,_,_,_,_,_,_,_,_,_,_,_,hk _ _ (ob.g242)],(zf W).keeps hk]
def Q8:GOk (G8 w h0 hb):=by
 have#[J,O,h3,z,B,I,o,U]:=u6 ob;have no:=ob.no241;apply#[#[241,_,OL ob hk,qu no (.head _),qu no (.tail _ (.head _)),qu no (.tail _ (.tail _ (.head _))),λx W=>#[qu no (.tail _ (.tail _ (.tail _ W))),BU x W]],by show R9.tab.attrs.length<=100;decide,by show R9.tab.attrs.Nodup;decide +kernel,#[o,hk _ _ U],#[_,_,(zf J).keeps hk,(zf O).keeps hk,λx=>rfl]]
omit hk in
def gl8 (x:Str)(v:Value)(e:R9.tab.gl.lookup x=some v):IX h0 x=some v:=by
 have h:=ob.gls;unfold EG at h;rw[jy]at h;show cg (h (x,v) (MP.mem_of_lookup e))
def ML {k:Nat}{a:Addr}(e:R9.tab.fns.lookup k=some a):∃o fd,hb.get? a=some o/\o.cls=.type "function"/\o.data=.func fd:=by
 have h:=ob.fns;unfold yU at h;rw[jy]at h;have:=h (k,a) (MP.mem_of_lookup e);rw[fp]at this;have:=this.1;have#[o,W,h]:=MP.any_some this;have#[O,U]:=MP.band h;have#[fd,hd]:=cz.mp U;apply#[o,fd,hk _ _ W,cg O,pZ hd]
omit hk in
def M6 {k:Nat}{name:Str}(e:R9.tab.meths.lookup k=some name):h0.nsMap 241 name=(R9.tab.fns.lookup k).map Value.ref:=by
 have h:=ob.meths;unfold rM at h;rw[jy]at h;show cg (h (k,name) (MP.mem_of_lookup e))
def KG (k:Nat)(name:Str)(e:R9.tab.meths.lookup k=some name):∃f,R9.tab.fns.lookup k=some f/\MethAt (G8 w h0 hb) name f:=by
 have no:=ob.no241;have U:∃f,R9.tab.fns.lookup k=some f:=by
  have h:R9.tab.meths.all (λp=>(R9.tab.fns.lookup p.1).isSome)=true:=by decide +kernel
  show cz.mp (jy.mp h _ (MP.mem_of_lookup e))
 have W:name∉R9.tab.attrs:=by
  have h:R9.tab.meths.all (λp=>decide (p.2∉R9.tab.attrs))=true:=by decide +kernel
  show cg (jy.mp h _ (MP.mem_of_lookup e))
 have#[f,O]:=U;have#[o,fd,J,I,hd]:=ML ob hk O;apply#[f,O,#[#[241,_,o,fd,OL ob hk,qu no (.head _),qu no (.tail _ (.head _)),?_,J,I,hd],W,#[_,ip _ _]]];have:=M6 ob e;rw[O]at this;show this
def O6:∃f,R9.tab.fns.lookup 0=some f/\o9 (G8 w h0 hb) f:=by
 have#[f,W,M]:=KG ob hk 0 "__init__" rfl;have#[N,mN,of,fd,I,h2,z,J,O,U,B]:=M.here;apply#[f,W,#[N,mN,of,I,J,O,U]]
def M7:uh (G8 w h0 hb):=by
 have#[z,B,I,W,J,O,U]:=u6 ob;have no:=ob.no134;apply#[#[134,_,_,_,_,_,_,hk _ _ (ob.g135),(zf W).keeps hk,qu no (.head _),qu no (.tail _ (.head _)),qu no (.tail _ (.tail _ (.head _))),qu no (.tail _ (.tail _ (.tail _ (.head _))))]]
omit ob hk in
def rT (h:Heap):∀l:List Addr,Frag.In (fragOf h l) h
 | [],a,o,e=>by cases e
 |b::l,a,o,e=>by
  unfold fragOf at e;simp only[List.filterMap_cons]at e;cases W:h.get? b with
  |none=>rw[W]at e;show rT h l a o e
  |some ob =>
   rw[W]at e;simp only[Option.map_some,List.lookup]at e;split at e
   ·rename_i q;cases e;rw[fy.mp q];show W
   ·show rT h l a o e
omit ob hk in
def m6:findCls [] (.type "tuple") (.type "type") "__new__"=some (.val (.builtin "tuple.__new__")):=by kernel_rfl
omit ob hk in
def m7:findIn [] (.type "type") "__getattribute__"=some (some (.builtin "type.__getattribute__")):=by kernel_rfl
omit ob hk in
def m8:subIn [] (.type "type") (.type "type")=some true:=by kernel_rfl
omit ob hk in
def m9:opaqueClassAbove (.type "tuple")=pure none:=by kernel_rfl
omit ob hk in
def m10:hookBefore (.type "type")=pure none:=by kernel_rfl
omit ob hk in
def m11:typeOf (.type "tuple")=pure (.type "type"):=by kernel_rfl
def E7:(K8 h0).In hb:=(rT h0 _).keeps hk
def dZ {α:Type}{t:Sem α}{r:α}(e:peek (K8 h0) #[pw,w.params] t=some r):Looks (G8 w h0 hb).M (G8 w h0 hb).hb t r:=Looks.of_peek (K:=K8 h0) (E7 ob hk) e
def I8:rd (G8 w h0 hb) 82 89 where
 made:=dZ ob hk (ob.l10)
 here:=dZ ob hk (ob.l11)
 chk:=λx=>dZ ob hk (kx ob.l12 x)
 mro:=dZ ob hk (ob.l1)
 self:=dZ ob hk (ob.l3)
 tup:=dZ ob hk (ob.l4)
 init:=dZ ob hk (ob.l7)
 call:=dZ ob hk (ob.l8)
 typ:=dZ ob hk (ob.l9)
 isT:=dZ ob hk (ob.l2)
 del:=dZ ob hk (ob.l6)
 new:=λA E s Q k h=>cls_bind (K:=K8 h0) (mc:=.type "type") ((E7 ob hk).keeps k) (ob.m1) (ob.m2) (su (sm_get (s:={s with toks:=s.toks+1}) (K:=K8 h0) ((E7 ob hk).keeps k) (ob.m4) (handed_on rfl h)))
 make:=λA E s expr Q k h=>cls_bind (K:=K8 h0) (mc:=.type "type") ((E7 ob hk).keeps k) (ob.m1) (ob.m3) (su (cm_get (s:={s with toks:=s.toks+1}) (K:=K8 h0) ((E7 ob hk).keeps k) (ob.m5) (handed_on rfl h)))
 typNew:=λA E s expr Q h=>cls_open (K:=[]) (λ_ _ e=>nomatch e) (Looks.of_pure m9) (Looks.of_pure m11) m7 (Looks.of_pure m10) m8 m6 (ae (handed_on rfl h))
def PZ:qG (G8 w h0 hb) 82:=by
 apply#[?_,gl8 ob "tuple" _ (by decide +kernel),dZ ob hk ob.l5];have h:=ob.new;unfold newOk at h;rw[fp]at h;have#[x,W,U]:=yV (G:=G8 w h0 hb) hk (MB ob hk) h.1 ob.newB;have hl:=h.2;rw[W]at hl;apply#[_,_,_,_,_,_,_,_,_,_,_,_,_,_,[],U,hl]
def NX:nW (G8 w h0 hb) 89:=by
 apply#[?_,gl8 ob "tuple" _ (by decide +kernel),gl8 ob "len" _ (by decide +kernel)];have h:=ob.make;unfold wB at h;rw[fp]at h;have#[x,W,U]:=yV (G:=G8 w h0 hb) hk (MB ob hk) h.1 ob.makeB;have hl:=h.2;rw[W]at hl;apply#[_,_,_,_,_,DS,[],U,hl,by decide +kernel,by decide +kernel]
def OQ:sT (G8 w h0 hb) R9.tab:=
 #[Q8 ob hk,gl8 ob,rfl,rfl,KG ob hk,O6 ob hk,rfl,rfl,#[82,89,I8 ob hk,PZ ob hk,NX ob hk],M7 ob hk]
def NQ:xQ (G8 w h0 hb) R9.tab R9.P:=by
 apply#[OQ ob hk,λk cs a q=>q.elim,λk a e=>?_];have h:=ob.fns;unfold yU at h;rw[jy]at h;have:=h (k,a) (MP.mem_of_lookup e);rw[fp]at this;have W:=this.2;split at W
 ·rename_i fn U;have#[sc,body,x,y]:=O7 (G:=G8 w h0 hb) hk (MB ob hk) W (by
   have J:=List.map_inj_left.mp ob.sJ (k,a) (MP.mem_of_lookup e);have O:LM k=LN R9.tab fn:=by funext x;unfold LM;rw[U]
   rw[<- O];show J)
  apply#[fn,sc,body,U,x,y]
 ·cases W
end
end Mine
end
section
open PySem PySem.W PyProof.Rows
set_option maxHeartbeats 0
namespace Mine
open MP
abbrev st0:MP.St:=#[λ_=>none,λ_=>none,λ_=>none,λ_=>none,λ_=>none]
def PW (G:Stc):Rel G st0 G.hb:=by
 apply#[λ_ _ e=>?_,λ_ _ e=>?_,λ_ _ e=>?_,λ_ _ _ e=>?_,λ_ _ e=>?_,λ_ _ e=>?_,λ_ _ e=>?_,λ_ _ _ _ _ e=>?_,λ_ _ _ e=>?_,λ_ _ _ _ _ _ e=>?_,λb d=>?_,λ_ _ e=>e]
 all_goals first|cases e|skip
 unfold MP.St.dom at d;simp[st0]at d
def ao0:AOk callerA 16:=#[rfl,by decide,by decide]
section
variable {P:Params}{h:Heap}
def PM {v:Value}{x:WData}(W:Well P h v x)(U:WShape.has [] x .int=true):∃i t,v=.int i t/\x=.int i:=by
 cases W with
 |int i t=>refine#[i,t,rfl,rfl]
 |_=>show Bool.noConfusion (show false=true from U)
def NC {v:Value}{x:WData}(W:Well P h v x)(U:WShape.has [] x (.list .int)=true):∃a vs xs,v=.ref a/\x=.list xs/\h.get? a=some {cls:=.type "list",data:=.seq vs.toArray}/\WellAll P h vs xs/\WShape.hasItems [] xs .int=true:=by
 cases W with
 | @list a vs xs e O=>refine#[a,vs,xs,rfl,rfl,e,O,(i7 _).symm.trans (show(WShape.hasItems [] xs .int||false)=true from U)]
 |_=>show Bool.noConfusion (show false=true from U)
def G2 {vs:List Value}{xs:List WData}(W:WellAll P h vs xs):(vs=[]/\xs=[])\/∃v us x ys,vs=v::us/\xs=x::ys/\Well P h v x/\WellAll P h us ys:=by
 cases W with
 |nil=>show .inl #[rfl,rfl]
 |cons W U=>show .inr #[_,_,_,_,rfl,rfl,W,U]
def ints_of {vs:List Value}:∀{xs:List WData},WellAll P h vs xs->WShape.hasItems [] xs .int=true->∃ns:List Int,xs=ns.map WData.int/\IntsAre vs ns:=by
 induction vs with
 |nil =>
  intro xs W U;rcases G2 W with ⟨_,rfl⟩|⟨_,_,_,_,e,_⟩
  ·apply#[[],rfl,.nil]
  ·cases e
 |cons v vs O =>
  intro xs W U;rcases G2 W with ⟨e,_⟩|⟨_,_,x,ys,e,rfl,W1,z⟩
  ·cases e
  ·cases e;have#[B,J]:=MP.band (show(WShape.has [] x .int&&WShape.hasItems [] ys .int)=true from U);clear U;have#[ns,rfl,I]:=O z J;have#[i,t,rfl,rfl]:=PM W1 B;apply#[i::ns,rfl,.cons i t I]
def JO {args:List WData}{vals:List Value}(W:WellAll P h vals args)(U:WShape.hasAll [] args [.list .int]=true):∃(l:Addr) (vs:List Value) (ns:List Int),vals=[.ref l]/\args=[.list (ns.map WData.int)]/\h.get? l=some {cls:=.type "list",data:=.seq vs.toArray}/\IntsAre vs ns:=by
 rcases G2 W with ⟨_,rfl⟩|⟨v,us,x,ys,rfl,rfl,W1,O⟩
 ·cases U
 ·have#[z,B]:=MP.band (show(WShape.has [] x (.list .int)&&WShape.hasAll [] ys [])=true from U);rcases G2 O with ⟨rfl,rfl⟩|⟨_,_,_,_,_,rfl,_⟩
  ·have#[a,vs,xs,rfl,rfl,e,O,U]:=NC W1 z;have J:=ints_of O U;clear U;have#[ns,rfl,I]:=J;apply#[_,_,ns,rfl,rfl,e,I]
  ·show Bool.noConfusion (show false=true from B)
end
def NR (xs:List WData)(h:rw9.pre.holds [] {args:=[.list xs]}=true):xs.length<=63:=by
 have e:rw9.pre=.and (.not (.lt (.lit (.int 63)) (.len (.arg 0)))) (.lit (.bool true)):=by rfl
 rw[e]at h;have hl:WTm.value [] (.lt (.lit (.int 63)) (.len (.arg 0))) {args:=[.list xs]}=(less? (.int 63) (.int xs.length)).map WData.bool:=by rfl
 have J:less? (.int 63) (.int xs.length)=some (decide ((63:Int)<xs.length)):=by first|rfl|simp[less?]
 rw[J]at hl;by_cases W:(63:Int)<xs.length
 ·have U:WTm.value [] (.not (.lt (.lit (.int 63)) (.len (.arg 0)))) {args:=[.list xs]}=some (.bool false):=by
   show(match WTm.value [] (.lt (.lit (.int 63)) (.len (.arg 0))) {args:=[.list xs]} with|some (.bool b)=>some (WData.bool (!b))|_=>none)=_;rw[hl];simp[W]
  have O:WTm.value [] (.and (.not (.lt (.lit (.int 63)) (.len (.arg 0)))) (.lit (.bool true))) {args:=[.list xs]}=some (.bool false):=by
   show(match WTm.value [] (.not (.lt (.lit (.int 63)) (.len (.arg 0)))) {args:=[.list xs]} with
    |some (.bool false)=>some (WData.bool false)
    |some (.bool true)=>some (.bool true)
    |_=>none)=_
   rw[U]
  unfold WTm.holds at h;rw[O]at h;cases h
 ·(show fc .X .a (.ig (.n 63) .L) W)
def LS:(λ(x y:List WData)=>rw9.row.claim.post x (WData.bool true) y)=λx y=>true:=by kernel_rfl
def QC (ai:∀ns:List Int,ns.length<=63->ku R9.P 7 12 [.ro ns] st0 λv σ=>v=.bool true):rw9.Holds:=by
 apply head λd ay hd w s₀ s₁ mg mb Gr J a o pm cd doc dV kV ho ax hcd bc z O args vals as B ar aj U ao=>?_;have hk:∀b o,(H1 w).get? b=some o->s₁.heap.get? b=some o:=J;have W:(WShape.hasAll [] args [.list .int]&&rw9.pre.holds [] {args:=args})=true:=B;rw[fp]at W;have#[l,vs,ns,rfl,rfl,hl,I]:=JO U W.1;have ag:ns.length<=63:=by
  simpa using NR _ W.2
 have ha:a=265:=by
  have e1:=Gr.T.g.eq_nsMap;have e0:=(u6 (LW w)).1;have e4:=gl8 (LW w) "law" (.ref 265) (by decide +kernel);generalize H1 w=h0 at e0 e4 hk;have e2:=((zf e0).keeps hk).eq_nsMap;have e3:d.name=("law":Str):=by
   have:(defOf qv rw9.row.name).map (λp=>p.1.name)=some ("law":Str):=by kernel_rfl
   rw[hd]at this;show af this
  rw[e1,<- e2,e3]at z;unfold IX at e4;rw[z]at e4;cases e4;rfl
 subst ha;have hc:=(MV (NQ (LW w) hk) 7 12 265 (by decide +kernel)).2 (E:=λe s'=>GoodWG rw9.row.claim (classAt s₀.heap) (ExcName.means s₀.heap) [.list (ns.map WData.int)] s₁ (.error e) s') (ws:=[.ref l]) (σ:=st0) (s:=s₁) ao0 (PW (G8 w (H1 w) s₁.heap)) %[.ro hl I|0] (ai ns ag);apply du hc (λv s' lf=>?_) λ_ _ x=>x;have#[u,σ',q,vr,R',x']:=lf;obtain rfl:u=V.bool true:=q;have rfl:=vr;apply#[.inl #[.bool true,.bool true,[],rfl,λcls=>rfl,.bool true,?_,λ_=>#[List.nodup_nil,λa h=>nomatch h]],.of_keep λb o e=>R'.base b o e,x'.o,.of_eq (x'.g.trans O)];show kx (kx LS _) _
end Mine
end
section
namespace MP
open PySem
variable {Q:V->St->Prop}
def mh {σ:St}{a d:Addr}{f:Nat->Option V}:(σ.jw a d f).I a=some (d,f):=cm _ _ _
def vp {σ:St}{a d d':Addr}{f g:Nat->Option V}:(σ.jw a d f).jw a d' g=σ.jw a d' g:=by
 unfold St.jw
 congr 1
 funext j
 simp only[upd];split<;>rfl
section
variable {C:Cal}{ρ:Fr}{σ:St}{e a b:Ex}{es:Exs}
def G0:wpE C (.L es) ρ σ Q=vg C es ρ σ λvs σ=>vs.length<=bx/\∀c,σ.L c=Option.none->Q (.L c) (σ.di c vs):=rfl
def qK:wpE C (.T es) ρ σ Q=vg C es ρ σ λvs σ=>vs.length<=bx/\Q (.T vs) σ:=rfl
def BN:wpE C (.n es) ρ σ Q=vg C es ρ σ λvs σ=>∀a d,σ.I a=Option.none->C 0 (.obj a::vs) (σ.jw a d λ_=>Option.none) λv σ=>v=.none/\Q (.obj a) σ:=rfl
def BO {m:Nat}:wpE C (.meth e m es) ρ σ Q=wpE C e ρ σ λv σ=>∃a,v=.obj a/\(σ.I a).isSome/\vg C es ρ σ λvs σ=>C m (v::vs) σ Q:=rfl
def cX {fv:List (Nat×Nat)}{it:It}{t:Tg}{cs:Exs}{more:Gens}:wpE C (.K fv it t cs more) ρ σ Q=t9 C it ρ σ λvs G σ =>
   kY vs G (λv ρ' acc σ K=>qg t v σ ρ' λρ'=>wh C cs ρ' σ λok σ=>if ok then uy C more ρ' acc σ K else K ρ' acc σ) (jQ fv ρ) [] σ
    λ_ acc σ=>∀c,σ.L c=Option.none->Q (.L c) (σ.di c acc):=rfl
def cW {K:List V->(St->Prop)->St->Prop}:t9 C (.seq e) ρ σ K=wpE C e ρ σ λv σ=>BH v σ K:=rfl
def zS {K:List V->(St->Prop)->St->Prop}:t9 C (.rng1 e) ρ σ K=wpE C e ρ σ λv σ=>∃n:Int,v=.int n/\n.natAbs<2^40/\K (te 0 n) (λ_=>True) σ:=rfl
def nq {Q:List V->St->Prop}:vg C (.cons e es) ρ σ Q=wpE C e ρ σ λv σ=>vg C es ρ σ λvs σ=>Q (v::vs) σ:=rfl
def jZ {ts:List Tgt}{ss:qa}{K:Fl->Fr->St->Prop}:gw C (.cons (.a ts e) ss) ρ σ K=wpE C e ρ σ λv σ=>jA C ts v ρ σ λρ σ=>gw C ss ρ σ K:=rfl
end
def eY {p q:Prop}(h:q):if false=true then p else q:=h
def eX {p q:Prop}(h:p):if true=true then p else q:=h
def yQ (k:Key):k.v.rO=some k:=by cases k<;>rfl
def pk {vs:List V}{G:St->Prop}{T:V->Fr->St->(Fr->St->Prop)->Prop}{K:Fr->St->Prop}(Inv:Nat->Fr->St->Prop)
  (step:∀i v ρ σ,vs[i]?=some v->Inv i ρ σ->G σ/\∀k:Fr->St->Prop,(∀ρ' σ',Inv (i+1) ρ' σ'->k ρ' σ')->T v ρ σ k) (fin:∀ρ σ,Inv vs.length ρ σ->G σ/\K ρ σ) {ρ:Fr} {σ:St} (h0:Inv 0 ρ σ):wR vs G T ρ σ K:=by
 have go:∀(ws:List V) (i:Nat) (ρ:Fr) (σ:St),vs.drop i=ws->Inv i ρ σ->i<=vs.length->wR ws G T ρ σ K:=by
  intro ws;induction ws with
  |nil =>
   intro i ρ σ e h U;have:i=vs.length:=by have:=oD.mp e;(show iq .C .g .A .a2 U this)
   subst this;show fin ρ σ h
  |cons v ws J =>
   intro i ρ σ e h U;have O:vs[i]?=some v:=by
    have:=dj (λl=>l[0]?) e;simpa using this
   have I:vs.drop (i+1)=ws:=by
    have:=dj (λl=>l.drop 1) e;simpa using this
   have W:=(av.mp O).1;have#[g,t]:=step i v ρ σ O h;apply#[g,t _ λρ' σ' h'=>J (i+1) ρ' σ' I h' W]
 show go vs 0 ρ σ rfl h0 (bb _)
def d7 {T:(Fr->St->Prop)->Fr->St->Prop}(Inv:Nat->Fr->St->Prop)(step:∀n ρ σ,Inv n ρ σ->∀again:Fr->St->Prop,(∀m ρ' σ',m<n->Inv m ρ' σ'->again ρ' σ')->T again ρ σ) :
  ∀(N n:Nat) {ρ:Fr} {σ:St},n<N->Inv n ρ σ->yN T N ρ σ
 |0=>λn {ρ} {σ} h _=>absurd h (xg _)
 |N+1=>λn {ρ} {σ} h U=>step n ρ σ U _ λm ρ' σ' W h'=>d7 Inv step N m (fh .B .b (.l .C .P) .G h W) h'
abbrev posOf (k:Key)(bs:List Key):List Nat:=(List.range bs.length).filter λj=>decide (bs[j]?=some k)
def gY (k:Key)(bs:List Key)(b:Key):posOf k (bs++[b])=posOf k bs++if b=k then [bs.length] else []:=by
 unfold posOf;rw[aw,iv,List.range_succ,fP]
 congr 1
 ·apply List.filter_congr λj W=>?_;rw[dq (gj.mp W)]
 ·simp[List.filter_cons]
structure B2J (σ₀ σ:St)(db:Addr)(bs:List Key):Prop where
 tab:∃es,σ.D db=some es/\es.length<=bs.length/\(∀k,es.lookup k=none->posOf k bs=[]) /\
  (∀k w,es.lookup k=some w->∃c,w=.L c/\σ.L c=some ((posOf k bs).map λj:Nat=>V.int j)/\σ₀.L c=none) /\
  ∀k k' c,es.lookup k=some (.L c)->es.lookup k'=some (.L c)->k=k'
 old:∀a xs,σ₀.L a=some xs->σ.L a=some xs
 I:σ.I=σ₀.I
 S:σ.S=σ₀.S
 D:∀a,a≠db->σ.D a=σ₀.D a
 keys:∀es,σ.D db=some es->(es.map (·.1)).Nodup/\∀k∈es.map (·.1),k∈bs
def B2J.start {σ₀:St}{db:Addr}:B2J σ₀ (σ₀.sg db []) db []:=
 ⟨#[[],cm _ _ _,az _,λk _=>rfl,λk w e=>(by cases e),λk k' c e=>(by cases e)],λa xs e=>e,rfl,rfl,λa h=>er h,λes e=>by
  have rfl:=af ((cm σ₀.D db []).symm.trans e);apply#[List.nodup_nil,λk h=>nomatch h]⟩
def zm {es:List (Key×V)}{k k':Key}{v:V}:(es++[(k,v)]).lookup k'=(es.lookup k').or (if k'=k then some v else none):=by
 induction es with
 |nil=>simp[List.lookup];split<;>simp_all
 |cons e r W =>
  have#[a,b]:=e;simp only[aO,List.lookup];split
  ·rfl
  ·show W
public abbrev jF (k:Key)(bs:List Key):List V:=(posOf k bs).map λj:Nat=>V.int j
def jE (k:Key)(bs:List Key)(b:Key):jF k (bs++[b])=jF k bs++if b=k then [.int bs.length] else []:=by
 unfold jF;rw[gY,cu]
 congr 1
 split<;>rfl
def B2J.step {σ₀ σ:St}{db c:Addr}{bs:List Key}(h:B2J σ₀ σ db bs)(hc:σ.L c=none)(b:Key):∃es,σ.D db=some es/\es.length<=bs.length /\
  ∃c',(es.lookup b).getD (.L c)=.L c'/\((σ.di c []).sg db (if (es.lookup b).isSome then es else es++[(b,.L c)])).L c'=some (jF b bs) /\
   B2J σ₀ (((σ.di c []).sg db (if (es.lookup b).isSome then es else es++[(b,.L c)])).di c' (jF b bs++[.int bs.length])) db (bs++[b]):=by
 have#[es,hD,z,aj,B,ag]:=h.tab;apply#[es,hD,z,?_];have ao:σ₀.L c=none:=by
  cases hq:σ₀.L c with
  |none=>rfl
  |some xs=>rw[h.old c xs hq]at hc;cases hc
 cases hb:es.lookup b with
 |some w =>
  have#[c1,rfl,ax,bn]:=B b w hb;have bg:c1≠c:=λe=>by rw[e,hc]at ax;cases ax
  apply#[c1,rfl,?_,?_]
  ·show upd σ.L c [] c1=_;rw[er bg];show ax
  ·simp only[Option.isSome_some,bO];apply#[#[es,cm _ _ _,by simp;(show ba .O .a .A z),λk e=>?_,λk w e=>?_,ag],λa xs e=>?_,h.I,h.S,λa ha=>?_,λbt W=>?_]
   ·have hk:b≠k:=λq=>by rw[<- q,hb]at e;cases e
    rw[gY,aj k e,br hk];rfl
   ·have#[c2,rfl,J,ay]:=B k w e;apply#[c2,rfl,?_,ay];show upd (upd σ.L c []) c1 _ c2=some (jF k (bs++[b]));rw[jE];by_cases hk:b=k
    ·subst hk;rw[hb]at e;cases e;rw[cm,cn rfl]
    ·have bl:c2≠c1:=λq=>hk (ag b k c1 hb (q▸e));have ai:c2≠c:=λq=>by rw[q,hc]at J;cases J
     rw[er bl,er ai,br hk,dg];show J
   ·show upd (upd σ.L c []) c1 _ a=some xs;have h1:a≠c1:=λq=>by rw[q,bn]at e;cases e
    have h2:a≠c:=λq=>by rw[q,ao]at e;cases e
    rw[er h1,er h2];show h.old a xs e
   ·show upd σ.D db es a=_;rw[er ha];show h.D a ha
   ·have rfl:=af ((cm σ.D db es).symm.trans W);have#[k1,k2]:=h.keys _ hD;apply#[k1,λk hk=>dk _ (k2 k hk)]
 |none =>
  have hp:posOf b bs=[]:=aj b hb;have bd:jF b bs=[]:=by unfold jF;rw[hp];rfl
  apply#[c,rfl,?_,?_]
  ·show upd σ.L c [] c=_;rw[cm,bd]
  ·simp only[xr,gp,md];apply#[#[es++[(b,V.L c)],(show upd σ.D db (es++[(b,V.L c)]) db=_ from cm _ _ _),by simp;(show ba .A .a .A z),λk e=>?_,λk w e=>?_,λk k' c2 e W=>?_],λa xs e=>?_,h.I,h.S,λa ha=>?_,λbt W=>?_]
   ·rw[zm]at e;cases hk:es.lookup k with
    |some w=>rw[hk]at e;cases e
    |none =>
     rw[hk,fO]at e;have ar:b≠k:=λq=>by rw[cn q.symm]at e;cases e
     rw[gY,aj k hk,br ar];rfl
   ·rw[zm]at e;cases hk:es.lookup k with
    |some w' =>
     rw[hk,Option.some_or]at e;cases e;have#[c2,rfl,J,ay]:=B k _ hk;apply#[c2,rfl,?_,ay];show upd (upd σ.L c []) c _ c2=some (jF k (bs++[b]));have ai:c2≠c:=λq=>by rw[q,hc]at J;cases J
     have ar:b≠k:=λq=>by rw[<- q,hb]at hk;cases hk
     rw[er ai,er ai,jE,br ar,dg];show J
    |none =>
     rw[hk,fO]at e;split at e
     ·rename_i q;cases e;subst q;apply#[c,rfl,?_,ao];show upd (upd σ.L c []) c _ c=some (jF k (bs++[k]));rw[cm,jE,cn rfl]
     ·cases e
   ·rw[zm]at e W;have fresh:∀k2,es.lookup k2≠some (.L c):=λk2 e2=>by
     have#[c3,e3,bc,_]:=B k2 _ e2;cases e3;rw[hc]at bc;cases bc
    cases hk:es.lookup k with
    |some w =>
     rw[hk,Option.some_or]at e;cases e;cases U:es.lookup k' with
     |some w'=>rw[U,Option.some_or]at W;cases W;show ag k k' c2 hk U
     |none =>
      rw[U,fO]at W;split at W
      ·cases W;show absurd hk (fresh k)
      ·cases W
    |none =>
     rw[hk,fO]at e;split at e
     ·rename_i q;cases e;cases U:es.lookup k' with
      |some w'=>rw[U,Option.some_or]at W;cases W;show absurd U (fresh k')
      |none =>
       rw[U,fO]at W;split at W
       ·rename_i q';rw[q,q']
       ·cases W
     ·cases e
   ·show upd (upd σ.L c []) c _ a=some xs;have h2:a≠c:=λq=>by rw[q,ao]at e;cases e
    rw[er h2,er h2];show h.old a xs e
   ·show upd σ.D db _ a=_;rw[er ha];show h.D a ha
   ·have zz:=af ((cm σ.D db (es++[(b,V.L c)])).symm.trans W);clear W;have rfl:=zz;have#[k1,k2]:=h.keys _ hD;rw[cu];apply#[List.nodup_append.mpr #[k1,by simp,λx hx y hy=>?_],λk hk=>?_]
    ·have rfl:=au.mp hy;rintro rfl;have#[p,be,rfl]:=eg.mp hx;rw[ru]at hb;have:=hb p be;simp at this
    ·rcases cq.mp hk with hk|hk
     ·show dk _ (k2 k hk)
     ·show dt _ hk
end MP
end
section
set_option tactic.hygienic true
namespace MP
variable {i j k:Nat}{seen:Nat->Nat->Prop}
abbrev hit (as bs:List Key)(rm:Key->Bool)(i j:Nat):Bool:=match as[i]?,bs[j]? with
 |some a,some b=>decide (a=b)&&!rm a
 |_,_=>false
def ya {as bs:List Key}{rm:Key->Bool}:hit as bs rm i j=true↔∃c,as[i]?=some c/\bs[j]?=some c/\rm c=false:=by
 cases U:as[i]? with
 |none=>rw[show hit as bs rm i j=false by unfold hit;rw[U]];apply#[(λh=>nomatch h),λh=>by have#[c,W,_]:=h;cases W]
 |some a =>
  cases hb:bs[j]? with
  |none=>rw[show hit as bs rm i j=false by unfold hit;rw[U,hb]];apply#[(λh=>nomatch h),λh=>by have#[c,_,W,_]:=h;cases W]
  |some b =>
   rw[show hit as bs rm i j=(decide (a=b)&&!rm a) by unfold hit;rw[U,hb],fp,gS,jg];apply#[λh=>?_,λh=>?_]
   ·have#[rfl,h]:=h;apply#[_,rfl,rfl,h]
   ·have#[c,W,O,h]:=h;have rfl:=af W;have rfl:=af O;apply#[rfl,h]
structure Run (as bs:List Key)(rm:Key->Bool)(alo ahi blo bhi i j k:Nat):Prop where
 ai:alo<=i
 ia:i+k<=ahi
 bj:blo<=j
 jb:j+k<=bhi
 eq:∀t,t<k->hit as bs rm (i+t) (j+t)=true
structure xT (as bs:List Key)(rm:Key->Bool)(alo ahi blo bhi i j k:Nat):Prop where
 run:Run as bs rm alo ahi blo bhi i j k
 zero:k=0->i=alo/\j=blo
 max:∀i' j' k',0<k'->Run as bs rm alo ahi blo bhi i' j' k'->k'<k\/(k'=k/\(i<i'\/(i=i'/\j<=j')))
abbrev el (as bs:List Key)(rm:Key->Bool)(alo blo:Nat):Nat->Nat->Nat
 |i+1,j+1=>if alo<=i/\blo<=j/\hit as bs rm i j=true then el as bs rm alo blo i j+1 else 0
 |_,_=>0
section
variable {as bs:List Key}{rm:Key->Bool}{alo ahi blo bhi:Nat}
def s8:el as bs rm alo blo (i+1) (j+1)=if alo<=i/\blo<=j/\hit as bs rm i j=true then el as bs rm alo blo i j+1 else 0:=rfl
def EO:el as bs rm alo blo alo j=0:=by
 cases alo with
 |zero=>cases j<;>rfl
 |succ n =>
  cases j with
  |zero=>rfl
  |succ j =>
   rw[s8];rw[br]
   (show λW=>(fc .ff .j (.k .M .A) W.1))
def s9:∀{i j:Nat},el as bs rm alo blo i j<=i/\el as bs rm alo blo i j<=j/\(0<el as bs rm alo blo i j->Run as bs rm alo i blo j (i-el as bs rm alo blo i j) (j-el as bs rm alo blo i j) (el as bs rm alo blo i j))
 |0,j=>#[bb _,bb _,λh=>absurd h (kg 0)]
 |i+1,0=>#[bb _,bb _,λh=>absurd h (kg 0)]
 |i+1,j+1=>by
  rw[s8];split
  ·rename_i c;have#[W,U,R]:=s9 (i:=i) (j:=j);apply#[by show ba .aQ .a .A W,by show ba .aQ .a .A U,λ_=>?_];by_cases h0:0<el as bs rm alo blo i j
   ·have R:=R h0;generalize el as bs rm alo blo i j=m at *;apply#[?_,by show gu (.k .a7 .S) .a (.e .a7 .S) (aa (ba .aQ .a .A W)),?_,by show gu (.k .a7 .S) .a (.e .a7 .S) (aa (ba .aQ .a .A U)),λt z=>?_]
    ·have:=R.ai;(show mr .A .p .J .b3 (.e (.a .B .Z) .a1) this (aa (ba .A .a .A W)) (aa (ba .aQ .a .A W)))
    ·have:=R.bj;(show mr .A .p .J .b3 (.e (.a .B .Z) .a1) this (aa (ba .A .a .A U)) (aa (ba .aQ .a .A U)))
    ·by_cases hm:t<m
     ·have:=R.eq t hm;have I:i+1-(m+1)+t=i-m+t:=by(show qy (.e .L .a6) .s (.e (.a .A .Z) .a1) .b3 (aa (ba .aQ .a .A W)) (aa (ba .A .a .A W)))
      have e2:j+1-(m+1)+t=j-m+t:=by(show qy (.e .L .a6) .s (.e (.a .A .Z) .a1) .b3 (aa (ba .aQ .a .A U)) (aa (ba .A .a .A U)))
      rw[I,e2];show this
     ·have I:i+1-(m+1)+t=i:=by(show pe .a1 [[1,0,1,-1],[1,1,0,1]] (.l .B .Z) (.g .B .D) (.e (.a .A .Z) .S) z hm (aa (ba .aQ .a .A W)))
      have e2:j+1-(m+1)+t=j:=by(show eM .a1 .q (.e (.a .D .B) .F) (.e (.a .D .aA) .a1) (.e (.a .A .aA) .S) I (aa (ba .aQ .a .A W)) (aa (ba .aQ .a .A U)))
      rw[I,e2];show c.2.2
   ·have ag:el as bs rm alo blo i j=0:=by(show fc .N .t (.g .O .A) h0)
    rw[ag];apply#[by show fh .A .d .J (.e (.a .B .a3) .S) c.1 (aa (nt (.k .a3 .M) .h)),by show ba (.k (.a .A .a3) .P) .a (.e (.a .A .a3) .P) (aa (nt (.k .a3 .M) .h)),by show fh .A .d .J (.e (.a .B .a3) .S) c.2.1 (aa (nt (.k .a3 .M) .h)),by show ba (.k (.a .A .a3) .P) .a (.e (.a .A .a3) .P) (aa (nt (.k .a3 .M) .h)),λt z=>?_];have:t=0:=by(show fc .N .t (.l .A .a3) z)
    subst this;show c.2.2
  ·apply#[bb _,bb _,λh=>absurd h (kg 0)]
def EP:∀{i j i' j' k':Nat},i'+k'=i->j'+k'=j->Run as bs rm alo ahi blo bhi i' j' k'->k'<=el as bs rm alo blo i j
 |i,j,i',j',0,_,_,_=>bb _
 |i,j,i',j',k'+1,J,O,R=>by
  subst J;subst O;show _<=el as bs rm alo blo (i'+k'+1) (j'+k'+1);have:=R.ai;have:=R.bj;rw[s8];rw[cn #[by(rename_i W;show gu (.k .A .Q) .a .A W),by show gu (.k .A .Q) .a .A this,R.eq k' (nt (.l .A .M) .h)]];have:=EP (i:=i'+k') (j:=j'+k') (i':=i') (j':=j') (k':=k') rfl rfl #[R.ai,by have:=R.ia;(show gu .F .a .L this),R.bj,by have:=R.jb;(show gu .F .a .L this),λt U=>R.eq t (ba .aM .a .B U)]
  (show ba .aQ .a .A this)
structure Scan (as bs:List Key)(rm:Key->Bool)(alo ahi blo bhi:Nat)(seen:Nat->Nat->Prop)(i j k:Nat):Prop where
 run:Run as bs rm alo ahi blo bhi i j k
 zero:k=0->i=alo/\j=blo
 at_:0<k->seen (i+k-1) (j+k-1)
 max:∀i' j',seen i' j'->0<el as bs rm alo blo (i'+1) (j'+1)->el as bs rm alo blo (i'+1) (j'+1)<k\/(el as bs rm alo blo (i'+1) (j'+1)=k/\(i<i'+1-k\/(i=i'+1-k/\j<=j'+1-k)))
def Scan.start (U:alo<=ahi)(hb:blo<=bhi):Scan as bs rm alo ahi blo bhi (λ_ _=>False) alo blo 0:=
 #[#[az _,U,az _,hb,λt W=>absurd W (xg _)],λ_=>#[rfl,rfl],λh=>absurd h (kg 0),λ_ _ h=>h.elim]
def Scan.skip {W:Nat->Nat->Prop}(h:Scan as bs rm alo ahi blo bhi seen i j k)(J:∀i' j',seen i' j'->W i' j')(O:∀i' j',W i' j'->seen i' j'\/el as bs rm alo blo (i'+1) (j'+1)=0\/el as bs rm alo blo (i'+1) (j'+1)<k\/(el as bs rm alo blo (i'+1) (j'+1)=k/\(i<i'+1-k\/(i=i'+1-k/\j<=j'+1-k)))):Scan as bs rm alo ahi blo bhi W i j k:=
 ⟨h.run,h.zero,λh0=>J _ _ (h.at_ h0),λi' j' U h0=>by
  rcases O i' j' U with q|q|q|q
  ·show h.max i' j' q h0
  ·(show .inl (iq .B .c .D .N h0 q))
  ·show .inl q
  ·show .inr q⟩
def Scan.take {W:Nat->Nat->Prop}{i j I J:Nat}(h:Scan as bs rm alo ahi blo bhi seen i j k)(hi:I<ahi)(hj:J<bhi)(hk:k<el as bs rm alo blo (I+1) (J+1))(h0:W I J)
  (hs:∀i' j',W i' j'->seen i' j'\/(i'=I/\j'=J)\/el as bs rm alo blo (i'+1) (j'+1)=0):Scan as bs rm alo ahi blo bhi W (I+1-el as bs rm alo blo (I+1) (J+1)) (J+1-el as bs rm alo blo (I+1) (J+1)) (el as bs rm alo blo (I+1) (J+1)):=by
 have#[h1,h2,R]:=s9 (as:=as) (bs:=bs) (rm:=rm) (alo:=alo) (blo:=blo) (i:=I+1) (j:=J+1);have R:=R (ba .D .a .U hk);apply#[#[R.ai,by show gh .F .b .aH (.e .L .Z) hi (aa (ba .O .a .O h1)),R.bj,by show gh .F .b .aH (.e .L .Z) hj (aa (ba .O .a .O h2)),R.eq],λh0=>by show#[(gh .C .v .R .bT hk h0),(gh .C .v .R .bT hk h0)],λ_=>?_,λi' j' ag h0=>?_]
 ·have e1:I+1-el as bs rm alo blo (I+1) (J+1)+el as bs rm alo blo (I+1) (J+1)-1=I:=by(rename_i z1;show Ar.sub _ _ (λz p1=>(gh .C .B (.e .M .R) (.e .R .P) (aa (ba .c0 .a .Y z1)) p1)) λz p1=>(zg .C [[1,0,-1,1,0],[1,1,1,0,1]] .bV (.e .M .aM) (.k .P .C) .bT h1 (aa (ba .c0 .a .Y z1)) z p1))
  have e2:J+1-el as bs rm alo blo (I+1) (J+1)+el as bs rm alo blo (I+1) (J+1)-1=J:=by(rename_i z1;show Ar.sub _ _ (λz p1=>(gh .C .B (.e .M .R) (.e .R .P) (aa (ba .c0 .a .Y z1)) p1)) λz p1=>(zg .C [[1,0,-1,1,0],[1,1,1,0,1]] .bV (.e .M .aM) (.k .P .C) .bT h2 (aa (ba .c0 .a .Y z1)) z p1))
  rw[e1,e2];show h0
 ·rcases hs i' j' ag with q|⟨rfl,rfl⟩|q
  ·have:=h.max i' j' q h0
   (rename_i z1;show .inl ((Ar.imp z1).elim (λz=>(fh .B .c .M (.g .O .B) hk z)) λz=>(this.elim (λq2=>(fh .B .b .M .G hk q2)) λq2=>(fh .B .b .M .cL hk q2.1))))
  ·show .inr #[rfl,.inr #[rfl,az _]]
  ·(show .inl (iq .B .c .D .N h0 q))
def Scan.best {i j:Nat}(h:Scan as bs rm alo ahi blo bhi seen i j k)(hs:∀i' j',alo<=i'->i'<ahi->blo<=j'->j'<bhi->0<el as bs rm alo blo (i'+1) (j'+1)->seen i' j'):xT as bs rm alo ahi blo bhi i j k:=by
 apply#[h.run,h.zero,λi' j' k' h0 R=>?_];have hm:=EP (i:=i'+k'-1+1) (j:=j'+k'-1+1) (gu (.e .L .S) .f (.e .S .L) (aa (ba .c0 .a .Y h0))) (gu (.e .L .S) .f (.e .S .L) (aa (ba .c0 .a .Y h0))) R;have:=h.max (i'+k'-1) (j'+k'-1) (hs _ _ (by have:=R.ai;(show pe .A .p .a6 .aF (.e .P .aM) h0 this (aa (ba .c0 .a .Y h0)))) (by have:=R.ia;(show gh .B .b .bZ (.e .M .R) this (aa (ba .c0 .a .Y h0)))) (by have:=R.bj;(show pe .A .p .a6 .aF (.e .P .aM) h0 this (aa (ba .c0 .a .Y h0)))) (by have:=R.jb;(show gh .B .b .bZ (.e .M .R) this (aa (ba .c0 .a .Y h0)))) (iq .D .b .Y .a2 h0 hm)) (iq .D .b .Y .a2 h0 hm);generalize el as bs rm alo blo (i'+k'-1+1) (j'+k'-1+1)=e at *;rcases pf k' k with c|c
 ·show .inl c
 ·rcases this with q|⟨q,q'⟩
  ·show absurd (ti q c) (tg.mpr hm)
  ·have I:k'=k:=Nat.le_antisymm (q▸hm) c;have s1:i'+k'-1+1-k=i':=by(show Ar.sub _ _ (λz J=>(Ar.sub _ _ (λO W=>(mr .C [[1,-1,-1,-1],[1,1,1,1]] .bW (.e .T .a1) (.e .a1 .Q) I J W)) λO W=>(FJ .C [[1,0,-1,-1,1,0],[1,1,1,1,0,1]] .a6 .bW (.e .T .a1) (.k .Q .U) .bC h0 I J O W))) λz J=>(Ar.sub _ _ (λO W=>(nS .C [[1,-1,1,0,-1],[1,0,0,1,0]] .bW (.k .a1 .D) .N (.e .a1 .Q) I z J W)) λO W=>(oa .C .l .a6 .N (.k .Q .U) h0 J O)))
   have s2:j'+k'-1+1-k=j':=by(show Ar.sub _ _ (λz J=>(Ar.sub _ _ (λO W=>(mr .C [[1,-1,-1,-1],[1,1,1,1]] .bW (.e .T .a1) (.e .a1 .Q) I J W)) λO W=>(FJ .C [[1,0,-1,-1,1,0],[1,1,1,1,0,1]] .a6 .bW (.e .T .a1) (.k .Q .U) .bC h0 I J O W))) λz J=>(Ar.sub _ _ (λO W=>(nS .C [[1,-1,1,0,-1],[1,0,0,1,0]] .bW (.k .a1 .D) .N (.e .a1 .Q) I z J W)) λO W=>(oa .C .l .a6 .N (.k .Q .U) h0 J O)))
   rw[s1,s2]at q';show .inr #[I,q']
abbrev dA (as bs:List Key)(ok:Key->Bool)(alo blo:Nat):Nat->Nat->Nat->Nat×Nat×Nat
 |i+1,j+1,k=>if alo<i+1/\blo<j+1/\hit as bs (λc=>!ok c) i j=true then dA as bs ok alo blo i j (k+1) else (i+1,j+1,k)
 |i,j,k=>(i,j,k)
abbrev hV (as bs:List Key)(ok:Key->Bool)(ahi bhi:Nat):Nat->Nat->Nat->Nat->Nat
 |0,_,_,k=>k
 |n+1,i,j,k=>if i+k<ahi/\j+k<bhi/\hit as bs (λc=>!ok c) (i+k) (j+k)=true then hV as bs ok ahi bhi n i j (k+1) else k
def fC {ok:Key->Bool}:dA as bs ok alo blo (i+1) (j+1) k=if alo<i+1/\blo<j+1/\hit as bs (λc=>!ok c) i j=true then dA as bs ok alo blo i j (k+1) else (i+1,j+1,k):=rfl
def zt {ok:Key->Bool}{n:Nat}:hV as bs ok ahi bhi (n+1) i j k=if i+k<ahi/\j+k<bhi/\hit as bs (λc=>!ok c) (i+k) (j+k)=true then hV as bs ok ahi bhi n i j (k+1) else k:=rfl
abbrev grow (as bs:List Key)(js:Key->Bool)(alo ahi blo bhi i j k:Nat):Nat×Nat×Nat:=
 let p:=dA as bs (λc=>!js c) alo blo i j k
 let q:=hV as bs (λc=>!js c) ahi bhi (ahi-p.1) p.1 p.2.1 p.2.2
 let r:=dA as bs js alo blo p.1 p.2.1 q
 (r.1,r.2.1,hV as bs js ahi bhi (ahi-r.1) r.1 r.2.1 r.2.2)
end
end MP
end
section
namespace MP
open PySem
variable {σ σ₁:St}{c db:Addr}{k k':Key}{bs:List Key}{es:List (Key×V)}
structure Kp (σ σ':St):Prop where
 L:∀a xs,σ.L a=some xs->σ'.L a=some xs
 D:∀a es,σ.D a=some es->σ'.D a=some es
 S:σ'.S=σ.S
 I:σ'.I=σ.I
def Kp.refl (σ:St):Kp σ σ:=#[λ_ _ e=>e,λ_ _ e=>e,rfl,rfl]
def Kp.trans {σ₂:St}(h:Kp σ σ₁)(h':Kp σ₁ σ₂):Kp σ σ₂:=#[λa xs e=>h'.L a xs (h.L a xs e),λa xs e=>h'.D a xs (h.D a xs e),h'.S.trans h.S,h'.I.trans h.I]
def Kp.noL (h:Kp σ σ₁)(W:σ₁.L c=none):σ.L c=none:=by
 cases q:σ.L c with
 |none=>rfl
 |some xs=>rw[h.L _ _ q]at W;cases W
def Kp.noD (h:Kp σ σ₁)(W:σ₁.D c=none):σ.D c=none:=by
 cases q:σ.D c with
 |none=>rfl
 |some xs=>rw[h.D _ _ q]at W;cases W
def Kp.di (h:Kp σ σ₁){xs:List V}(W:σ.L c=none):Kp σ (σ₁.di c xs):=⟨λa ys e=>by
 have:a≠c:=λq=>by rw[q,W]at e;cases e
 show upd σ₁.L c xs a=_;rw[er this];show h.L a ys e,h.D,h.S,h.I⟩
def Kp.sg (h:Kp σ σ₁){xs:List (Key×V)}(W:σ.D c=none):Kp σ (σ₁.sg c xs):=⟨h.L,λa ys e=>by
 have:a≠c:=λq=>by rw[q,W]at e;cases e
 show upd σ₁.D c xs a=_;rw[er this];show h.D a ys e,h.S,h.I⟩
abbrev wu:Key->Prop
 |.int _=>True
 |.str s=>PyData.strOk s=true
def BL {K:Bool->Prop}(h:wu k)(h':wu k')(q:K (decide (k=k'))):tC k.v k'.v σ K:=by
 cases k with
 |int a =>
  cases k' with
  |int b =>
   show K (a==b);have:(a==b)=decide (Key.int a=Key.int b):=by
    by_cases e:a=b
    ·simp[e]
    ·simp[e]
   rw[this];show q
  |str b =>
   apply#[.int a,.str b,rfl,?_,?_]
   ·show(if PyData.strOk b then some (PyData.str b) else none)=_;rw[cn (show PyData.strOk b=true from h')]
   ·have:PyData.eqv (.int a) (.str b)=decide (Key.int a=Key.str b):=by simp[PyData.eqv]
    rw[this];show q
 |str a =>
  cases k' with
  |int b =>
   apply#[.str a,.int b,?_,rfl,?_]
   ·show(if PyData.strOk a then some (PyData.str a) else none)=_;rw[cn (show PyData.strOk a=true from h)]
   ·have:PyData.eqv (.str a) (.int b)=decide (Key.str a=Key.int b):=by simp[PyData.eqv]
    rw[this];show q
  |str b =>
   show K (a==b);have:(a==b)=decide (Key.str a=Key.str b):=by
    by_cases e:a=b
    ·simp[e]
    ·simp[e]
   rw[this];show q
def oZ {K:Bool->Prop}(h:wu k)(h':wu k')(q:K (decide (k=k'))):zj .eq k.v k'.v σ K:=BL h h' q
def AH {j:Nat}:j∈posOf k bs↔bs[j]?=some k:=by
 unfold posOf;rw[List.mem_filter,gj,gS];apply#[λh=>h.2,λh=>#[(av.mp h).1,h]]
def DE:(posOf k bs).Pairwise (·<·):=List.Pairwise.filter _ jX
def AI:(posOf k bs).length<=bs.length:=by
 have:=lH (λj=>decide (bs[j]?=some k)) (List.range bs.length)
 rwa [kc]at this
abbrev TabAt (σ:St)(db:Addr)(bs:List Key)(rm:Key->Bool):Prop:=∃es,σ.D db=some es /\
 (∀k,rm k=true->es.lookup k=none)/\∀k,rm k=false->(es.lookup k=none/\posOf k bs=[])\/∃c,es.lookup k=some (.L c)/\σ.L c=some (jF k bs)
def TabAt.keep {σ':St}{rm:Key->Bool}(h:TabAt σ db bs rm)(k:Kp σ σ'):TabAt σ' db bs rm:=by
 have#[es,I,J,O]:=h;apply#[es,k.D _ _ I,J,λq U=>(O q U).imp_right λW=>by have#[c,z,B]:=W;apply#[c,z,k.L _ _ B]]
def TabAt.get {nl:Addr}{rm:Key->Bool}(h:TabAt σ db bs rm)(J:σ.L nl=some [])(k:Key) :
  ∃es c,σ.D db=some es/\(es.lookup k).getD (.L nl)=.L c/\σ.L c=some ((if rm k then [] else posOf k bs).map λj:Nat=>V.int j):=by
 have#[es,W,B,I]:=h;cases hr:rm k with
 |true=>refine#[es,nl,W,by rw[B k hr];rfl,J]
 |false =>
  rcases I k hr with ⟨O,U⟩|⟨c,O,U⟩
  ·apply#[es,nl,W,by rw[O];rfl,by rw[U];show J]
  ·apply#[es,c,W,by rw[O];rfl,U]
def B2J.tabAt {σ₀:St}(h:B2J σ₀ σ db bs):TabAt σ db bs λ_=>false:=by
 have#[es,O,_,U,W,_]:=h.tab;apply#[es,O,λk e=>Bool.noConfusion e,λk _=>?_];cases hk:es.lookup k with
 |none=>show .inl #[rfl,U k hk]
 |some w =>
  have#[c,rfl,e,_]:=W k w hk;show .inr #[c,rfl,e]
def nU:es.any (λe=>e.1==k)=(es.lookup k).isSome:=by
 induction es with
 |nil=>rfl
 |cons e r W =>
  have#[a,b]:=e;simp only[List.any_cons,List.lookup,W];by_cases h:k=a
  ·subst h;simp
  ·rw[dY (xf h),dY h];rfl
def DC {v:V}:(putD es k v).length<=es.length+1:=by
 unfold putD;split<;>simp
def wF {v:V}:(putD es k v).lookup k'=if k'=k then some v else es.lookup k':=by
 unfold putD;split
 ·rename_i h;rw[nU]at h;induction es with
  |nil=>cases h
  |cons e r U =>
   have#[a,b]:=e;simp only[kh,List.lookup]at h ⊢;by_cases hk:a=k
   ·subst hk;rw[cn rfl];by_cases W:k'=a
    ·subst W;simp
    ·rw[br W];have J:(k'==a)=false:=dY W;simp only[List.lookup,J];clear U h;induction r with
     |nil=>rfl
     |cons e r U =>
      have#[I,z]:=e;simp only[kh,List.lookup];by_cases O:I=a
      ·subst O;rw[cn rfl];simp only[List.lookup,J];show U
      ·rw[br O];simp only[List.lookup];cases k'==I with
       |true=>rfl
       |false=>show U
   ·rw[br hk];have B:(k==a)=false:=dY (xf hk);rw[B]at h;simp only[List.lookup];by_cases W:k'=a
    ·subst W;rw[br hk];simp
    ·rw[dY W];show U h
 ·rename_i h;rw[nU]at h;rw[zm];by_cases W:k'=k
  ·skip
   subst W;cases q:es.lookup k' with
   |none=>simp
   |some w=>rw[q]at h;show absurd rfl h
  ·simp[W]
end MP
end
section
namespace MP
namespace SM
open PySem
variable {σ:St}{la lb db sj:Addr}{as bs:List Key}{ρ:Fr}{alo ahi blo bhi n i j k:Nat}
structure MAt (σ:St)(x:Addr)(la lb db sj:Addr)(as bs:List Key)(rm:Key->Bool)(js:List Key):Prop where
 I:∃d f,σ.I x=some (d,f)/\f 1=some (.L la)/\f 2=some (.L lb)/\f 7=some (.dct db)/\f 8=some (.set sj)
 La:σ.L la=some (as.map Key.v)
 Lb:σ.L lb=some (bs.map Key.v)
 D:TabAt σ db bs rm
 S:σ.S sj=some js
def MAt.keep {σ':St}{x:Addr}{rm:Key->Bool}{js:List Key}(h:MAt σ x la lb db sj as bs rm js)(k:Kp σ σ'):MAt σ' x la lb db sj as bs rm js:=
 #[by rw[k.I];show h.I,k.L _ _ h.La,k.L _ _ h.Lb,h.D.keep k,by rw[k.S];show h.S]
abbrev Row (as bs:List Key)(rm:Key->Bool)(alo blo bhi i:Nat)(es:List (Key×V)):Prop:=∀j:Nat,j<bhi->(es.lookup (.int ((j:Int)-1))).getD (.int 0)=.int (el as bs rm alo blo i j:Nat)
structure FF (ρ:Fr)(la lb db sj:Addr)(alo ahi blo bhi:Nat):Prop where
 r1:ρ 1=some (.int alo)
 r2:ρ 2=some (.int ahi)
 r3:ρ 3=some (.int blo)
 r4:ρ 4=some (.int bhi)
 r5:ρ 5=some (.L la)
 r6:ρ 6=some (.L lb)
 r7:ρ 7=some (.dct db)
 r8:ρ 8=some (.iI sj)
def FF.up {v:V}(h:FF ρ la lb db sj alo ahi blo bhi)(W:9<=n):FF (upd ρ n v) la lb db sj alo ahi blo bhi:=
 have k:∀m,Nat.blt m 9=true->upd ρ n v m=ρ m:=λm U=>er (kj (ti (bz U) W))
 #[(k 1 rfl).trans h.r1,(k 2 rfl).trans h.r2,(k 3 rfl).trans h.r3,(k 4 rfl).trans h.r4,(k 5 rfl).trans h.r5,(k 6 rfl).trans h.r6,(k 7 rfl).trans h.r7,(k 8 rfl).trans h.r8]
structure FB (ρ:Fr)(i j k:Nat):Prop where
 r9:ρ 9=some (.int i)
 r10:ρ 10=some (.int j)
 r11:ρ 11=some (.int k)
def FB.up {v:V}(h:FB ρ i j k)(W:12<=n):FB (upd ρ n v) i j k:=
 have k:∀m,Nat.blt m 12=true->upd ρ n v m=ρ m:=λm U=>er (kj (ti (bz U) W))
 #[(k 9 rfl).trans h.r9,(k 10 rfl).trans h.r10,(k 11 rfl).trans h.r11]
def gA {a b:Nat}{v:V}(h:(te a b)[i]?=some v):a+i<b/\v=.int ((a+i:Nat):Int):=by
 unfold te at h;rw[cy]at h;by_cases hi:i<((b:Int)-a).toNat
 ·rw[wg hi]at h;simp at h;apply#[by show(Ar.ton _).elim (λU=>(gh .K .b .W (.ie (.t .D) (.s (.t .C) .L)) hi U.2)) λU=>(gh .K .c .W .bT hi U.2),by rw[<- h];rfl]
 ·rw[pz (by simpa using hi)]at h;cases h
def dQ {a b:Nat}:(te a b).length=b-a:=by simp[te]
def rI:jt n (i:Int)=i:=by unfold jt;rw[br (nt (.ig .L .O) .h)]
def gC {Q:V->Prop}{x d:Addr}{f:Nat->Option V}{u:V}(W:ρ i=some (.obj x))(O:σ.I x=some (d,f))(U:f j=some u)(q:Q u):∃v,ρ i=some v/\∃x d f u,v=V.obj x/\σ.I x=some (d,f)/\f j=some u/\Q u:=#[_,W,x,d,f,u,rfl,O,U,q]
def dK {al:Addr}{ks:List Key}{i:Int}{c:Key}{Q:V->Prop}(J:σ.L al=some (ks.map Key.v))(U:i=n)(W:ks[n]?=some c)(q:Q c.v):t4 (.L al) (.int i) σ Q:=by
 subst U;apply#[_,_,J,by rw[rI];(show nt (.ik .O .L) .h),by rw[rI,qq,cy,W];rfl,q]
def KN {C:Cal}{js:List Key}{K:Fl->Fr->St->Prop}{c:Ex}{ok:Key->Bool}
  (ar:σ.L la=some (as.map Key.v)) (ao:σ.L lb=some (bs.map Key.v)) (ha:∀k∈as,wu k) (hb:∀k∈bs,wu k) (ay:as.length<2^40) (ax:bs.length<2^40)
  (hc:∀(ρ:Fr) (j:Nat) (b:Key) (Q:Bool->St->Prop),FF ρ la lb db sj alo ahi blo bhi->ρ 10=some (.int ((j+1:Nat):Int))->bs[j]?=some b->Q (ok b) σ->wpT C c ρ σ Q)
  (hi:i<=as.length) (hj:j<=bs.length)
  (h:∀ρ,FF ρ la lb db sj alo ahi blo bhi->FB ρ (dA as bs ok alo blo i j k).1 (dA as bs ok alo blo i j k).2.1 (dA as bs ok alo blo i j k).2.2->K .next ρ σ) (F:FF ρ la lb db sj alo ahi blo bhi) (B:FB ρ i j k) :
  wpS C (.loop (.and (.c .gt (.l 9) (.l 1)) (.and (.c .gt (.l 10) (.l 3)) (.and c (.c .eq (.sub (.l 5) (.b .sub (.l 9) (.int 1))) (.sub (.l 6) (.b .sub (.l 10) (.int 1))))))) %[.a [.T [9,10,11]] (.T %[.b .sub (.l 9) (.int 1),.b .sub (.l 10) (.int 1),.b .add (.l 11) (.int 1)|0])|0]) ρ σ K:=by
 apply#[i+1,d7 (λn ρ' σ'=>σ'=σ/\FF ρ' la lb db sj alo ahi blo bhi/\∃i' j' k',n=i'/\FB ρ' i' j' k'/\i'<=as.length/\j'<=bs.length/\dA as bs ok alo blo i' j' k'=dA as bs ok alo blo i j k) ?_ (i+1) i (nt (.l .A .M) .h) #[rfl,F,i,j,k,rfl,B,hi,hj,rfl]];rintro n ρ' σ' ⟨rfl,z,i',j',k',rfl,J,ai,ag,e⟩ again aj;apply#[_,J.r9,_,z.r1,?_];show(if decide ((alo:Int)<n)=true then _ else _);by_cases c1:alo<n
 ·rw[cn (by simpa using c1)];apply#[_,J.r10,_,z.r3,?_];show(if decide ((blo:Int)<j')=true then _ else _);by_cases c2:blo<j'
  ·rw[cn (by simpa using c2)];have#[O,rfl]:∃O,n=O+1:=#[n-1,by show ba .a3 .f .bJ (aa (ba .I .a .U c1))];have#[W,rfl]:∃W,j'=W+1:=#[j'-1,by show ba .a3 .f .bJ (aa (ba .I .a .U c2))];have ea:as[O]?=some as[O]:=aq (ba .B .a .S ai);have eb:bs[W]?=some bs[W]:=aq (ba .B .a .S ag);apply hc _ W bs[W] _ z J.r10 eb ?_;cases hok:ok bs[W] with
   |false =>
    show K .next ρ' σ'
    have:dA as bs ok alo blo (O+1) (W+1) k'=(O+1,W+1,k'):=by
     rw[fC];rw[br];rintro ⟨_,_,h3⟩;have#[c,_,h4,h5]:=ya.mp h3;rw[eb]at h4;cases h4;rw[hok]at h5;cases h5
    rw[this]at e;show h _ z (by rw[<- e];show J)
   |true =>
    rw[cn rfl];apply#[_,z.r5,_,J.r9,?_];apply dK ar (n:=O) (nt .aP .o) ea ?_;apply#[_,z.r6,_,J.r10,?_];apply dK ao (n:=W) (nt .aP .o) eb ?_;apply oZ (ha _ (cj _)) (hb _ (cj _)) ?_;by_cases q:as[O]=bs[W]
    ·rw[ic q];apply eX ?_;apply#[_,J.r9,_,J.r10,_,J.r11,bz rfl,_,rfl,rfl,?_];apply aj O _ _ (nt (.l .A .M) .h) #[rfl,?_,O,W,k'+1,rfl,?_,by show ba .A .a .S ai,by show ba .A .a .S ag,?_]
     ·show((z.up (zv (.k .aN .aN) .h)).up (zv (.k .aN (.n 10)) .h)).up (zv (.k .aN (.n 11)) .h)
     ·apply#[?_,?_,?_]
      ·show some (V.int (((O+1:Nat):Int)-1))=_
       congr 2;(show nt .aP .o)
      ·show some (V.int (((W+1:Nat):Int)-1))=_
       congr 2;(show nt .aP .o)
      ·rfl
     ·rw[<- e]
      conv=>rhs;rw[fC]
      rw[cn #[c1,c2,ya.mpr #[as[O],ea,by rw[q];show eb,by rw[q];simp[hok]]]]
    ·rw[fw q];show K .next ρ' σ'
     have:dA as bs ok alo blo (O+1) (W+1) k'=(O+1,W+1,k'):=by
      rw[fC];rw[br];rintro ⟨_,_,h3⟩;have#[c,h4,h5,_]:=ya.mp h3;rw[ea]at h4;rw[eb]at h5;clear aj;cases h4;show q (af h5).symm
     rw[this]at e;show h _ z (by rw[<- e];show J)
  ·rw[br (by simpa using c2)];show K .next ρ' σ'
   have:dA as bs ok alo blo n j' k'=(n,j',k'):=by
    cases n with
    |zero=>rfl
    |succ n =>
     cases j' with
     |zero=>rfl
     |succ j'=>rw[fC];rw[br (λh=>c2 h.2.1)]
   rw[this]at e;show h _ z (by rw[<- e];show J)
 ·rw[br (by simpa using c1)];show K .next ρ' σ'
  have:dA as bs ok alo blo n j' k'=(n,j',k'):=by
   cases n with
   |zero=>rfl
   |succ n =>
    cases j' with
    |zero=>rfl
    |succ j'=>rw[fC];rw[br (λh=>c1 h.1)]
  rw[this]at e;show h _ z (by rw[<- e];show J)
def KL {C:Cal}{js:List Key}{K:Fl->Fr->St->Prop}{c:Ex}{ok:Key->Bool}{body:Stm}
  (U:body=.aug 11 .add (.int 1)\/body=.a [(.v 11)] (.b .add (.l 11) (.int 1)))
  (ar:σ.L la=some (as.map Key.v)) (ao:σ.L lb=some (bs.map Key.v)) (ha:∀k∈as,wu k) (hb:∀k∈bs,wu k) (ai:ahi<=as.length) (ag:bhi<=bs.length)
  (hc:∀(ρ:Fr) (j k:Nat) (b:Key) (Q:Bool->St->Prop),FF ρ la lb db sj alo ahi blo bhi->ρ 10=some (.int j)->ρ 11=some (.int k)->bs[j+k]?=some b->Q (ok b) σ->wpT C c ρ σ Q)
  
  (h:∀ρ,FF ρ la lb db sj alo ahi blo bhi->FB ρ i j (hV as bs ok ahi bhi (ahi-i) i j k)->K .next ρ σ) (F:FF ρ la lb db sj alo ahi blo bhi) (B:FB ρ i j k) :
  wpS C (.loop (.and (.c .lt (.b .add (.l 9) (.l 11)) (.l 2)) (.and (.c .lt (.b .add (.l 10) (.l 11)) (.l 4)) (.and c (.c .eq (.sub (.l 5) (.b .add (.l 9) (.l 11))) (.sub (.l 6) (.b .add (.l 10) (.l 11))))))) %[body|0]) ρ σ K:=by
 have more:∀n m k,ahi-(i+k)<=n->n<=m->hV as bs ok ahi bhi n i j k=hV as bs ok ahi bhi m i j k:=by
  intro n;induction n with
  |zero =>
   intro m k h1 h2;cases m with
   |zero=>rfl
   |succ m =>
    show k=_;rw[zt];rw[br (λq1=>(pe .ff [[0,1,1,-1]] (.k .A .O) (.l .Q .D) (.e .aP .D) h1 q1.1 (aa (gu .F .a .K q1.1))))]
  |succ n ih =>
   intro m k h1 h2;have#[m,rfl]:∃m',m=m'+1:=#[m-1,by show ba .a3 .f .bJ (aa (ba .I .a (.k .P .A) h2))];rw[zt,zt];split
   ·show ih _ _ (by(rename_i z1;show eM .A .u .bV (.e (.a .C .Y) .G) (.e (.a .A (.a .D .a1)) .G) h1 (aa (gu .F .a .K z1.1)) (aa (gu .L .a .K z1.1)))) (ba .A .a .aQ h2)
   ·rfl
 apply#[ahi+1,d7 (λn ρ' σ'=>σ'=σ/\FF ρ' la lb db sj alo ahi blo bhi/\∃k',n=ahi-(i+k')/\FB ρ' i j k'/\hV as bs ok ahi bhi (ahi-i) i j k'=hV as bs ok ahi bhi (ahi-i) i j k) ?_ (ahi+1) (ahi-(i+k)) (ba .aM .a .A (oo _ _)) #[rfl,F,k,rfl,B,rfl]];rintro n ρ' σ' ⟨rfl,J,k',rfl,W,e⟩ again aj;have stop:hV as bs ok ahi bhi (ahi-i) i j k'=k'->K .next ρ' σ':=λq=>by
  rw[q]at e;show h _ J (by rw[<- e];show W)
 apply#[_,W.r9,_,W.r11,_,J.r2,?_];show(if decide (((i:Int)+k')<ahi)=true then _ else _);by_cases c1:i+k'<ahi
 ·rw[cn (by simp;(show gu (.il (.a .L .P) (.t .C)) .a .K c1))];apply#[_,W.r10,_,W.r11,_,J.r4,?_];show(if decide (((j:Int)+k')<bhi)=true then _ else _);by_cases c2:j+k'<bhi
  ·rw[cn (by simp;(show gu (.il (.a .L .P) (.t .C)) .a .K c2))];have ea:as[i+k']?=some as[i+k']:=aq (gh .K .b .bM (.l .L .D) ai c1);have eb:bs[j+k']?=some bs[j+k']:=aq (gh .K .b .bM (.l .L .D) ag c2);apply hc _ j k' bs[j+k'] _ J W.r10 W.r11 eb ?_;cases hok:ok bs[j+k'] with
   |false =>
    apply stop ?_;have#[m,z]:∃m,ahi-i=m+1:=#[ahi-i-1,by show ba .a3 .f .bJ (aa (gh .I .d (.l .Q .D) (.e .L .D) c1 (aa (gu .A .a (.l .X .B) c1))))];rw[z];rw[zt];rw[br];rintro ⟨_,_,h3⟩;have#[c,_,h4,h5]:=ya.mp h3;rw[eb]at h4;cases h4;rw[hok]at h5;cases h5
   |true =>
    rw[cn rfl];apply#[_,J.r5,_,W.r9,_,W.r11,?_];apply dK ar (n:=i+k') (ow (.ie (.a .L .P) (.t .L)) .o) ea ?_;apply#[_,J.r6,_,W.r10,_,W.r11,?_];apply dK ao (n:=j+k') (ow (.ie (.a .L .P) (.t .L)) .o) eb ?_;apply oZ (ha _ (cj _)) (hb _ (cj _)) ?_;by_cases q:as[i+k']=bs[j+k']
    ·rw[ic q];apply eX ?_;have go:again (upd ρ' 11 (.int ((k':Int)+1))) σ':=by
      apply aj (ahi-(i+(k'+1))) _ _ (qy .B .d (.e (.a .A (.a .C .Z)) .F) (.e (.a .B .R) .F) (aa (gu .L .a .K c1)) (aa (gu .F .a .K c1))) #[rfl,J.up (zv (.k .aN (.n 11)) .h),k'+1,rfl,#[W.r9,W.r10,rfl],?_];rw[<- e];have#[m,z]:∃m,ahi-i=m+1:=#[ahi-i-1,by show ba .a3 .f .bJ (aa (gh .I .d (.l .Q .D) (.e .L .D) c1 (aa (gu .A .a (.l .X .B) c1))))];rw[z]
      conv=>rhs;rw[zt]
      rw[cn #[c1,c2,ya.mpr #[as[i+k'],ea,by rw[q];show eb,by rw[q];simp[hok]]]];show(more _ _ _ (eM .A .u (.e .C .P) .b3 (.e (.a .A (.a .D .aA)) .F) z (aa (gu .A .a (.l .X .B) c1)) (aa (gu .L .a .K c1))) (nt (.k .A .M) .h)).symm
     rcases U with rfl|rfl
     ·apply#[_,W.r11,go]
     ·apply#[_,W.r11,go]
    ·rw[fw q];apply stop ?_;have#[m,z]:∃m,ahi-i=m+1:=#[ahi-i-1,by show ba .a3 .f .bJ (aa (gh .I .d (.l .Q .D) (.e .L .D) c1 (aa (gu .A .a (.l .X .B) c1))))];rw[z];rw[zt];rw[br];rintro ⟨_,_,h3⟩;have#[c,h4,h5,_]:=ya.mp h3;rw[ea]at h4;rw[eb]at h5;cases h4;show q (af h5).symm
  ·rw[br (by simp;(show gu (.ik .L (.a .P (.t .C))) .a (.g .Q .A) c2))];apply stop ?_;cases ahi-i with
   |zero=>rfl
   |succ n=>rw[zt];rw[br (λh=>c2 h.2.1)]
 ·rw[br (by simp;(show gu (.ik .L (.a .P (.t .C))) .a (.g .Q .A) c1))];apply stop ?_;cases ahi-i with
  |zero=>rfl
  |succ n=>rw[zt];rw[br (λh=>c1 h.1)]
end SM
end MP
end
section
namespace MP
namespace SM
set_option genInjectivity false
set_option genSizeOf false
open PySem
variable {as bs:List Key}{rm:Key->Bool}{alo blo bhi i n:Nat}{ps:List Nat}{es:List (Key×V)}{ρ:Fr}{σ:St}{C:Cal}{K:Fl->Fr->St->Prop}
abbrev gR (as bs:List Key)(rm:Key->Bool)(alo blo bhi i:Nat)(ps:List Nat)(es:List (Key×V)):Prop:=∀j:Nat,j<bhi->(es.lookup (.int ((j:Int)-1))).getD (.int 0)=.int (if 0<j/\j-1∈ps then el as bs rm alo blo (i+1) j else 0:Nat)
def gR.row (h:gR as bs rm alo blo bhi i ps es)(U:∀j,j<bhi->hit as bs rm i j=true->j∈ps):Row as bs rm alo blo bhi (i+1) es:=by
 intro j W;rw[h j W];split
 ·rfl
 ·rename_i c
  congr 2
  cases j with
  |zero=>rfl
  |succ j =>
   rw[s8];rw[br];rintro ⟨_,_,q⟩;show c #[by show nt (.l .O .M) .h,U j (ba .B .a .V W) q]
def gR.put (h:gR as bs rm alo blo bhi i ps es)(j:Nat):gR as bs rm alo blo bhi i (ps++[j]) (putD es (.int j) (.int (el as bs rm alo blo (i+1) (j+1):Nat))):=by
 intro j' J;rw[wF];by_cases c:j'=j+1
 ·subst c;rw[cn (by congr 1;(show nt .aP .o)),cn #[by show nt (.l .O .M) .h,by simp]];rfl
 ·rw[br (λq=>c (by injection q;(show ba .a3 .i (.ie (.s .L .U) .P) i_eq))),h j' J]
  congr 2
  by_cases c1:0<j'/\j'-1∈ps
  ·rw[cn c1,cn #[c1.1,dk _ c1.2]]
  ·rw[br c1,br];rintro ⟨c2,c3⟩;rcases cq.mp c3 with c3|c3
   ·show c1 #[c2,c3]
   ·simp at c3;(show(ah c).elim (λW=>(oa .ff [[0,-1,1,1]] .C .aA (.l .C .P) c3 (aa (fc .I .a .D c2)) W)) λW=>(oa .ff [[0,1,-1,1]] .C .aA (.l .P .C) c3 (aa (fc .I .a .D c2)) W))
def gR.skip (h:gR as bs rm alo blo bhi i ps es)(j:Nat)(J:j<blo):gR as bs rm alo blo bhi i (ps++[j]) es:=by
 intro j' W;rw[h j' W]
 congr 2
 by_cases c1:0<j'/\j'-1∈ps
 ·rw[cn c1,cn #[c1.1,dk _ c1.2]]
 ·rw[br c1];by_cases c2:0<j'/\j'-1∈ps++[j]
  ·rw[cn c2];have#[c3,c4]:=c2;rcases cq.mp c4 with c4|c4
   ·show absurd #[c3,c4] c1
   ·have#[U,rfl]:∃U,j'=U+1:=#[j'-1,by show ba .a3 .f .bJ (aa (fc .I .a .D c3))];simp at c4;rw[s8];rw[br (λO=>(oa .ff .m .B .c7 .aK J c4 O.2.1))]
  ·rw[br c2]
abbrev pQ:qa:=(.cons (.C (.c .lt (.l 17) (.l 3)) (.cons .cont
 .nil) .nil)
 (.cons (.C (.c .ge (.l 17) (.l 4)) (.cons .brk
 .nil) .nil)
 (.cons (.a [(.v 18),(.sub (.l 16) (.l 17))] (.b .add (.w 15 %[.b .sub (.l 17) (.int 1),.int 0|0]) (.int 1)))
 (.cons (.C (.c .gt (.l 18) (.l 11)) (.cons (.a [.T [9,10,11]] (.T %[.b .add (.b .sub (.l 14) (.l 18)) (.int 1),.b .add (.b .sub (.l 17) (.l 18)) (.int 1),.l 18|0]))
 .nil) .nil)
 .nil))))
abbrev pI:Stm:=.each (.v 17) (.seq (.bm .get (.l 7) %[.sub (.l 5) (.l 14),.l 13|0])) pQ
structure Fc where
 σ₀:St
 la:Addr
 lb:Addr
 db:Addr
 sj:Addr
 nl:Addr
 as:List Key
 bs:List Key
 rm:Key->Bool
 alo:Nat
 ahi:Nat
 blo:Nat
 bhi:Nat
public abbrev Fc.F (c:Fc)(ρ:Fr):Prop:=FF ρ c.la c.lb c.db c.sj c.alo c.ahi c.blo c.bhi
public abbrev Fc.S (c:Fc)(seen:Nat->Nat->Prop)(i j k:Nat):Prop:=Scan c.as c.bs c.rm c.alo c.ahi c.blo c.bhi seen i j k
public abbrev Fc.e (c:Fc)(i j:Nat):Nat:=el c.as c.bs c.rm c.alo c.blo i j
public abbrev Fc.R (c:Fc)(i:Nat)(es:List (Key×V)):Prop:=Row c.as c.bs c.rm c.alo c.blo c.bhi i es
public abbrev Fc.h (c:Fc)(i j:Nat):Bool:=hit c.as c.bs c.rm i j
structure Fk (c:Fc):Prop where
 La:c.σ₀.L c.la=some (c.as.map Key.v)
 T:TabAt c.σ₀ c.db c.bs c.rm
 n:c.σ₀.L c.nl=some []
 s:c.bs.length<bx
 bl:c.bhi<=c.bs.length
 al:c.ahi<=c.as.length
structure Sc where
 c:Fc
 i:Nat
 cd:Addr
 nd:Addr
 es:List (Key×V)
 ps:List Nat
structure Sk (s:Sc):Prop where
 ai:s.c.alo<=s.i
 ia:s.i<s.c.ahi
 row:s.c.R s.i s.es
 ne:s.cd≠s.nd
 no:s.c.σ₀.D s.nd=none
 mem:∀j,j∈s.ps↔s.c.h s.i j=true
 lt:s.ps.Pairwise (·<·)
 pl:s.ps.length<=s.c.bs.length
abbrev Sc.seen (s:Sc)(t:Nat):Nat->Nat->Prop:=λi' j'=>(i'<s.i/\j'<s.c.bhi)\/(i'=s.i/\j'∈s.ps.take t)
inductive InI (s:Sc)(t:Nat)(ρ:Fr)(σ:St):Prop
 |mk (bi bj bk:Nat) (es:List (Key×V)) (lim:∀j,j∈s.ps.take t->j<s.c.bhi) (len:es.length<=t) (k:Kp s.c.σ₀ σ) (F:s.c.F ρ) (B:FB ρ bi bj bk) (cd:σ.D s.cd=some s.es) (nd:σ.D s.nd=some es)
  (r13:ρ 13=some (.L s.c.nl)) (r14:ρ 14=some (.int s.i)) (r15:ρ 15=some (.hY s.cd)) (r16:ρ 16=some (.dct s.nd)) (row:gR s.c.as s.c.bs s.c.rm s.c.alo s.c.blo s.c.bhi s.i (s.ps.take t) es) (sc:s.c.S (s.seen t) bi bj bk):InI s t ρ σ
inductive sP (s:Sc)(ρ:Fr)(σ:St):Prop
 |mk (bi bj bk:Nat) (es:List (Key×V)) (k:Kp s.c.σ₀ σ) (F:s.c.F ρ) (B:FB ρ bi bj bk) (r13:ρ 13=some (.L s.c.nl)) (r16:ρ 16=some (.dct s.nd)) (nd:σ.D s.nd=some es) (row:s.c.R (s.i+1) es)
  (sc:s.c.S (λi' j'=>(i'<s.i/\j'<s.c.bhi)\/(i'=s.i/\j'<s.c.bhi/\s.c.h s.i j'=true)) bi bj bk):sP s ρ σ
structure fF (ps:List Nat)(t j:Nat):Prop where
 th:ps.take (t+1)=ps.take t++[j]
 lt:∀m,m∈ps.take t->m<j
 of:∀m,m∈ps->m<j->m∈ps.take t
 mem:j∈ps
def iD (lt:ps.Pairwise (·<·)){t j:Nat}(e:ps[t]?=some j):fF ps t j:=by
 have#[W,rfl]:=av.mp e;apply#[dz W,λm J=>?_,λm J hl=>?_,cj _]
 ·have#[a,I,rfl]:=List.getElem_of_mem J;have hb:a<t:=by
   have:=I;rw[fb]at this
   (show fh .B .b .G .H this (Ar.ji _ _).1)
  rw[oj];show(vm.mp lt) a t (fh .B .b .M .G W hb) W hb
 ·have#[a,I,rfl]:=List.getElem_of_mem J;have:a<t:=by
   apply Nat.lt_of_not_le λq=>?_;rcases Nat.eq_or_lt_of_le q with q|q
   ·subst q;show absurd hl (kg _)
   ·have:=(vm.mp lt) t a W I q
    (show iq .ff .c .B .U hl this)
  show List.mem_take_iff_getElem.mpr #[a,by show(Ar.ji _ _).2.2.elim (λO=>(fh .B .b .G .H this O)) λO=>(pe .B .e .R .G .cJ W this O),rfl]
def InI.fin {s:Sc}{t:Nat}(k:Sk s)(I:InI s t ρ σ)(W:∀j,j<s.c.bhi->j∈s.ps->j∈s.ps.take t):sP s ρ σ:=by
 cases I;apply .mk bi bj bk es k_1 F B r13 r16 nd (row.row λj J z=>W j J ((k.mem j).mpr z)) (sc.skip ?_ ?_)
 ·rintro i' j' (q|⟨q,U⟩)
  ·show .inl q
  ·show .inr #[q,lim _ U,(k.mem _).mp (nz U)]
 ·rintro i' j' (q|⟨q,U,O⟩)
  ·show .inl (.inl q)
  ·show .inl (.inr #[q,W _ U ((k.mem _).mpr O)])
section
variable {s:Sc}{t j bi bj bk:Nat}
def jC (T:fF s.ps t j){i' j':Nat}(q:s.seen (t+1) i' j'):s.seen t i' j'\/(i'=s.i/\j'=j):=by
 rcases q with q|⟨q,W⟩
 ·show .inl (.inl q)
 ·rw[T.th]at W;rcases cq.mp W with W|W
  ·show .inl (.inr #[q,W])
  ·show .inr #[q,au.mp W]
def pH (T:fF s.ps t j){i' j':Nat}(q:s.seen t i' j'):s.seen (t+1) i' j':=q.imp_right λq=>#[q.1,by rw[T.th];show dk _ q.2]
def uG (T:fF s.ps t j)(W:∀j,j∈s.ps.take t->j<s.c.bhi)(O:j<s.c.bhi):∀j,j∈s.ps.take (t+1)->j<s.c.bhi:=by
 rw[T.th];intro j' U;rcases cq.mp U with q|q
 ·show W _ q
 ·rw[au.mp q];show O
def HN (T:fF s.ps t j)(U:j<s.c.blo)(sc:s.c.S (s.seen t) bi bj bk):s.c.S (s.seen (t+1)) bi bj bk:=by
 apply sc.skip (λi' j'=>pH T) λi' j' q=>?_;rcases jC T q with q|⟨rfl,rfl⟩
 ·show .inl q
 ·apply .inr (.inl ?_);rw[s8];rw[br (λW=>(iq .ff .c .B .a2 U W.2.1))]
def HO (k:Sk s)(T:fF s.ps t j)(sc:s.c.S (s.seen t) bi bj bk)(h:s.c.e (s.i+1) (j+1)<=bk):s.c.S (s.seen (t+1)) bi bj bk:=by
 apply sc.skip (λi' j'=>pH T) λi' j' q=>?_;rcases jC T q with q|⟨rfl,rfl⟩
 ·show .inl q
 ·apply .inr ?_;have#[h1,h2,hr]:=s9 (as:=s.c.as) (bs:=s.c.bs) (rm:=s.c.rm) (alo:=s.c.alo) (blo:=s.c.blo) (i:=s.i+1) (j:=j'+1);rcases pf (s.c.e (s.i+1) (j'+1)) bk with c4|c4
  ·show .inr (.inl c4)
  ·have W:s.c.e (s.i+1) (j'+1)=bk:=Nat.le_antisymm h c4;by_cases h0:s.c.e (s.i+1) (j'+1)=0
   ·show .inl h0
   ·apply .inr (.inr #[W,?_]);have h1:s.c.e (s.i+1) (j'+1)<=s.i+1:=h1;have h2:s.c.e (s.i+1) (j'+1)<=j'+1:=h2;have R':=sc.run;have e1:=R'.ia;have e2:=R'.jb;rcases sc.at_ ((ah h0).elim (λJ=>(ba .D .j (.l .B .O) J)) λJ=>(iq .D .b .cH .Y W J)) with q|⟨q,q'⟩
    ·left;(rename_i I z1;show mr .B .u .R (.e .a8 .Z) (.k .a9 .S) q.1 (aa (fh .O .d .bV .c7 I W)) (Ar.NL _ _))
    ·right
     have:=T.lt _ q'
     (rename_i I z1;show#[(Ar.sub _ _ (λJ p1=>(mr .C .E .bW (.e .a8 .Z) (.e .S .a9) q (aa (fh .O .d .bV .c7 I W)) p1)) λJ p1=>((ah h0).elim (λz=>(mr .C [[0,0,0,1],[1,-1,1,0]] (.e .Q .Z) (.k .X .U) (.l .F .O) (aa (fh .O .d .bV .c7 I W)) J z)) λz=>(MX .C [[1,1,-1,1,0,1,1],[1,0,0,-1,1,0,0]] .bW (.e .F .G) (.e .aG .aA) (.k .T .U) .bC .a6 W q (aa (fh .O .d .bV .c7 I W)) J p1 z))),(mr .A .u .R (.e .a8 .Z) (.k .a9 .S) this (aa (fh .O .d .bV .c7 z1 W)) (Ar.NL _ _))])
def HM (k:Sk s)(T:fF s.ps t j)(W:j<s.c.bhi)(sc:s.c.S (s.seen t) bi bj bk)(h:bk<s.c.e (s.i+1) (j+1)):s.c.S (s.seen (t+1)) (s.i+1-s.c.e (s.i+1) (j+1)) (j+1-s.c.e (s.i+1) (j+1)) (s.c.e (s.i+1) (j+1)):=
 sc.take k.ia W h (.inr #[rfl,by rw[T.th];show dt _ (.head _)]) λi' j' q=>(jC T q).imp_right .inl
def InI.skip (T:fF s.ps t j)(W:j<s.c.blo)(hb:s.c.blo<=s.c.bhi)(I:InI s t ρ σ):InI s (t+1) (upd ρ 17 (.int j)) σ:=by
 cases I;show .mk bi bj bk es (uG T lim (ti W hb)) (Nat.le_succ_of_le len) k (F.up (by decide)) (B.up (by decide)) cd nd r13 r14 r15 r16 (by rw[T.th];show row.skip j W) (HN T W sc)
end
def IU {s:Sc}(ok:Fk s.c)(k:Sk s){t j:Nat}(e:s.ps[t]?=some j)(hb:s.c.blo<=s.c.bhi)(I:InI s t ρ σ){kk:Fr->St->Prop}(hk:∀ρ' σ',InI s (t+1) ρ' σ'->kk ρ' σ')(hf:∀ρ' σ',sP s ρ' σ'->K .next ρ' σ') :
  gw C pQ (upd ρ 17 (.int j)) σ (wk kk K):=by
 have T:=iD k.lt e;have ht:t<s.ps.length:=(av.mp e).1;have I0:=I;cases I;have F1:s.c.F (upd ρ 17 (.int (j:Int))):=F.up (by decide);have B1:FB (upd ρ 17 (.int (j:Int))) bi bj bk:=B.up (by decide);apply#[.int j,rfl,.int s.c.blo,F1.r3,?_];show(if decide ((j:Int)<s.c.blo)=true then _ else _);by_cases c1:j<s.c.blo
 ·rw[cn (by simpa using c1)];show hk _ _ (I0.skip T c1 hb)
 rw[br (by simpa using c1)];apply#[.int j,rfl,.int s.c.bhi,F1.r4,?_];show(if decide ((s.c.bhi:Int)<=j)=true then _ else _);by_cases c2:s.c.bhi<=j
 ·rw[cn (by simpa using c2)];show hf _ _ (InI.fin k (t:=t) (.mk bi bj bk es lim len k_1 F1 B1 cd nd r13 r14 r15 r16 row sc) λj' h1 h2=>T.of j' h2 (ti h1 c2))
 rw[br (by simpa using c2)];have c2:=Nat.lt_of_not_le c2;apply#[.hY s.cd,r15,.int j,rfl,s.es,.int ((j:Int)-1),cd,rfl,?_];rw[k.row j c2];have pl:=k.pl;have sl:=ok.s;apply#[.dct s.nd,r16,.int j,rfl,es,.int j,nd,rfl,by show nS .B .k .R .J .cK (.l .F .B) ht len pl sl,?_];have bd:s.c.e (s.i+1) (j+1)=s.c.e s.i j+1:=by
  rw[show s.c.e (s.i+1) (j+1)=_ from s8,cn #[k.ai,Nat.le_of_not_lt c1,(k.mem j).mp T.mem]]
 have be:(V.int (((s.c.e s.i j:Nat):Int)+1))=.int ((s.c.e (s.i+1) (j+1):Nat):Int):=by
  rw[bd];rfl
 show gw C _ (upd (upd ρ 17 (.int (j:Int))) 18 (V.int (((s.c.e s.i j:Nat):Int)+1))) (σ.sg s.nd (putD es (.int j) (V.int (((s.c.e s.i j:Nat):Int)+1)))) _;rw[be];have ax:gR s.c.as s.c.bs s.c.rm s.c.alo s.c.blo s.c.bhi s.i (s.ps.take (t+1)) (putD es (.int j) (.int (s.c.e (s.i+1) (j+1):Nat))):=by
  rw[T.th];show row.put j
 have W:(putD es (.int j) (.int (s.c.e (s.i+1) (j+1):Nat))).length<=t+1:=kz DC (zx len);have#[aj,ag,_]:=s9 (as:=s.c.as) (bs:=s.c.bs) (rm:=s.c.rm) (alo:=s.c.alo) (blo:=s.c.blo) (i:=s.i+1) (j:=j+1);have tk:=λh=>HM k T c2 sc h;have sm:=λh=>HO k T sc h;have aj:s.c.e (s.i+1) (j+1)<=s.i+1:=aj;have ag:s.c.e (s.i+1) (j+1)<=j+1:=ag;generalize s.c.e (s.i+1) (j+1)=E at ax W tk sm aj ag;have F2:s.c.F (upd (upd ρ 17 (.int (j:Int))) 18 (.int (E:Int))):=F1.up (by decide);have B2:FB (upd (upd ρ 17 (.int (j:Int))) 18 (.int (E:Int))) bi bj bk:=B1.up (by decide);have k2:Kp s.c.σ₀ (σ.sg s.nd (putD es (.int j) (.int (E:Int)))):=k_1.sg k.no;have ay:(σ.sg s.nd (putD es (.int j) (.int (E:Int)))).D s.cd=some s.es:=(er k.ne).trans cd;have ar:(σ.sg s.nd (putD es (.int j) (.int (E:Int)))).D s.nd=some (putD es (.int j) (.int (E:Int))):=cm _ _ _;have r14:upd (upd ρ 17 (.int (j:Int))) 18 (.int (E:Int)) 14=some (.int s.i):=r14;have r16:upd (upd ρ 17 (.int (j:Int))) 18 (.int (E:Int)) 16=some (.dct s.nd):=r16;have r15:upd (upd ρ 17 (.int (j:Int))) 18 (.int (E:Int)) 15=some (.hY s.cd):=r15;have r13:upd (upd ρ 17 (.int (j:Int))) 18 (.int (E:Int)) 13=some (.L s.c.nl):=r13;have bc:upd (upd ρ 17 (.int (j:Int))) 18 (.int (E:Int)) 17=some (.int j):=rfl;have z:upd (upd ρ 17 (.int (j:Int))) 18 (.int (E:Int)) 18=some (.int E):=rfl;generalize upd (upd ρ 17 (.int (j:Int))) 18 (.int (E:Int))=bg at F2 B2 r13 r14 r15 r16 bc z;generalize σ.sg s.nd (putD es (.int j) (.int (E:Int)))=σ2 at k2 ay ar;apply#[.int E,z,.int bk,B2.r11,?_];show(if decide ((bk:Int)<E)=true then _ else _);have ao:=uG T lim c2;by_cases c3:bk<E
 ·rw[cn (by simpa using c3)];apply#[.int s.i,r14,.int E,z,.int j,bc,.int E,z,.int E,z,bz rfl,_,rfl,rfl,?_];apply hk _ _ (.mk (s.i+1-E) (j+1-E) E _ ao W k2 (((F2.up (by decide)).up (by decide)).up (by decide)) #[?_,?_,rfl] ay ar r13 r14 r15 r16 ax (tk c3))
  ·show some (V.int ((s.i:Int)-E+1))=_
   congr 2;(show gu (.ie (.a (.s .L .P) .U) (.t .C)) .f (.e .a6 .M) (aa (ba .O .a .O aj)))
  ·show some (V.int ((j:Int)-E+1))=_
   congr 2;(show gu (.ie (.a (.s .L .P) .U) (.t .C)) .f (.e .a6 .M) (aa (ba .O .a .O ag)))
 ·rw[br (by simpa using c3)];show hk _ _ (.mk bi bj bk _ ao W k2 F2 B2 ay ar r13 r14 r15 r16 ax (sm (Nat.le_of_not_lt c3)))
def vQ {c:Fc}(ok:Fk c){bi bj bk:Nat}{cd nd:Addr}(aj:c.alo<=i)(O:i<c.ahi)(hb:c.blo<=c.bhi)(k0:Kp c.σ₀ σ)(F:c.F ρ)(B:FB ρ bi bj bk)
  (z:ρ 13=some (.L c.nl)) (J:ρ 14=some (.int i)) (ar:ρ 15=some (.hY cd)) (ao:ρ 16=some (.dct nd)) (hcd:σ.D cd=some es) (U:c.R i es) (ai:σ.D nd=some []) (ag:cd≠nd) (ax:c.σ₀.D nd=none)
  (sc:c.S (λi' j'=>i'<i/\j'<c.bhi) bi bj bk) (h:∀ρ' σ' ps,sP #[c,i,cd,nd,es,ps] ρ' σ'->K .next ρ' σ'):wpS C pI ρ σ K:=by
 have al:=ok.al;have ea:c.as[i]?=some c.as[i]:=aq (fh .B .b .G .H O al);have#[tb,l,hD,hg,hc]:=ok.T.get ok.n c.as[i];generalize W:(if c.rm c.as[i] then [] else posOf c.as[i] c.bs)=ps at hc;have sk:Sk #[c,i,cd,nd,es,ps]:=by
  apply#[aj,O,U,ag,ax,λj=>?_,?_,?_]
  ·show j∈ps↔hit c.as c.bs c.rm i j=true;rw[ya,<- W];cases hr:c.rm c.as[i] with
   |true =>
    rw[cn rfl];apply#[(λq=>nomatch q),?_];rintro ⟨a,e1,_,e3⟩;have rfl:=af (ea.symm.trans e1);rw[hr]at e3;cases e3
   |false =>
    rw[br (by decide),AH];apply#[λq=>#[_,ea,q,hr],?_];rintro ⟨a,e1,e2,e3⟩;have rfl:=af (ea.symm.trans e1);show e2
  ·show ps.Pairwise (·<·);rw[<- W];split
   ·show .nil
   ·show DE
  ·show ps.length<=c.bs.length;rw[<- W];split
   ·show bb _
   ·show AI
 apply#[.dct c.db,F.r7,(show(σ.D c.db).isSome=true by rw[k0.D _ _ hD];rfl),.L c.la,F.r5,.int i,J,?_];apply dK (k0.L _ _ ok.La) rfl ea ?_;apply#[.L c.nl,z,tb,c.as[i],k0.D _ _ hD,yQ _,?_];rw[hg];apply#[_,k0.L _ _ hc,?_];apply pk (InI #[c,i,cd,nd,es,ps]) ?_ ?_ ?_
 ·intro t v ρ' σ' hv I;rw[cy]at hv;have#[j,e,rfl]:=jr.mp hv;cases I;apply#[k.L _ _ hc,λkk hk=>IU ok sk e hb (.mk bi_1 bj_1 bk_1 es_1 lim len k F_1 B_1 cd_1 nd_1 r13 r14 r15 r16 row sc_1) hk λρ' σ'=>h ρ' σ' ps]
 ·intro ρ' σ' I;rw[ak]at I;have I0:=I;cases I;apply#[k.L _ _ hc,h _ _ _ (I0.fin sk λj _ q=>by show j∈ps.take ps.length;rw[fo];show q)]
 ·apply .mk bi bj bk [] (λj hj=>nomatch hj) (az _) k0 F B hcd ai z J ar ao ?_ (sc.skip (λi' j' q=>.inl q) λi' j' q=>?_)
  ·intro j hj;rw[br (by simp)];rfl
  ·rcases q with q|⟨_,q⟩
   ·show .inl q
   ·show nomatch q
def rW {as bs:List Key}{ok:Key->Bool}{alo blo:Nat}:∀{i j k:Nat},(dA as bs ok alo blo i j k).1<=i/\(dA as bs ok alo blo i j k).2.1<=j
 |0,j,k=>#[az _,az _]
 |i+1,0,k=>#[az _,az _]
 |i+1,j+1,k=>by
  rw[fC];split
  ·have:=rW (as:=as) (bs:=bs) (ok:=ok) (alo:=alo) (blo:=blo) (i:=i) (j:=j) (k:=k+1)
   (show#[(ba .O .a .A this.1),(ba .O .a .A this.2)])
  ·apply#[az _,az _]
abbrev HS:qa:=(.cons (.a [(.v 15)] (.g (.l 12)))
 (.cons (.a [(.v 16)] .dct0)
 (.cons pI
 (.cons (.a [(.v 12)] (.l 16))
 .nil))))
inductive JT (c:Fc)(t:Nat)(ρ:Fr)(σ:St):Prop
 |mk (bi bj bk:Nat) (cd:Addr) (es:List (Key×V)) (k:Kp c.σ₀ σ) (F:c.F ρ) (r13:ρ 13=some (.L c.nl)) (B:FB ρ bi bj bk) (r12:ρ 12=some (.dct cd)) (hcd:σ.D cd=some es) (row:c.R (c.alo+t) es) (sc:c.S (λi' j'=>i'<c.alo+t/\j'<c.bhi) bi bj bk):JT c t ρ σ
def DJ {c:Fc}(ok:Fk c){t:Nat}{kk:Fr->St->Prop}(z:c.alo+t<c.ahi)(hb:c.blo<=c.bhi)(I:JT c t ρ σ)(hk:∀ρ' σ',JT c (t+1) ρ' σ'->kk ρ' σ') :
  gw C HS (upd ρ 14 (.int ((c.alo+t:Nat):Int))) σ (wk kk K):=by
 cases I;apply#[_,r12,cd,rfl,by rw[hcd];rfl,λnd W=>?_];have U:cd≠nd:=λq=>by rw[q,W]at hcd;cases hcd
 apply vQ ok (cd:=cd) (nd:=nd) (km _ _) z hb (k.sg (k.noD W)) (((F.up (by decide)).up (by decide)).up (by decide)) (((B.up (by decide)).up (by decide)).up (by decide)) r13 rfl rfl rfl ((er U).trans hcd) row (cm _ _ _) U (k.noD W) sc λJ σ2 ps E=>?_;cases E;apply#[_,r16,?_];apply hk _ _ (.mk bi_1 bj_1 bk_1 nd es_1 k_1 (F_1.up (by decide)) r13_1 (B_1.up (by decide)) rfl nd_1 row_1 (sc_1.skip (λi' j' q=>?_) λi' j' q=>?_))
 ·rcases q with q|q
  ·apply#[Nat.lt_succ_of_lt q.1,q.2]
  ·apply#[Nat.lt_succ_of_le (Nat.le_of_eq q.1),q.2.1]
 ·by_cases e:i'<c.alo+t
  ·show .inl (.inl #[e,q.2])
  ·have:i'=c.alo+t:=by have:=q.1;(show fh .aY .g (.l .A .aQ) (.g .A .Q) q.1 e)
   subst this;by_cases O:c.h (c.alo+t) j'=true
   ·show .inl (.inr #[rfl,q.2,O])
   ·apply .inr (.inl ?_);rw[s8];rw[br (λq=>O q.2.2)]
def uH (h:n<bx):n<2^40:=Nat.lt_trans h (by decide)
def KU {m:Nat}(h:n<=m)(W:m<bx):(n:Int).natAbs<2^40:=Nat.lt_of_le_of_lt h (uH W)
def flm {P:Nat->Option Fn}(hP:P 5=some fn5){σ:St}{x la lb db sj:Addr}{as bs:List Key}{js:List Key}{Q:V->St->Prop}{alo ahi blo:Nat}{U W:V}
  (hM:MAt σ x la lb db sj as bs rm js) (ha:∀k∈as,wu k) (hb:∀k∈bs,wu k) (hs:bs.length<bx) (ax:as.length<bx)
  (bl:U=.int ahi\/(U=.none/\ahi=as.length)) (bg:W=.int bhi\/(W=.none/\bhi=bs.length))
  (bv:alo<=ahi) (bu:blo<=bhi) (ai:ahi<=as.length) (ao:bhi<=bs.length)
  (h:∀σ' i j k,Kp σ σ'->xT as bs rm alo ahi blo bhi i j k->(let g:=grow as bs (λc=>decide (c∈js)) alo ahi blo bhi i j k;Q (mtV (g.1,g.2.1,g.2.2)) σ')):ku P (n+1) 5 [.obj x,.int alo,U,.int blo,W] σ Q:=by
 apply#[fn5,hP,bz rfl,bz rfl,?_];have#[d,f,hI,f1,f2,f7,f8]:=hM.I;have h0:frameOf fn5 [.obj x,.int alo,U,.int blo,W] 0=some (.obj x):=rfl;have h1:frameOf fn5 [.obj x,.int alo,U,.int blo,W] 1=some (.int alo):=rfl;have h2:frameOf fn5 [.obj x,.int alo,U,.int blo,W] 2=some U:=rfl;have h3:frameOf fn5 [.obj x,.int alo,U,.int blo,W] 3=some (.int blo):=rfl;have h4:frameOf fn5 [.obj x,.int alo,U,.int blo,W] 4=some W:=rfl;generalize frameOf fn5 [.obj x,.int alo,U,.int blo,W]=ρ at h0 h1 h2 h3 h4;apply gC h0 hI f1 ?_;apply gC h0 hI f2 ?_;apply gC h0 hI f7 ?_;apply gC h0 hI f8 ?_;apply#[sj,rfl,by rw[hM.S];rfl,bz rfl,?_];apply#[_,rfl,rfl,?_];have da:∀(ρ:Fr) (K:Fl->Fr->St->Prop),ρ 2=some U->ρ 5=some (.L la)->(∀ρ',(∀m,m≠2->ρ' m=ρ m)->ρ' 2=some (.int ahi)->K .next ρ' σ) ->
   wpS (ku P n) (.C (.c .is (.l 2) .none) %[.a [(.v 2)] (.bf .len %[.l 5|0])|0] .nil) ρ σ K:=by
  intro ρ K e2 e5 hk;apply#[_,e2,?_];rcases bl with rfl|⟨rfl,rfl⟩
  ·show hk ρ (λ_ _=>rfl) e2
  ·apply#[_,e5,_,hM.La,?_];apply hk _ (λm hm=>er hm) ?_;rw[cm,ak]
 have cx:∀(ρ:Fr) (K:Fl->Fr->St->Prop),ρ 4=some W->ρ 6=some (.L lb)->(∀ρ',(∀m,m≠4->ρ' m=ρ m)->ρ' 4=some (.int bhi)->K .next ρ' σ) ->
   wpS (ku P n) (.C (.c .is (.l 4) .none) %[.a [(.v 4)] (.bf .len %[.l 6|0])|0] .nil) ρ σ K:=by
  intro ρ K e2 e5 hk;apply#[_,e2,?_];rcases bg with rfl|⟨rfl,rfl⟩
  ·show hk ρ (λ_ _=>rfl) e2
  ·apply#[_,e5,_,hM.Lb,?_];apply hk _ (λm hm=>er hm) ?_;rw[cm,ak]
 apply da _ _ h2 rfl λdm s1 df=>?_;apply cx _ _ (by rw[s1 4 (by decide)];show h4) (by rw[s1 6 (by decide)];rfl) λcb s2 dc=>?_;have F0:FF cb la lb db sj alo ahi blo bhi:=by
  apply#[?_,?_,?_,dc,?_,?_,?_,?_]<;>rw[s2 _ (by decide)]
  ·rw[s1 _ (by decide)];show h1
  ·show df
  ·rw[s1 _ (by decide)];show h3
  ·rw[s1 _ (by decide)];rfl
  ·rw[s1 _ (by decide)];rfl
  ·rw[s1 _ (by decide)];rfl
  ·rw[s1 _ (by decide)];rfl
 apply#[_,F0.r1,_,F0.r3,bz rfl,_,rfl,rfl,?_];apply λd0 ct=>?_;apply#[bz rfl,λnl ch=>?_];apply#[_,F0.r1,_,F0.r2,(alo:Int),(ahi:Int),rfl,rfl,KU (kz bv ai) ax,KU ai ax,?_];generalize z:((σ.sg d0 []).di nl [])=σ₀;have k0:Kp σ σ₀:=by
  rw[<- z];show((Kp.refl σ).sg ct).di (by show ch)
 have ar:=hM.keep k0;have ck:σ₀.L nl=some []:=by rw[<- z];show cm _ _ _
 have ca:σ₀.D d0=some []:=by rw[<- z];show cm _ _ _
 have ok:Fk #[σ₀,la,lb,db,sj,nl,as,bs,rm,alo,ahi,blo,bhi]:=#[ar.La,ar.D,ck,hs,ao,ai];apply pk (JT #[σ₀,la,lb,db,sj,nl,as,bs,rm,alo,ahi,blo,bhi]) ?_ ?_ ?_
 ·intro t v ρ' σ' hv I;have#[ht,rfl]:=gA hv;apply#[trivial,λk hk=>DJ ok ht bu I hk]
 ·intro ρ' σ' I;have#[bi,bj,bk,cd,es,kk,F,dn,B,dr,dv,bt,bn]:=I;rw[dQ]at bt bn;have best:xT as bs rm alo ahi blo bhi bi bj bk:=bn.best λi' j' h1 h2 h3 h4 h5=>#[by show gh (.l .A .Q) .d (.l .A .D) (.e .a6 .D) h2 (aa (fh .A .b .J .M h1 h2)),h4];apply#[trivial,?_];have ay:=kk.L _ _ ar.La;have aj:=kk.L _ _ ar.Lb;have hS:σ'.S sj=some js:=by rw[kk.S];show ar.S
  have bc:∀(ρ:Fr) (e:Ex) (j:Nat) (b:Key) (Q:Bool->St->Prop),ρ 8=some (.iI sj)->bs[j]?=some b->(∀Q:V->St->Prop,Q (.int j) σ'->wpE (ku P n) e ρ σ' Q)->ρ 6=some (.L lb)->Q (!decide (b∈js)) σ'->wpT (ku P n) (.not (.w 8 %[.sub (.l 6) e|0])) ρ σ' Q:=λρ e j b Q r8 eb he r6 q=>by
   apply#[_,r8,_,r6,he _ ?_];show dK aj rfl eb #[js,b,hS,yQ _,q]
  have be:∀(ρ:Fr) (e:Ex) (j:Nat) (b:Key) (Q:Bool->St->Prop),ρ 8=some (.iI sj)->bs[j]?=some b->(∀Q:V->St->Prop,Q (.int j) σ'->wpE (ku P n) e ρ σ' Q)->ρ 6=some (.L lb)->Q (decide (b∈js)) σ'->wpT (ku P n) (.w 8 %[.sub (.l 6) e|0]) ρ σ' Q:=λρ e j b Q r8 eb he r6 q=>by
   apply#[_,r8,_,r6,he _ ?_];show dK aj rfl eb #[js,b,hS,yQ _,q]
  have left:∀(ρ:Fr) (j:Nat),ρ 10=some (.int ((j+1:Nat):Int))->∀Q:V->St->Prop,Q (.int j) σ'->wpE (ku P n) (.b .sub (.l 10) (.int 1)) ρ σ' Q:=λρ j r Q q=>by
   apply#[_,r,?_];have e:((j+1:Nat):Int)-1=(j:Int):=by(show nt .aP .o)
   show Q (.int _) σ';rw[e];show q
  have right:∀(ρ:Fr) (j k:Nat),ρ 10=some (.int (j:Int))->ρ 11=some (.int (k:Int))->∀Q:V->St->Prop,Q (.int ((j+k:Nat):Int)) σ'->wpE (ku P n) (.b .add (.l 10) (.l 11)) ρ σ' Q:=λρ j k r r' Q q=>#[_,r,_,r',q];have R:=best.run;have:=R.ia;have:=R.jb;apply KN (σ:=σ') (js:=js) (ok:=λc=>!decide (c∈js)) ay aj ha hb (uH ax) (uH hs) (λρ j b Q F ag eb q=>bc ρ _ j b Q F.r8 eb (left ρ j ag) F.r6 q) (i:=bi) (j:=bj) (k:=bk) (by(rename_i z1;show gh .A .b .H .b9 ai z1)) (gh .A .b .H .b9 ao this) (λρ F B=>?_) F B;apply KL (σ:=σ') (js:=js) (ok:=λc=>!decide (c∈js)) (.inl rfl) ay aj ha hb ai ao (λρ j k b Q F ag bd eb q=>bc ρ _ (j+k) b Q F.r8 eb (right ρ j k ag bd) F.r6 q) (λρ F B=>?_) F B;apply KN (σ:=σ') (js:=js) (ok:=λc=>decide (c∈js)) ay aj ha hb (uH ax) (uH hs) (λρ j b Q F ag eb q=>be ρ _ j b Q F.r8 eb (left ρ j ag) F.r6 q) ?_ ?_ (λρ F B=>?_) F B
  ·have:=rW (as:=as) (bs:=bs) (ok:=λc=>!decide (c∈js)) (alo:=alo) (blo:=blo) (i:=bi) (j:=bj) (k:=bk)
   (rename_i z5 z4 z3 z2 z1;show mr .A .e .H .bF .aF ai z5 this.1)
  ·have:=rW (as:=as) (bs:=bs) (ok:=λc=>!decide (c∈js)) (alo:=alo) (blo:=blo) (i:=bi) (j:=bj) (k:=bk)
   (rename_i z4 z3 z2 z1;show mr .A .e .H .bF .aF ao z4 this.2)
  apply KL (σ:=σ') (js:=js) (ok:=λc=>decide (c∈js)) (.inr rfl) ay aj ha hb ai ao (λρ j k b Q F ag bd eb q=>be ρ _ (j+k) b Q F.r8 eb (right ρ j k ag bd) F.r6 q) (λρ F B=>?_) F B;apply#[_,B.r9,_,B.r10,_,B.r11,?_];show h σ' bi bj bk (k0.trans kk) best
 ·apply .mk alo blo 0 d0 [] (Kp.refl _) (((F0.up (zv (.k .aN .aN) .h)).up (zv (.k .aN (.n 10)) .h)).up (zv (.k .aN (.n 11)) .h) |>.up (zv (.k .aN (.n 12)) .h) |>.up (zv (.k .aN (.n 13)) .h)) rfl #[rfl,rfl,rfl] rfl ca ?_ ?_
  ·intro j hj;rw[Nat.add_zero,EO];rfl
  ·apply(Scan.start bv bu).skip (λ_ _ q=>q.elim) λi' j' q=>.inr (.inl ?_);rw[s8];rw[br (λq1=>(iq .ff .c (.l .A (.a .B .O)) .a2 q.1 q1.1))]
end SM
end MP
end
section
namespace MP
abbrev Flm (as bs:List Key)(rm js:Key->Bool)(alo ahi blo bhi:Nat)(t:Nat×Nat×Nat):Prop:=
 ∃i j k,xT as bs rm alo ahi blo bhi i j k/\t=grow as bs js alo ahi blo bhi i j k
abbrev Within (alo ahi blo bhi:Nat)(t:Nat×Nat×Nat):Prop:=alo<=t.1/\t.1+t.2.2<=ahi/\blo<=t.2.1/\t.2.1+t.2.2<=bhi
section
variable {as bs:List Key}{ok rm js:Key->Bool}{alo ahi blo bhi:Nat}
def rX:∀{i j k:Nat},Within alo ahi blo bhi (i,j,k)->Within alo ahi blo bhi (dA as bs ok alo blo i j k)
 |0,j,k,h=>h
 |i+1,0,k,h=>h
 |i+1,j+1,k,h=>by
  rw[fC];split
  ·rename_i c;apply rX ?_;have#[J,U,O,W]:alo<=i+1/\i+1+k<=ahi/\blo<=j+1/\j+1+k<=bhi:=h;show(show alo<=i/\i+(k+1)<=ahi/\blo<=j/\j+(k+1)<=bhi from#[by show ba .A .a .aM c.1,by show gu .L .a .cC U,by show ba .A .a .aM c.2.1,by show gu .L .a .cC W])
  ·show h
def rU:∀{n i j k:Nat},Within alo ahi blo bhi (i,j,k)->Within alo ahi blo bhi (i,j,hV as bs ok ahi bhi n i j k)
 |0,i,j,k=>λh=>h
 |n+1,i,j,k=>λh=>by
  rw[zt];split
  ·rename_i c;apply rU ?_;have#[U,J,W,O]:alo<=i/\i+k<=ahi/\blo<=j/\j+k<=bhi:=h;show(show alo<=i/\i+(k+1)<=ahi/\blo<=j/\j+(k+1)<=bhi from#[by show ba .A .a .A U,by show gu .L .a .K c.1,by show ba .A .a .A W,by show gu .L .a .K c.2.1])
  ·show h
def Flm.within {t:Nat×Nat×Nat}(h:Flm as bs rm js alo ahi blo bhi t):Within alo ahi blo bhi t:=by
 have#[i,j,k,B,rfl]:=h;have R:=B.run;show rU (rX (rU (rX (show Within alo ahi blo bhi (i,j,k) from#[R.ai,R.ia,R.bj,R.jb]))))
end
inductive vd (F:Nat->Nat->Nat->Nat->Nat×Nat×Nat->Prop):Nat->Nat->Nat->Nat->List (Nat×Nat×Nat)->Prop
 |nil {alo ahi blo bhi i j:Nat}:F alo ahi blo bhi (i,j,0)->vd F alo ahi blo bhi []
 |node {alo ahi blo bhi i j k:Nat} {L R:List (Nat×Nat×Nat)}:F alo ahi blo bhi (i,j,k)->0<k->(alo<i->blo<j->vd F alo i blo j L)->(¬(alo<i/\blo<j)->L=[]) ->
   (i+k<ahi->j+k<bhi->vd F (i+k) ahi (j+k) bhi R)->(¬(i+k<ahi/\j+k<bhi)->R=[])->vd F alo ahi blo bhi (L++(i,j,k)::R)
abbrev uu (t u:Nat×Nat×Nat):Prop:=t.1+t.2.2<=u.1/\t.2.1+t.2.2<=u.2.1
def vd.ok {F:Nat->Nat->Nat->Nat->Nat×Nat×Nat->Prop}(hF:∀a b c d t,F a b c d t->Within a b c d t){alo ahi blo bhi:Nat}{L:List (Nat×Nat×Nat)}(h:vd F alo ahi blo bhi L) :
  (∀t∈L,Within alo ahi blo bhi t/\0<t.2.2)/\L.Pairwise uu:=by
 induction h with
 |nil _=>refine#[λt h=>(by cases h),.nil]
 | @node alo ahi blo bhi i j k L R hf hk hL ag hR z O U =>
  have W:=hF _ _ _ _ _ hf;unfold Within at W;simp only at W;have hl:(∀t∈L,Within alo i blo j t/\0<t.2.2)/\L.Pairwise uu:=by
   by_cases c:alo<i/\blo<j
   ·show O c.1 c.2
   ·rw[ag c];apply#[λt h=>(by cases h),.nil]
  have hr:(∀t∈R,Within (i+k) ahi (j+k) bhi t/\0<t.2.2)/\R.Pairwise uu:=by
   by_cases c:i+k<ahi/\j+k<bhi
   ·show U c.1 c.2
   ·rw[z c];apply#[λt h=>(by cases h),.nil]
  apply#[λt B=>?_,?_]
  ·rcases cq.mp B with q|q
   ·have:=hl.1 t q;unfold Within at *
    (show#[#[(ba .A .a .A this.1.1),#[(qy .F .b .bF .bY W.2.1 this.1.2.1),#[(ba .A .a .A this.1.2.2.1),(qy .F .b .bF .bY W.2.2.2 this.1.2.2.2)]]],(fc .D .a .D this.2)])
   ·rcases cw.mp q with q|q
    ·subst q;unfold Within;simp only
     (show#[#[(ba .A .a .A W.1),#[(gu .F .a .F W.2.1),#[(ba .A .a .A W.2.2.1),(gu .F .a .F W.2.2.2)]]],(fc .D .a .D hk)])
    ·have:=hr.1 t q;unfold Within at *
     (show#[#[(gh .A .b .J .bZ W.1 this.1.1),#[(gu .F .a .F this.1.2.1),#[(gh .A .b .J .bZ W.2.2.1 this.1.2.2.1),(gu .F .a .F this.1.2.2.2)]]],(fc .D .a .D this.2)])
  ·rw[jo];apply#[hl.2,.cons (λu I=>?_) hr.2,λt B u I=>?_]
   ·have:=hr.1 u I;unfold Within at this;unfold uu;simp only
    (show#[(gu .F .a .F this.1.1),(gu .F .a .F this.1.2.2.1)])
   ·have:=hl.1 t B;unfold Within at this;unfold uu;rcases cw.mp I with q|q
    ·subst q;simp only
     (show#[(gu .F .a .F this.1.2.1),(gu .F .a .F this.1.2.2.2)])
    ·have:=hr.1 u q;unfold Within at this
     (rename_i z1;show#[(qy .F .b .bY .bF z1.1.2.1 this.1.1),(qy .F .b .bY .bF z1.1.2.2.2 this.1.2.2.1)])
def yi {alo ahi blo bhi:Nat}:∀{L:List (Nat×Nat×Nat)} {lo:Nat},(∀t∈L,Within alo ahi blo bhi t/\0<t.2.2)->L.Pairwise uu->(∀t∈L,lo<=t.1)->lo<=ahi->lo+L.length<=ahi
 | [],lo,_,_,_,h=>h
 |t::L,lo,J,U,hl,h=>by
  have O:=J t (.head _);have I:=hl t (.head _);have#[z,U]:=lu.mp U;have:=yi (lo:=lo+1) (λu W=>J u (.tail _ W)) U (λu W=>by have:=(z u W).1;(show pe .S .e .a6 .aF (.k .aM .B) O.2 I this)) (by have:=O.1.2.1;(show pe .S .e .a6 .aF (.k .aM .B) O.2 I this));rw[ir];(show gu .L .a .cC this)
abbrev mrg:Nat->Nat->Nat->List (Nat×Nat×Nat)->List (Nat×Nat×Nat)
 |i,j,k,[]=>if k=0 then [] else [(i,j,k)]
 |i,j,k,(i',j',k')::r=>if i+k=i'/\j+k=j' then mrg i j (k+k') r else if k=0 then mrg i' j' k' r else (i,j,k)::mrg i' j' k' r
abbrev Apart (t u:Nat×Nat×Nat):Prop:=¬(t.1+t.2.2=u.1/\t.2.1+t.2.2=u.2.1)
abbrev dW:List (Nat×Nat×Nat)->Prop
 |t::u::r=>Apart t u/\dW (u::r)
 |_=>True
def u9:∀{L:List (Nat×Nat×Nat)} {t:Nat×Nat×Nat},dW (t::L)->(∀u∈t::L,0<u.2.2)->mrg t.1 t.2.1 t.2.2 L=t::L
 | [],(i,j,k),h,W=>by
  have:=W (i,j,k) (.head _);simp only[mrg];rw[br (by simp only at this;(show fc (.u .A .O) .a .D this))]
 |(i',j',k')::r,(i,j,k),h,W=>by
  have:=W (i,j,k) (.head _);simp only[mrg];rw[br h.1,br (by simp only at this;(show fc (.u .A .O) .a .D this))];have:=u9 (L:=r) (t:=(i',j',k')) h.2 λu U=>W u (.tail _ U);simp only at this;rw[this]
def I6 {L:List (Nat×Nat×Nat)}(h:dW L)(W:∀u∈L,0<u.2.2):mrg 0 0 0 L=L:=by
 cases L with
 |nil=>rfl
 |cons t r =>
  have#[i,j,k]:=t;have:=u9 h W;simp only at this;simp only[mrg];split
  ·rename_i c;have#[rfl,rfl]:=c;simpa using this
  ·show this
end MP
end
section
set_option backward.match.sparseCases false
namespace MP
open PySem
variable {v a:V}{α:Type}{σ:St}
def pP (h:isNone v=true):v=.none:=by
 cases v<;>first|rfl|show Bool.noConfusion h
def nO {P:Prop}{x:α}(h:none=some x):P:=nomatch h
def nh {W:Type}{o:Option α}{f:α->Option W}{b:W}(h:o.bind f=some b):∃a,o=some a/\f a=some b:=gf.mp h
def omap {W:Type}{o:Option α}{f:α->W}{b:W}(h:o.map f=some b):∃a,o=some a/\f a=b:=jr.mp h
abbrev rP (a b:V):Option (Int×Int):=(vInt a).bind λi=>(vInt b).map λj=>(i,j)
def dR {b:V}{p:Int×Int}(h:rP a b=some p):a=.int p.1/\b=.int p.2:=by
 have#[i,e,h]:=nh h;have#[j,W,rfl]:=omap h;apply#[sf e,sf W]
abbrev oz {α:Type}(c:Prop)[Decidable c](x:α):Option α:=if c then some x else none
def vt {c:Prop}[Decidable c]{x y:α}(h:oz c x=some y):c/\x=y:=by
 unfold oz at h;by_cases q:c
 ·rw[cn q]at h;apply#[q,af h]
 ·rw[br q]at h;cases h
abbrev gO (op:Bop)(a b:V):Option V:=(rP a b).bind λp=>match op with
 |.add=>some (.int (p.1+p.2))
 |.sub=>some (.int (p.1-p.2))
 |.mul=>oz (p.1.natAbs<2^60\/p.2.natAbs<2^60) (.int (p.1*p.2))
 |.fdiv=>oz (0<p.2/\p.2.natAbs<2^60) (.int (p.1/p.2))
 |.mod=>oz (0<p.2) (.int (p.1%p.2))
 |.pow=>oz (0<=p.2/\p.2<=1000/\p.1.natAbs<2^64) (.int (p.1^p.2.toNat))
def uQ {op:Bop}{b:V}{Q:V->St->Prop}(h:gO op a b=some v)(q:Q v σ):gI op a b σ Q:=by
 have#[#[i,j],e,h]:=nh h;have#[rfl,rfl]:=dR e;clear e;cases op with
 |add=>cases h;show q
 |sub=>cases h;show q
 |mul=>have#[c,rfl]:=vt h;apply#[c,q]
 |fdiv =>
  have#[c,rfl]:=vt h;have c:0<j/\j.natAbs<2^60:=c;apply#[(by(rename_i W U;show mu (.iu .A .O) .a .c6 W.1):j≠0),c.2,?_];rw[Int.fdiv_eq_ediv_of_nonneg _ (by show 0<=j;(rename_i W U;show mu .a8 .a .c6 W.1))];show q
 |mod =>
  have#[c,rfl]:=vt h;have c:0<j:=c;apply#[(by(rename_i W U;show mu (.iu .A .O) .a .c6 W):j≠0),?_];rw[fQ _ (by show 0<=j;(rename_i W U;show mu .a8 .a .c6 W))];show q
 |pow=>have#[c,rfl]:=vt h;apply#[c.1,c.2.1,c.2.2,q]
abbrev wX (σ:St):V->Option Bool
 |.none=>some false
 |.bool b=>some b
 |.int i=>some (i != 0)
 |.L a=>(σ.L a).map λxs=>!xs.isEmpty
 |.clo _ _=>some true
 |_=>none
def iO:∀(v:V) {b:Bool} {K:Bool->Prop},wX σ v=some b->K b->ux v σ K:=by
 intro v b K h q;cases v
 case none=>have rfl:=af h;show q
 case bool=>have rfl:=af h;show q
 case int=>have rfl:=af h;show q
 case L=>have#[xs,e,rfl]:=omap h;apply#[xs,e,q]
 case clo=>have rfl:=af h;show q
 all_goals show nO h
abbrev eD (σ:St)(op:Cop)(a b:V):Option Bool:=match op with
 |.eq=>(vInt a).elim ((vStr a).bind λx=>(vStr b).map λy=>x==y) λi=>(vInt b).map λj=>decide (i=j)
 |.ne=>(vInt a).elim ((vStr a).bind λx=>(vStr b).map λy=>!(x==y)) λi=>(vInt b).map λj=>decide (i≠j)
 |.lt=>(rP a b).map λp=>decide (p.1<p.2)
 |.le=>(rP a b).map λp=>decide (p.1<=p.2)
 |.gt=>(rP a b).map λp=>decide (p.2<p.1)
 |.ge=>(rP a b).map λp=>decide (p.2<=p.1)
 |.is=>oz (isNone b=true) (isNone a)
 |.isNot=>oz (isNone b=true) (!(isNone a))
 |_=>none
def deq (x y:Int):(x==y)=decide (x=y):=by
 by_cases e:x=y
 ·simp[e]
 ·simp[e]
def dne (x y:Int):(!(x==y))=decide (x≠y):=by rw[deq];by_cases e:x=y<;>simp[e]
def uP {op:Cop}{b:V}{r:Bool}{K:Bool->Prop}(h:eD σ op a b=some r)(q:K r):zj op a b σ K:=by
 have W:∀{a:V} {K:Bool->Prop},K (isNone a)->FY a .none σ K:=λ{a K} q=>q;cases op with
 |eq =>
  cases e:vInt a with
  |some i =>
   have rfl:=sf e;have#[j,J,rfl]:=omap h;have rfl:=sf J;show K (i==j);rw[deq];show q
  |none =>
   unfold eD at h;rw[e]at h;have#[x,O,h]:=nh h;have#[y,U,rfl]:=omap h;have rfl:=fT O;have rfl:=fT U;show q
 |ne =>
  cases e:vInt a with
  |some i =>
   have rfl:=sf e;have#[j,J,rfl]:=omap h;have rfl:=sf J;show K (!(i==j));rw[dne];show q
  |none =>
   unfold eD at h;rw[e]at h;have#[x,O,h]:=nh h;have#[y,U,rfl]:=omap h;have rfl:=fT O;have rfl:=fT U;show q
 |lt=>have#[p,e,rfl]:=omap h;have#[rfl,rfl]:=dR e;show q
 |le=>have#[p,e,rfl]:=omap h;have#[rfl,rfl]:=dR e;show q
 |gt=>have#[p,e,rfl]:=omap h;have#[rfl,rfl]:=dR e;show q
 |ge=>have#[p,e,rfl]:=omap h;have#[rfl,rfl]:=dR e;show q
 |is=>have#[c,rfl]:=vt h;have rfl:=pP c;show W q
 |isNot=>have#[c,rfl]:=vt h;have rfl:=pP c;show W (K:=λr=>K (!r)) q
 |isIn=>cases h
 |notIn=>cases h
def ifO {c:Prop}[Decidable c]{x:Option α}{y:α}(h:(if c then x else none)=some y):c/\x=some y:=by
 by_cases q:c
 ·rw[cn q]at h;apply#[q,h]
 ·rw[br q]at h;cases h
abbrev fD (xs:List V)(i:Int):Option V:=if 0<=jt xs.length i then xs[(jt xs.length i).toNat]? else none
abbrev nB (σ:St)(a i:V):Option V:=(vInt i).bind λi=>match kU a with
 |some a=>(σ.L a).bind λxs=>fD xs i
 |none=>(L2 a).bind λxs=>if i.natAbs<2^60 then fD xs i else none
def uN {i:V}{K:V->Prop}(h0:nB σ a i=some v)(q:K v):t4 a i σ K:=by
 have#[j,e,h]:=nh h0;clear h0;have e:=sf e;subst e;cases e:kU a with
 |some b =>
  rw[e]at h;have e:=iA e;subst e;have#[xs,e,h]:=nh (o:=σ.L b) h;have#[c,h]:=ifO h;apply#[xs,v,e,c,h,q]
 |none =>
  rw[e]at h;have#[xs,e,h]:=nh (o:=L2 a) h;have e:=G9 e;subst e;have#[c,h]:=ifO h;have#[c2,h]:=ifO h;apply#[v,c,c2,h,q]
abbrev EN (σ:St)(k:BF)(vs:List V):Option V:=match k with
 |.len=>match vs with
  | [v]=>(kU v).elim ((GB v).bind λa=>(σ.D a).map λxs=>.int xs.length) λa=>(σ.L a).map λxs=>.int xs.length
  |_=>none
 |.divmod=>match vs with
  | [a,b]=>(rP a b).bind λp=>oz (0<p.2/\p.2.natAbs<2^60) (.T [.int (p.1/p.2),.int (p.1%p.2)])
  |_=>none
 |_=>none
def J3 (k:BF)(vs:List V){Q:V->St->Prop}(h:EN σ k vs=some v)(q:Q v σ):tF k vs σ Q:=by
 cases vs with
 |nil=>cases k<;>show nO h
 |cons u r =>
  cases k
  case len =>
   cases r with
   |cons=>show nO h
   |nil =>
    cases e:kU u with
    |some a =>
     have rfl:=iA e;have#[xs,e,rfl]:=omap h;apply#[xs,e,q]
    |none =>
     have h:(kU u).elim ((GB u).bind λa=>(σ.D a).map λxs=>V.int xs.length) (λa=>(σ.L a).map λxs=>.int xs.length)=some v:=h;rw[e]at h;have#[a,I,h]:=nh (o:=GB u) h;have rfl:=GA I;have J:=omap h;clear h;have#[xs,e,rfl]:=J;apply#[xs,e,q]
  case set=>show nO h
  case maxL=>show nO h
  case sum=>show nO h
  case sorted=>show nO h
  all_goals cases r with
  |nil=>show nO h
  |cons w r =>
   cases r with
   |cons=>show nO h
   |nil =>
    first
    |(have#[p,e,rfl]:=omap (o:=rP u w) h;have#[rfl,rfl]:=dR e;show q)
    |(have#[#[i,j],e,h]:=nh (o:=rP u w) h;have#[rfl,rfl]:=dR e;have#[c,rfl]:=vt h;have c:0<j/\j.natAbs<2^60:=c;apply⟨(by(rename_i W U;show mu (.iu .A .O) .a .c6 W.1):j≠0),c.2,?_⟩;rw[Int.fdiv_eq_ediv_of_nonneg _ (by show 0<=j;(rename_i W U;show mu .a8 .a .c6 W.1)),fQ _ (by show 0<=j;(rename_i W U;show mu .a8 .a .c6 W.1))];show q)
mutual
noncomputable def evV (σ:St)(ρ:Fr):Ex->Option V
 |.none=>some .none
 |.bool b=>some (.bool b)
 |.int i=>some (.int i)
 |.str s=>some (.str s)
 |.l x=>ρ x
 |.b op a b=>(evV σ ρ a).bind λva=>(evV σ ρ b).bind λvb=>gO op va vb
 |.neg a=>(evV σ ρ a).bind λv=>(vInt v).map λi=>.int (-i)
 |.not a=>(evV σ ρ a).bind λv=>(wX σ v).map λb=>.bool !b
 |.c op a b=>(evV σ ρ a).bind λva=>(evV σ ρ b).bind λvb=>(eD σ op va vb).map .bool
 |.I c a b=>(evT σ ρ c).bind λt=>if t then evV σ ρ a else evV σ ρ b
 |.T es=>(kZ σ ρ es).bind λvs=>if vs.length<=bx then some (.T vs) else none
 |.attr e x=>(evV σ ρ e).bind λv=>(L5 v).bind λa=>(σ.I a).bind λp=>p.2 x
 |.sub e i=>(evV σ ρ e).bind λv=>(evV σ ρ i).bind λj=>nB σ v j
 |.bf k es=>(kZ σ ρ es).bind λvs=>EN σ k vs
 |_=>none
noncomputable def kZ (σ:St)(ρ:Fr):Exs->Option (List V)
 |.nil=>some []
 |.cons e es=>(evV σ ρ e).bind λv=>(kZ σ ρ es).map λvs=>v::vs
noncomputable def evT (σ:St)(ρ:Fr):Ex->Option Bool
 |.not a=>(evT σ ρ a).map λb=>!b
 |.and a b=>(evT σ ρ a).bind λt=>if t then evT σ ρ b else some false
 |.or a b=>(evT σ ρ a).bind λt=>if t then some true else evT σ ρ b
 |.c op a b=>(evV σ ρ a).bind λva=>(evV σ ρ b).bind λvb=>eD σ op va vb
 |.I c a b=>(evT σ ρ c).bind λt=>if t then evT σ ρ a else evT σ ρ b
 |.l x=>(ρ x).bind λv=>wX σ v
 |.int i=>some (i != 0)
 |.bool b=>some b
 |.attr e x=>(evV σ ρ e).bind λv=>(L5 v).bind λa=>(σ.I a).bind λp=>(p.2 x).bind λu=>wX σ u
 |.sub e i=>(evV σ ρ e).bind λv=>(evV σ ρ i).bind λj=>(nB σ v j).bind λr=>wX σ r
 |.b op a b=>(evV σ ρ a).bind λva=>(evV σ ρ b).bind λvb=>(gO op va vb).bind λr=>wX σ r
 |_=>none
end
section
variable {i j:Int}
variable {σ:St}{ρ:Fr}{e a b c:Ex}{es:Exs}
@[simp] theorem O9:evV σ ρ .none=some .none:=rfl
@[simp] theorem OA {x:Bool}:evV σ ρ (.bool x)=some (.bool x):=rfl
@[simp] theorem PL:evV σ ρ (.int i)=some (.int i):=rfl
@[simp] theorem lz {x:Nat}:evV σ ρ (.l x)=ρ x:=rfl
@[simp] theorem yc {op:Bop}:evV σ ρ (.b op a b)=(evV σ ρ a).bind λU=>(evV σ ρ b).bind λW=>gO op U W:=rfl
@[simp] theorem lQ:evV σ ρ (.neg a)=(evV σ ρ a).bind λv=>(vInt v).map λi=>.int (-i):=rfl
@[simp] theorem J0 {op:Cop}:evV σ ρ (.c op a b)=(evV σ ρ a).bind λU=>(evV σ ρ b).bind λW=>(eD σ op U W).map .bool:=rfl
@[simp] theorem yb:evV σ ρ (.T es)=(kZ σ ρ es).bind λvs=>if vs.length<=bx then some (.T vs) else none:=rfl
@[simp] theorem lP {i:Ex}:evV σ ρ (.sub e i)=(evV σ ρ e).bind λv=>(evV σ ρ i).bind λj=>nB σ v j:=rfl
@[simp] theorem wW {k:BF}:evV σ ρ (.bf k es)=(kZ σ ρ es).bind λvs=>EN σ k vs:=rfl
@[simp] theorem yu:kZ σ ρ .nil=some []:=rfl
@[simp] theorem gm:kZ σ ρ (.cons e es)=(evV σ ρ e).bind λv=>(kZ σ ρ es).map λvs=>v::vs:=rfl
@[simp] theorem J1:evT σ ρ (.not a)=(evT σ ρ a).map λb=>!b:=rfl
@[simp] theorem lR:evT σ ρ (.and a b)=(evT σ ρ a).bind λt=>if t then evT σ ρ b else some false:=rfl
@[simp] theorem MN:evT σ ρ (.or a b)=(evT σ ρ a).bind λt=>if t then some true else evT σ ρ b:=rfl
@[simp] theorem yd {op:Cop}:evT σ ρ (.c op a b)=(evV σ ρ a).bind λU=>(evV σ ρ b).bind λW=>eD σ op U W:=rfl
@[simp] theorem z8 {x:Nat}:evT σ ρ (.l x)=(ρ x).bind λv=>wX σ v:=rfl
@[simp] theorem ND:vInt (.int i)=some i:=rfl
@[simp] theorem NA:gO .add (.int i) (.int j)=some (.int (i+j)):=rfl
@[simp] theorem N7:gO .sub (.int i) (.int j)=some (.int (i-j)):=rfl
@[simp] theorem N8:gO .mul (.int i) (.int j)=oz (i.natAbs<2^60\/j.natAbs<2^60) (.int (i*j)):=rfl
@[simp] theorem MO:gO .fdiv (.int i) (.int j)=oz (0<j/\j.natAbs<2^60) (.int (i/j)):=rfl
@[simp] theorem N9:gO .mod (.int i) (.int j)=oz (0<j) (.int (i%j)):=rfl
@[simp] theorem EM {l:Addr}:EN σ .len [.L l]=(σ.L l).map λxs=>.int xs.length:=rfl
@[simp] theorem OB:eD σ .lt (.int i) (.int j)=some (decide (i<j)):=rfl
@[simp] theorem OC:eD σ .le (.int i) (.int j)=some (decide (i<=j)):=rfl
@[simp] theorem OD:eD σ .gt (.int i) (.int j)=some (decide (j<i)):=rfl
@[simp] theorem OE:eD σ .ge (.int i) (.int j)=some (decide (j<=i)):=rfl
@[simp] theorem OF:eD σ .eq (.int i) (.int j)=some (decide (i=j)):=rfl
end
section
variable {x:Nat}{e:Ex}
variable {C:Cal}{σ:St}{ρ:Fr}
mutual
theorem jc:∀(e:Ex) {v:V} {Q:V->St->Prop},evV σ ρ e=some v->Q v σ->wpE C e ρ σ Q
 |.none=>λh q=>by cases (h:some _=some _);show q
 |.bool b=>λh q=>by cases (h:some _=some _);show q
 |.int b=>λh q=>by cases (h:some _=some _);show q
 |.str b=>λh q=>by cases (h:some _=some _);show q
 |.l x=>λh q=>#[_,h,q]
 |.b op a b=>λh q=>by
  have#[O,W,h]:=nh h;have#[J,U,h]:=gf.mp h;show jc a W (jc b U (uQ h q))
 |.neg a=>λh q=>by
  have#[O,W,h]:=nh h;apply jc a W ?_;have#[i,U,rfl]:=omap h;apply#[i,sf U,q]
 |.not a=>λh q=>by
  have#[O,W,h]:=nh h;have#[b,U,rfl]:=jr.mp h;show jc a W (iO _ U q)
 |.c op a b=>λh q=>by
  have#[O,W,h]:=nh h;have#[J,U,h]:=gf.mp h;have#[r,I,rfl]:=jr.mp h;show jc a W (jc b U (uP I q))
 |.I c a b=>λh q=>by
  have#[t,W,h]:=nh h;apply yv c W ?_;cases t with
  |true=>show eX (jc a h q)
  |false=>show eY (jc b h q)
 |.T es=>λh q=>by
  have#[vs,W,h]:=nh h;have#[c,h]:=ifO h;cases h;show dS es W #[c,q]
 |.attr e x=>λh q=>by
  have#[O,W,h]:=nh h;apply jc e W ?_;have#[a,B,h]:=nh h;have#[#[d,f],U,h]:=nh h;apply#[a,d,f,_,xX B,U,h,q]
 |.sub e i=>λh q=>by
  have#[O,W,h]:=nh h;have#[J,U,h]:=gf.mp h;show jc e W (jc i U (uN h q))
 |.bf k es=>λh q=>by
  have#[vs,W,h]:=nh h;show dS es W (J3 _ _ h q)
 |.and ..=>λh q=>nO h
 |.or ..=>λh q=>nO h
 |.L ..=>λh q=>nO h
 |.dct0=>λh q=>nO h
 |.call ..=>λh q=>nO h
 |.meth ..=>λh q=>nO h
 |.g ..=>λh q=>nO h
 |.h ..=>λh q=>nO h
 |.bm ..=>λh q=>nO h
 |.w ..=>λh q=>nO h
 |.slc ..=>λh q=>nO h
 |.K ..=>λh q=>nO h
 |.n ..=>λh q=>nO h
 |.N ..=>λh q=>nO h
 |.M ..=>λh q=>nO h
 |.dead=>λh q=>nO h
theorem dS:∀(es:Exs) {vs:List V} {Q:List V->St->Prop},kZ σ ρ es=some vs->Q vs σ->vg C es ρ σ Q
 |.nil,vs,Q,h,q=>by cases (h:some _=some vs);show q
 |.cons e es,vs,Q,h,q=>by
  have#[v,O,h]:=nh h;have W:=jr.mp h;clear h;have#[us,U,rfl]:=W;show jc e O (dS es U q)
theorem yv:∀(e:Ex) {b:Bool} {Q:Bool->St->Prop},evT σ ρ e=some b->Q b σ->wpT C e ρ σ Q
 |.not a=>λh q=>by
  have#[b,U,rfl]:=omap h;show yv a U q
 |.and a b=>λh q=>by
  have#[t,W,h]:=nh h;apply yv a W ?_;cases t with
  |true=>show eX (yv b h q)
  |false=>cases h;show eY q
 |.or a b=>λh q=>by
  have#[t,W,h]:=nh h;apply yv a W ?_;cases t with
  |true=>cases h;show eX q
  |false=>show eY (yv b h q)
 |.c op a b=>λh q=>by
  have#[J,W,h]:=nh h;have#[I,U,h]:=gf.mp h;show jc a W (jc b U (uP h q))
 |.I c a b=>λh q=>by
  have#[t,W,h]:=nh h;apply yv c W ?_;cases t with
  |true=>show eX (yv a h q)
  |false=>show eY (yv b h q)
 |.l x=>λh q=>by
  have#[u,W,h]:=nh h;apply#[u,W,iO _ h q]
 |.int i=>λh q=>by cases (h:some _=some _);show q
 |.bool i=>λh q=>by cases (h:some _=some _);show q
 |.attr e x=>λh q=>by
  have#[J,W,h]:=nh h;apply jc e W ?_;have#[a,B,h]:=nh h;have#[#[d,f],U,h]:=nh h;have#[u,O,h]:=nh h;apply#[a,d,f,u,xX B,U,O,iO _ h q]
 |.sub e i=>λh q=>by
  have#[J,W,h]:=nh h;have#[I,U,h]:=gf.mp h;have#[u,O,h]:=gf.mp h;show jc e W (jc i U (uN O (iO _ h q)))
 |.b op a b=>λh q=>by
  have#[J,W,h]:=nh h;have#[I,U,h]:=gf.mp h;have#[u,O,h]:=gf.mp h;show jc a W (jc b U (uQ O (iO _ h q)))
 |.none=>λh q=>nO h
 |.str ..=>λh q=>nO h
 |.neg ..=>λh q=>nO h
 |.T ..=>λh q=>nO h
 |.bf ..=>λh q=>nO h
 |.L ..=>λh q=>nO h
 |.dct0=>λh q=>nO h
 |.call ..=>λh q=>nO h
 |.meth ..=>λh q=>nO h
 |.g ..=>λh q=>nO h
 |.h ..=>λh q=>nO h
 |.bm ..=>λh q=>nO h
 |.w ..=>λh q=>nO h
 |.slc ..=>λh q=>nO h
 |.K ..=>λh q=>nO h
 |.n ..=>λh q=>nO h
 |.N ..=>λh q=>nO h
 |.M ..=>λh q=>nO h
 |.dead=>λh q=>nO h
end
variable {K:Fl->Fr->St->Prop}{ss:qa}
def kO (v:V)(h:evV σ ρ e=some v)(k:gw C ss (upd ρ x v) σ K):gw C (.cons (.a [.v x] e) ss) ρ σ K:=jc e h k
def vD {xs:List Nat}(vs:List V)(h:evV σ ρ e=some (.T vs))(l:xs.length=vs.length)(k:gw C ss (gv xs vs ρ) σ K):gw C (.cons (.a [.T xs] e) ss) ρ σ K:=
 jc e h #[vs,rfl,l,k]
def xR (h:wpE C e ρ σ λv σ=>gw C ss (upd ρ x v) σ K):gw C (.cons (.a [.v x] e) ss) ρ σ K:=h
def vE {es:Exs}(vs:List V)(h:kZ σ ρ es=some vs)(l:vs.length<=bx)(k:∀c,σ.L c=none->gw C ss (upd ρ x (.L c)) (σ.di c vs) K):gw C (.cons (.a [.v x] (.L es)) ss) ρ σ K:=
 dS (Q:=λvs σ=>vs.length<=bx/\∀c,σ.L c=none->gw C ss (upd ρ x (.L c)) (σ.di c vs) K) es h #[l,k]
def sR {c:Ex}{t e:qa}(b:Bool)(h:evT σ ρ c=some b)(k:if b then gw C t ρ σ (iB (λρ σ=>gw C ss ρ σ K) K) else gw C e ρ σ (iB (λρ σ=>gw C ss ρ σ K) K)):gw C (.cons (.C c t e) ss) ρ σ K:=yv c h k
def fG {a:Addr}{xs:List V}(v:V)(U:ρ x=some (.L a))(W:σ.L a=some xs)(h:evV σ ρ e=some v)(l:xs.length<bx)(k:gw C ss ρ (σ.di a (xs++[v])) K):gw C (.cons (.expr (.bm .append (.l x) %[e|0])) ss) ρ σ K:=by
 apply#[_,U,(show(σ.L a).isSome=true by rw[W];rfl),?_];rw[nq];apply jc e h ?_;apply#[xs,W,l,rfl,k]
def KW (v:V)(h:evV σ ρ e=some v)(k:K (.ret v) ρ σ):gw C (.cons (.ret e) ss) ρ σ K:=jc (Q:=λv σ=>K (.ret v) ρ σ) e h k
def og (k:K .next ρ σ):gw C .nil ρ σ K:=k
def tw {H:Fr->St->Prop}(k:H ρ σ):gw C .nil ρ σ (iB H K):=k
def nY (k:gw C ss ρ σ K):gw C (.cons .pass ss) ρ σ K:=k
def lC {c:Ex}{t e:qa}(p:Prop)[Decidable p](h:evT σ ρ c=some (decide p))(W:p->gw C t ρ σ (iB (λρ σ=>gw C ss ρ σ K) K))(k2:¬p->gw C e ρ σ (iB (λρ σ=>gw C ss ρ σ K) K)):gw C (.cons (.C c t e) ss) ρ σ K:=by
 apply sR _ h ?_;by_cases q:p
 ·rw[ic q,cn rfl];show W q
 ·rw[fw q,br (by simp)];show k2 q
end
end MP
end
section
namespace MP
namespace SM
open PySem
variable {σ2:St}{x nl:Addr}
def T3:=Nat×Nat×Nat
def T4:=Nat×Nat×Nat×Nat
abbrev zT (t:T3):Int×Int×Int:=(t.1,t.2.1,t.2.2)
abbrev mV (t:T3):V:=mtV (zT t)
abbrev tV (t:T3):V:=.T [.int t.1,.int t.2.1,.int t.2.2]
abbrev qV (r:T4):V:=.T [.int r.1,.int r.2.1,.int r.2.2.1,.int r.2.2.2]
def NM {L mb:List T3}(U:L.Perm mb)(W:L.Pairwise uu)(hk:∀t∈L,0<t.2.2):((mb.map zT).mergeSort leT).map mtV=L.map mV:=by
 have e:(mb.map zT).mergeSort leT=L.map zT:=by
  apply List.Perm.eq_of_pairwise (le:=LeT) ?_ (gM _) ?_ ((List.mergeSort_perm _ _).trans (U.symm.map zT))
  ·show λa b _ _ I J=>LeT.PD I J
  ·rw[gT];apply rh (λ{a b} O hb h=>?_) W;have:=hk a O;unfold uu at h;unfold LeT zT;simp only
   (show .inl (fh (.il .L .P) .b .c5 .a6 h.1 this))
 rw[e,jf];rfl
abbrev qw (q:List T4):Nat:=(q.map λr=>2*(r.2.1-r.1)+1).sum
def lM {q:List T4}{r:T4}:qw (q++[r])=qw q+(2*(r.2.1-r.1)+1):=by simp[qw]
def DA {q:List T4}:q.length<=qw q:=by
 induction q with
 |nil=>show az _
 |cons r q W =>
  unfold qw at *;simp only[ir,kh,uk]
  (show gu (.k .M (.a .aW .C)) .a .J W)
inductive sQ (F:Nat->Nat->Nat->Nat->T3->Prop):List T4->List (List T3)->Prop
 |nil:sQ F [] []
 |snoc {q:List T4} {Ls:List (List T3)} {r:T4} {L:List T3}:sQ F q Ls->vd F r.1 r.2.1 r.2.2.1 r.2.2.2 L->sQ F (q++[r]) (Ls++[L])
def sQ.inv {F:Nat->Nat->Nat->Nat->T3->Prop}{q:List T4}{r:T4}{W:List (List T3)}(h:sQ F (q++[r]) W):∃Ls L,W=Ls++[L]/\sQ F q Ls/\vd F r.1 r.2.1 r.2.2.1 r.2.2.2 L:=by
 generalize e:q++[r]=z at h;cases h with
 |nil=>show absurd (dj List.length e) (by simp)
 | @snoc B Ls I L O U =>
  have:=List.append_inj' e rfl;have#[rfl,J]:=this;cases J;apply#[Ls,L,rfl,O,U]
def NG {r:T4}{σ:St}:GC (qV r) σ=some [.int r.1,.int r.2.1,.int r.2.2.1,.int r.2.2.2]:=rfl
def BS {t:T3}{σ:St}:GC (mV t) σ=some [.int t.1,.int t.2.1,.int t.2.2]:=rfl
abbrev td (p:Prop)[Decidable p](q:List T4)(r:T4):List T4:=if p then q++[r] else q
def vo {σ:St}{a:Addr}{xs:List V}(h:σ.L a=some xs):σ.di a xs=σ:=by
 have:upd σ.L a xs=σ.L:=by
  funext z
  by_cases e:z=a
  ·rw[e,cm,h]
  ·show er e
 unfold St.di;rw[this]
section
variable {σ:St}{ρ:Fr}{a b c e:Ex}{m n k l:Nat}
def wc (W:evV σ ρ a=some (.int m))(hb:evV σ ρ b=some (.int n)):evT σ ρ (.c .lt a b)=some (decide (m<n)):=by
 rw[yd,W,hb];show dj some (ph.mpr Int.ofNat_lt)
def nC (W:evV σ ρ a=some (.int m))(hb:evV σ ρ b=some (.int n)):evT σ ρ (.c .eq a b)=some (decide (m=n)):=by
 rw[yd,W,hb];show dj some (ph.mpr Int.ofNat_inj)
def mf (W:evV σ ρ a=some (.int m))(hb:evV σ ρ b=some (.int n)):evV σ ρ (.b .add a b)=some (.int (m+n:Nat)):=by
 rw[yc,W,hb];rfl
def wt {p q:Prop}[Decidable p][Decidable q](W:evT σ ρ a=some (decide p))(hb:evT σ ρ b=some (decide q)):evT σ ρ (.and a b)=some (decide (p/\q)):=by
 rw[lR,W];by_cases h:p
 ·rw[ic h];show hb.trans (dj some (ph.mpr #[λx=>#[h,x],λx=>x.2]))
 ·rw[fw h];show dj some (fw λx=>h x.1).symm
def jM {x:Nat}(h:ρ x=some (.int k)):evT σ ρ (.l x)=some (decide (k≠0)):=by
 rw[z8,h];cases k<;>rfl
def ev3 (U:evV σ ρ a=some (.int m))(hb:evV σ ρ b=some (.int n))(W:evV σ ρ c=some (.int k)):evV σ ρ (.T %[a,b,c|0])=some (tV (m,n,k)):=by
 rw[yb,gm,U,gm,hb,gm,W];rfl
def ev4 (O:evV σ ρ a=some (.int m))(hb:evV σ ρ b=some (.int n))(U:evV σ ρ c=some (.int k))(W:evV σ ρ e=some (.int l)):evV σ ρ (.T %[a,b,c,e|0])=some (qV (m,n,k,l)):=by
 rw[yb,gm,O,gm,hb,gm,U,gm,W];rfl
variable {C:Cal}{K:Fl->Fr->St->Prop}{ss:qa}
def push {ql:Addr}{q:List T4}{p:Prop}[Decidable p](r:T4)(J:ρ 3=some (.L ql))(W:σ.L ql=some (q.map qV))(hl:q.length<bx)(U:evT σ ρ c=some (decide p))(O:evV σ ρ e=some (qV r))(h:gw C ss ρ (σ.di ql ((td p q r).map qV)) K) :
  gw C (.cons (.C c %[.expr (.bm .append (.l 3) %[e|0])|0] .nil) ss) ρ σ K:=by
 unfold td at h;apply lC p U (λy=>?_) λy=>?_
 ·rw[cn y,cu]at h;show fG (qV r) J W O (by rw[ak];show hl) (og h)
 ·rw[br y,vo W]at h;show og h
end
abbrev In4 (as bs:List Key)(r:T4):Prop:=r.1<=r.2.1/\r.2.2.1<=r.2.2.2/\r.2.1<=as.length/\r.2.2.2<=bs.length
section
variable {as bs:List Key}{F:Nat->Nat->Nat->Nat->T3->Prop}{q:List T4}{r:T4}{mb:List T3}{p:Prop}[Decidable p]
def yS (h:∀u∈q,In4 as bs u)(h':p->In4 as bs r):∀u∈td p q r,In4 as bs u:=by
 unfold td;split
 ·rename_i c;intro u W;rcases cq.mp W with W|W
  ·show h u W
  ·rw[au.mp W];show h' c
 ·show h
def qX:qw (td p q r)<=qw q+(2*(r.2.1-r.1)+1):=by
 unfold td;split
 ·rw[lM];show az _
 ·show km _ _
def pK {O:List (List T3)}(o:sQ F (td p q r) O):∃W R,sQ F q W/\O.flatten=W.flatten++R/\(p->vd F r.1 r.2.1 r.2.2.1 r.2.2.2 R)/\(¬p->R=[]):=by
 unfold td at o;split at o
 ·rename_i c;have#[U,R,rfl,J,bR]:=o.inv;apply#[U,R,J,by rw[List.flatten_append,List.flatten_cons,j6,dg],λ_=>bR,λq=>absurd c q]
 ·rename_i c;apply#[O,[],o,(dg _).symm,λc1=>absurd c1 c,λ_=>rfl]
abbrev lB (F:Nat->Nat->Nat->Nat->T3->Prop)(na nb:Nat)(q:List T4)(mb:List T3):Prop:=∀Ls,sQ F q Ls->∃L,vd F 0 na 0 nb L/\L.Perm (mb++Ls.flatten)
variable {na nb alo ahi blo bhi i j k:Nat}
def lB.drop (h:lB F na nb (q++[(alo,ahi,blo,bhi)]) mb)(W:F alo ahi blo bhi (i,j,0)):lB F na nb q mb:=λU o=>by
 have#[L,b,p]:=h _ (.snoc o (.nil W));apply#[L,b,by rwa [List.flatten_append,List.flatten_cons,j6,dg,dg]at p]
def lB.part (h:lB F na nb (q++[(alo,ahi,blo,bhi)]) mb)(z:F alo ahi blo bhi (i,j,k))(hk:0<k) :
  lB F na nb (td (i+k<ahi/\j+k<bhi) (td (alo<i/\blo<j) q (alo,i,blo,j)) (i+k,ahi,j+k,bhi)) (mb++[(i,j,k)]):=λLs o=>by
 have#[ag,R,I,e5,bR,U]:=pK o;have#[W,L,B,e4,bL,O]:=pK I;have#[M,bM,J]:=h _ (.snoc B (.node z hk (λa b=>bL #[a,b]) O (λa b=>bR #[a,b]) U));apply#[M,bM,J.trans ?_];rw[e5,e4,List.flatten_append,List.flatten_cons,j6,dg,bq];apply lI _ ?_;rw[<- bq,bq W.flatten,<- bq W.flatten];show List.perm_middle
def lB.start:lB F na nb [(0,na,0,nb)] []:=λO o=>by
 have U:=o.inv (q:=[]);clear o;have#[W,L,rfl,o',b]:=U;have e:W=[]:=by
  generalize e:([]:List T4)=q at o';cases o' with
  |nil=>rfl
  |snoc _ _=>show absurd (dj List.length e) (by simp)
 subst e;apply#[L,b,by simp]
end
structure QN (σ:St)(ql ml:Addr):Prop where
 ne:ql≠ml
 q:σ.L ql=none
 m:σ.L ml=none
structure QS (σ σ':St)(ql ml:Addr)(q:List T4)(mb:List T3):Prop where
 kp:Kp σ σ'
 q:σ'.L ql=some (q.map qV)
 m:σ'.L ml=some (mb.map mV)
section
variable {σ σ':St}{ql ml:Addr}{q:List T4}{mb:List T3}
def QS.NN (N:QN σ ql ml)(S:QS σ σ' ql ml q mb)(W:List T4):QS σ (σ'.di ql (W.map qV)) ql ml W mb:=#[S.kp.di N.q,cm _ _ _,(er (xf N.ne)).trans S.m]
def QS.setM (N:QN σ ql ml)(S:QS σ σ' ql ml q mb)(W:List T3):QS σ (σ'.di ml (W.map mV)) ql ml q W:=#[S.kp.di N.m,(er N.ne).trans S.q,cm _ _ _]
def QS.kept (S:QS σ σ' ql ml q mb)(k:Kp σ' σ2):QS σ σ2 ql ml q mb:=#[S.kp.trans k,k.L _ _ S.q,k.L _ _ S.m]
end
structure R6 (ρ:Fr)(x:Addr)(ql ml:Addr)(na nb:Nat):Prop where
 r0:ρ 0=some (.obj x)
 r1:ρ 1=some (.int na)
 r2:ρ 2=some (.int nb)
 r3:ρ 3=some (.L ql)
 r4:ρ 4=some (.L ml)
inductive JS (σ:St)(x ql ml:Addr)(as bs:List Key)(F:Nat->Nat->Nat->Nat->T3->Prop)(w:Nat)(ρ:Fr)(σ':St):Prop
 |mk (q:List T4) (mb:List T3):R6 ρ x ql ml as.length bs.length->w=qw q->QS σ σ' ql ml q mb->qw q+mb.length<=2*as.length+1->(∀r∈q,In4 as bs r)->lB F as.length bs.length q mb->JS σ x ql ml as bs F w ρ σ'
def HQ {W z w0 i alo ahi k:Nat}(h2:z<=w0+(2*(i-alo)+1))(h3:W<=z+(2*(ahi-(i+k))+1))(a:alo<=i)(b:i+k<=ahi)(hk:0<k):W<w0+(2*(ahi-alo)+1):=by(show OT (.l .A (.a .B .aS)) [[1,1,1,2,2,2,-2]] (.k .D (.a .B (.a (.m 2 .F) .U))) (.k .A (.a .D (.a (.m 2 .G) .U))) (.l .O .H) (.e (.a .F .I) .J) (.e (.a .G (.a .J .H)) .K) (.e (.a .C .I) .K) h2 h3 hk (aa (ba .A .a .A a)) (aa (gu .F .a .F b)) (aa (gh .A .b .J .bZ a b)))
def EF {C:Cal}{σ σ':St}{ql ml:Addr}{as bs:List Key}{F:Nat->Nat->Nat->Nat->T3->Prop}{q:List T4}{mb:List T3}{ρ:Fr}{K:Fl->Fr->St->Prop}{alo ahi blo bhi i j k:Nat}(ag:as.length<400000)(N:QN σ ql ml)(H:R6 ρ x ql ml as.length bs.length)(S:QS σ σ' ql ml q mb)
  (r5:ρ 5=some (.int alo)) (r6:ρ 6=some (.int ahi)) (r7:ρ 7=some (.int blo)) (r8:ρ 8=some (.int bhi)) (r9:ρ 9=some (.int i)) (z:ρ 10=some (.int j)) (O:ρ 11=some (.int k)) (aj:ρ 12=some (mV (i,j,k)))
  (W:Within alo ahi blo bhi (i,j,k)) (hr:In4 as bs (alo,ahi,blo,bhi)) (ao:∀r∈q,In4 as bs r) (hw:qw (q++[(alo,ahi,blo,bhi)])+mb.length<=2*as.length+1) (hk:0<k) (hf:F alo ahi blo bhi (i,j,k)) (ai:lB F as.length bs.length (q++[(alo,ahi,blo,bhi)]) mb)
  (h:∀w σ2,w<qw (q++[(alo,ahi,blo,bhi)])->JS σ x ql ml as bs F w ρ σ2->K .next ρ σ2) :
  gw C (.cons (.expr (.bm .append (.l 4) %[.l 12|0]))
   (.cons (.C (.and (.c .lt (.l 5) (.l 9)) (.c .lt (.l 7) (.l 10))) %[.expr (.bm .append (.l 3) %[.T %[.l 5,.l 9,.l 7,.l 10|0]|0])|0] .nil)
   %[.C (.and (.c .lt (.b .add (.l 9) (.l 11)) (.l 6)) (.c .lt (.b .add (.l 10) (.l 11)) (.l 8))) %[.expr (.bm .append (.l 3) %[.T %[.b .add (.l 9) (.l 11),.l 6,.b .add (.l 10) (.l 11),.l 8|0]|0])|0] .nil|0])) ρ σ' K:=by
 have W:alo<=i/\i+k<=ahi/\blo<=j/\j+k<=bhi:=W;have hr:alo<=ahi/\blo<=bhi/\ahi<=as.length/\bhi<=bs.length:=hr;rw[lM]at hw h;have hw:qw q+(2*(ahi-alo)+1)+mb.length<=2*as.length+1:=hw;have h1:=DA (q:=q);have lt:=HQ (qX (p:=alo<i/\blo<j) (q:=q) (r:=(alo,i,blo,j))) (qX (p:=i+k<ahi/\j+k<bhi) (q:=td (alo<i/\blo<j) q (alo,i,blo,j)) (r:=(i+k,ahi,j+k,bhi))) W.1 W.2.1 hk;have h2:qw (td (alo<i/\blo<j) q (alo,i,blo,j))<=qw q+(2*(i-alo)+1):=qX;have h4:=DA (q:=td (alo<i/\blo<j) q (alo,i,blo,j));apply fG (mV (i,j,k)) H.r4 S.m aj (by rw[ak];unfold bx;(rename_i z1;show gh .aD [[1,2,1]] .bH (.k (.a (.a .C (.a (.m 2 .D) .U)) .A) .aW) ag z1)) ?_;have S1:=S.setM N (mb++[(i,j,k)]);rw[cu]at S1;apply push (p:=alo<i/\blo<j) (alo,i,blo,j) H.r3 S1.q (by unfold bx;(rename_i z1;show mr .aD [[1,2,1,1]] .bH (.k (.a (.a .C (.a (.m 2 .D) .U)) .F) .aW) .J ag z1 h1)) (wt (wc r5 r9) (wc r7 z)) (ev4 r5 r9 r7 z) ?_;have S2:=S1.NN N (td (alo<i/\blo<j) q (alo,i,blo,j));apply push (p:=i+k<ahi/\j+k<bhi) (i+k,ahi,j+k,bhi) H.r3 S2.q (by unfold bx;(rename_i z1;show QI .aD [[1,2,1,2,1,1,-2,2]] .bH (.k (.a (.a .C (.a (.m 2 .D) .U)) .F) .aW) (.k .aC .I) (.k .J (.a .C (.a (.m 2 .K) .U))) (.k .A .J) (.e (.a .D (.v 10)) .I) (.e (.a .K (.v 10)) .G) ag z1 W.2.1 h2 h4 (aa (gh .A .b .J .bZ W.1 W.2.1)) (aa (ba .A .a .A W.1)))) (wt (wc (mf r9 O) r6) (wc (mf z O) r8)) (ev4 (mf r9 O) r6 (mf z O) r8) ?_;have S3:=S2.NN N (td (i+k<ahi/\j+k<bhi) (td (alo<i/\blo<j) q (alo,i,blo,j)) (i+k,ahi,j+k,bhi));apply h _ _ lt #[_,mb++[(i,j,k)],H,rfl,S3,?_,?_,ai.part hf hk]
 ·rw[aw,iv];(rename_i z1;show qy (.k .a7 .aS) .b (.k (.a (.a .D (.a (.m 2 .F) .U)) .B) .aS) (.l .A (.a .D (.a (.m 2 .F) .U))) z1 lt)
 ·show yS (yS ao λc=>#[nv c.1,nv c.2,by show i<=as.length;(show gh .A .b (.k .X .D) .cJ W.2.1 hr.2.2.1),by show j<=bs.length;(show gh .A .b (.k .X .D) .cJ W.2.2.2 hr.2.2.2)]) λc=>#[nv c.1,nv c.2,hr.2.2.1,hr.2.2.2]
def ED {P:Nat->Option Fn}(ao:P 5=some fn5){n:Nat}{σ σ':St}{la lb db sj ql ml:Addr}{as bs:List Key}{rm:Key->Bool}{js:List Key}{q:List T4}{r:T4}{mb:List T3}{ρ:Fr}{again:Fr->St->Prop}{K:Fl->Fr->St->Prop}
  (hM:MAt σ x la lb db sj as bs rm js) (ha:∀k∈as,wu k) (hb:∀k∈bs,wu k) (hs:bs.length<400000) (J:as.length<400000) (N:QN σ ql ml) (H:R6 ρ x ql ml as.length bs.length) (S:QS σ σ' ql ml (q++[r]) mb) (hw:qw (q++[r])+mb.length<=2*as.length+1) (z:∀u∈q++[r],In4 as bs u)
  (W:lB (Flm as bs rm λc=>decide (c∈js)) as.length bs.length (q++[r]) mb) (ag:∀w ρ' σ2,w<qw (q++[r])->JS σ x ql ml as bs (Flm as bs rm λc=>decide (c∈js)) w ρ' σ2->again ρ' σ2) :
  gw (ku P (n+1)) (.cons (.a [(.T [5,6,7,8])] (.bm .pop (.l 3) .nil))
   (.cons (.a [(.T [9,10,11]),(.v 12)] (.meth (.l 0) 5 %[.l 5,.l 6,.l 7,.l 8|0]))
   (.cons (.C (.l 11) (.cons (.expr (.bm .append (.l 4) %[.l 12|0]))
    (.cons (.C (.and (.c .lt (.l 5) (.l 9)) (.c .lt (.l 7) (.l 10))) %[.expr (.bm .append (.l 3) %[.T %[.l 5,.l 9,.l 7,.l 10|0]|0])|0] .nil)
    %[.C (.and (.c .lt (.b .add (.l 9) (.l 11)) (.l 6)) (.c .lt (.b .add (.l 10) (.l 11)) (.l 8))) %[.expr (.bm .append (.l 3) %[.T %[.b .add (.l 9) (.l 11),.l 6,.b .add (.l 10) (.l 11),.l 8|0]|0])|0] .nil|0])) .nil) .nil))) ρ σ' (wk again K):=by
 have#[alo,ahi,blo,bhi]:=r;have hq:=S.q;rw[cu]at hq;apply#[_,H.r3,(by show(σ'.L ql).isSome=true;rw[hq];rfl),q.map qV,qV (alo,ahi,blo,bhi),hq,_,NG,rfl,?_];have hr:alo<=ahi/\blo<=bhi/\ahi<=as.length/\bhi<=bs.length:=z (alo,ahi,blo,bhi) (dt _ (.head _));have O:∀u∈q,In4 as bs u:=λu hu=>z u (dk _ hu);have S0:QS σ (σ'.di ql (q.map qV)) ql ml q mb:=#[S.kp.di N.q,cm _ _ _,(er (xf N.ne)).trans S.m];have#[d,f,hI,_]:=hM.I;apply#[_,H.r0,x,rfl,(by show(σ'.I x).isSome=true;rw[S.kp.I,hI];rfl),_,rfl,_,rfl,_,rfl,_,rfl,?_];apply flm ao (hM.keep S0.kp) ha hb (by unfold bx;(show fc .aD .a .cN hs)) (by unfold bx;(show fc .aD .a .cN J)) (.inl rfl) (.inl rfl) hr.1 hr.2.1 hr.2.2.1 hr.2.2.2 λσ2 i0 j0 k0 k2 best=>?_;have hf:Flm as bs rm (λc=>decide (c∈js)) alo ahi blo bhi (grow as bs (λc=>decide (c∈js)) alo ahi blo bhi i0 j0 k0):=#[_,_,_,best,rfl];have S2:=S0.kept k2;generalize grow as bs (λc=>decide (c∈js)) alo ahi blo bhi i0 j0 k0=t at hf;have#[i,j,k]:=t;apply#[_,BS (t:=(i,j,k)),rfl,?_];apply lC (k≠0) (jM rfl) (λc=>?_) λc=>?_
 ·show EF J N #[H.r0,H.r1,H.r2,H.r3,H.r4] S2 rfl rfl rfl rfl rfl rfl rfl rfl hf.within hr O hw (Nat.pos_of_ne_zero c) hf W λw ai lt Q=>ag w _ ai lt Q
 ·have rfl:=gU.mp c;have aj:qw q+(2*(ahi-alo)+1)+mb.length<=2*as.length+1:=by rw[lM]at hw;show hw
  apply og (ag (qw q) _ _ (by rw[lM];(show ow (.l .A (.a .A .aW)) .h)) #[q,mb,#[H.r0,H.r1,H.r2,H.r3,H.r4],rfl,S2,by show lA (.k .L .aS) .a (.k (.a (.a .A (.a (.m 2 .D) .U)) .B) .aS) aj,O,W.drop hf])
structure R7 (ρ:Fr)(x nl:Addr)(na nb:Nat):Prop where
 r0:ρ 0=some (.obj x)
 r1:ρ 1=some (.int na)
 r2:ρ 2=some (.int nb)
 r16:ρ 16=some (.L nl)
inductive JU (σ1:St)(x nl:Addr)(na nb:Nat)(L:List T3)(t:Nat)(ρ:Fr)(σ2:St):Prop
 |mk (i j k:Nat) (acc:List T3):R7 ρ x nl na nb->Kp σ1 σ2->ρ 13=some (.int i)->ρ 14=some (.int j)->ρ 15=some (.int k)->σ2.L nl=some (acc.map tV)->acc.length<=t->acc++mrg i j k (L.drop t)=mrg 0 0 0 L->JU σ1 x nl na nb L t ρ σ2
def yJ {C:Cal}{ρ:Fr}{K:Fl->Fr->St->Prop}{ss:qa}{acc:List T3}{i j k:Nat}(O:ρ 16=some (.L nl))(I:ρ 13=some (.int i))(J:ρ 14=some (.int j))(U:ρ 15=some (.int k))(W:σ2.L nl=some (acc.map tV))(hl:acc.length<bx)
  (h:gw C ss ρ (σ2.di nl ((acc++if k=0 then [] else [(i,j,k)]).map tV)) K) :
  gw C (.cons (.C (.l 15) %[.expr (.bm .append (.l 16) %[.T %[.l 13,.l 14,.l 15|0]|0])|0] .nil) ss) ρ σ2 K:=by
 apply lC (k≠0) (jM U) (λc=>?_) λc=>?_
 ·rw[br c,cu]at h;show fG (tV (i,j,k)) O W (ev3 I J U) (by rw[ak];show hl) (og h)
 ·rw[cn (gU.mp c),dg,vo W]at h;show og h
def DP {C:Cal}{z:St}{na nb t:Nat}{L:List T3}{ρ:Fr}{K:Fl->Fr->St->Prop}{again:Fr->St->Prop}(hn:z.L nl=none)(hL:L.length<400000)(ht:t<L.length)(I:JU z x nl na nb L t ρ σ2)(aj:∀ρ' σ',JU z x nl na nb L (t+1) ρ' σ'->again ρ' σ') :
  gw C (.cons (.C (.and (.c .eq (.b .add (.l 13) (.l 15)) (.l 17)) (.c .eq (.b .add (.l 14) (.l 15)) (.l 18))) %[.aug 15 .add (.l 19)|0]
   (.cons (.C (.l 15) %[.expr (.bm .append (.l 16) %[.T %[.l 13,.l 14,.l 15|0]|0])|0] .nil)
   %[.a [.T [13,14,15]] (.T %[.l 17,.l 18,.l 19|0])|0])) .nil) (gv [17,18,19] [.int L[t].1,.int L[t].2.1,.int L[t].2.2] ρ) σ2 (wk again K):=by
 have#[i,j,k,acc,H,kp,ai,ag,W,B,U,hm]:=I;rw[cf ht]at hm;generalize L[t]=u at *;have#[i2,j2,k2]:=u;have hm:acc++(if i+k=i2/\j+k=j2 then mrg i j (k+k2) (L.drop (t+1)) else if k=0 then mrg i2 j2 k2 (L.drop (t+1)) else (i,j,k)::mrg i2 j2 k2 (L.drop (t+1)))=mrg 0 0 0 L:=hm;apply lC (i+k=i2/\j+k=j2) (wt (nC (mf ai W) rfl) (nC (mf ag W) rfl)) (λc=>?_) λc=>?_
 ·rw[cn c]at hm;apply#[_,W,_,rfl,aj _ _ #[i,j,k+k2,acc,#[H.r0,H.r1,H.r2,H.r16],kp,ai,ag,rfl,B,Nat.le_succ_of_le U,hm]]
 ·rw[br c]at hm;apply yJ H.r16 ai ag W B (by unfold bx;(show oa .aD .e .bH .M .J hL ht U)) ?_;apply vD [.int i2,.int j2,.int k2] rfl rfl (tw (og (aj _ _ #[i2,j2,k2,acc++(if k=0 then [] else [(i,j,k)]),#[H.r0,H.r1,H.r2,H.r16],kp.di hn,rfl,rfl,rfl,cm _ _ _,?_,?_])))
  ·rw[aw];by_cases c0:k=0
   ·rw[cn c0];show acc.length+0<=_;(show ba (.k (.a .A .O) .P) .a .A U)
   ·rw[br c0];show acc.length+1<=_;(show ba .aQ .a .A U)
  ·rw[<- hm];by_cases c0:k=0
   ·rw[cn c0,cn c0,dg]
   ·rw[br c0,br c0,bq];rfl
def IW {C:Cal}{σ W:St}{d:Addr}{f:Nat->Option V}{na nb:Nat}{acc:List T3}{ρ:Fr}{Q:V->St->Prop}(hI:σ.I x=some (d,f))(kp:Kp σ W)(H:R7 ρ x nl na nb)(hn:σ.L nl=none)(hl:acc.length<bx)(O:W.L nl=some (acc.map tV))
  (h:∀c σ',Kp σ σ'->σ.L c=none->σ'.L c=some ((acc++[(na,nb,0)]).map mV)->Q (.L c) (σ'.jw x d (upd f 4 (.L c)))) :
  gw C (.cons (.expr (.bm .append (.l 16) %[.T %[.l 1,.l 2,.int 0|0]|0]))
   %[.a [(.attr (.l 0) 4)] (.M (.l 16)),.ret (.attr (.l 0) 4)|0]) ρ W (AG Q):=by
 apply fG (tV (na,nb,0)) H.r16 O (ev3 H.r1 H.r2 rfl) (by rw[ak];show hl) ?_;rw[show acc.map tV++[tV (na,nb,0)]=(acc++[(na,nb,0)]).map tV from by rw[cu];rfl];apply#[_,H.r16,nl,(acc++[(na,nb,0)]).map λt:T3=>[V.int t.1,V.int t.2.1,V.int t.2.2],rfl,(by rw[jf];show cm _ _ _),(by intro t ht;have#[u,_,rfl]:=eg.mp ht;rfl),λc B=>?_];have J:c≠nl:=λq=>by
  rw[q]at B;have:upd W.L nl _ nl=none:=B;rw[cm]at this;cases this
 have U:σ.L c=none:=by
  have:upd W.L nl _ c=none:=B;rw[er J]at this;show kp.noL this
 rw[jf];have k4:Kp σ ((W.di nl ((acc++[(na,nb,0)]).map tV)).di c ((acc++[(na,nb,0)]).map mV)):=(kp.di hn).di U;have z:((W.di nl ((acc++[(na,nb,0)]).map tV)).di c ((acc++[(na,nb,0)]).map mV)).I x=some (d,f):=(kx k4.I x).trans hI;apply#[_,H.r0,x,d,f,rfl,z,_,H.r0,x,d,upd f 4 (.L c),_,rfl,cm _ _ _,cm _ _ _,h c _ k4 U (cm _ _ _)]
def gmb {P:Nat->Option Fn}(hP:P 6=some fn6)(bt:P 5=some fn5){n:Nat}{σ:St}{la lb db sj d:Addr}{f:Nat->Option V}{as bs:List Key}{rm:Key->Bool}{js:List Key}{Q:V->St->Prop}
  (hM:MAt σ x la lb db sj as bs rm js) (hI:σ.I x=some (d,f)) (f4:f 4=some .none) (ha:∀k∈as,wu k) (hb:∀k∈bs,wu k) (hs:bs.length<400000) (ao:as.length<400000)
  (h:∀σ' c L,Kp σ σ'->vd (Flm as bs rm λc=>decide (c∈js)) 0 as.length 0 bs.length L->σ.L c=none->σ'.L c=some ((mrg 0 0 0 L++[(as.length,bs.length,0)]).map mV)->Q (.L c) (σ'.jw x d (upd f 4 (.L c)))):ku P (n+2) 6 [.obj x] σ Q:=by
 apply#[fn6,hP,az 1,az 1,?_];have#[d',f',bc,f1,f2,f7,f8]:=hM.I;have#[rfl,rfl]:d=d'/\f=f':=by rw[hI]at bc;cases bc;apply#[rfl,rfl]
 have h0:frameOf fn6 [.obj x] 0=some (.obj x):=rfl;generalize frameOf fn6 [.obj x]=ρ at h0;apply#[.obj x,h0,x,d,f,.none,rfl,hI,f4,?_];apply gC h0 hI f1 ?_;apply#[_,hM.La,?_];apply gC h0 hI f2 ?_;apply#[_,hM.Lb,bz rfl,?_];apply#[_,rfl,rfl,?_];rw[ak,ak];apply#[_,rfl,_,rfl,bz rfl,bz rfl,λql ar=>?_];apply#[bz rfl,λml aj=>?_];have ai:ql≠ml:=λq=>by
  rw[<- q]at aj;have:upd σ.L ql _ ql=none:=aj;rw[cm]at this;cases this
 have N:QN σ ql ml:=#[ai,ar,(er (xf ai)).symm.trans aj];apply#[2*as.length+2,d7 (JS σ x ql ml as bs (Flm as bs rm λc=>decide (c∈js))) ?_ (2*as.length+2) (2*as.length+1) (Nat.lt_succ_self _) ?_]
 ·rintro w ρ' σ' ⟨q,mb,H,rfl,S,hw,bl,z⟩ again bn;apply#[_,H.r3,_,S.q,?_];rcases List.eq_nil_or_concat q with rfl|⟨q,r,rfl⟩
  ·apply eY ?_;have#[L,bL,pL]:=z [] .nil;rw[j6,dg]at pL;have J:=bL.ok λ_ _ _ _ _ h=>h.within;have W:L.length<400000:=by have:=yi (lo:=0) J.1 J.2 (λ_ _=>bb _) (bb _);(show iq .cN .b .bH .c2 ao this)
   apply#[_,H.r4,(by show(σ'.L ml).isSome=true;rw[S.m];rfl),mb.map zT,(by rw[S.m,jf];rfl),rfl,?_];rw[NM pL J.2 λt ht=>(J.1 t ht).2];have S1:=S.setM N L;generalize (σ'.di ml (L.map mV))=σ1 at S1;apply#[bz rfl,λnl U=>?_];have be:ml≠nl:=λq=>by rw[<- q,S1.m]at U;cases U
   apply#[_,H.r4,L.map mV,(er be).trans S1.m,?_];apply pk (JU σ1 x nl as.length bs.length L) ?_ ?_ #[0,0,0,[],#[H.r0,H.r1,H.r2,rfl],(Kp.refl _).di U,rfl,rfl,rfl,cm _ _ _,az _,rfl]
   ·intro t v ag σ2 hv I;have ht:t<L.length:=(ak (f:=mV) (as:=L))▸(av.mp hv).1;rw[cy,aq ht]at hv;have rfl:=af hv;have I':=I;have#[_,_,_,_,_,kp,_]:=I';apply#[kp.L _ _ S1.m,λkk bg=>#[_,BS,rfl,DP U W ht I bg]]
   ·intro ag σ2 zz;have#[i,j,k,acc,H2,kp,r13,r14,r15,ay,B,hm]:=zz;rw[ak]at hm B;rw[rz]at hm;apply#[kp.L _ _ S1.m,?_];have ax:=S1.kp.noL U;apply yJ H2.r16 r13 r14 r15 ay (by unfold bx;(show iq .aD .b .bH .A W B)) ?_;have hm:acc++(if k=0 then [] else [(i,j,k)])=mrg 0 0 0 L:=hm;have hl:(mrg 0 0 0 L).length<bx:=by
     rw[<- hm,aw];by_cases c0:k=0
     ·rw[cn c0];show acc.length+0<_;unfold bx;(show iq (.l (.a .A .O) .V) .b .bH .A W B)
     ·rw[br c0];show acc.length+1<_;unfold bx;(show iq (.l .M .V) .b .bH .A W B)
    rw[hm];show IW hI ((S1.kp.trans kp).di ax) H2 ax hl (cm _ _ _) λc bd k4 hc e=>h bd c L k4 bL hc e
  ·rw[List.concat_eq_append]at *;have:((q++[r]).map qV).isEmpty=false:=by rw[cu];cases q<;>rfl
   rw[this];apply eX ?_;show ED bt hM ha hb hs ao N H S hw bl z λw ag σ2 lt I=>bn w ag σ2 lt I
 ·apply#[[(0,as.length,0,bs.length)],[],#[h0,rfl,rfl,rfl,rfl],?_,#[((Kp.refl σ).di ar).di N.m,(er ai).trans (cm _ _ _),cm _ _ _],?_,?_,lB.start]
  ·simp[qw]
  ·simp[qw]
  ·intro r hr;rw[au.mp hr];apply#[bb _,bb _,az _,az _]
end SM
namespace SM
open PySem
section
variable {P:Nat->Option Fn}{n:Nat}{Q:V->St->Prop}
variable {C:Cal}{σ:St}{ρ:Fr}{K:Fl->Fr->St->Prop}{ss:qa}{x d:Addr}{f:Nat->Option V}{i a b:Nat}{e:Ex}
def o6 (v:V)(h:evV σ ρ e=some v)(W:ρ i=some (.obj x))(U:σ.I x=some (d,f))(k:gw C ss ρ (σ.jw x d (upd f a v)) K):gw C (.cons (.a [.attr (.l i) a] e) ss) ρ σ K:=
 jc e h #[.obj x,W,x,d,f,rfl,U,k]
def sS (v:V)(h:evV (σ.jw x d f) ρ e=some v)(W:ρ i=some (.obj x))(k:gw C ss ρ (σ.jw x d (upd f a v)) K):gw C (.cons (.a [.attr (.l i) a] e) ss) ρ (σ.jw x d f) K:=
 o6 v h W mh (by rw[vp];show k)
def JV (v:V)(h:evV σ ρ e=some v)(W:ρ i=some (.obj x))(U:σ.I x=some (d,f))(k:gw C ss ρ (σ.jw x d (upd (upd f a v) b v)) K):gw C (.cons (.a [.attr (.l i) a,.attr (.l i) b] e) ss) ρ σ K:=
 jc e h #[.obj x,W,x,d,f,rfl,U,.obj x,W,x,d,_,rfl,mh,by rw[vp];show k]
def iW (v:V)(h:evV (σ.jw x d f) ρ e=some v)(W:ρ i=some (.obj x))(k:gw C ss ρ (σ.jw x d (upd (upd f a v) b v)) K):gw C (.cons (.a [.attr (.l i) a,.attr (.l i) b] e) ss) ρ (σ.jw x d f) K:=
 JV v h W mh (by rw[vp];show k)
def nZ {es:Exs}{m:Nat}(vs:List V)(W:ρ i=some (.obj x))(U:(σ.I x).isSome=true)(h:kZ σ ρ es=some vs)(k:C m (.obj x::vs) σ λv σ=>v=.none/\gw C ss ρ σ K):gw C (.cons (.expr (.meth (.l i) m es)) ss) ρ σ K:=
 #[.obj x,W,x,rfl,U,dS (Q:=λvs σ=>C m (.obj x::vs) σ λv σ=>v=.none/\gw C ss ρ σ K) es h k]
end
def D0 (hP:P 2=some fn2){x d la:Addr}{f:Nat->Option V}{σ:St}(W:σ.I x=some (d,f))(U:f 1=some .none)(h:Q .none (σ.jw x d (upd (upd (upd f 1 (.L la)) 4 .none) 5 .none))):ku P (n+1) 2 [.obj x,.L la] σ Q:=
 ⟨fn2,hP,az 2,az 2,nY (sR false (by
   show((σ.I x).bind λp=>p.2 1).bind _=_;rw[W];show(f 1).bind _=_;rw[U];rfl) (eY (og (o6 (.L la) rfl rfl W (iW .none rfl rfl (og h))))))⟩
def CY (hP:P 1=some fn1){x:Addr}{W U:V}{σ:St}(O:(σ.I x).isSome=true)(h:ku P n 2 [.obj x,W] σ λv σ=>v=.none/\(σ.I x).isSome=true/\ku P n 3 [.obj x,U] σ λv σ=>v=.none/\Q .none σ):ku P (n+1) 1 [.obj x,W,U] σ Q:=
 ⟨fn1,hP,az 3,az 3,nY (nZ [W] rfl O rfl (Eq.mp (dj (ku P n 2 [.obj x,W] σ) (funext λv=>funext λσ'=>propext ⟨λq=>#[q.1,nZ [U] rfl q.2.1 rfl q.2.2],λq=>⟨q.1,by
  have#[_,_,e,y,e',B,_,z,J]:=q;cases e;cases e';cases z;apply#[B,J]⟩⟩)) h))⟩
def CZ (hP:P 3=some fn3){x d lb:Addr}{f:Nat->Option V}{σ:St}(W:σ.I x=some (d,f))(U:f 2=some .none)
  (h:ku P n 4 [.obj x] (σ.jw x d (upd (upd (upd (upd f 2 (.L lb)) 4 .none) 5 .none) 6 .none)) λv σ=>v=.none/\Q .none σ):ku P (n+1) 3 [.obj x,.L lb] σ Q:=
 ⟨fn3,hP,az 2,az 2,nY (sR false (by
   show((σ.I x).bind λp=>p.2 2).bind _=_;rw[W];show(f 2).bind _=_;rw[U];rfl) (eY (og (o6 (.L lb) rfl rfl W (iW .none rfl rfl (sS .none rfl rfl (nZ [] rfl (by rw[mh];rfl) rfl h)))))))⟩
abbrev FV (aj:Bool)(as:List V):Prop:=as=[.bool aj]\/(as=[]/\aj=true)
def init (hP:P 0=some fn0){x d:Addr}{U W:V}{aj:Bool}{as:List V}{σ:St}(has:FV aj as)(O:σ.I x=some (d,λ_=>none))
  (h:ku P n 1 [.obj x,U,W] (σ.jw x d (upd (upd (upd (upd (λ_=>none) 0 .none) 1 .none) 2 .none) 3 (.bool aj))) λv σ=>v=.none/\Q .none σ):ku P (n+1) 0 (.obj x::.none::U::W::as) σ Q:=by
 rcases has with rfl|⟨rfl,rfl⟩
 ·apply#[fn0,hP,az 5,km 5 4,nY (o6 .none rfl rfl O (iW .none rfl rfl (sS (.bool aj) rfl rfl (nZ [U,W] rfl (by rw[mh];rfl) rfl h))))]
 ·apply#[fn0,hP,dI 4,km 5 3,nY (o6 .none rfl rfl O (iW .none rfl rfl (sS (.bool true) rfl rfl (nZ [U,W] rfl (by rw[mh];rfl) rfl h))))]
def JK (hP:P 4=some fn4){x d lb:Addr}{f:Nat->Option V}{bs:List Key}{σ:St}(hI:σ.I x=some (d,f))(bn:f 0=some .none)(bl:f 2=some (.L lb)){aj:Bool}(bg:f 3=some (.bool aj))(bu:aj=true->bs.length<200)(hL:σ.L lb=some (bs.map Key.v))(hz:bs.length<bx)
  (h:∀σ₁ db W U,B2J (σ.jw x d (upd f 7 (.dct db))) σ₁ db bs->σ.D db=none->σ.S W=none->σ.S U=none->W≠U ->
   Q .none (((σ₁.yl W []).yl U []).jw x d (upd (upd (upd f 7 (.dct db)) 8 (.set W)) 9 (.set U)))):ku P (n+1) 4 [.obj x] σ Q:=by
 apply#[fn4,hP,by simp[fn4],by simp[fn4],?_];have h0:frameOf fn4 [.obj x] 0=some (.obj x):=rfl;generalize frameOf fn4 [.obj x]=ρ at h0;apply#[.obj x,h0,x,d,f,.L lb,rfl,hI,bl,?_];apply λdb bt=>#[.obj x,h0,x,d,f,rfl,hI,?_];apply#[.L lb,rfl,lb,bs.map Key.v,rfl,hL,?_];apply pk (λi ρ' σ'=>ρ' 0=some (.obj x)/\ρ' 1=some (.L lb)/\ρ' 2=some (.dct db)/\B2J (σ.jw x d (upd f 7 (.dct db))) σ' db (bs.take i)) ?_ ?_ ?_
 ·intro i v ρ' σ' hv ⟨r0,r1,r2,J⟩;apply#[J.old lb _ hL,λk hk=>?_];have hi:i<bs.length:=by
   have:=(av.mp hv).1;simpa using this
  have bc:v=.T [.int i,bs[i].v]:=by
   rw[cy,List.getElem?_zipIdx]at hv;simp[hi]at hv;show hv.symm
  subst bc;apply#[_,rfl,rfl,?_];apply#[.dct db,r2,?_,bs[i].v,rfl,?_]
  ·have#[es,z,_]:=J.tab;show(σ'.D db).isSome=true;rw[z];rfl
  apply#[bz rfl,λc hc=>?_];have#[es,z,O,c',e1,e2,ag]:=J.step hc bs[i];have ai:(bs.take i).length=i:=by simp;(show(Ar.ji _ _).2.2.elim (λq1=>(iq .C .g .A .a2 (Ar.ji _ _).1 q1)) λq1=>(oa .C .l .aI .A .b0 hi (Ar.ji _ _).1 q1))
  have bd:bs.take i++[bs[i]]=bs.take (i+1):=(dz hi).symm;rw[ai]at O ag;rw[bd]at ag;apply#[es,bs[i],z,yQ _,by show pe .B .e .M .aH .aF hz hi O,?_];rw[e1];apply#[.L c',rfl,?_,.int i,rfl,?_]
  ·show(St.L _ c').isSome=true;rw[e2];rfl
  apply#[jF bs[i] (bs.take i),e2,?_,rfl,?_]
  ·unfold jF posOf;have:=lH (λj=>decide ((bs.take i)[j]?=some bs[i])) (List.range (bs.take i).length);simp only[ak,kc]at this ⊢
   (show nS .B .k .M .aH (.e .F .D) .cG hz hi ai this)
  show hk _ _ #[r0,r1,r2,ag]
 ·intro ρ' σ' ⟨r0,r1,r2,J⟩;have O:((bs.map Key.v).zipIdx.map λp=>V.T [.int p.2,p.1]).length=bs.length:=by simp
  rw[O,fo]at J;apply#[J.old lb _ hL,?_];have bv:σ'.I x=some (d,upd f 7 (.dct db)):=by rw[J.I];show mh
  intro W be _;apply#[.obj x,r0,x,d,_,rfl,bv,?_];apply#[.obj x,r0,x,d,_,.none,rfl,mh,by simp[upd,bn],?_];apply#[.none,rfl,λU ar _=>?_];have ay:W≠U:=λe=>by
   have:upd σ'.S W [] U=none:=ar;rw[<- e,cm]at this;cases this
  apply#[.obj x,r0,x,d,_,rfl,mh,?_];apply#[.L lb,r1,bs.map Key.v,J.old lb _ hL,?_];apply#[.obj x,r0,x,d,_,.bool aj,rfl,mh,by simp[upd,bg],?_];have ax:σ.S W=none:=by
   have:σ'.S W=none:=be;rw[J.S]at this;show this
  have ao:σ.S U=none:=by
   have:upd σ'.S W [] U=none:=ar;rw[er (xf ay),J.S]at this;show this
  have:=h σ' db W U J bt ax ao ay;have e:((((σ'.yl W []).jw x d (upd (upd f 7 (V.dct db)) 8 (V.set W))).yl U []).jw x d (upd (upd (upd f 7 (V.dct db)) 8 (V.set W)) 9 (V.set U)))=(((σ'.yl W []).yl U []).jw x d (upd (upd (upd f 7 (.dct db)) 8 (.set W)) 9 (.set U))):=by
   unfold St.yl St.jw
   congr 1
   funext j
   simp only[upd];split<;>rfl
  rw[<- e]at this;cases aj with
  |false=>show this
  |true =>
   apply#[_,rfl,?_];have hd:decide ((200:Int)<=((bs.map Key.v).length:Nat))=false:=fw (by rw[ak];have:=bu rfl;(show fc (.ij (.n 200) .L) .a (.l .A (.n 200)) this));show if decide ((200:Int)<=((bs.map Key.v).length:Nat))=true then _ else _
   rw[hd];show this
 ·apply#[h0,rfl,rfl,B2J.start]
end SM
end MP
end
section
namespace MP
open PySem
variable {σ σ₁:St}{c:Addr}
structure Ext (σ σ':St):Prop where
 L:∀a xs,σ.L a=some xs->σ'.L a=some xs
 D:∀a es,σ.D a=some es->σ'.D a=some es
 S:∀a es,σ.S a=some es->σ'.S a=some es
 I:∀a es,σ.I a=some es->σ'.I a=some es
def Ext.refl (σ:St):Ext σ σ:=#[λ_ _ e=>e,λ_ _ e=>e,λ_ _ e=>e,λ_ _ e=>e]
def Ext.trans {σ₂:St}(h:Ext σ σ₁)(h':Ext σ₁ σ₂):Ext σ σ₂:=#[λ_ _ e=>h'.L _ _ (h.L _ _ e),λ_ _ e=>h'.D _ _ (h.D _ _ e),λ_ _ e=>h'.S _ _ (h.S _ _ e),λ_ _ e=>h'.I _ _ (h.I _ _ e)]
def Kp.ext {σ':St}(h:Kp σ σ'):Ext σ σ':=#[h.L,h.D,λ_ _ e=>by rw[h.S];show e,λ_ _ e=>by rw[h.I];show e]
def Ext.noL (h:Ext σ σ₁)(W:σ₁.L c=none):σ.L c=none:=by
 cases q:σ.L c with
 |none=>rfl
 |some xs=>rw[h.L _ _ q]at W;cases W
def lV {α:Type}{f g:Nat->Option α}(h:∀a x,f a=some x->g a=some x){c:Nat}{x:α}(W:f c=none):∀a y,f a=some y->upd g c x a=some y:=λa y e=>by
 have:a≠c:=λq=>by rw[q,W]at e;cases e
 rw[er this];show h a y e
def Ext.di (h:Ext σ σ₁){xs:List V}(W:σ.L c=none):Ext σ (σ₁.di c xs):=#[lV h.L W,h.D,h.S,h.I]
def Ext.yl (h:Ext σ σ₁){xs:List Key}(W:σ.S c=none):Ext σ (σ₁.yl c xs):=#[h.L,h.D,lV h.S W,h.I]
def Ext.jw (h:Ext σ σ₁){d:Addr}{f:Nat->Option V}(W:σ.I c=none):Ext σ (σ₁.jw c d f):=#[h.L,h.D,h.S,lV h.I W]
def B2J.ext {σ₀:St}{db:Addr}{bs:List Key}(h:B2J σ₀ σ₁ db bs)(hd:σ₀.D db=none):Ext σ₀ σ₁:=
 #[h.old,λa es e=>by rw[h.D a (λq=>by rw[q,hd]at e;cases e)];show e,λ_ _ e=>by rw[h.S];show e,λ_ _ e=>by rw[h.I];show e]
def TabAt.ext {σ':St}{db:Addr}{bs:List Key}{rm:Key->Bool}(h:TabAt σ db bs rm)(k:Ext σ σ'):TabAt σ' db bs rm:=by
 have#[es,I,J,O]:=h;apply#[es,k.D _ _ I,J,λq U=>(O q U).imp_right λW=>by have#[c,z,B]:=W;apply#[c,z,k.L _ _ B]]
namespace SM
def make {P:Nat->Option Fn}(h0:P 0=some fn0)(h1:P 1=some fn1)(h2:P 2=some fn2)(h3:P 3=some fn3)(h4:P 4=some fn4){n:Nat}{la lb:Addr}{as bs:List Key}{es:Exs}{ρ:Fr}{Q:V->St->Prop}{aj:Bool}{ags:List V}(ay:FV aj ags)(ax:aj=true->bs.length<200)
  (hE:∀Q:List V->St->Prop,Q (.none::.L la::.L lb::ags) σ->vg (ku P (n+4)) es ρ σ Q)
  (bc:σ.L la=some (as.map Key.v)) (O:σ.L lb=some (bs.map Key.v)) (hz:bs.length<bx)
  (h:∀σ' x d f db sj,Ext σ σ'->σ.I x=none->σ'.I x=some (d,f)->f 4=some .none->f 5=some .none->f 0=some .none->f 3=some (.bool aj)->MAt σ' x la lb db sj as bs (λ_=>false) []->Q (.obj x) σ'):wpE (ku P (n+4)) (.n es) ρ σ Q:=by
 rw[BN];apply hE _ ?_;intro x d z;apply init h0 ay (d:=d) (cm _ _ _) ?_;apply CY h1 (by rw[mh];rfl) ?_;apply D0 h2 mh rfl ?_;apply#[rfl,by rw[mh];rfl,?_];apply CZ h3 mh rfl ?_;rw[vp,vp,vp];apply JK h4 (lb:=lb) (bs:=bs) mh rfl rfl (aj:=aj) rfl ax O hz λσ₁ db W B J ar ai ag ao=>?_;apply#[rfl,rfl,rfl,rfl,?_];rw[vp]at J;generalize U:(upd (upd (upd (upd (upd (upd (upd (upd (upd (upd (upd (λx=>(none:Option V)) 0 V.none) 1 V.none) 2 V.none) 3 (V.bool aj)) 1 (V.L la)) 4 V.none) 5 V.none) 2 (V.L lb)) 4 V.none) 5 V.none) 6 V.none)=f at J ⊢;have be:Ext σ σ₁:=((Ext.refl σ).jw z).trans (J.ext ar);have bd:σ₁.I x=some (d,upd f 7 (.dct db)):=by rw[J.I];show mh
 have E2:Ext σ ((σ₁.yl W []).yl B []):=(be.yl ai).yl ag;have bg:((σ₁.yl W []).yl B []).I x=some (d,upd f 7 (.dct db)):=bd;apply h _ x d (upd (upd (upd f 7 (.dct db)) 8 (.set W)) 9 (.set B)) db W (E2.jw z) z mh (by rw[<- U];rfl) (by rw[<- U];rfl) (by rw[<- U];rfl) (by rw[<- U];rfl) #[#[d,_,mh,by rw[<- U];rfl,by rw[<- U];rfl,rfl,rfl],E2.L _ _ bc,E2.L _ _ O,?_,?_]
 ·have#[es,q1,q2,q3]:=J.tabAt;apply#[es,q1,q2,q3]
 ·show upd (upd σ₁.S W []) B [] W=_;rw[er ao,cm]
end SM
end MP
end
section
namespace MP
variable {L:List (Nat×Nat×Nat)}{i j k:Nat}
structure dF (H:Nat->Nat->Prop)(alo ahi blo bhi i j k:Nat):Prop where
 ai:alo<=i
 ia:i+k<=ahi
 bj:blo<=j
 jb:j+k<=bhi
 eq:∀t,t<k->H (i+t) (j+t)
structure zM (H:Nat->Nat->Prop)(alo ahi blo bhi i j k:Nat):Prop where
 pos:0<k
 run:dF H alo ahi blo bhi i j k
 max:∀i' j' k',0<k'->dF H alo ahi blo bhi i' j' k'->k'<k\/(k'=k/\(i<i'\/(i=i'/\j<=j')))
inductive BT (H:Nat->Nat->Prop):Nat->Nat->Nat->Nat->List (Nat×Nat×Nat)->Prop
 |nil {alo ahi blo bhi:Nat}:(∀i j,alo<=i->i<ahi->blo<=j->j<bhi->¬H i j)->BT H alo ahi blo bhi []
 |node {alo ahi blo bhi i j k:Nat} {L R:List (Nat×Nat×Nat)}:zM H alo ahi blo bhi i j k->BT H alo i blo j L->BT H (i+k) ahi (j+k) bhi R->BT H alo ahi blo bhi (L++(i,j,k)::R)
section
variable {H:Nat->Nat->Prop}{alo ahi blo bhi:Nat}
def BT.ok (h:BT H alo ahi blo bhi L):(∀t∈L,Within alo ahi blo bhi t/\0<t.2.2)/\L.Pairwise uu/\∀t∈L,dF H alo ahi blo bhi t.1 t.2.1 t.2.2:=by
 induction h with
 |nil _=>refine#[λt h=>(by cases h),.nil,λt h=>(by cases h)]
 | @node alo ahi blo bhi i j k L R B _ _ hl hr =>
  have Rn:=B.run;have:=B.pos;have:=Rn.ai;have:=Rn.ia;have:=Rn.bj;have:=Rn.jb;apply#[λt z=>?_,?_,λt z=>?_]
  ·rcases cq.mp z with q|q
   ·have:=hl.1 t q;unfold Within at *
    (rename_i U O W;show#[#[(ba .A .a .A this.1.1),#[(qy .F .b .bF .bY U this.1.2.1),#[(ba .A .a .A this.1.2.2.1),(qy .F .b .bF .bY W this.1.2.2.2)]]],(fc .D .a .D this.2)])
   ·rcases cw.mp q with q|q
    ·subst q;unfold Within;simp only
     (rename_i I U O W;show#[#[(ba .A .a .A U),#[(gu .F .a .F O),#[(ba .A .a .A W),(gu .F .a .F this)]]],(fc .D .a .D I)])
    ·have:=hr.1 t q;unfold Within at *
     (rename_i z5 I U O W;show#[#[(gh .A .b .J .bZ z5 this.1.1),#[(gu .F .a .F this.1.2.1),#[(gh .A .b .J .bZ U this.1.2.2.1),(gu .F .a .F this.1.2.2.2)]]],(fc .D .a .D this.2)])
  ·rw[jo];apply#[hl.2.1,.cons (λu hu=>?_) hr.2.1,λt z u hu=>?_]
   ·have:=hr.1 u hu;unfold Within at this;unfold uu;simp only
    (show#[(gu .F .a .F this.1.1),(gu .F .a .F this.1.2.2.1)])
   ·have:=hl.1 t z;unfold Within at this;unfold uu;rcases cw.mp hu with q|q
    ·subst q;simp only
     (show#[(gu .F .a .F this.1.2.1),(gu .F .a .F this.1.2.2.2)])
    ·have:=hr.1 u q;unfold Within at this
     (rename_i W;show#[(qy .F .b .bY .bF W.1.2.1 this.1.1),(qy .F .b .bY .bF W.1.2.2.2 this.1.2.2.1)])
  ·rcases cq.mp z with q|q
   ·have:=hl.2.2 t q;apply#[this.ai,by have:=this.ia;(rename_i I U O W;show qy .F .b .bF .bY I this),this.bj,by have:=this.jb;(rename_i O W;show qy .F .b .bF .bY O this),this.eq]
   ·rcases cw.mp q with q|q
    ·subst q;show Rn
    ·have:=hr.2.2 t q;apply#[by have:=this.ai;(rename_i z6 z5 I U O W;show gh .A .b .J .bZ z6 this),this.ia,by have:=this.bj;(rename_i I U O W;show gh .A .b .J .bZ I this),this.jb,this.eq]
def mR {t:Nat×Nat×Nat}{R:List (Nat×Nat×Nat)}(U:dW L)(W:dW (t::R))(h:∀u∈L,Apart u t):dW (L++t::R):=by
 induction L with
 |nil=>show W
 |cons u L O =>
  cases L with
  |nil=>refine#[h u (.head _),W]
  |cons v L=>refine#[U.1,O U.2 λw J=>h w (.tail _ J)]
def BT.HY (h:BT H alo ahi blo bhi L):dW L:=by
 induction h with
 |nil _=>trivial
 | @node alo ahi blo bhi i j k L R B hL hR ao aj =>
  have Rn:=B.run;have:=B.pos;have:=Rn.ai;have:=Rn.ia;have:=Rn.bj;have:=Rn.jb;have oL:=hL.ok;have oR:=hR.ok;apply mR ao ?_ ?_
  ·cases R with
   |nil=>trivial
   |cons u R =>
    apply#[?_,aj];rintro ⟨W,I⟩;have Ru:=oR.2.2 u (.head _);have hu:=(oR.1 u (.head _)).2;have:=Ru.ia;have:=Ru.jb;simp only at W I;have:=B.max i j (k+u.2.2) (ba (.l .O .L) .a .Y hu) ⟨by(rename_i z5 z4 z3 z2 U;show ba .A .a .A z5),by(rename_i U;show qy (.k .aP .D) .b (.e .L .F) (.k .aR .D) W U),by(rename_i z3 z2 U;show ba .A .a .A z3),by show qy (.k .aP .D) .b (.e .L .F) (.k .aR .D) I this,λt ht=>by
     by_cases c:t<k
     ·show Rn.eq t c
     ·have:=Ru.eq (t-k) (gh .B .b .bG .bL ht (aa (ba .A .a .aZ c)));have x1:u.1+(t-k)=i+t:=by(show qy (.e .L .R) .z (.e .aU .A) .c4 W (aa (ba .A .a .aZ c)))
      have x2:u.2.1+(t-k)=j+t:=by(show JQ (.e .L .R) .q (.e .a5 .H) (.e (.a .C .G) .A) (.e (.a .H .B) .aL) W I x1)
      rw[x1,x2]at this;show this⟩
    (show this.elim (λJ=>(ba .ff .j (.l .L .A) J)) λJ=>(iq .ff .c .D (.e .aF .B) hu J.1))
  ·intro u hu zz;have#[W,I]:=zz;have Ru:=oL.2.2 u hu;have ag:=(oL.1 u hu).2;have:=Ru.ai;have:=Ru.bj;simp only at W I;have:=B.max u.1 u.2.1 (u.2.2+k) (ba (.l .O .L) .a .D ag) ⟨by(rename_i U;show ba .A .a .A U),by(rename_i z4 z3 z2 U;show qy (.k .aP .D) .b (.k .aR .D) (.e .L .F) z4 W),by show ba .A .a .A this,by(rename_i z2 U;show qy (.k .aP .D) .b (.k .aR .D) (.e .L .F) z2 I),λt ht=>by
    by_cases c:t<u.2.2
    ·show Ru.eq t c
    ·have:=Rn.eq (t-u.2.2) (gh .B .b .bG .bL ht (aa (ba .A .a .aZ c)));have x1:i+(t-u.2.2)=u.1+t:=by(show qy (.e .L .R) .z (.e .aU .A) .c4 W (aa (ba .A .a .aZ c)))
     have x2:j+(t-u.2.2)=u.2.1+t:=by(show JQ (.e .L .R) .q (.e .a5 .H) (.e (.a .C .G) .A) (.e (.a .H .B) .aL) W I x1)
     rw[x1,x2]at this;show this⟩
   (show this.elim (λJ=>(ba .ff .j (.l .L .B) J)) λJ=>(iq .ff .c .D (.e .L .B) ag J.1))
end
abbrev yz (as bs:List Key)(i j:Nat):Prop:=hit as bs (λ_=>false) i j=true
def yz.iff {as bs:List Key}:yz as bs i j↔∃c,as[i]?=some c/\bs[j]?=some c:=by
 unfold yz;rw[ya];simp
section
variable {as bs:List Key}{alo ahi blo bhi:Nat}
def xT.toH (h:xT as bs (λ_=>false) alo ahi blo bhi i j k)(hk:0<k):zM (yz as bs) alo ahi blo bhi i j k:=
 #[hk,#[h.run.ai,h.run.ia,h.run.bj,h.run.jb,h.run.eq],λi' j' k' p R=>h.max i' j' k' p #[R.ai,R.ia,R.bj,R.jb,R.eq]]
def yZ {ok:Key->Bool}(h:∀U W,i=U+1->j=W+1->alo<i->blo<j->hit as bs (λc=>!ok c) U W=true->False):dA as bs ok alo blo i j k=(i,j,k):=by
 cases i with
 |zero=>rfl
 |succ i =>
  cases j with
  |zero=>rfl
  |succ j =>
   rw[fC];rw[br (λq=>h i j rfl rfl q.1 q.2.1 q.2.2)]
def yY {ok:Key->Bool}{n:Nat}(h:i+k<ahi->j+k<bhi->hit as bs (λc=>!ok c) (i+k) (j+k)=true->False):hV as bs ok ahi bhi n i j k=k:=by
 cases n with
 |zero=>rfl
 |succ n =>
  rw[zt];rw[br (λq=>h q.1 q.2.1 q.2.2)]
def yT (h:hit as bs (λ_=>true) i j=true):False:=by
 have#[c,_,_,h]:=ya.mp h;cases h
def n6 (h:xT as bs (λ_=>false) alo ahi blo bhi i j k):grow as bs (λ_=>false) alo ahi blo bhi i j k=(i,j,k):=by
 have R:=h.run;have l1:dA as bs (λ_=>true) alo blo i j k=(i,j,k):=by
  apply yZ ?_;rintro z I rfl rfl c1 c2 U;have:=R.ia;have:=R.jb;have:=h.max z I (k+1) (nt (.l .O .M) .h) #[by show ba .A .a .aM c1,by(rename_i J;show gu .L .a .cC J),by show ba .A .a .aM c2,by show gu .L .a .cC this,λt ht=>?_]
  ·(show this.elim (λW=>(fc .ff .j (.l .M .A) W)) λW=>(fc .ff .j (.e .M .A) W.1))
  ·cases t with
   |zero=>show U
   |succ t =>
    have:=R.eq t (ba .B .a (.l .M .P) ht);have x1:z+(t+1)=z+1+t:=by(show ow (.e .a7 .a2) .o)
    have x2:I+(t+1)=I+1+t:=by(show ow (.e .a7 .a2) .o)
    rw[x1,x2];show this
 have l2:∀n,hV as bs (λ_=>true) ahi bhi n i j k=k:=λn=>by
  apply yY ?_;intro c1 c2 U;have:=R.ai;have:=R.bj;have:=h.max i j (k+1) (nt (.l .O .M) .h) #[by(rename_i J;show ba .A .a .A J),by show gu .L .a .K c1,by show ba .A .a .A this,by show gu .L .a .K c2,λt ht=>?_]
  ·(show this.elim (λW=>(fc .ff .j (.l .M .A) W)) λW=>(fc .ff .j (.e .M .A) W.1))
  ·by_cases c:t<k
   ·show R.eq t c
   ·have:t=k:=by(show iq .C .g .aM .b2 ht c)
    subst this;show U
 have l3:dA as bs (λ_=>false) alo blo i j k=(i,j,k):=yZ λ_ _ _ _ _ _ U=>yT U;have l4:∀n,hV as bs (λ_=>false) ahi bhi n i j k=k:=λn=>yY λ_ _ U=>yT U;have t0:(λc:Key=>!((λ_=>false) c))=λ_=>true:=rfl;show(_,_,_)=_;simp only[Bool.not_false,l1,l2,l3,l4]
def vd.PQ (h:vd (Flm as bs (λ_=>false) (λ_=>false)) alo ahi blo bhi L):BT (yz as bs) alo ahi blo bhi L:=by
 induction h with
 | @nil alo ahi blo bhi i j hf =>
  have#[i',j',k',B,e]:=hf;rw[n6 B]at e;cases e;apply .nil λi' j' a b c d hh=>?_;have:=B.max i' j' 1 (zv (.l .O .U) .h) ⟨a,by show ba .S .a .B b,c,by show ba .S .a .B d,λt ht=>by
   have:t=0:=by(show fc .N .t .cB ht)
   subst this;show hh⟩
  (show this.elim (λz=>(PB .ff .j (.l .U .O) z)) λz=>(PB .ff .j (.e .U .O) z.1))
 | @node alo ahi blo bhi i j k L R hf hk hL ao hR aj ai ag =>
  have#[i',j',k',B,e]:=hf;rw[n6 B]at e;cases e;apply .node (B.toH hk) ?_ ?_
  ·by_cases c:alo<i/\blo<j
   ·show ai c.1 c.2
   ·rw[ao c];show .nil λi j a b c d=>by(rename_i z1;show λz=>((Ar.imp hL).elim (λI=>(oa .ff .m .A .aI (.g .A .C) a b I)) λI=>((Ar.imp ai).elim (λJ=>(oa .ff .m .A .aI (.g .A .C) a b J)) λJ=>((cv.mp z1).elim (λW=>(oa .ff .m .A .aI (.g .A .C) a b W)) λW=>(oa .ff .m .A .aI (.g .A .C) c d W)))))
  ·by_cases c:i+k<ahi/\j+k<bhi
   ·show ag c.1 c.2
   ·rw[aj c];show .nil λi j a b c d=>by(rename_i z1;show λz=>((Ar.imp hR).elim (λI=>(pe .ff .m .F .R (.g .L .D) a b I)) λI=>((Ar.imp ag).elim (λJ=>(pe .ff .m .F .R (.g .L .D) a b J)) λJ=>((cv.mp z1).elim (λW=>(pe .ff .m .F .R (.g .L .D) a b W)) λW=>(pe .ff .m .F .R (.g .L .D) c d W)))))
end
end MP
end
section
namespace MP
open PySem
def mapM_some {α W:Type}{f:α->Option W}{g:α->W}{xs:List α}(h:∀x∈xs,f x=some (g x)):xs.mapM f=some (xs.map g):=by
 induction xs with
 |nil=>rfl
 |cons x r U=>rw[List.mapM_cons,h x (.head _),U λy O=>h y (.tail _ O)];rfl
namespace SM
end SM
variable {σ:St}{l:List (Addr×List V)}{a:Addr}{xs:List V}
structure Hp (σ:St)(l:List (Addr×List V)):Prop where
 nd:(l.map (·.1)).Nodup
 at_:∀p∈l,σ.L p.1=some p.2
def Hp.nil:Hp σ []:=#[.nil,λp h=>(by cases h)]
def Hp.get (h:Hp σ l)(i:Nat)(e:l[i]?=some (a,xs)):σ.L a=some xs:=h.at_ _ (fe e)
def Hp.new (h:Hp σ l){c:Addr}(O:σ.L c=none)(xs:List V):Hp (σ.di c xs) ((c,xs)::l):=by
 have U:∀p∈l,p.1≠c:=λp W q=>by
  have:=h.at_ p W;rw[q,O]at this;cases this
 apply#[?_,λp W=>?_]
 ·rw[kh,List.nodup_cons];apply#[λq=>?_,h.nd];have#[p,W,e]:=eg.mp q;show U p W e
 ·rcases cw.mp W with rfl|W
  ·show cm _ _ _
  ·show upd σ.L c xs p.1=_;rw[er (U p W)];show h.at_ p W
def Hp.set (h:Hp σ l)(i:Nat)(e:l[i]?=some (a,xs))(ys:List V):Hp (σ.di a ys) (l.set i (a,ys)):=by
 have#[O,U]:=av.mp e;have B:(l.set i (a,ys)).map (·.1)=l.map (·.1):=by
  rw[List.map_set];apply List.ext_getElem (by simp) λj h1 z=>?_;rw[List.getElem_set];split
  ·rename_i q;subst q;simp[U]
  ·rfl
 apply#[by rw[B];show h.nd,λp I=>?_];have#[j,W,rfl]:=List.getElem_of_mem I;rw[List.length_set]at W;rw[List.getElem_set];split
 ·show cm _ _ _
 ·rename_i q;show upd σ.L a ys l[j].1=_;have:l[j].1≠a:=λJ=>by
   have:=h.nd;rw[List.nodup_iff_pairwise_ne,vm]at this;rcases ah q with c|c
   ·have:=this i j (by simpa using O) (by simpa using W) c;simp[U,J]at this
   ·have:=this j i (by simpa using W) (by simpa using O) c;simp[U,J]at this
  rw[er this];show h.at_ _ (cj _)
def Hp.ne (h:Hp σ l)(i j:Nat)(W:i≠j){b:Addr}{ys:List V}(e:l[i]?=some (a,xs))(B:l[j]?=some (b,ys)):a≠b:=by
 have#[O,I]:=av.mp e;have#[U,J]:=av.mp B;have:=h.nd;rw[List.nodup_iff_pairwise_ne,vm]at this;intro q;rcases ah W with c|c
 ·have:=this i j (by simpa using O) (by simpa using U) c;simp[I,J,q]at this
 ·have:=this j i (by simpa using U) (by simpa using O) c;simp[I,J,q]at this
public abbrev iV (xs:List Int):List V:=xs.map V.int
def O3 (xs:List Int):(xs.map Key.int).map Key.v=iV xs:=by rw[jf];rfl
def KJ (xs:List Int):∀k∈xs.map Key.int,wu k:=by
 intro k hk;have#[x,_,rfl]:=eg.mp hk;trivial
structure jV (x:Addr)(σ σ':St):Prop where
 L:∀a xs,σ.L a=some xs->σ'.L a=some xs
 D:∀a es,σ.D a=some es->σ'.D a=some es
 S:∀a es,σ.S a=some es->σ'.S a=some es
 I:∀a es,a≠x->σ.I a=some es->σ'.I a=some es
def Ext.x {σ σ':St}{x:Addr}(h:Ext σ σ'):jV x σ σ':=#[h.L,h.D,h.S,λa es _ e=>h.I a es e]
def jV.trans {x:Addr}{σ σ₁ σ₂:St}(h:jV x σ σ₁)(h':jV x σ₁ σ₂):jV x σ σ₂:=#[λ_ _ e=>h'.L _ _ (h.L _ _ e),λ_ _ e=>h'.D _ _ (h.D _ _ e),λ_ _ e=>h'.S _ _ (h.S _ _ e),λ_ _ n e=>h'.I _ _ n (h.I _ _ n e)]
def jV.jw {x d:Addr}{f:Nat->Option V}{σ σ₁:St}(h:jV x σ σ₁):jV x σ (σ₁.jw x d f):=#[h.L,h.D,h.S,λa es n e=>(er n).trans (h.I a es n e)]
def jV.ext {x:Addr}{σ₀ σ σ':St}(h:jV x σ σ')(E:Ext σ₀ σ)(W:σ₀.I x=none):Ext σ₀ σ':=#[λ_ _ e=>h.L _ _ (E.L _ _ e),λ_ _ e=>h.D _ _ (E.D _ _ e),λ_ _ e=>h.S _ _ (E.S _ _ e),λa _ e=>h.I _ _ (λq=>by rw[q,W]at e;cases e) (E.I _ _ e)]
namespace SM
open PySem
def O5:=Str×Nat×Nat×Nat×Nat
abbrev oV (t:O5):V:=.T [.str t.1,.int t.2.1,.int t.2.2.1,.int t.2.2.2.1,.int t.2.2.2.2]
abbrev chg (i a j b:Nat):List O5:=if i<a/\j<b then [("replace",i,a,j,b)] else if i<a then [("delete",i,a,j,b)] else if j<b then [("insert",i,a,j,b)] else []
abbrev eql (a b s:Nat):List O5:=if s=0 then [] else [("equal",a,a+s,b,b+s)]
abbrev codes:Nat->Nat->List T3->List O5
 |_,_,[]=>[]
 |i,j,t::r=>chg i t.1 j t.2.1++(eql t.1 t.2.1 t.2.2++codes (t.1+t.2.2) (t.2.1+t.2.2) r)
def JI (i a j b:Nat):(chg i a j b).length<=1:=by
 unfold chg;split
 ·show az _
 ·split
  ·show az _
  ·split
   ·show az _
   ·show bb _
def J4 (a b s:Nat):(eql a b s).length<=1:=by
 unfold eql;split
 ·show bb _
 ·show az _
section
variable {C:Cal}{σ:St}{ρ:Fr}{K:Fl->Fr->St->Prop}{ss:qa}{al:Addr}{acc:List O5}{i j a b s:Nat}
def ev5 {I J O U W:Ex}{t:Str}(h1:evV σ ρ I=some (.str t))(h2:evV σ ρ J=some (.int i))(h3:evV σ ρ O=some (.int a))(z:evV σ ρ U=some (.int j))(B:evV σ ρ W=some (.int b)) :
  evV σ ρ (.T %[I,J,O,U,W|0])=some (oV (t,i,a,j,b)):=by
 rw[yb,gm,h1,gm,h2,gm,h3,gm,z,gm,B];rfl
structure R8o (ρ:Fr)(x al:Addr)(i j a b s:Nat):Prop where
 r0:ρ 0=some (.obj x)
 r1:ρ 1=some (.int i)
 r2:ρ 2=some (.int j)
 r3:ρ 3=some (.L al)
 r4:ρ 4=some (.int a)
 r5:ρ 5=some (.int b)
 r6:ρ 6=some (.int s)
def qO {x:Addr}{t:Str}(H:R8o ρ x al i j a b s)(W:ρ 7=some (.str t))(U:Nat.ble t.cps.size bx=true)(O:(t.cps.size != 0)=true)(J:σ.L al=some (acc.map oV))(hl:acc.length<bx)
  (h:gw C ss ρ (σ.di al ((acc++[(t,i,a,j,b)]).map oV)) K) :
  gw C (.cons (.C (.l 7) %[.expr (.bm .append (.l 3) %[.T %[.l 7,.l 1,.l 4,.l 2,.l 5|0]|0])|0] .nil) ss) ρ σ K:=by
 apply#[_,W,bz U,?_];rw[O];apply eX (fG (oV (t,i,a,j,b)) H.r3 J (ev5 W H.r1 H.r4 H.r2 H.r5) (by rw[ak];show hl) (og ?_));rw[cu]at h;show h
def C3 {t:Ex}{e:qa}(W:ρ 7=some (.str ""))(h:gw C ss ρ σ K):gw C (.cons (.C (.l 7) e .nil) ss) ρ σ K:=by
 apply#[_,W,bb _,?_];show eY (og h)
def JJ {x:Addr}(H:R8o ρ x al i j a b s)(U:ρ 7=some (.str ""))(W:σ.L al=some (acc.map oV))(hl:acc.length<bx)
  (h:∀ρ',R8o ρ' x al i j a b s->gw C ss ρ' (σ.di al ((acc++chg i a j b).map oV)) K) :
  gw C (.cons (.C (.and (.c .lt (.l 1) (.l 4)) (.c .lt (.l 2) (.l 5))) (.cons (.a [(.v 7)] (.str "replace"))
 .nil) (.cons (.C (.c .lt (.l 1) (.l 4)) (.cons (.a [(.v 7)] (.str "delete"))
 .nil) (.cons (.C (.c .lt (.l 2) (.l 5)) (.cons (.a [(.v 7)] (.str "insert"))
 .nil) .nil)
 .nil))
 .nil))
 (.cons (.C (.l 7) (.cons (.expr (.bm .append (.l 3) %[.T %[.l 7,.l 1,.l 4,.l 2,.l 5|0]|0]))
 .nil) .nil) ss)) ρ σ K:=by
 have up:∀v,R8o (upd ρ 7 v) x al i j a b s:=λv=>#[H.r0,H.r1,H.r2,H.r3,H.r4,H.r5,H.r6];unfold chg at h;apply lC (i<a/\j<b) (wt (wc H.r1 H.r4) (wc H.r2 H.r5)) (λc=>?_) λc=>?_
 ·rw[cn c]at h;show kO (.str "replace") rfl (og (qO (up _) rfl (by decide +kernel) (by decide +kernel) W hl (h _ (up _))))
 ·rw[br c]at h;apply lC (i<a) (wc H.r1 H.r4) (λc=>?_) λc=>?_
  ·rw[cn c]at h;show kO (.str "delete") rfl (tw (og (qO (up _) rfl (by decide +kernel) (by decide +kernel) W hl (h _ (up _)))))
  ·rw[br c]at h;apply lC (j<b) (wc H.r2 H.r5) (λc=>?_) λc=>?_
   ·rw[cn c]at h;show kO (.str "insert") rfl (tw (tw (og (qO (up _) rfl (by decide +kernel) (by decide +kernel) W hl (h _ (up _))))))
   ·rw[br c,dg,vo W]at h;show tw (tw (og (C3 (t:=.none) U (h _ H))))
def J5 {x:Addr}(H:R8o ρ x al i j a b s)(W:σ.L al=some (acc.map oV))(hl:acc.length<bx)
  (h:∀ρ',ρ' 0=some (.obj x)->ρ' 1=some (.int (a+s:Nat))->ρ' 2=some (.int (b+s:Nat))->ρ' 3=some (.L al)->gw C ss ρ' (σ.di al ((acc++eql a b s).map oV)) K) :
  gw C (.cons (.a [.T [1,2]] (.T %[.b .add (.l 4) (.l 6),.b .add (.l 5) (.l 6)|0]))
 (.cons (.C (.l 6) (.cons (.expr (.bm .append (.l 3) %[.T %[.str "equal",.l 4,.l 1,.l 5,.l 2|0]|0]))
 .nil) .nil) ss)) ρ σ K:=by
 apply vD [.int (a+s:Nat),.int (b+s:Nat)] ?_ rfl ?_
 ·rw[yb,gm,mf (a:=.l 4) (b:=.l 6) H.r4 H.r6,gm,mf (a:=.l 5) (b:=.l 6) H.r5 H.r6];rfl
 unfold eql at h;apply lC (s≠0) (jM (x:=6) (k:=s) H.r6) (λc=>?_) λc=>?_
 ·rw[br c,cu]at h;show fG (oV ("equal",a,a+s,b,b+s)) H.r3 W (ev5 rfl H.r4 rfl H.r5 rfl) (by rw[ak];show hl) (og (h _ H.r0 rfl rfl H.r3))
 ·rw[cn (gU.mp c),dg,vo W]at h;show og (h _ H.r0 rfl rfl H.r3)
end
def yh {σ:St}{a:Addr}{xs ys:List V}:(σ.di a xs).di a ys=σ.di a ys:=by
 unfold St.di
 congr 1
 funext j
 simp only[upd];split<;>rfl
inductive PI (x:Addr)(σ:St)(al:Addr)(Ls:List T3)(t:Nat)(ρ:Fr)(σ':St):Prop
 |mk (i j:Nat) (acc:List O5):ρ 0=some (.obj x)->ρ 1=some (.int i)->ρ 2=some (.int j)->ρ 3=some (.L al)->(∃ys,σ'=σ.di al ys)->σ'.L al=some (acc.map oV)->acc.length<=2*t->acc++codes i j (Ls.drop t)=codes 0 0 Ls->PI x σ al Ls t ρ σ'
def HU {P:Nat->Option Fn}(hP:P 7=some fn7)(ch:P 6=some fn6)(ck:P 5=some fn5){n:Nat}{σ:St}{x la lb db sj d:Addr}{f:Nat->Option V}{as bs:List Key}{rm:Key->Bool}{js:List Key}{Q:V->St->Prop}
  (hM:MAt σ x la lb db sj as bs rm js) (hI:σ.I x=some (d,f)) (f4:f 4=some .none) (f5:f 5=some .none) (ha:∀k∈as,wu k) (hb:∀k∈bs,wu k) (hs:bs.length<400000) (bd:as.length<400000)
  (h:∀σ' c L g,jV x σ σ'->vd (Flm as bs rm λc=>decide (c∈js)) 0 as.length 0 bs.length L->σ.L c=none->σ'.I x=some (d,g)->(∀m,m≠4->m≠5->g m=f m)->(mrg 0 0 0 L).length<=L.length ->
   σ'.L c=some ((codes 0 0 (mrg 0 0 0 L++[(as.length,bs.length,0)])).map oV)->Q (.L c) σ'):ku P (n+3) 7 [.obj x] σ Q:=by
 apply#[fn7,hP,az 1,az 1,?_];have#[d',f',bv,f1,f2,f7,f8]:=hM.I;have#[rfl,rfl]:d=d'/\f=f':=by rw[hI]at bv;cases bv;apply#[rfl,rfl]
 have h0:frameOf fn7 [.obj x] 0=some (.obj x):=rfl;generalize frameOf fn7 [.obj x]=ρ at h0;apply#[.obj x,h0,x,d,f,.none,rfl,hI,f5,?_];apply#[bz rfl,λal ao=>?_];apply#[.obj x,h0,x,d,f,rfl,hI,?_];have bc:((σ.di al []).jw x d (upd f 5 (.L al))).I x=some (d,upd f 5 (.L al)):=mh;have E2:jV x σ ((σ.di al []).jw x d (upd f 5 (.L al))):=(((Ext.refl σ).di ao).x).jw;have M2:MAt ((σ.di al []).jw x d (upd f 5 (.L al))) x la lb db sj as bs rm js:=by
  apply#[#[d,_,mh,f1,f2,f7,f8],E2.L _ _ hM.La,E2.L _ _ hM.Lb,?_,E2.S _ _ hM.S];have D2:=hM.D.ext ((Ext.refl σ).di (xs:=[]) ao);show D2
 have ai:((σ.di al []).jw x d (upd f 5 (.L al))).L al=some []:=cm _ _ _;generalize ((σ.di al []).jw x d (upd f 5 (.L al)))=σ2 at bc E2 M2 ai;apply#[.obj x,h0,x,rfl,by rw[bc];rfl,?_];apply gmb ch ck M2 bc f4 ha hb hs bd λag c L k3 b bl hc=>?_;have bn:=k3.L _ _ ai;have bg:c≠al:=λq=>by rw[q,ai]at bl;cases bl
 have E3:jV x σ (ag.jw x d (upd (upd f 5 (.L al)) 4 (.L c))):=(E2.trans k3.ext.x).jw;have ar:(mrg 0 0 0 L).length<=L.length:=by
  have:∀(L:List T3) (i j k:Nat),(mrg i j k L).length<=L.length+(if k=0 then 0 else 1):=by
   intro L;induction L with
   |nil =>
    intro i j k;dsimp only[mrg];by_cases c0:k=0
    ·rw[cn c0];show bb _
    ·rw[br c0,br c0];show az _
   |cons t r ih =>
    intro i j k;have#[i',j',k']:=t;dsimp only[mrg];rw[ir];split
    ·have:=ih i j (k+k');by_cases c0:k=0
     ·subst c0;rw[cn rfl];by_cases c1:0+k'=0
      ·rw[cn c1]at this;(show ba .cR .a .cS this)
      ·rw[br c1]at this;(show ba .cR .a .O this)
     ·rw[br c0];rw[br ((ah c0).elim (λq1=>(ba (.u .L .O) .j .bK q1)) λq1=>(ba (.u .L .O) .a .D q1))]at this
      (show ba (.k .A (.a .P .U)) .a .O this)
    ·by_cases c0:k=0
     ·rw[cn c0,cn c0];have:=ih i' j' k';by_cases c1:k'=0
      ·rw[cn c1]at this;(show ba .cR .a .cS this)
      ·rw[br c1]at this;(show ba .cR .a .O this)
     ·rw[br c0,br c0,ir];have:=ih i' j' k';by_cases c1:k'=0
      ·rw[cn c1]at this;(show ba (.k .M (.a .P .U)) .a .cS this)
      ·rw[br c1]at this;(show ba (.k .M (.a .P .U)) .a .O this)
  have:=this L 0 0 0
  rwa [cn rfl]at this
 have be:=b.ok λ_ _ _ _ _ h=>h.within;have bu:L.length<400000:=by have:=yi (lo:=0) be.1 be.2 (λ_ _=>bb _) (bb _);(show iq .cN .b .bH .c2 bd this)
 have z:(ag.jw x d (upd (upd f 5 (.L al)) 4 (.L c))).L c=some ((mrg 0 0 0 L++[(as.length,bs.length,0)]).map mV):=hc;have W:(ag.jw x d (upd (upd f 5 (.L al)) 4 (.L c))).L al=some []:=bn;have ay:(ag.jw x d (upd (upd f 5 (.L al)) 4 (.L c))).I x=some (d,upd (upd f 5 (.L al)) 4 (.L c)):=mh;have hg:∀m,m≠4->m≠5->(upd (upd f 5 (.L al)) 4 (.L c)) m=f m:=λm h4 h5=>(er h4).trans (er h5);generalize (upd (upd f 5 (.L al)) 4 (.L c))=g at hg ay z W E3;generalize ag.jw x d g=ca at ay z W E3;generalize bt:mrg 0 0 0 L++[(as.length,bs.length,0)]=Ls at z;have ax:Ls.length<=400000:=by rw[<- bt,aw,iv];(show iq (.k .M .a4) .b .A .bH ar bu)
 apply#[_,z,?_];apply pk (PI x ca al Ls) ?_ ?_ #[0,0,[],h0,rfl,rfl,rfl,#[[],(vo W).symm],W,bb _,rfl]
 ·intro t v ρ' σ' hv zz;have#[i,j,acc,r0,r1,r2,r3,#[ys,rfl],aj,J,e]:=zz;apply#[(er bg).trans z,λkk cd=>?_];rw[cy]at hv;have#[u,hu,rfl]:=omap hv;have#[ht,cb]:=av.mp hu;rw[cf ht,cb]at e;have#[a,b',s]:=u;apply#[_,BS (t:=(a,b',s)),rfl,?_];apply kO (.str "") rfl ?_;apply JJ (x:=x) (al:=al) (i:=i) (j:=j) (a:=a) (b:=b') (s:=s) (acc:=acc) #[r0,r1,r2,r3,rfl,rfl,rfl] rfl aj (by unfold bx;(show oa .aD [[1,2,1,2]] (.k .B .a4) (.k .A (.m 2 .C)) .M ax J ht)) λcx H2=>?_;have h1:=JI i a j b';apply J5 H2 (acc:=acc++chg i a j b') (cm _ _ _) (by rw[aw];unfold bx;(show zg (.l .L .V) [[1,2,1,2,1]] (.k .C .a4) (.k .A (.m 2 .D)) .aH (.k .B .U) ax J ht h1)) λct q0 q1 q2 q3=>?_;have h2:=J4 a b' s;rw[yh,yh];apply og (cd _ _ #[a+s,b'+s,acc++chg i a j b'++eql a b' s,q0,q1,q2,q3,#[_,rfl],cm _ _ _,?_,?_])
  ·rw[aw,aw];(show pe (.k .aB (.m 2 .Z)) .e (.k .A (.m 2 .D)) (.k .B .U) (.k .C .U) J h1 h2)
  ·rw[<- e,bq,bq];rfl
 ·intro ρ' σ' zz;have#[i,j,acc,r0,r1,r2,r3,#[ys,rfl],aj,J,e]:=zz;apply#[(er bg).trans z,?_];rw[ak,rz]at e;have e:acc++[]=codes 0 0 Ls:=e;rw[dg]at e;apply KW (.L al) r3 ?_;apply h _ al L g #[λa xs e1=>?_,E3.D,E3.S,E3.I] b ao ay hg ar ?_
  ·have:a≠al:=λq=>by rw[q,ao]at e1;cases e1
   show(er this).trans (E3.L a xs e1)
  ·rw[bt,<- e];show aj
end SM
end MP
end
section
namespace MP
open PySem SM
public abbrev ks (xs:List Int):List Key:=xs.map Key.int
def yz.ints {xs ys:List Int}{i j:Nat}:yz (ks xs) (ks ys) i j↔∃c,xs[i]?=some c/\ys[j]?=some c:=by
 rw[yz.iff];constructor
 ·rintro ⟨c,U,W⟩;rw[cy]at U W;have#[x,J,rfl]:=omap U;have#[y,O,e]:=omap W;cases e;apply#[_,J,O]
 ·rintro ⟨c,U,W⟩;apply#[.int c,by rw[cy,U];rfl,by rw[cy,W];rfl]
def P2:=Nat×Nat
abbrev stp (k:Nat)(p q:P2):List O5:=if p=q then [] else [(if k%2=0 then "equal" else if p.1=q.1 then "insert" else if p.2=q.2 then "delete" else "replace",p.1,q.1,p.2,q.2)]
abbrev tG:Nat->P2->List P2->List O5
 |_,_,[]=>[]
 |k,p,q::r=>stp k p q++tG (k+1) q r
abbrev xt (L:List T3):List P2:=L.flatMap λt=>[(t.1,t.2.1),(t.1+t.2.2,t.2.1+t.2.2)]
abbrev vC:Nat->Nat->List T3->Prop
 |_,_,[]=>True
 |i,j,t::r=>i<=t.1/\j<=t.2.1/\vC (t.1+t.2.2) (t.2.1+t.2.2) r
def vC.of:∀{L:List T3} {i j:Nat},L.Pairwise uu->(∀t∈L,i<=t.1/\j<=t.2.1)->vC i j L
 | [],i,j=>λ_ _=>trivial
 |t::L,i,j=>λW h=>by
  have#[O,W]:=lu.mp W;apply#[(h t (.head _)).1,(h t (.head _)).2,vC.of W λu U=>O u U]
def y3 {k i j a b:Nat}(hk:k%2=1)(I:i<=a)(z:j<=b):stp k (i,j) (a,b)=chg i a j b:=by
 unfold stp chg;rw[br (show ¬k%2=0 by show fc (.u .A .O) .y (.e .A .U) hk)];by_cases c1:i=a
 ·subst c1;rw[br (show ¬(i<i/\j<b) by show λW=>(fc .ff .j (.l .A .A) W.1)),br (kg i)];by_cases c2:j=b
  ·subst c2;rw[cn rfl,br (kg j)]
  ·rw[br (λq=>c2 (pg q).2),cn (show j<b by show(ah c2).elim (λW=>(ba .B .a .B W)) λW=>(iq .B .c .A .U z W)),cn rfl]
 ·rw[br (λq=>c1 (pg q).1)];by_cases c2:j=b
  ·subst c2;rw[br (show ¬(i<a/\j<j) by show λW=>(fc .ff .j (.l .A .A) W.2)),cn (show i<a by show(ah c1).elim (λW=>(ba .B .a .B W)) λW=>(iq .B .c .A .U I W)),br (show ¬((i,j).1=(a,j).1) from c1),cn rfl]
  ·rw[cn (show i<a/\j<b by show#[((ah c1).elim (λW=>(ba .B .a .B W)) λW=>(iq .B .c .A .U I W)),((ah c1).elim (λW=>((ah c2).elim (λJ=>(ba .B .a .B J)) λJ=>(iq .B .c .A .U z J))) λW=>(gh .B .c .Z .aH I W))]),br (show ¬((i,j).1=(a,b).1) from c1),br (show ¬((i,j).2=(a,b).2) from c2)]
def C4 {k a b s:Nat}(hk:k%2=0):stp k (a,b) (a+s,b+s)=eql a b s:=by
 unfold stp eql;rw[cn hk];by_cases c:s=0
 ·subst c;show(cn (show(a,b)=(a+0,b+0) from rfl)).trans (cn (show(0:Nat)=0 from rfl)).symm
 ·rw[br c,br (λq=>c (by have:=(pg q).1;(show ba .N [[1,0],[1,-1]] (.e .B .aF) this)))]
def kA:∀{L:List T3} {k i j na nb:Nat},k%2=1->vC i j (L++[(na,nb,0)])->tG k (i,j) (xt L++[(na,nb)])=codes i j (L++[(na,nb,0)])
 | [],k,i,j,na,nb=>λhk h=>by
  show stp k (i,j) (na,nb)++[]=chg i na j nb++([]++[]);rw[y3 hk (show i<=na from h.1) (show j<=nb from h.2.1)];rfl
 |(a,b,s)::L,k,i,j,na,nb=>λhk h=>by
  have W:=kA (L:=L) (k:=k+2) (i:=a+s) (j:=b+s) (na:=na) (nb:=nb) ((Nat.add_mod_right k 2).trans hk) h.2.2;show stp k (i,j) (a,b)++(stp (k+1) (a,b) (a+s,b+s)++tG (k+2) (a+s,b+s) (xt L++[(na,nb)]))=_;rw[y3 hk h.1 h.2.1,C4 (show(k+1)%2=0 by rw[Nat.add_mod,hk]),W];rfl
section
variable {H:Nat->Nat->Prop}{na nb:Nat}{S S':Nat->Nat->Prop}{i j k a b r:Nat}
end
abbrev Gv (C:Cal)(ρ:Fr)(σb:St)(e:Ex)(xs:List V):Prop:=∀(σ:St) (Q:V->St->Prop),Ext σb σ->(∀c σ',Ext σ σ'->σ'.L c=some xs->Q (.L c) σ')->wpE C e ρ σ Q
abbrev Fv (C:Cal)(ρ:Fr)(σb:St)(e:Ex)(xs:List V):Prop:=∀(σ:St) (Q:V->St->Prop),Ext σb σ->(∀c σ',Ext σ σ'->σ.L c=none->σ'.L c=some xs->Q (.L c) σ')->wpE C e ρ σ Q
section
variable {C:Cal}{ρ:Fr}{σb:St}{e f:Ex}{xs ys:List V}
def Fv.g (h:Fv C ρ σb e xs):Gv C ρ σb e xs:=λσ Q E k=>h σ Q E λc σ' W _=>k c σ' W
def Gv.l {x:Nat}{l:Addr}(W:ρ x=some (.L l))(hl:σb.L l=some xs):Gv C ρ σb (.l x) xs:=λσ Q E k=>#[_,W,k l σ (Ext.refl σ) (E.L _ _ hl)]
def Fv.L {es:Exs}(h:∀σ,Ext σb σ->kZ σ ρ es=some xs)(hl:xs.length<=bx):Fv C ρ σb (.L es) xs:=λσ Q E k =>
 dS (Q:=λvs σ=>vs.length<=bx/\∀c,σ.L c=none->Q (.L c) (σ.di c vs)) es (h σ E) #[hl,λc W=>k c _ ((Ext.refl σ).di W) W (cm _ _ _)]
def Gv.cat (z:Gv C ρ σb e xs)(B:Gv C ρ σb f ys)(hl:xs.length+ys.length<=bx):Fv C ρ σb (.b .add e f) (xs++ys):=λσ Q E k =>
 z σ _ E λa O U I=>B O _ (E.trans U) λb σ2 W hb=>#[xs,ys,W.L _ _ I,hb,hl,λc J=>k c _ ((U.trans W).di ((U.trans W).noL J)) ((U.trans W).noL J) (cm _ _ _)]
def AZ {α:Type}{us:List α}{G:St->Prop}{T:V->Fr->List V->St->(Fr->List V->St->Prop)->Prop}{K:Fr->List V->St->Prop}(f:α->V)(g:α->List V)(hg:∀v∈us,(g v).length<=1)(Inv:Fr->Prop){σ:St}(hG:G σ)
  (hT:∀v∈us,∀ρ acc K',Inv ρ->acc.length<us.length->(∀ρ',Inv ρ'->K' ρ' (acc++g v) σ)->T (f v) ρ acc σ K') {ρ:Fr} (O:Inv ρ) (hK:∀ρ,K ρ (us.flatMap g) σ):kY (us.map f) G T ρ [] σ K:=by
 have go:∀(ws vs:List α) (ρ:Fr) (acc:List V),vs++ws=us->acc=vs.flatMap g->acc.length<=vs.length->Inv ρ->kY (ws.map f) G T ρ acc σ K:=by
  intro ws;induction ws with
  |nil =>
   intro vs ρ acc e I _ _;rw[dg]at e;subst e;subst I;apply#[hG,hK ρ]
  |cons w ws ih =>
   intro vs ρ acc e I hl O;have z:w∈us:=by rw[<- e];show dt _ (.head _)
   have hn:us.length=vs.length+(ws.length+1):=by rw[<- e,aw,ir]
   have:=hg w z;apply#[hG,hT w z ρ acc _ O (gh .B .d .J (.e .B (.a .C .Z)) hl hn) λρ' W=>ih (vs++[w]) ρ' _ (by rw[bq];show e) (by rw[I,kr,iw,aE,dg]) (by rw[aw,aw,iv];(show fh (.k .L .S) .b .J (.k .B .U) hl this)) W]
 show go us [] ρ [] rfl rfl (az _) O
abbrev Gives (C:Cal)(σ:St)(ρ:Fr)(cs:Exs)(el:Ex)(r:List V):Prop:=∃ok:Bool,(∀Q:Bool->St->Prop,Q ok σ->wh C cs ρ σ Q)/\if ok then ∃w,evV σ ρ el=some w/\r=[w] else r=[]
def Gives.one {σ:St}{el:Ex}{w:V}(h:evV σ ρ el=some w):Gives C σ ρ .nil el [w]:=#[true,λQ q=>q,w,h,rfl]
def Fv.K {α:Type}{us:List α}{fv:List (Nat×Nat)}{t:Tg}{cs:Exs}{el:Ex}{u:α->V}(g:α->List V)(Inv:Fr->Prop)(J:Gv C ρ σb e (us.map u))(hi:Inv (jQ fv ρ))(I:us.length<=bx)
  (hb:∀σ,Ext σb σ->∀v∈us,∀ρ',Inv ρ'->∀K:Fr->Prop,(∀W,Inv W->Gives C σ W cs el (g v)->K W)->qg t (u v) σ ρ' K):Fv C ρ σb (.K fv (.seq e) t cs (.elt el)) (us.flatMap g):=λσ Q E k=>by
 rw[cX,cW];apply J σ _ E λa O E1 ha=>#[_,ha,?_];have hg:∀v∈us,(g v).length<=1:=λv hv=>by
  have:=hb O (E.trans E1) v hv _ hi (λ_=>(g v).length<=1) λW _ G=>by
   have#[ok,_,h]:=G;cases ok with
   |true=>have#[w,_,e]:=h;rw[e];show az _
   |false=>rw[show g v=[] from h];show bb _
  cases t with
  |v x=>show this
  |T ys=>have#[_,_,_,this]:=this;show this
 apply AZ u g hg Inv ha (λv hv ρ' acc K' ag z hK=>?_) hi λρ' c hc=>k c _ (E1.di (E1.noL hc)) (E1.noL hc) (cm _ _ _);apply hb O (E.trans E1) v hv ρ' ag _ λW U G=>?_;have#[ok,h1,h2]:=G;apply h1 _ ?_;cases ok with
 |true =>
  have#[w,hw,e]:=h2;apply eX (jc el hw #[by show fh .B .b .H .G I z,?_]);rw[<- e];show hK _ U
 |false =>
  apply eY ?_;have:=hK _ U;rw[show g v=[] from h2,dg]at this;show this
end
def nP (n:Nat):iz n 0=0:=by unfold iz jt;rw[br (zv (.ig .O .O) .h)];show Nat.min_zero n
def qA {n i:Nat}(h:i<=n):iz n (i:Int)=i:=by unfold iz jt;rw[br (nt (.ig .L .O) .h),qq];show Nat.min_eq_right h
variable {σ:St}
abbrev dO (t:O5):PyData:=.tuple [.str t.1,.int t.2.1,.int t.2.2.1,.int t.2.2.2.1,.int t.2.2.2.2]
def MQ (t:O5):PyData.eqv (dO t) (dO t)=true:=by simp[dO,PyData.eqv,PyData.eqvAll]
def pU:∀L:List O5,PyData.eqvAll (L.map dO) (L.map dO)=true
 | []=>by simp[PyData.eqvAll]
 |t::L=>by simp[PyData.eqvAll,MQ,pU L]
def JE {n:Nat}{t:O5}(h:PyData.strOk t.1=true):eL σ (n+1) (oV t)=some (dO t):=by
 have e:eL σ n (.str t.1)=some (.str t.1):=by
  cases n<;>show cn h
 show(([V.str t.1,.int t.2.1,.int t.2.2.1,.int t.2.2.2.1,.int t.2.2.2.2].mapM (eL σ n)).map PyData.tuple)=_;rw[mapM_some (g:=λv=>match v with|.str s=>PyData.str s|.int i=>.int i|_=>.none)]
 ·rfl
 ·intro v W;rcases cw.mp W with rfl|W
  ·show e
  ·have:∃i,v=.int i:=by
    rcases cw.mp W with rfl|W
    ·apply#[_,rfl]
    rcases cw.mp W with rfl|W
    ·apply#[_,rfl]
    rcases cw.mp W with rfl|W
    ·apply#[_,rfl]
    ·apply#[_,au.mp W]
   clear W;have#[i,rfl]:=this;cases n<;>rfl
def zB {n:Nat}{a:Addr}{L:List O5}(h:σ.L a=some (L.map oV))(O:∀t∈L,PyData.strOk t.1=true):eL σ (n+2) (.L a)=some (.list (L.map dO)):=by
 show((σ.L a).bind λxs=>(xs.mapM (eL σ (n+1))).map PyData.list)=_;rw[h];show((L.map oV).mapM (eL σ (n+1))).map PyData.list=_;rw[mapM_some (g:=λv=>match v with|.T [.str s,.int a,.int b,.int c,.int d]=>PyData.tuple [.str s,.int a,.int b,.int c,.int d]|_=>.none)]
 ·rw[jf];rfl
 ·intro v W;have#[t,U,rfl]:=eg.mp W;show JE (O t U)
def GL:PyData.strOk "replace"=true:=by decide +kernel
def GK:PyData.strOk "delete"=true:=by decide +kernel
def GJ:PyData.strOk "insert"=true:=by decide +kernel
def GI:PyData.strOk "equal"=true:=by decide +kernel
def MT {i a j b:Nat}:∀t∈chg i a j b,PyData.strOk t.1=true:=by
 unfold chg;intro t W;split at W
 ·rw[au.mp W];show GL
 ·split at W
  ·rw[au.mp W];show GK
  ·split at W
   ·rw[au.mp W];show GJ
   ·cases W
def uZ:∀{L:List T3} {i j:Nat},∀t∈codes i j L,PyData.strOk t.1=true
 | [],_,_,_,h=>by cases h
 |(a,b,s)::L,i,j,t,h=>by
  rcases cq.mp h with h|h
  ·show MT t h
  ·rcases cq.mp h with h|h
   ·unfold eql at h;split at h
    ·cases h
    ·rw[au.mp h];show GI
   ·show uZ t h
def KZ {a b:Addr}{L:List O5}{K:Bool->Prop}(U:σ.L a=some (L.map oV))(hb:σ.L b=some (L.map oV))(W:∀t∈L,PyData.strOk t.1=true)(h:K true):tC (.L a) (.L b) σ K:=by
 apply#[_,_,zB U W,zB hb W,?_];have:PyData.eqv (.list (L.map dO)) (.list (L.map dO))=true:=by
  simp[PyData.eqv,pU]
 rw[this];show h
namespace SM
def told {P:Nat->Option Fn}(h0:P 0=some fn0)(h1:P 1=some fn1)(h2:P 2=some fn2)(h3:P 3=some fn3)(h4:P 4=some fn4)(h5:P 5=some fn5)(h6:P 6=some fn6)(h7:P 7=some fn7){n:Nat}{es:Exs}{ρ:Fr}{la lb:Addr}{xs ys:List Int}{Q:V->St->Prop}{aj:Bool}{ags:List V}(ag:FV aj ags)(z:aj=true->ys.length<200)
  (hE:∀Q:List V->St->Prop,Q (.none::.L la::.L lb::ags) σ->vg (ku P (n+4)) es ρ σ Q) (ao:σ.L la=some (iV xs)) (ai:σ.L lb=some (iV ys)) (I:xs.length<400000) (U:ys.length<400000)
  (h:∀σ' c L,Ext σ σ'->BT (yz (ks xs) (ks ys)) 0 xs.length 0 ys.length L->σ.L c=none->σ'.L c=some ((codes 0 0 (L++[(xs.length,ys.length,0)])).map oV)->Q (.L c) σ'):wpE (ku P (n+4)) (.meth (.n es) 7 .nil) ρ σ Q:=by
 rw[BO];have lx:(ks xs).length=xs.length:=ak _;have O:(ks ys).length=ys.length:=ak _;apply make h0 h1 h2 h3 h4 ag (λe=>by rw[O];show z e) (la:=la) (lb:=lb) (as:=ks xs) (bs:=ks ys) hE (by rw[O3];show ao) (by rw[O3];show ai) (by rw[O];unfold bx;(show fc .aD .a .cN U)) λar x d f db sj E1 B hx f4 f5 _ _ M=>?_;apply#[x,rfl,by rw[hx];rfl,?_];have hj:(λc:Key=>decide (c∈([]:List Key)))=λ_=>false:=by funext c;simp
 apply HU h7 h6 h5 (n:=n+1) M hx f4 f5 (KJ _) (KJ _) (by rw[O];show U) (by rw[lx];show I) λσ2 c L g E2 b hc hg _ _ W=>?_;rw[hj]at b;have J:=b.PQ;rw[I6 J.HY λu hu=>(J.ok.1 u hu).2]at W;rw[lx,O]at W J;show h σ2 c L (E2.ext E1 B) J (E1.noL hc) W
end SM
abbrev pV (p:P2):V:=.T [.int p.1,.int p.2]
section
variable {σ:St}{ρ:Fr}{a b c e:Ex}{m n k l:Nat}
def ev2 (W:evV σ ρ a=some (.int m))(hb:evV σ ρ b=some (.int n)):evV σ ρ (.T %[a,b|0])=some (pV (m,n)):=by
 rw[yb,gm,W,gm,hb];rfl
def J2 (W:evV σ ρ a=some (.int m))(hb:evV σ ρ b=some (.int n))(h:n<=m):evV σ ρ (.b .sub a b)=some (.int (m-n:Nat)):=by
 rw[yc,W,hb];show some (V.int ((m:Int)-n))=_;rw[Int.ofNat_sub h]
def hW {x:Nat}{al:Addr}{xs:List V}{v:V}(W:ρ x=some (.L al))(I:σ.L al=some xs)(J:evV σ ρ e=some (.int n))(U:xs[n]?=some v):evV σ ρ (.sub (.l x) e)=some v:=by
 rw[lP,lz,W,J];show nB σ (.L al) (.int n)=_;show(σ.L al).bind (λxs=>fD xs n)=_;rw[I];show fD xs n=_;unfold fD;rw[rI,cn (nt (.ik .O .L) .h),qq];show U
def KY {p q:P2}{K:Bool->Prop}(h:K (decide (p≠q))):zj .ne (pV p) (pV q) σ K:=by
 apply#[.tuple [.int p.1,.int p.2],.tuple [.int q.1,.int q.2],rfl,rfl,?_];have:(!PyData.eqv (.tuple [.int p.1,.int p.2]) (.tuple [.int q.1,.int q.2]))=decide (p≠q):=by
  have#[a,b]:=p;have#[c,d]:=q;by_cases O:a=c
  ·by_cases J:b=d
   ·simp[PyData.eqv,PyData.eqvAll,O,J]
   ·simp[PyData.eqv,PyData.eqvAll,O,J];(show(ah J).elim (λW=>(ba (.iu .L .P) .w .B W)) λW=>(ba (.iu .L .P) .a .U W))
  ·simp[PyData.eqv,PyData.eqvAll,O];(show .inl ((ah O).elim (λW=>(ba (.iu .L .P) .w .B W)) λW=>(ba (.iu .L .P) .a .U W)))
 show K (!PyData.eqv _ _);rw[this];show h
end
abbrev B6:qa:=(.cons (.a [(.v 3)] (.L %[.T %[.int 0,.int 0|0]|0]))
 (.cons (.each (.T [4,5,6]) (.seq (.l 0)) (.cons (.expr (.bm .extend (.l 3) %[.L %[.T %[.l 4,.l 5|0],.T %[.b .add (.l 4) (.l 6),.b .add (.l 5) (.l 6)|0]|0]|0]))
 .nil))
 (.cons (.expr (.bm .append (.l 3) %[.T %[.l 1,.l 2|0]|0]))
 (.cons (.a [(.v 7)] (.L .nil))
 (.cons (.each (.v 8) (.rng2 (.int 1) (.bf .len %[.l 3|0])) (.cons (.a [(.T [9,10])] (.sub (.l 3) (.b .sub (.l 8) (.int 1))))
 (.cons (.a [(.T [11,12])] (.sub (.l 3) (.l 8)))
 (.cons (.a [(.v 13)] (.I (.c .eq (.b .mod (.l 8) (.int 2)) (.int 0)) (.str "equal") (.I (.c .eq (.l 9) (.l 11)) (.str "insert") (.I (.c .eq (.l 10) (.l 12)) (.str "delete") (.str "replace")))))
 (.cons (.C (.c .ne (.T %[.l 9,.l 10|0]) (.T %[.l 11,.l 12|0])) (.cons (.expr (.bm .append (.l 7) %[.T %[.l 13,.l 9,.l 11,.l 10,.l 12|0]|0]))
 .nil) .nil)
 .nil)))))
 (.cons (.ret (.l 7))
 .nil))))))
def wI {σ:St}{ρ:Fr}{c a b:Ex}{p:Prop}[Decidable p]{x y:Str}(W:evT σ ρ c=some (decide p))(U:evV σ ρ a=some (.str x))(hb:evV σ ρ b=some (.str y)):evV σ ρ (.I c a b)=some (.str (if p then x else y)):=by
 show(evT σ ρ c).bind (λt=>if t then evV σ ρ a else evV σ ρ b)=_;rw[W];by_cases h:p
 ·rw[ic h,cn h];show U
 ·rw[fw h,br h];show hb
def xB {C:Cal}{σ:St}{ρ:Fr}{K:Fl->Fr->St->Prop}{again:Fr->St->Prop}{el tl:Addr}{E:List P2}{acc:List O5}{t:Nat}{p q:P2}(O:ρ 3=some (.L el))(J:ρ 7=some (.L tl))(B:σ.L el=some (E.map pV))(I:σ.L tl=some (acc.map oV))(U:acc.length<bx)
  (hp:E[t]?=some p) (z:E[t+1]?=some q) (h:∀ρ',ρ' 3=some (.L el)->ρ' 7=some (.L tl)->again ρ' (σ.di tl ((acc++stp (t+1) p q).map oV))) :
  gw C (.cons (.a [(.T [9,10])] (.sub (.l 3) (.b .sub (.l 8) (.int 1))))
 (.cons (.a [(.T [11,12])] (.sub (.l 3) (.l 8)))
 (.cons (.a [(.v 13)] (.I (.c .eq (.b .mod (.l 8) (.int 2)) (.int 0)) (.str "equal") (.I (.c .eq (.l 9) (.l 11)) (.str "insert") (.I (.c .eq (.l 10) (.l 12)) (.str "delete") (.str "replace")))))
 (.cons (.C (.c .ne (.T %[.l 9,.l 10|0]) (.T %[.l 11,.l 12|0])) (.cons (.expr (.bm .append (.l 7) %[.T %[.l 13,.l 9,.l 11,.l 10,.l 12|0]|0]))
 .nil) .nil)
 .nil)))) (upd ρ 8 (.int (t+1:Nat))) σ (wk again K):=by
 have at_:∀{i:Nat} {p:P2},E[i]?=some p->(E.map pV)[i]?=some (pV p):=λ{i p} h=>by rw[cy,h];rfl
 apply vD [.int p.1,.int p.2] (hW (n:=t) O B ((J2 (a:=.l 8) (b:=.int 1) (m:=t+1) (n:=1) rfl rfl (Nat.le_add_left 1 t)).trans (by rw[Nat.add_sub_cancel])) (at_ hp)) rfl ?_;apply vD [.int q.1,.int q.2] (hW (n:=t+1) O B rfl (at_ z)) rfl ?_;have W:evT σ (gv [11,12] [.int q.1,.int q.2] (gv [9,10] [.int p.1,.int p.2] (upd ρ 8 (.int (t+1:Nat))))) (.c .eq (.b .mod (.l 8) (.int 2)) (.int 0))=some (decide ((t+1)%2=0)):=
  nC (m:=(t+1)%2) (n:=0) (by
   show oz ((0:Int)<2) (V.int (((t+1:Nat):Int)%2))=_;unfold oz;rw[cn (by decide)];show dj (λi=>some (V.int i)) (Int.natCast_emod (t+1) 2).symm) rfl
 apply kO _ (wI W rfl (wI (nC (a:=.l 9) (b:=.l 11) rfl rfl) rfl (wI (nC (a:=.l 10) (b:=.l 12) rfl rfl) rfl rfl))) ?_;apply jc _ (ev2 (m:=p.1) (n:=p.2) rfl rfl) (jc _ (ev2 (m:=q.1) (n:=q.2) rfl rfl) (KY ?_));unfold stp at h;by_cases c:p=q
 ·rw[cn c,dg,vo I]at h;rw[fw (λn=>n c)];show eY (og (h _ O J))
 ·rw[br c,cu]at h;rw[ic c];show eX (fG (oV _) J I (ev5 rfl rfl rfl rfl rfl) (by rw[ak];show U) (tw (og (h _ O J))))
inductive PK (σ:St)(lk el:Addr)(na nb:Nat)(L:List T3)(t:Nat)(ρ:Fr)(σ':St):Prop
 |mk:ρ 0=some (.L lk)->ρ 1=some (.int na)->ρ 2=some (.int nb)->ρ 3=some (.L el)->Ext σ σ'->σ'.L el=some (((0,0)::xt (L.take t)).map pV)->PK σ lk el na nb L t ρ σ'
inductive PF (σ:St)(el tl:Addr)(E:List P2)(t:Nat)(ρ:Fr)(σ':St):Prop
 |mk (acc:List O5) (p:P2):ρ 3=some (.L el)->ρ 7=some (.L tl)->Ext σ σ'->σ'.L el=some (E.map pV)->σ'.L tl=some (acc.map oV)->acc.length<=t->E[t]?=some p->acc++tG (t+1) p (E.drop (t+1))=tG 1 (0,0) (E.drop 1)->PF σ el tl E t ρ σ'
def jN:∀{L:List T3},(xt L).length=2*L.length
 | []=>rfl
 |t::L=>by
  have:=jN (L:=L);show(xt L).length+2=_;rw[this,ir];rfl
def DY {P:Nat->Option Fn}{k n na nb:Nat}(hk:P k=some #[3,[],B6]){σ:St}{lk:Addr}{L:List T3}{Q:V->St->Prop}(hL:σ.L lk=some (L.map tV))(hl:L.length<100000)(hm:vC 0 0 (L++[(na,nb,0)]))
  (h:∀c σ',Ext σ σ'->σ.L c=none->σ'.L c=some ((codes 0 0 (L++[(na,nb,0)])).map oV)->Q (.L c) σ'):ku P (n+1) k [.L lk,.int na,.int nb] σ Q:=by
 apply#[_,hk,az 3,az 3,?_];apply vE [pV (0,0)] rfl (bz rfl) λel aj=>?_;apply#[_,rfl,_,((Ext.refl σ).di (xs:=[pV (0,0)]) aj).L _ _ hL,?_];have bv:lk≠el:=λq=>by rw[q,aj]at hL;cases hL
 apply pk (PK σ lk el na nb L) ?_ ?_ #[rfl,rfl,rfl,rfl,(Ext.refl σ).di aj,cm _ _ _]
 ·intro t v ρ' σ' hv zz;have#[r0,r1,r2,r3,E,he]:=zz;apply#[E.L _ _ hL,λkk ay=>?_];rw[cy]at hv;have#[u,hu,rfl]:=omap hv;have#[ht,bn]:=av.mp hu;have#[a,b,s]:=u;apply#[_,rfl,rfl,?_];apply#[_,r3,(by show(σ'.L el).isSome=true;rw[he];rfl),?_];rw[nq,G0];apply dS (Q:=_) _ (vs:=[pV (a,b),pV (a+s,b+s)]) ?_ #[bz rfl,λc hc=>?_]
  ·rw[gm,ev2 (a:=.l 4) (b:=.l 5) (m:=a) (n:=b) rfl rfl,gm,ev2 (mf (a:=.l 4) (b:=.l 6) (m:=a) (n:=s) rfl rfl) (mf (a:=.l 5) (b:=.l 6) (m:=b) (n:=s) rfl rfl)];rfl
  have bd:el≠c:=λq=>by rw[q,hc]at he;cases he
  apply#[_,_,bd,(er bd).trans he,cm _ _ _,?_,rfl,?_]
  ·have:=jN (L:=L.take t);simp only[ak,ir,List.length_nil,this,fb];unfold bx;(show oa (.k (.a (.a (.m 2 .A) .U) (.a .a3 .U)) .V) [[1,2,2,2]] (.l .B (.n 100000)) .M .J hl ht (Ar.ji _ _).1)
  apply ay _ _ #[r0,r1,r2,r3,(E.di (E.noL hc)).di aj,?_];apply(cm _ _ _).trans (dj some ?_);rw[dz ht,bn];show _=((0,0)::(L.take t++[(a,b,s)]).flatMap _).map pV;rw[kr,<- aO,cu];rfl
 intro ρ' σ' zz;have#[r0,r1,r2,r3,E,he]:=zz;apply#[E.L _ _ hL,?_];rw[ak,fo]at he;have ar:=jN (L:=L);apply fG (pV (na,nb)) r3 he (ev2 r1 r2) (by rw[ak,ir,ar];unfold bx;(show fc (.l (.a (.m 2 .A) .U) .V) [[1,2]] (.l .A (.n 100000)) hl)) ?_;rw[show((0,0)::xt L).map pV++[pV (na,nb)]=((0,0)::(xt L++[(na,nb)])).map pV by rw[<- aO,cu];rfl];have E2:=E.di (c:=el) (xs:=((0,0)::(xt L++[(na,nb)])).map pV) aj;have z:(σ'.di el (((0,0)::(xt L++[(na,nb)])).map pV)).L el=some (((0,0)::(xt L++[(na,nb)])).map pV):=cm _ _ _;generalize σ'.di el (((0,0)::(xt L++[(na,nb)])).map pV)=σ2 at E2 z;apply vE [] rfl (bb _) λtl bc=>?_;have ai:el≠tl:=λq=>by rw[q,bc]at z;cases z
 have ag:=E2.noL bc;have O:((0,0)::(xt L++[(na,nb)])).length=2*L.length+2:=by rw[ir,aw,iv,ar]
 have hc:=kA (k:=1) rfl hm;have hd:((0,0)::(xt L++[(na,nb)])).drop 1=xt L++[(na,nb)]:=rfl;rw[<- hd]at hc;have be:((0,0)::(xt L++[(na,nb)]))[0]?=some (0,0):=rfl;generalize (0,0)::(xt L++[(na,nb)])=EE at z O hc be;apply#[_,r3,_,(er ai).trans z,1,((EE.map pV).length:Int),rfl,rfl,by decide,by rw[ak,O];(show(Ar.nab _).elim (λq1=>(iq .a0 [[1,2,1]] (.l .B (.n 100000)) (.ie .L (.t (.a .aD .W))) hl q1.2)) λq1=>(ba .a0 .a (.ie .L (.g (.t (.a .aD .W)))) q1.2)),?_];apply pk (PF σ el tl EE) ?_ ?_ #[[],(0,0),r3,rfl,E2.di ag,(er ai).trans z,cm _ _ _,bb _,be,rfl]
 ·intro t v bl bg hv zz;have#[acc,p,q3,q7,E3,g1,g2,ax,hp,e]:=zz;apply#[trivial,λkk ay=>?_];have#[ao,rfl]:=gA (a:=1) hv;rw[ak]at ao;have hq:EE[t+1]?=some EE[t+1]:=aq (ba .V .a (.l (.a .U .A) .B) ao);rw[cf (i:=t+1) (ba .V .a (.l (.a .U .A) .B) ao)]at e;generalize EE[t+1]=q at hq e;rw[Nat.add_comm 1 t];apply xB q3 q7 g1 g2 (by unfold bx;(show zg .aD [[1,2,1,1,1]] (.l .B (.n 100000)) (.e .C (.a .aD .W)) .aF (.l (.a .U .D) .C) hl O ax ao)) hp hq λbu p3 p7=>?_;apply ay _ _ #[acc++stp (t+1) p q,q,p3,p7,E3.di ag,(er ai).trans g1,cm _ _ _,?_,hq,?_]
  ·rw[aw];have:(stp (t+1) p q).length<=1:=by
    unfold stp;split
    ·show bb _
    ·show az _
   (show fh (.k .L .S) .b .J (.k .B .U) ax this)
  ·rw[<- e,bq];rfl
 intro bl bg zz;have#[acc,p,q3,q7,E3,g1,g2,ax,hp,e]:=zz;apply#[trivial,?_];have bt:(te 1 ((EE.map pV).length:Int)).length=EE.length-1:=(dQ (a:=1) (b:=(EE.map pV).length)).trans (by rw[ak]);rw[bt,show EE.length-1+1=EE.length by show ba .aG .i .aG (aa (ba .I .y (.e .A (.a .aD .W)) O)),rz]at e;have e:acc++[]=_:=e;rw[dg]at e;apply KW (.L tl) q7 (h _ _ E3 ag ?_);rw[<- hc,<- e];show g2
variable {L:List T3}
abbrev Bef (s r:T3):Prop:=r.2.2<s.2.2\/(r.2.2=s.2.2/\(s.1<r.1\/(s.1=r.1/\s.2.1<r.2.1)))
abbrev Cmp (s r:T3):Prop:=uu s r\/uu r s
def BT.wO {H:Nat->Nat->Prop}{alo ahi blo bhi:Nat}(h:BT H alo ahi blo bhi L):∀r:T3,0<r.2.2->dF H alo ahi blo bhi r.1 r.2.1 r.2.2->(∀s∈L,Bef s r->Cmp s r)->r∈L:=by
 induction h with
 |nil q =>
  intro r p R _;have:=R.ai;have:=R.ia;have:=R.bj;have:=R.jb;show(q r.1 r.2.1 (by(rename_i z3 z2 W;show ba .A .a .A z3)) (by(rename_i z2 W;show fh .B .b .a6 .c5 p z2)) (by(rename_i W;show ba .A .a .A W)) (fh .B .b .a6 .c5 p this) (R.eq 0 p)).elim
 | @node alo ahi blo bhi i j k L R' B _ _ J O =>
  intro r p R z;have m:=B.max _ _ _ p R;by_cases e:r=(i,j,k)
  ·rw[e];show dt _ (.head _)
  have hb:Bef (i,j,k) r:=by
   rcases m with m|⟨U,m|⟨m2,m⟩⟩
   ·show .inl m
   ·show .inr #[U,.inl m]
   ·show .inr #[U,.inr #[m2,Nat.lt_of_le_of_ne m λq=>e (zc m2.symm (zc q.symm U))]]
  rcases z _ (dt _ (.head _)) hb with a|a
  ·have a:i+k<=r.1/\j+k<=r.2.1:=a;show dt _ (.tail _ (O r p #[a.1,R.ia,a.2,R.jb,R.eq] λs I=>z s (dt _ (.tail _ I))))
  ·have a:r.1+r.2.2<=i/\r.2.1+r.2.2<=j:=a;show dk _ (J r p #[R.ai,a.1,R.bj,a.2,R.eq] λs I=>z s (dk _ I))
def qY (h:L.Pairwise uu){s r:T3}(I:s∈L)(hr:r∈L)(O:s≠r):Cmp s r:=by
 induction L with
 |nil=>cases I
 |cons x L ih =>
  have#[B,h2]:=lu.mp h;rcases cw.mp I with z|U
  ·rcases cw.mp hr with J|W
   ·show(O (z.trans J.symm)).elim
   ·show .inl (z▸B _ W)
  ·rcases cw.mp hr with J|W
   ·show .inr (J▸B _ U)
   ·show ih h2 U W
def BT.fits {H:Nat->Nat->Prop}{alo ahi blo bhi:Nat}(h:BT H alo ahi blo bhi L){r:T3}(p:0<r.2.2)(R:dF H alo ahi blo bhi r.1 r.2.1 r.2.2){K:T3->Prop}(W:∀s,K s->s∈L/\s≠r)(O:∀s∈L,Bef s r->K s):(∀s,K s->Cmp s r)↔r∈L:=
 #[λc=>h.wO r p R λs U b=>c s (O s U b),λhr s ks=>qY h.ok.2.1 (W s ks).1 hr (W s ks).2]
def jG {α W:Type}{f:α->W}{g:W->α}(O:∀a,g (f a)=a){U:List W}{l:List α}(h:U.Perm (l.map f)):∃s:List α,s.Perm l/\U=s.map f:=by
 apply#[U.map g,?_,?_]
 ·have:=h.map g;rw[jf,show g ∘ f=id from funext O,List.map_id]at this;show this
 ·rw[jf];apply(List.map_id _).symm.trans (List.map_congr_left λx J=>?_);have#[a,_,rfl]:=eg.mp (h.mem_iff.mp J);show(dj f (O a)).symm
def D4 {A:List T3}(I:L.Pairwise uu)(pos:∀t∈L,0<t.2.2)(hA:A.Pairwise λa b=>a.1<=b.1)(nd:A.Nodup)(J:∀t,t∈A↔t∈L):A=L:=by
 have U:L.Pairwise λa b:T3=>a.1<b.1:=rh (λ{a b} W _ h=>by have:=pos a W;unfold uu at h;(show fh .B .b .c5 .a6 h.1 this)) I;have O:L.Nodup:=U.imp λh e=>by rw[e]at h;show kg _ h
 apply List.Perm.eq_of_pairwise (le:=λa b:T3=>a.1<=b.1) (λa b W hb h1 h2=>?_) hA (U.imp λh=>nv h) ((List.perm_ext_iff_of_nodup nd O).mpr J);have W:=(J a).mp W;by_cases e:a=b
 ·show e
 ·have p1:=pos a W;have z:=pos b hb;rcases qY I W hb e with c|c<;>(unfold uu at c;(first|show False.elim (oa .ff .m .A .a6 (.k .Q .A) h2 p1 c.1)|show False.elim (oa .ff .m .A .a6 (.k .Q .A) h1 z c.1)|omega))
def jO {C:Cal}{ρ:Fr}{σ:St}{K:Fl->Fr->St->Prop}{x:Nat}{e:Ex}{b ss:qa}{n:Nat}(Inv:Nat->Fr->St->Prop)(h2:evV σ ρ e=some (.int n))(z:n<2^39)(h0:Inv 0 ρ σ)
  (step:∀i ρ' σ' (kk:Fr->St->Prop) (K':Fl->Fr->St->Prop),i<n->Inv i ρ' σ'->(∀W σ2,Inv (i+1) W σ2->kk W σ2)->gw C b (upd ρ' x (.int (i:Nat))) σ' (wk kk K'))
  (fin:∀ρ' σ',Inv n ρ' σ'->gw C ss ρ' σ' K):gw C (.cons (.each (.v x) (.rng1 e) b) ss) ρ σ K:=by
 apply jc (Q:=_) e h2 #[n,rfl,by show(Ar.nab _).elim (λU=>(iq .a0 .b (.l .B (.n (2^39))) (.ie .L .P) z U.2)) λU=>(ba .a0 .a (.ie .L .S) U.2),?_];apply pk Inv ?_ (λρ' σ' I=>?_) h0
 ·intro i v ρ' σ' J I;have#[O,rfl]:=gA (a:=0) J;rw[ky]at O ⊢;apply#[trivial,λkk hk=>step _ _ _ kk _ O I hk]
 ·have e:(te 0 (n:Int)).length=n:=dQ (a:=0);rw[e]at I;apply#[trivial,fin _ _ I]
def qe {σ:St}{ρ:Fr}{α:Type}{u:α->V}{x:Nat}{l:Addr}{zs:List α}(W:ρ x=some (.L l))(hl:σ.L l=some (zs.map u)):evV σ ρ (.bf .len %[.l x|0])=some (.int zs.length):=by
 rw[wW,gm,lz,W];show EN σ .len [.L l]=_;rw[EM,hl];show some (V.int ((zs.map u).length:Nat))=_;rw[ak]
section
variable {σ:St}{ρ:Fr}{a b:Ex}{m n:Nat}
def s7 (W:evV σ ρ a=some (.int m))(hb:evV σ ρ b=some (.int n)):evT σ ρ (.c .le a b)=some (decide (m<=n)):=by
 rw[yd,W,hb];show dj some (ph.mpr Int.ofNat_le)
def s6 {p q:Prop}[Decidable p][Decidable q](W:evT σ ρ a=some (decide p))(hb:evT σ ρ b=some (decide q)):evT σ ρ (.or a b)=some (decide (p\/q)):=by
 rw[MN,W];by_cases h:p
 ·rw[ic h];show dj some (ic (.inl h)).symm
 ·rw[fw h];show hb.trans (dj some (ph.mpr #[.inr,λx=>x.resolve_left h]))
def EK {p:Prop}[Decidable p](W:evT σ ρ a=some (decide p)):evT σ ρ (.not a)=some (decide (¬p)):=by
 rw[J1,W];show dj some (by by_cases h:p<;>simp[h])
end
def EL {σ:St}{ρ:Fr}{la lb:Addr}{xs ys:List Int}{x0 x1 x2 i j s:Nat}(W:σ.L la=some (iV xs))(U:σ.L lb=some (iV ys))(J:ρ 0=some (.L la))(B:ρ 1=some (.L lb))(O:ρ x0=some (.int i))(I:ρ x1=some (.int j))(rs:ρ x2=some (.int s)) :
  evT σ ρ (.and (.c .lt (.b .add (.l x0) (.l x2)) (.bf .len %[.l 0|0])) (.and (.c .lt (.b .add (.l x1) (.l x2)) (.bf .len %[.l 1|0])) (.c .eq (.sub (.l 0) (.b .add (.l x0) (.l x2))) (.sub (.l 1) (.b .add (.l x1) (.l x2))))))=some (decide (i+s<xs.length/\j+s<ys.length/\xs[i+s]?=ys[j+s]?)):=by
 by_cases c1:i+s<xs.length
 ·by_cases c2:j+s<ys.length
  ·have e1:xs[i+s]?=some xs[i+s]:=aq c1;have z:ys[j+s]?=some ys[j+s]:=aq c2;have v1:=hW (e:=.b .add (.l x0) (.l x2)) (v:=.int xs[i+s]) J W (mf O rs) (by rw[cy,e1];rfl);have v2:=hW (e:=.b .add (.l x1) (.l x2)) (v:=.int ys[j+s]) B U (mf I rs) (by rw[cy,z];rfl);have v3:evT σ ρ (.c .eq (.sub (.l 0) (.b .add (.l x0) (.l x2))) (.sub (.l 1) (.b .add (.l x1) (.l x2))))=some (decide (xs[i+s]?=ys[j+s]?)):=by
    rw[yd,v1,v2];show some (decide (xs[i+s]=ys[j+s]))=_;rw[e1,z];show dj some (ph.mpr (Option.some_inj).symm)
   show wt (wc (mf O rs) (qe J W)) (wt (wc (mf I rs) (qe B U)) v3)
  ·rw[fw (λq=>c2 q.2.1),lR,wc (mf (a:=.l x0) (b:=.l x2) O rs) (qe J W),ic c1];show evT σ ρ _=_;rw[lR,wc (mf (a:=.l x1) (b:=.l x2) I rs) (qe B U),fw c2];rfl
 ·rw[fw (λq=>c1 q.1),lR,wc (mf (a:=.l x0) (b:=.l x2) O rs) (qe J W),fw c1];rfl
structure i4 (xs ys:List Int)(i j n:Nat):Prop where
 li:i+n<=xs.length
 lj:j+n<=ys.length
 eq:∀t,t<n->xs[i+t]?=ys[j+t]?
def i4.nil {xs ys:List Int}{i j:Nat}(O:i<=xs.length)(U:j<=ys.length):i4 xs ys i j 0:=#[O,U,λt W=>absurd W (xg _)]
def i4.grow {xs ys:List Int}{i j s:Nat}(h:i4 xs ys i j s)(c:i+s<xs.length/\j+s<ys.length/\xs[i+s]?=ys[j+s]?):i4 xs ys i j (s+1):=
 ⟨by show gu .L .a .K c.1,by show gu .L .a .K c.2.1,λt W=>by
  rcases lq (Nat.le_of_lt_succ W) with q|rfl
  ·show h.eq t q
  ·show c.2.2⟩
def i4.stop {xs ys:List Int}{i j s n:Nat}(c:¬(i+s<xs.length/\j+s<ys.length/\xs[i+s]?=ys[j+s]?))(h:i4 xs ys i j n):n<=s:=by
 rcases pf s n with q|q
 ·show absurd #[by have:=h.li;(show gh .K .b .W .b9 q this),by have:=h.lj;(show gh .K .b .W .b9 q this),h.eq s q] c
 ·show q
structure dG (xs ys:List Int)(R:List T3)(i j s:Nat):Prop where
 nd:R.Nodup
 mem:∀r,r∈R↔0<r.2.2/\i4 xs ys r.1 r.2.1 r.2.2/\(r.1<i\/(r.1=i/\(r.2.1<j\/(r.2.1=j/\r.2.2<=s))))
 len:R.length<=(i*63+j)*63+s
section
variable {xs ys:List Int}{R:List T3}{i j s:Nat}
def dG.start:dG xs ys [] 0 0 0:=#[.nil,λr=>#[λh=>(nomatch h),λh=>by show False.elim (h.2.2.elim (λU=>(fc .ff .j .bK U)) λU=>(U.2.elim (λW=>(fc .ff .j .bK W)) λW=>(sO .ff .c .D (.k .A .O) h.1 W.2)))],bb _]
def dG.grow (h:dG xs ys R i j s)(r:i4 xs ys i j (s+1)):dG xs ys (R++[(i,j,s+1)]) i j (s+1):=by
 apply#[List.nodup_append.mpr #[h.nd,jk _ _,λa O b hb e=>?_],λt=>?_,?_]
 ·subst e;have rfl:=au.mp hb;have:=((h.mem _).mp O).2.2;simp only at this
  (show this.elim (λU=>(fc .ff .j (.l .A .A) U)) λU=>(U.2.elim (λW=>(fc .ff .j (.l .A .A) W)) λW=>(fc .ff .j (.k .M .A) W.2)))
 ·rw[cq,h.mem,au];constructor
  ·rintro (⟨p,q,z⟩|rfl)
   ·apply#[p,q,z.imp id λu=>#[u.1,u.2.imp id λv=>#[v.1,Nat.le_succ_of_le v.2]]]
   ·apply#[Nat.succ_pos _,r,.inr #[rfl,.inr #[rfl,az _]]]
  ·rintro ⟨p,q,z⟩;by_cases e:t=(i,j,s+1)
   ·show .inr e
   ·apply .inl #[p,q,z.imp id λu=>#[u.1,u.2.imp id λv=>#[v.1,?_]]];rcases lq v.2 with w|w
    ·show Nat.le_of_lt_succ w
    ·show(e (zc u.1 (zc v.1 w))).elim
 ·rw[aw,iv];have:=h.len;(show lA (.k .M (.a .aJ .Z)) .a (.k .A (.a .aJ .D)) this)
def dG.nextJ (h:dG xs ys R i j s)(hs:s<=63)(m:∀n,i4 xs ys i j n->n<=s):dG xs ys R i (j+1) 0:=by
 apply#[h.nd,λt=>?_,by have:=h.len;(show gh (.k .A (.a (.r (.a (.r .B 63) .S) 63) .O)) .b .cM (.k .A (.a .aJ .D)) hs this)];rw[h.mem];constructor
 ·rintro ⟨p,q,z⟩;apply#[p,q,by show kn λq1=>(z.elim (λW=>(iq .ff .c .b2 .B (uq.mp q1).1 W)) λW=>((cv.mp (uq.mp q1).2).elim (λI=>((ah I).elim (λJ=>(iq .ff [[0,-1,1]] .C .B W.1 J)) λJ=>(iq .ff .c .C .U W.1 J))) λI=>(W.2.elim (λJ=>(iq .ff .c (.g .A .P) .B (uq.mp I).1 J)) λJ=>(iq .ff .c (.g .A .P) .C (uq.mp I).1 J.1))))]
 ·rintro ⟨p,q,z⟩;apply#[p,q,?_];by_cases e:t.1=i/\t.2.1=j
  ·have:=m t.2.2 (by rw[<- e.1,<- e.2];show q)
   (show .inr #[(ba .C .i .C e.1),(.inr #[(ba .C .i .C e.2),(ba .A .a .A this)])])
  ·(show kn λq1=>(z.elim (λW=>(iq .ff .c .b2 .B (uq.mp q1).1 W)) λW=>(W.2.elim (λI=>((cv.mp e).elim (λJ=>((ah J).elim (λq5=>(iq .ff [[0,-1,1]] .C .B W.1 q5)) λq5=>(iq .ff .c .C .U W.1 q5))) λJ=>((ah J).elim (λq5=>((cv.mp (uq.mp q1).2).elim (λq6=>((ah q6).elim (λq7=>(iq .ff [[0,-1,1]] .C .B W.1 q7)) λq7=>(iq .ff .c .C .U W.1 q7))) λq6=>(iq .ff .c .B .b2 q5 (uq.mp q6).1))) λq5=>(iq .ff .c .aM .U I q5)))) λI=>(sO .ff .c .D (.k .A .O) p I.2))))
def dG.NU (h:dG xs ys R i ys.length 0)(hs:ys.length<=63):dG xs ys R (i+1) 0 0:=by
 apply#[h.nd,λt=>?_,by have:=h.len;(show fh (.k .A (.a (.r (.a (.r .P 63) .O) 63) .O)) [[1,63,1]] .aS (.k .A (.a .aJ .O)) hs this)];rw[h.mem];constructor
 ·rintro ⟨p,q,z⟩;apply#[p,q,by show .inl (z.elim (λW=>(ba .aM .a .B W)) λW=>(ba .aM .a .C W.1))]
 ·rintro ⟨p,q,z⟩;have:=q.lj;apply#[p,q,by show kn λW=>((cv.mp (uq.mp W).2).elim (λq2=>((ah q2).elim (λI=>(iq .ff .c .b2 .B (uq.mp W).1 I)) λI=>(z.elim (λJ=>(iq .ff .c .B (.l .B .M) I J)) λJ=>(J.2.elim (λU=>(fc .ff .j .bK U)) λU=>(sO .ff .c .D (.k .A .O) p U.2))))) λq2=>(oa .ff .m .D (.k .aF .C) (.g .B .C) p this (uq.mp q2).1))]
def dG.fin (h:dG xs ys R xs.length 0 0)(r:T3):r∈R↔0<r.2.2/\i4 xs ys r.1 r.2.1 r.2.2:=by
 rw[h.mem];constructor
 ·rintro ⟨p,q,z⟩;apply#[p,q]
 ·rintro ⟨p,q⟩;have:=q.li;apply#[p,q,by show .inl (fh .B .b .a6 .c5 p this)]
end
public abbrev EJ (r s:T3):Prop:=(r.1+r.2.2<=s.1/\r.2.1+r.2.2<=s.2.1)\/(s.1+s.2.2<=r.1/\s.2.1+s.2.2<=r.2.1)
abbrev fB (K:List T3)(r:T3):Bool:=K.all λs=>decide (EJ r s)
abbrev grK (K:List T3)(r:T3):List T3:=if fB K r=true then K++[r] else K
abbrev grS (S:List T3):List T3:=S.foldl grK []
def wU {K:List T3}{r:T3}:fB K r=true↔∀s∈K,EJ r s:=by
 unfold fB;rw[jy];apply#[λh s W=>cg (h s W),λh s W=>ic (h s W)]
def IV (S:List T3):(grS S).length<=S.length:=by
 have:∀(S K:List T3),(S.foldl grK K).length<=K.length+S.length:=λS=>by
  induction S with
  |nil=>show λK=>az _
  |cons r S W =>
   intro K;rw[List.foldl_cons,ir];have:=W (grK K r);have U:(grK K r).length<=K.length+1:=by
    unfold grK;split
    ·rw[aw];show az _
    ·show dI _
   (show gh (.k .A .aQ) .b (.k .A .aM) (.k .D .P) this U)
 have h:=this S []
 rwa [List.length_nil,ky]at h
def wQ {S:List T3}{p:T3->Bool}(h:∀t (U:t<S.length),fB ((S.take t).filter p) S[t]=p S[t]):grS S=S.filter p:=by
 have:∀t,t<=S.length->grS (S.take t)=(S.take t).filter p:=λt=>by
  induction t with
  |zero=>show λ_=>rfl
  |succ t O =>
   intro U;have W:t<S.length:=U;rw[dz W,fP];unfold grS at O ⊢;rw[List.foldl_append,O (nv U)];show grK _ _=_;unfold grK;rw[h t W];cases q:p S[t] with
   |true=>rw[cn rfl,j7 q];rfl
   |false=>rw[br gq,j8 (by rw[q];show gq)];show(dg _).symm
 have:=this S.length (az _)
 rwa [fo]at this
end MP
end
section
namespace MP
namespace R9
open PySem SM
variable {ρ:Fr}
abbrev eP (r:T3):List Int:=[-(r.2.2:Nat),r.1,r.2.1]
abbrev jJ (r:T3):List Int:=[r.1,r.2.1,r.2.2]
structure RK (ρ:Fr)(la lb lr:Addr):Prop where
 r0:ρ 0=some (.L la)
 r1:ρ 1=some (.L lb)
 r2:ρ 2=some (.L lr)
structure Wd (σ:St)(la lb:Addr)(xs ys:List Int):Prop where
 a:σ.L la=some (iV xs)
 b:σ.L lb=some (iV ys)
 na:xs.length<=63
 nb:ys.length<=63
def Wd.ext {σ σ':St}{la lb:Addr}{xs ys:List Int}(h:Wd σ la lb xs ys)(E:Ext σ σ'):Wd σ' la lb xs ys:=#[E.L _ _ h.a,E.L _ _ h.b,h.na,h.nb]
section
variable {C:Cal}{σ:St}{la lb lr kl:Addr}{xs ys:List Int}{K:Fl->Fr->St->Prop}
public abbrev rV (R:List T3):List V:=R.map λr=>iT (eP r)
public abbrev kV (R:List T3):List V:=R.map λr=>iT (jJ r)
inductive PE (σ:St)(la lb lr:Addr)(xs ys:List Int)(i j:Nat)(n:Nat)(ρ:Fr)(σ':St):Prop
 |mk (s:Nat) (R:List T3):n=xs.length-(i+s)->RK ρ la lb lr->ρ 3=some (.int i)->ρ 4=some (.int j)->ρ 5=some (.int s)->σ'=σ.di lr (rV R)->i4 xs ys i j s->dG xs ys R i j s->PE σ la lb lr xs ys i j n ρ σ'
def AU (W:Wd σ la lb xs ys)(ai:σ.L lr=none){i j:Nat}{R:List T3}(hi:i<xs.length)(hj:j<ys.length)(H:RK ρ la lb lr)(r3:ρ 3=some (.int i))(r4:ρ 4=some (.int j))(r5:ρ 5=some (.int 0))(I:dG xs ys R i j 0)
  (h:∀ρ' J,RK ρ' la lb lr->ρ' 3=some (.int i)->dG xs ys J i (j+1) 0->K .next ρ' (σ.di lr (rV J))) :
  wpS C (.loop (.and (.c .lt (.b .add (.l 3) (.l 5)) (.bf .len %[.l 0|0])) (.and (.c .lt (.b .add (.l 4) (.l 5)) (.bf .len %[.l 1|0])) (.c .eq (.sub (.l 0) (.b .add (.l 3) (.l 5))) (.sub (.l 1) (.b .add (.l 4) (.l 5)))))) (.cons (.aug 5 .add (.int 1))
 (.cons (.expr (.bm .append (.l 2) %[.T %[.neg (.l 5),.l 3,.l 4|0]|0]))
 .nil))) ρ (σ.di lr (rV R)) K:=by
 apply#[xs.length+1,d7 (PE σ la lb lr xs ys i j) ?_ (xs.length+1) (xs.length-(i+0)) (gu .aM .a (.e (.a .A (.a .C .O)) .B) (aa (ba (.k (.a .A .O) .B) .a .B hi))) #[0,R,rfl,H,r3,r4,r5,rfl,i4.nil (nv hi) (nv hj),I]];intro n ρ' σ' hI again aj;have#[s,J,rfl,H',U,z,ag,rfl,Rn,I']:=hI;have W':=W.ext ((Ext.refl σ).di (xs:=rV J) ai);have hL:(σ.di lr (rV J)).L lr=some (rV J):=cm _ _ _;have hs:=Rn.li;have na:=W.na;apply yv _ (EL W'.a W'.b H'.r0 H'.r1 U z ag) ?_;by_cases c:i+s<xs.length/\j+s<ys.length/\xs[i+s]?=ys[j+s]?
 ·rw[ic c];apply eX #[_,ag,?_];show gw C _ (upd ρ' 5 (.int (s+1:Nat))) _ _;apply fG (iT (eP (i,j,s+1))) H'.r2 hL ?_ (by rw[ak];have:=I'.len;have:=Rn.lj;have:=W.nb;unfold bx;(rename_i z2 z1;show nR .aD [[1,63,3969,3969,1,63]] .aI .cM (.l .a5 .D) (.k .A (.a (.r (.a (.r .F 63) .B) 63) .G)) .aS hj na c.1 z2 this)) ?_
  ·rw[yb,gm,lQ,gm,gm,yu,lz,lz,lz];rw[show upd ρ' 5 (.int (s+1:Nat)) 3=some (.int i) from U,show upd ρ' 5 (.int (s+1:Nat)) 4=some (.int j) from z];rfl
  ·have e:rV J++[iT (eP (i,j,s+1))]=rV (J++[(i,j,s+1)]):=(cu (l₁:=J) (l₂:=[(i,j,s+1)])).symm;rw[e,yh];show og (aj _ _ _ (qy .B .d (.e (.a .A (.a .C .Z)) .F) (.e (.a .B .R) .F) (aa (gu .L .a .K c.1)) (aa (gu .F .a .F hs))) #[s+1,_,rfl,#[H'.r0,H'.r1,H'.r2],U,z,rfl,rfl,Rn.grow c,I'.grow (Rn.grow c)])
 ·rw[fw c];show eY (h _ _ H' U (I'.nextJ (fh .X .b (.k .aF .C) .aS hs na) λn q=>q.stop c))
inductive xS (xs ys:List Int)(K:List T3):Prop
 |mk (R S:List T3):dG xs ys R xs.length 0 0->S.Perm R->(S.Pairwise λr s=>ke (eP s) (eP r)=false)->K.Perm (grS S)->(K.Pairwise λr s=>ke (jJ s) (jJ r)=false)->xS xs ys K
abbrev OH (l:List Int):T3:=((l.getD 1 0).toNat,(l.getD 2 0).toNat,(-(l.getD 0 0)).toNat)
abbrev QE (l:List Int):T3:=((l.getD 0 0).toNat,(l.getD 1 0).toNat,(l.getD 2 0).toNat)
def ES (a:T3):OH (eP a)=a:=by
 show(a.1,a.2.1,(- -(a.2.2:Int)).toNat)=a;rw[Int.neg_neg];rfl
structure RG (ρ:Fr)(kl:Addr)(r:T3):Prop where
 r6:ρ 6=some (.L kl)
 r7:ρ 7=some (.int (-(r.2.2:Nat)))
 r3:ρ 3=some (.int r.1)
 r4:ρ 4=some (.int r.2.1)
def uO {σ:St}{a b:Ex}{m n:Nat}(W:evV σ ρ a=some (.int m))(hb:evV σ ρ b=some (.int (-(n:Nat)))):evV σ ρ (.b .sub a b)=some (.int (m+n:Nat)):=by
 rw[yc,W,hb];show some (V.int ((m:Int) - -(n:Int)))=_;rw[Int.sub_neg];rfl
def EI {k:Fr->St->Prop}{r s:T3}{b:Bool}(H:RG ρ kl r)(B:ρ 8=some (.bool b))(h:∀ρ',RG ρ' kl r->ρ' 8=some (.bool (b&&decide (EJ r s)))->k ρ' σ) :
  qg (.T [9,10,11]) (iT (jJ s)) σ ρ λρ=>gw C (.cons (.C (.not (.or (.and (.c .le (.b .sub (.l 3) (.l 7)) (.l 9)) (.c .le (.b .sub (.l 4) (.l 7)) (.l 10))) (.and (.c .le (.b .add (.l 9) (.l 11)) (.l 3)) (.c .le (.b .add (.l 10) (.l 11)) (.l 4))))) (.cons (.a [(.v 8)] (.bool false))
 .nil) .nil)
 .nil) ρ σ (wk k K):=by
 apply#[_,rfl,rfl,?_];have H1:RG (gv [9,10,11] [.int s.1,.int s.2.1,.int s.2.2] ρ) kl r:=#[H.r6,H.r7,H.r3,H.r4];have J:gv [9,10,11] [.int s.1,.int s.2.1,.int s.2.2] ρ 8=some (.bool b):=B;have O:gv [9,10,11] [.int s.1,.int s.2.1,.int s.2.2] ρ 9=some (.int s.1):=rfl;have U:gv [9,10,11] [.int s.1,.int s.2.1,.int s.2.2] ρ 10=some (.int s.2.1):=rfl;have W:gv [9,10,11] [.int s.1,.int s.2.1,.int s.2.2] ρ 11=some (.int s.2.2):=rfl;show gw C _ (gv [9,10,11] [.int s.1,.int s.2.1,.int s.2.2] ρ) σ _;generalize gv [9,10,11] [.int s.1,.int s.2.1,.int s.2.2] ρ=I at H1 J O U W;apply lC (¬EJ r s) (EK (s6 (wt (s7 (uO H1.r3 H1.r7) O) (s7 (uO H1.r4 H1.r7) U)) (wt (s7 (mf O W) H1.r3) (s7 (mf U W) H1.r4)))) (λc=>?_) λc=>?_
 ·apply kO (.bool false) rfl (tw (og (h _ #[H1.r6,H1.r7,H1.r3,H1.r4] ?_)));rw[fw c,Bool.and_false];rfl
 ·apply tw (og (h _ H1 ?_));rw[ic (gU.mp c),Bool.and_true];show J
def EC {S:List T3}{t:Nat}(h:t<S.length):grS (S.take (t+1))=grK (grS (S.take t)) S[t]:=by
 unfold grS;rw[dz h,List.foldl_append];rfl
def IH {n:Nat}{Q:V->St->Prop}(W:Wd σ la lb xs ys)(h:∀c σ' K',Ext σ σ'->σ.L c=none->σ'.L c=some (kV K')->xS xs ys K'->Q (.L c) σ'):ku P (n+1) 10 [.L la,.L lb] σ Q:=by
 apply#[IZ,rfl,az 2,az 2,?_];apply vE [] rfl (bb _) λlr ao=>?_;have H0:RK (upd (frameOf IZ [.L la,.L lb]) 2 (.L lr)) la lb lr:=#[rfl,rfl,rfl];generalize upd (frameOf IZ [.L la,.L lb]) 2 (.L lr)=ρ at H0;have W1:∀R,Wd (σ.di lr (rV R)) la lb xs ys:=λR=>W.ext ((Ext.refl σ).di ao);have na:=W.na;have nb:=W.nb;show gw _ _ ρ (σ.di lr (rV [])) _;apply jO (n:=xs.length) (λi ρ' σ'=>∃R,RK ρ' la lb lr/\σ'=σ.di lr (rV R)/\dG xs ys R i 0 0) (qe H0.r0 (W1 []).a) (fc (.l .A (.n (2^39))) .a .X na) #[[],H0,rfl,dG.start] (λi ρ' σ' kk K' hi hI hk=>?_) λρ' σ' hI=>?_
 ·have#[R,H,rfl,I]:=hI;have H1:RK (upd ρ' 3 (.int i)) la lb lr:=#[H.r0,H.r1,H.r2];apply jO (n:=ys.length) (λj ρ' σ'=>∃R,RK ρ' la lb lr/\ρ' 3=some (.int i)/\σ'=σ.di lr (rV R)/\dG xs ys R i j 0) (qe H1.r1 (W1 R).b) (fc (.l .A (.n (2^39))) .a .X nb) #[R,H1,rfl,rfl,I] (λj U σ2 k2 K2 hj hI ch=>?_) λU σ2 hI=>?_
  ·have#[R,H2,q4,rfl,I]:=hI;show gw _ _ (upd (upd U 4 (.int j)) 5 (.int 0)) _ _;apply AU (K:=iB (λρ σ=>gw (ku P n) .nil ρ σ (wk k2 K2)) (wk k2 K2)) W ao hi hj #[H2.r0,H2.r1,H2.r2] q4 rfl rfl I λbu R' H3 q4 I'=>?_;show ch _ _ #[R',H3,q4,rfl,I']
  ·have#[R,H2,q4,rfl,I]:=hI;show og (hk _ _ #[R,H2,rfl,I.NU (fc .X .a .X nb)])
 have#[R,H,rfl,I]:=hI;have ct:R.length<=bx:=by have:=I.len;unfold bx;(show iq .b8 [[1,3969,1]] .a7 (.k .A (.a (.r (.a (.r .B 63) .O) 63) .O)) na this)
 apply vE [] rfl (bb _) λkl ai=>?_;have E1:Ext σ (σ.di lr (rV R)):=(Ext.refl σ).di ao;have E2:Ext σ ((σ.di lr (rV R)).di kl []):=E1.di (E1.noL ai);have cb:lr≠kl:=λq=>by
  rw[<- q]at ai;rw[show(σ.di lr (rV R)).L lr=_ from cm _ _ _]at ai;cases ai
 have bl:((σ.di lr (rV R)).di kl []).L lr=some ((R.map eP).map iT):=(er cb).trans ((cm _ _ _).trans (by rw[jf];rfl));have ax:((σ.di lr (rV R)).di kl []).L kl=some []:=cm _ _ _;have r2:upd ρ' 6 (.L kl) 2=some (.L lr):=H.r2;have r6:upd ρ' 6 (.L kl) 6=some (.L kl):=rfl;generalize upd ρ' 6 (.L kl)=dc at r2 r6;generalize (σ.di lr (rV R)).di kl []=σ2 at E2 bl ax;apply#[_,r2,R.map eP,3,by decide,bl,(λt ht=>by have#[r,_,rfl]:=eg.mp ht;rfl),λdm hp hs c hc=>?_];have#[S,hS,rfl]:=jG (f:=eP) (g:=OH) ES hp;have hs:=gT.mp hs;have ar:c≠kl:=λq=>by rw[q,ax]at hc;cases hc
 have E3:Ext σ (σ2.di c ((S.map eP).map iT)):=E2.di (E2.noL hc);have aj:(σ2.di c ((S.map eP).map iT)).L c=some ((S.map eP).map iT):=cm _ _ _;have bc:(σ2.di c ((S.map eP).map iT)).L kl=some []:=(er (xf ar)).trans ax;have ck:S.length<=bx:=by rw[hS.length_eq];show ct
 have cd:σ.L kl=none:=E1.noL ai;generalize σ2.di c ((S.map eP).map iT)=z at E3 aj bc;apply#[_,aj,?_];apply pk (λt ρ σ'=>ρ 6=some (.L kl)/\σ'=z.di kl (kV (grS (S.take t)))) ?_ ?_ #[r6,(vo bc).symm]
 ·intro t v U σ' hv zz;have#[q8,rfl]:=zz;rw[jf,cy]at hv;have#[r,hr,rfl]:=omap hv;have#[ht,rfl]:=av.mp hr;apply#[(er ar).trans aj,λkk bg=>#[_,rfl,rfl,?_]];have hl:(grS (S.take t)).length<bx:=by
   have:=IV (S.take t);rw[fb]at this
   (show nS .B .k .H .aH .cG (.k .F .D) ck ht this (Ar.ji _ _).1)
  have hg:=EC ht;generalize S[t]=r at hg;generalize grS (S.take t)=Kp at hg hl;have J:(z.di kl (kV Kp)).L kl=some (kV Kp):=cm _ _ _;apply kO (.bool true) rfl ?_;have G1:RG (upd (gv [7,3,4] [.int (-(r.2.2:Nat)),.int r.1,.int r.2.1] U) 8 (.bool true)) kl r:=#[q8,rfl,rfl,rfl];have bn:upd (gv [7,3,4] [.int (-(r.2.2:Nat)),.int r.1,.int r.2.1] U) 8 (.bool true) 8=some (.bool true):=rfl;show gw _ _ (upd (gv [7,3,4] [.int (-(r.2.2:Nat)),.int r.1,.int r.2.1] U) 8 (.bool true)) _ _;generalize upd (gv [7,3,4] [.int (-(r.2.2:Nat)),.int r.1,.int r.2.1] U) 8 (.bool true)=bu at G1 bn;apply#[_,G1.r6,_,J,?_];apply pk (λm ρ σ'=>RG ρ kl r/\σ'=z.di kl (kV Kp)/\ρ 8=some (.bool (fB (Kp.take m) r))) ?_ ?_ #[G1,rfl,bn]
  ·intro m v bt ay hv zz;have#[G4,rfl,ag]:=zz;rw[cy]at hv;have#[s,hs,rfl]:=omap hv;have#[hm,rfl]:=av.mp hs;apply#[J,λk4 be=>EI G4 ag λda G5 ag=>be _ _ #[G5,rfl,?_]];rw[ag,dz hm];unfold fB;rw[List.all_append];show _=some (V.bool (_&&(decide (EJ r Kp[m])&&true)));rw[Bool.and_true]
  ·intro bt ay zz;have#[G4,rfl,ag]:=zz;rw[ak,fo]at ag;apply#[J,?_];unfold grK at hg;apply sR (fB Kp r) (by rw[z8,ag];rfl) ?_;cases q:fB Kp r with
   |true =>
    rw[q,cn rfl]at hg;apply eX (fG (iT (jJ r)) G4.r6 J ?_ (by rw[ak];show hl) ?_)
    ·rw[yb,gm,gm,gm,yu,lQ,lz,lz,lz,G4.r3,G4.r4,G4.r7];show some (V.T [.int r.1,.int r.2.1,.int (- -(r.2.2:Nat))])=_;rw[Int.neg_neg];rfl
    ·have e:kV Kp++[iT (jJ r)]=kV (Kp++[r]):=(cu (l₁:=Kp) (l₂:=[r])).symm;rw[e,yh];show tw (og (bg _ _ #[G4.r6,by rw[hg]]))
   |false =>
    rw[q,br gq]at hg;show eY (tw (og (bg _ _ #[G4.r6,by rw[hg]])))
 ·intro U σ' zz;have#[q8,rfl]:=zz;rw[ak,ak,fo];apply#[(er ar).trans aj,?_];have E4:Ext σ (z.di kl (kV (grS S))):=E3.di cd;have J:(z.di kl (kV (grS S))).L kl=some (((grS S).map jJ).map iT):=(cm _ _ _).trans (by rw[jf];rfl);generalize z.di kl (kV (grS S))=ay at E4 J;apply#[_,q8,(grS S).map jJ,3,by decide,J,(λt ht=>by have#[r,_,rfl]:=eg.mp ht;rfl),λdf ca bv c2 bd=>?_];have#[K',cx,rfl]:=jG (f:=jJ) (g:=QE) (λa=>rfl) ca;apply h c2 _ K' (E4.di (E4.noL bd)) (E4.noL bd) ((cm _ _ _).trans (by rw[jf];rfl)) #[R,S,I,hS,hs,cx,gT.mp bv]
end
def yp {a b:Int}{as bs:List Int}(h:a<b\/(a=b/\ke as bs=true)):ke (a::as) (b::bs)=true:=by
 show(if a=b then ke as bs else decide (a<b))=true;rcases h with h|⟨rfl,h⟩
 ·rw[br (tq (.iu .A .B) .w .aJ h)];show ic h
 ·rw[cn rfl];show h
def L8 {r s:T3}(h:Bef s r):ke (eP s) (eP r)=true:=by
 unfold eP;rcases h with h|⟨e,h|⟨W,h⟩⟩
 ·show yp (.inl (ba (.il (.g .L) .S) .a .U h))
 ·show yp (.inr #[by show ba (.ie (.g .L) .S) .i .cH e,yp (.inl (ba (.il .L .P) .a .B h))])
 ·show yp (.inr #[by show ba (.ie (.g .L) .S) .i .cH e,yp (.inr #[by show ba (.ie .L .P) .i .C W,yp (.inl (ba (.il .L .P) .a .B h))])])
def tU {xs ys:List Int}{i j n:Nat}:dF (yz (ks xs) (ks ys)) 0 xs.length 0 ys.length i j n↔i4 xs ys i j n:=by
 constructor
 ·intro h;apply#[h.ia,h.jb,λt U=>?_];have#[c,O,J]:=yz.ints.mp (h.eq t U);rw[O,J]
 ·intro h;apply#[bb _,h.li,bb _,h.lj,λt U=>yz.ints.mpr ?_];have e:=h.eq t U;have:=h.li;have O:=aq (show i+t<xs.length by show gh .K .b .W .b9 U this);apply#[_,O,by rw[<- e];show O]
def uJ {xs ys:List Int}{K:List T3}(h:xS xs ys K){L:List T3}(bt:BT (yz (ks xs) (ks ys)) 0 xs.length 0 ys.length L):K=L:=by
 have#[R,S,I,hS,hs,hK,hk]:=h;have hR:∀r,r∈S↔0<r.2.2/\i4 xs ys r.1 r.2.1 r.2.2:=λr=>hS.mem_iff.trans (I.fin r);have J:S.Nodup:=hS.nodup_iff.mpr I.nd;have ag:∀u∈L,u∈S:=λu hu=>(hR u).mpr #[(bt.ok.1 u hu).2,tU.mp (bt.ok.2.2 u hu)];have aj:∀{t:Nat} (W:t<S.length),S[t]∉S.take t:=λ{t} W q=>by
  have:=J;rw[<- eh t S,cf W]at this;show(List.nodup_append.mp this).2.2 _ q _ (.head _) rfl
 have hf:grS S=S.filter λr=>decide (r∈L):=wQ λt W=>by
  have hr:=(hR _).mp (cj W);apply Bool.eq_iff_iff.mpr ?_;rw[wU,decide_eq_true_iff];rw[<- bt.fits (r:=S[t]) hr.1 (tU.mpr hr.2) (K:=λu=>u∈(S.take t).filter (λr=>decide (r∈L))) (λu z=>?_) λu hu hb=>?_]
  ·apply#[λh u z=>(h u z).elim .inr .inl,λh u z=>(h u z).elim .inr .inl]
  ·have#[h1,h2]:=List.mem_filter.mp z;apply#[cg h2,λe=>aj W (e▸h1)]
  ·apply List.mem_filter.mpr #[?_,ic hu];have O:=ag u hu;rw[<- eh t S,cf W]at O;have U:=L8 hb;rcases cq.mp O with q|q
   ·show q
   ·have hp:=hs;rw[<- eh t S,cf W]at hp;have hp:=(lu.mp (jo.mp hp).2.1).1;rcases cw.mp q with e|q
    ·rw[e,h9]at U;cases U
    ·rw[hp u q]at U;cases U
 have ai:∀r,r∈K↔r∈S/\r∈L:=λr=>by
  rw[hK.mem_iff,hf,List.mem_filter,decide_eq_true_iff]
 have ao:K.Nodup:=hK.nodup_iff.mpr (by rw[hf];show J.filter _);apply D4 bt.ok.2.1 (λt W=>(bt.ok.1 t W).2) (hk.imp λ{a b} h=>?_) ao λt=>#[λh=>((ai t).mp h).2,λh=>(ai t).mpr #[ag t h,h]];rcases pf b.1 a.1 with q|q
 ·rw[show ke (jJ b) (jJ a)=true from yp (.inl (ba (.il .L .P) .a .B q))]at h;cases h
 ·show q
end R9
end MP
end
section
namespace MP
open PySem SM
def zH {N:Nat}{P:T3->Prop}(h:∀r:T3,r.2.2<=N->(∀s:T3,s.2.2<=N->Bef s r->P s)->P r):∀r:T3,r.2.2<=N->P r:=by
 have:∀(a b c:Nat) (r:T3),N-r.2.2=a->r.1=b->r.2.1=c->r.2.2<=N->P r:=by
  intro a;induction a using Nat.strongRecOn with
  |ind a I =>
   intro b;induction b using Nat.strongRecOn with
   |ind b J =>
    intro c;induction c using Nat.strongRecOn with
    |ind c O =>
     intro r z eb ec hr;apply h r hr λs W hb=>?_;rcases hb with hb|⟨U,hb|⟨e2,hb⟩⟩
     ·show I (N-s.2.2) (yw .B .D .aL .cI (.e .R .G) (.e .a9 .G) z hb (aa (fh .A .b .H .G W hb)) (aa (ba .A .a .A W))) _ _ s rfl rfl rfl W
     ·show J s.1 (fh .B .b .aL .G eb hb) _ s (yw .C [[1,-1,-1,1,-1],[1,1,1,-1,1]] .aL (.e .D .F) (.e .R .G) (.e .a9 .G) z U (aa (ba .A .a .A hr)) (aa (fh .A .d .H .c7 hr U))) rfl rfl W
     ·show O s.2.1 (fh .B .b .aL .G ec hb) s (yw .C [[1,-1,-1,1,-1],[1,1,1,-1,1]] .aL (.e .D .F) (.e .R .G) (.e .a9 .G) z U (aa (ba .A .a .A hr)) (aa (fh .A .d .H .c7 hr U))) (fh .C .B .aL .cL eb e2) rfl W
 show λr=>this _ _ _ r rfl rfl rfl
abbrev gst (c:Nat->Nat->Bool)(st:List Nat)(k:Nat):List Nat:=if (st.all λl=>c l k)=true then st++[k] else st
def n5 {c:Nat->Nat->Bool}{R:Nat->Nat->Prop}:∀{S st:List Nat},S.Pairwise R->(∀l∈st,∀k∈S,R l k)->st.Pairwise (λl k=>c l k=true) ->
  (S.foldl (gst c) st).Pairwise (λl k=>c l k=true)/\(∀l∈st,l∈S.foldl (gst c) st)/\(∀l∈S.foldl (gst c) st,l∈st\/l∈S)/\(∀k∈S,k∉S.foldl (gst c) st->∃l∈S.foldl (gst c) st,c l k=false/\R l k)
 | [],st=>λ_ _ h=>#[h,λl hl=>hl,λl hl=>.inl hl,λk hk=>nomatch hk]
 |k::S,st=>λhS z hp=>by
  have#[h1,h2]:=lu.mp hS;rw[List.foldl_cons];have I:gst c st k=st++[k]/\(∀l∈st,c l k=true)\/gst c st k=st/\∃l∈st,c l k=false:=by
   unfold gst;by_cases q:(st.all λl=>c l k)=true
   ·rw[cn q];show .inl #[rfl,jy.mp q]
   ·rw[br q];apply .inr #[rfl,?_];have q:=zd.mpr q;rw[List.all_eq_false]at q;have#[l,hl,hc]:=q;apply#[l,hl,zd.mpr hc]
  rcases I with ⟨e,ha⟩|⟨e,J,U,B⟩
  ·rw[e];have#[a,b,d,f]:=n5 (c:=c) (S:=S) (st:=st++[k]) h2 (λl hl m W=>by
    rcases cq.mp hl with hl|hl
    ·show z l hl m (.tail _ W)
    ·rw[au.mp hl];show h1 m W) (jo.mpr #[hp,jk _ _,λl hl m W=>by rw[au.mp W];show ha l hl])
   apply#[a,λl hl=>b l (dk _ hl),λl hl=>?_,λm W O=>?_]
   ·rcases d l hl with q|q
    ·rcases cq.mp q with q|q
     ·show .inl q
     ·rw[au.mp q];show .inr (.head _)
    ·show .inr (.tail _ q)
   ·rcases cw.mp W with rfl|W
    ·show(O (b m (dt _ (.head _)))).elim
    ·show f m W O
  ·rw[e];have#[a,b,d,f]:=n5 (c:=c) (S:=S) (st:=st) h2 (λl hl m W=>z l hl m (.tail _ W)) hp;apply#[a,b,λl hl=>?_,λm W O=>?_]
   ·rcases d l hl with q|q
    ·show .inl q
    ·show .inr (.tail _ q)
   ·rcases cw.mp W with rfl|W
    ·apply#[J,b J U,B,z J U _ (.head _)]
    ·show f m W O
structure Parts (H:Nat->Nat->Prop)(na nb n:Nat)(F G:Nat->Nat)(X Y:Nat->Nat)(h:Nat->Nat->Nat->Prop)(ord:Nat->Nat):Prop where
 fx:∀k l,k<l->l<n->F k+X k<=F l
 gy:∀k l,k<n->l<n->ord k<ord l->G k+Y k<=G l
 oi:∀k l,k<n->l<n->ord k=ord l->k=l
 fn:∀k,k<n->F k+X k<=na
 gn:∀k,k<n->G k+Y k<=nb
 here:∀k i j,k<n->i<X k->j<Y k->(H (F k+i) (G k+j)↔h k i j)
 run:∀p q m,0<m->dF H 0 na 0 nb p q m->∃k i j,k<n/\p=F k+i/\q=G k+j/\i+m<=X k/\j+m<=Y k
abbrev shP (F G:Nat->Nat)(k:Nat)(t:T3):T3:=(F k+t.1,G k+t.2.1,t.2.2)
section
variable {H:Nat->Nat->Prop}{na nb n:Nat}{F G X Y:Nat->Nat}{h:Nat->Nat->Nat->Prop}{ord:Nat->Nat}(P:Parts H na nb n F G X Y h ord)
include P
def Parts.NP {k:Nat}(hk:k<n){t:T3}(R:dF (h k) 0 (X k) 0 (Y k) t.1 t.2.1 t.2.2):dF H 0 na 0 nb (shP F G k t).1 (shP F G k t).2.1 (shP F G k t).2.2:=by
 have a:=P.fn k hk;have b:=P.gn k hk;have:=R.ia;have:=R.jb;apply#[bb _,?_,bb _,?_,λm U=>?_]
 ·show F k+t.1+t.2.2<=na;(rename_i O;show qy (.k .aB .D) .b (.k .a9 .D) (.k .Q .F) a O)
 ·show G k+t.2.1+t.2.2<=nb;(show qy (.k .aB .D) .b (.k .a9 .D) (.k .Q .F) b this)
 ·have U:m<t.2.2:=U;show H (F k+t.1+m) (G k+t.2.1+m);rw[uj,uj];show(P.here k _ _ hk (by(rename_i J O;show gh .K .b .b9 .W J U)) (gh .K .b .b9 .W this U)).mpr (R.eq m U)
def Parts.part {r:T3}(p:0<r.2.2)(R:dF H 0 na 0 nb r.1 r.2.1 r.2.2):∃k t,k<n/\r=shP F G k t/\dF (h k) 0 (X k) 0 (Y k) t.1 t.2.1 t.2.2:=by
 have#[k,i,j,hk,z,B,I,J]:=P.run _ _ _ p R;apply#[k,(i,j,r.2.2),hk,zc z (zc B rfl),#[bb _,I,bb _,J,λm O=>?_]];have O:m<r.2.2:=O;have:=R.eq m O;rw[z,B,uj,uj]at this;show(P.here k (i+m) (j+m) hk (by(rename_i U;show gh .K .b .b9 .W I U)) (by(rename_i U;show gh .K .b .b9 .W J U))).mp this
def Parts.OK {k l:Nat}(hk:k<n)(hl:l<n)(ne:k≠l){s t:T3}(ps:0<s.2.2)(pt:0<t.2.2)(J:dF (h k) 0 (X k) 0 (Y k) s.1 s.2.1 s.2.2)(O:dF (h l) 0 (X l) 0 (Y l) t.1 t.2.1 t.2.2) :
  Cmp (shP F G k s) (shP F G l t)↔(k<l↔ord k<ord l):=by
 have s1:=J.ia;have s2:=J.jb;have t1:=O.ia;have I:=O.jb;have key:∀{a b c d:Nat},(F k+s.1+s.2.2<=F l+t.1/\G k+s.2.1+s.2.2<=G l+t.2.1)\/(F l+t.1+t.2.2<=F k+s.1/\G l+t.2.1+t.2.2<=G k+s.2.1)↔(k<l↔ord k<ord l):=λ{a b c d}=>by
  have no:ord k≠ord l:=λq=>ne (P.oi k l hk hl q);rcases ah ne with q|q
  ·have f:=P.fx k l q hl;rcases ah no with z|z
   ·have g:=P.gy k l hk hl z
    (show#[λU=>#[λW=>(ba .B .a .B z),λW=>(ba .B .a .B q)],λU=>(.inl #[(FK (.k .aB .Y) .b (.k .Q .G) (.k .aT .D) s1 f),(FK (.k .aB .Y) .b (.k .Q .G) (.k .aT .D) s2 g)])])
   ·have g:=P.gy l k hl hk z;omega
  ·have f:=P.fx l k q hk;rcases ah no with z|z
   ·have g:=P.gy k l hk hl z;omega
   ·have g:=P.gy l k hl hk z
    (show#[λU=>#[λW=>(gh .B .c .R .aH q W),λW=>(gh .B .c .R .aH z W)],λU=>(.inr #[(FK (.k .aB .Y) .b (.k .Q .G) (.k .aT .D) t1 f),(FK (.k .aB .Y) .b (.k .Q .G) (.k .aT .D) I g)])])
 show key (a:=0) (b:=0) (c:=0) (d:=0)
def Parts.blocks {L:List T3}(bt:BT H 0 na 0 nb L){Ls:Nat->List T3}(bd:∀k,k<n->BT (h k) 0 (X k) 0 (Y k) (Ls k)){lg:Nat->Nat}(ay:∀k,k<n->(∀t∈Ls k,t.2.2<=lg k)/\(lg k=0\/∃t∈Ls k,t.2.2=lg k)){stay:List Nat}
  (s1:stay.Pairwise λl k=>(l<k↔ord l<ord k)) (s2:∀k,k<n->k∉stay->∃l∈stay,¬(l<k↔ord l<ord k)/\(lg k<lg l\/(lg k=lg l/\l<k))) (s3:∀k∈stay,k<n) :
  (List.range n).flatMap (λk=>if k∈stay then (Ls k).map (shP F G k) else [])=L:=by
 have ok:=λk hk=>(bd k hk).ok;have bv:∀k,k<n->∀t:T3,0<t.2.2->dF (h k) 0 (X k) 0 (Y k) t.1 t.2.1 t.2.2->t.2.2<=lg k:=λk hk t pt R=>by
  by_cases m:∃s∈Ls k,t.2.2<s.2.2
  ·have#[s,W,q]:=m;have:=(ay k hk).1 s W;(show fh .A .b .G .H q this)
  ·
   have b:=bd k hk;have g:=(ay k hk).1;generalize Ls k=M at b g;cases b with
   |nil q =>
    have:=R.ai;have:=R.ia;have:=R.bj;have:=R.jb;show(q t.1 t.2.1 (nt (.k .O .A) .h) (by(rename_i z2 z1;show fh .B .b .a6 .c5 pt z2)) (nt (.k .O .A) .h) (fh .B .b .a6 .c5 pt this) (R.eq 0 pt)).elim
   |node B _ _ =>
    have:=B.max _ _ _ pt R;have:=g _ (dt _ (.head _));simp only at this
    (rename_i z1;show z1.elim (λq1=>(fh .A .b .H .G this q1)) λq1=>(fh .A .b .H .cL this q1.1))
 have sym:∀{k l},k∈stay->l∈stay->k≠l->(k<l↔ord k<ord l):=λ{k l} hk hl ne=>by
  clear s2;induction stay with
  |nil=>cases hk
  |cons x st ih =>
   have#[a,b]:=lu.mp s1;have bn:=s3 k hk;have aj:=s3 l hl;have no:ord k≠ord l:=λq=>ne (P.oi k l bn aj q);rcases cw.mp hk with e1|bl
   ·rcases cw.mp hl with e2|bc
    ·show(ne (e1.trans e2.symm)).elim
    ·show e1▸a l bc
   ·rcases cw.mp hl with e2|bc
    ·have:=a k bl;rw[<- e2]at this;omega
    ·show ih b (λk hk=>s3 k (.tail _ hk)) bl bc
 have be:∀r,r∈(List.range n).flatMap (λk=>if k∈stay then (Ls k).map (shP F G k) else [])↔∃k t,k<n/\k∈stay/\t∈Ls k/\r=shP F G k t:=λr=>by
  rw[List.mem_flatMap];constructor
  ·rintro ⟨k,hk,hr⟩;by_cases q:k∈stay
   ·rw[cn q]at hr;have#[t,ht,rfl]:=eg.mp hr;apply#[k,t,gj.mp hk,q,ht,rfl]
   ·rw[br q]at hr;cases hr
  ·rintro ⟨k,t,hk,q,ht,rfl⟩;apply#[k,gj.mpr hk,?_];rw[cn q];show eg.mpr #[t,ht,rfl]
 have star:∀k,k<n->∀t:T3,0<t.2.2->dF (h k) 0 (X k) 0 (Y k) t.1 t.2.1 t.2.2->((∀l,l<n->l∈stay->∀s∈Ls l,Bef (shP F G l s) (shP F G k t)->Cmp (shP F G l s) (shP F G k t))↔(k∈stay/\t∈Ls k)):=λk hk t pt R=>by
  constructor
  ·intro hc;have ao:k∈stay:=by
    by_cases q:k∈stay
    ·show q
    ·have#[l,hl,no,ax]:=s2 k hk q;have aj:=s3 l hl;have bg:=bv k hk t pt R;have#[s,W,es]:=(ay l aj).2.resolve_left (ax.elim (λq1=>(ba (.u .A .O) .a .U q1)) λq1=>(oa (.u .A .O) .e .Y .aK .c7 pt bg q1.1));have Rs:=(ok l aj).2.2 s W;have ne:l≠k:=λe=>q (e▸hl);have hb:Bef (shP F G l s) (shP F G k t):=by
      show t.2.2<s.2.2\/(t.2.2=s.2.2/\(F l+s.1<F k+t.1\/(F l+s.1=F k+t.1/\G l+s.2.1<G k+t.2.1)));rcases ax with z|⟨z1,z2⟩
      ·show .inl (pe .B .u .J (.e .B .D) .R bg es z)
      ·have:=P.fx l k z2 hk;have:=Rs.ia;by_cases y:t.2.2<s.2.2
       ·show .inl y
       ·show .inr #[by show zg .C [[1,0,0,0,1],[1,1,-1,1,0]] .J (.e .B .D) .bW .b2 bg es z1 y,.inl (by omega)]
     have:=(P.OK aj hk ne ((ok l aj).1 s W).2 pt Rs R).mp (hc l aj hl s W hb);show(no this).elim
   apply#[ao,(bd k hk).wO t pt R λs W hb=>?_];have:=hc k hk ao s W (by
    have hb:t.2.2<s.2.2\/(t.2.2=s.2.2/\(s.1<t.1\/(s.1=t.1/\s.2.1<t.2.1))):=hb;show t.2.2<s.2.2\/(t.2.2=s.2.2/\(F k+s.1<F k+t.1\/(F k+s.1=F k+t.1/\G k+s.2.1<G k+t.2.1)))
    (show kn λq1=>(hb.elim (λq2=>(iq .ff .c .b2 .B (uq.mp q1).1 q2)) λq2=>((cv.mp (uq.mp q1).2).elim (λq3=>((ah q3).elim (λq4=>(iq .ff [[0,-1,1]] .C .B q2.1 q4)) λq4=>(iq .ff .c .C .U q2.1 q4))) λq3=>(q2.2.elim (λq4=>(fh .ff .c (.g .L .X) .aI (uq.mp q3).1 q4)) λq4=>((cv.mp (uq.mp q3).2).elim (λq5=>((ah q5).elim (λq6=>(fh .ff [[0,-1,1]] .C (.l .a0 .a6) q4.1 q6)) λq6=>(fh .ff .c .C (.l .a6 .a0) q4.1 q6))) λq5=>(fh .ff .c .B (.g .a0 .a6) q4.2 q5)))))))
   have this:(F k+s.1+s.2.2<=F k+t.1/\G k+s.2.1+s.2.2<=G k+t.2.1)\/(F k+t.1+t.2.2<=F k+s.1/\G k+t.2.1+t.2.2<=G k+s.2.1):=this;show(s.1+s.2.2<=t.1/\s.2.1+s.2.2<=t.2.1)\/(t.1+t.2.2<=s.1/\t.2.1+t.2.2<=s.2.1)
   (show kn λq1=>(this.elim (λq2=>((cv.mp (uq.mp q1).1).elim (λq3=>(gh .ff .c (.k .aB .T) (.j .Q .D) q2.1 q3)) λq3=>(gh .ff .c (.k .aB .T) (.j .Q .D) q2.2 q3))) λq2=>((cv.mp (uq.mp q1).2).elim (λq3=>(gh .ff .c (.k .aB .T) (.j .Q .D) q2.1 q3)) λq3=>(gh .ff .c (.k .aB .T) (.j .Q .D) q2.2 q3))))
  ·rintro ⟨ao,ht⟩ l hl ag s W hb;by_cases e:l=k
   ·subst e;have hb:t.2.2<s.2.2\/(t.2.2=s.2.2/\(F l+s.1<F l+t.1\/(F l+s.1=F l+t.1/\G l+s.2.1<G l+t.2.1))):=hb;have ne:s≠t:=λe=>by rw[e]at hb;(show hb.elim (λq1=>(fc .ff .j (.l .A .A) q1)) λq1=>(q1.2.elim (λq2=>(ba .ff .j (.l .L .L) q2)) λq2=>(ba .ff .j (.l .L .L) q2.2)))
    have:=qY (ok l hl).2.1 W ht ne;have this:(s.1+s.2.2<=t.1/\s.2.1+s.2.2<=t.2.1)\/(t.1+t.2.2<=s.1/\t.2.1+t.2.2<=s.2.1):=this;show(F l+s.1+s.2.2<=F l+t.1/\G l+s.2.1+s.2.2<=G l+t.2.1)\/(F l+t.1+t.2.2<=F l+s.1/\G l+t.2.1+t.2.2<=G l+s.2.1)
    (show kn λq1=>(this.elim (λq2=>((cv.mp (uq.mp q1).1).elim (λq3=>(gh .ff .c .F .aW q2.1 q3)) λq3=>(gh .ff .c .F .aW q2.2 q3))) λq2=>((cv.mp (uq.mp q1).2).elim (λq3=>(gh .ff .c .F .aW q2.1 q3)) λq3=>(gh .ff .c .F .aW q2.2 q3))))
   ·show(P.OK hl hk e ((ok l hl).1 s W).2 pt ((ok l hl).2.2 s W) R).mpr (sym ag ao e)
 have all:∀r:T3,r.2.2<=na->0<r.2.2->dF H 0 na 0 nb r.1 r.2.1 r.2.2->(r∈L↔∃k t,k<n/\k∈stay/\t∈Ls k/\r=shP F G k t):=by
  apply zH (P:=λr=>0<r.2.2->dF H 0 na 0 nb r.1 r.2.1 r.2.2->(r∈L↔∃k t,k<n/\k∈stay/\t∈Ls k/\r=shP F G k t)) λr hr ih pr R=>?_;have#[k,t,hk,rfl,Rt]:=P.part pr R;have e1:shP F G k t∈L↔∀s∈L,Bef s (shP F G k t)->Cmp s (shP F G k t):=
   ⟨λh s W hb=>qY bt.ok.2.1 W h λe=>by
    rw[e]at hb;have hb:t.2.2<t.2.2\/(t.2.2=t.2.2/\(F k+t.1<F k+t.1\/(F k+t.1=F k+t.1/\G k+t.2.1<G k+t.2.1))):=hb
    (show hb.elim (λq1=>(fc .ff .j (.l .A .A) q1)) λq1=>(q1.2.elim (λq2=>(ba .ff .j (.l .L .L) q2)) λq2=>(ba .ff .j (.l .L .L) q2.2))),bt.wO _ pr R⟩
  rw[e1];have e2:(∀s∈L,Bef s (shP F G k t)->Cmp s (shP F G k t))↔∀l,l<n->l∈stay->∀s∈Ls l,Bef (shP F G l s) (shP F G k t)->Cmp (shP F G l s) (shP F G k t):=by
   constructor
   ·intro hc l hl ag s W hb;have Rs:=P.NP hl ((ok l hl).2.2 s W);have ps:=((ok l hl).1 s W).2;show hc _ ((ih _ (by have:=Rs.ia;(show gu .A .a (.k .a0 .B) this)) hb ps Rs).mpr #[l,s,hl,ag,W,rfl]) hb
   ·intro hc s W hb;have Rs:=bt.ok.2.2 s W;have ps:=(bt.ok.1 s W).2;have#[l,u,hl,ag,hu,rfl]:=(ih s (by have:=Rs.ia;(show gu .A .a (.k .a0 .B) this)) hb ps Rs).mp W;show hc l hl ag u hu hb
  rw[e2,star k hk t pr Rt];constructor
  ·rintro ⟨a,b⟩;apply#[k,t,hk,a,b,rfl]
  ·rintro ⟨l,s,hl,ag,W,e⟩;have Rs:=(ok l hl).2.2 s W;have e1:F k+t.1=F l+s.1:=dj (·.1) e;have e3:t.2.2=s.2.2:=dj (·.2.2) e;have pr:0<t.2.2:=pr;have:=Rs.ia;have:=Rt.ia;have bu:l=k:=by
    rcases Nat.lt_trichotomy l k with q|q|q
    ·have:=P.fx l k q hk;(rename_i z2 z1;show OU .C [[0,1,1,1,1,0,1],[1,0,0,0,0,1,0]] (.e .R .a5) (.e .H .I) (.l .O .H) (.k (.a .G .I) .J) .B (.k (.a .F .J) .C) e1 e3 pr z2 q this)
    ·show q
    ·have:=P.fx k l q hl;(rename_i z1;show QM .C [[1,0,0,0,1,0],[0,-1,1,1,0,1]] (.e .R .a5) (.l .O .H) (.k (.a .D .H) .I) .U (.k (.a .C .I) .F) e1 pr z1 q this)
   subst bu;have e2:G l+t.2.1=G l+s.2.1:=dj (·.2.1) e;have:t=s:=zc (gu .C .i (.e .a0 .a6) e1) (zc (gu .C .i (.e .a0 .a6) e2) e3);apply#[ag,this▸W]
 apply D4 bt.ok.2.1 (λt ht=>(bt.ok.1 t ht).2) ?_ ?_ λt=>?_
 ·rw[List.pairwise_flatMap];apply#[λk hk=>?_,rh (λ{k l} hk hl q a ha b hb=>?_) jX]
  ·by_cases q:k∈stay
   ·rw[cn q];apply gT.mpr ((ok k (gj.mp hk)).2.1.imp λ{a b} ar=>?_);unfold uu at ar;show F k+a.1<=F k+b.1
    (show lA (.k .L .X) .a (.k .aG .C) ar.1)
   ·rw[br q];show .nil
  ·have hk:=gj.mp hk;have hl:=gj.mp hl;by_cases q1:k∈stay
   ·rw[cn q1]at ha;by_cases q2:l∈stay
    ·rw[cn q2]at hb;have#[s,W,rfl]:=eg.mp ha;have#[u,hu,rfl]:=eg.mp hb;have:=P.fx k l q hl;have:=((ok k hk).2.2 s W).ia;show F k+s.1<=F l+u.1
     (rename_i z1;show FK .bA .b (.k .a9 .C) (.k (.a .B .G) .F) z1 this)
    ·rw[br q2]at hb;cases hb
   ·rw[br q1]at ha;cases ha
 ·show List.Pairwise _ _;rw[List.pairwise_flatMap];apply#[λk hk=>?_,rh (λ{k l} hk hl q a ha b hb e=>?_) jX]
  ·by_cases q:k∈stay
   ·rw[cn q];apply gT.mpr (rh (λ{a b} ha hb ar e=>?_) (ok k (gj.mp hk)).2.1);have e1:F k+a.1=F k+b.1:=dj (·.1) e;have:=((ok k (gj.mp hk)).1 a ha).2;unfold uu at ar
    (show pe .ff [[0,1,-1,1]] .F (.e (.a .D .A) .aM) .Y ar.1 e1 this)
   ·rw[br q];show .nil
  ·have hk:=gj.mp hk;have hl:=gj.mp hl;by_cases q1:k∈stay
   ·rw[cn q1]at ha;by_cases q2:l∈stay
    ·rw[cn q2]at hb;have#[s,W,rfl]:=eg.mp ha;have#[u,hu,e3]:=eg.mp hb;have:=P.fx k l q hl;have:=((ok k hk).2.2 s W).ia;have:=((ok k hk).1 s W).2;have e1:F k+s.1=F l+u.1:=dj (·.1) (e.trans e3.symm)
     (rename_i z2 z1;show yw .ff [[0,1,1,1,-1]] .F (.k .Y .B) (.l .O .F) (.e .T (.a .C .G)) z2 z1 this e1)
    ·rw[br q2]at hb;cases hb
   ·rw[br q1]at ha;cases ha
 ·rw[be];constructor
  ·rintro ⟨k,s,hk,ao,W,rfl⟩;have R:=P.NP hk ((ok k hk).2.2 s W);show(all (shP F G k s) (by have:=R.ia;(show gu .A .a (.k .a0 .B) this)) ((ok k hk).1 s W).2 R).mpr #[k,s,hk,ao,W,rfl]
  ·intro ht;have R:=bt.ok.2.2 t ht;show(all t (by have:=R.ia;(show gu .A .a (.k .a0 .B) this)) (bt.ok.1 t ht).2 R).mp ht
end
variable {s k:Nat}
def JN {H:Nat->Nat->Prop}{alo ahi blo bhi:Nat}(r:T3)(p:0<r.2.2)(R:dF H alo ahi blo bhi r.1 r.2.1 r.2.2):∃i j k,zM H alo ahi blo bhi i j k:=by
 apply zH (N:=ahi) (P:=λr=>0<r.2.2->dF H alo ahi blo bhi r.1 r.2.1 r.2.2->∃i j k,zM H alo ahi blo bhi i j k) (λr _ U p R=>?_) r (by have:=R.ia;(show gu .A .a (.k .a0 .B) this)) p R;by_cases q:∃s:T3,0<s.2.2/\dF H alo ahi blo bhi s.1 s.2.1 s.2.2/\Bef s r
 ·have#[s,ps,W,b]:=q;show U s (by have:=W.ia;(show gu .A .a (.k .a0 .B) this)) b ps W
 ·apply#[r.1,r.2.1,r.2.2,p,R,λi j k hk O=>?_];have:¬Bef (i,j,k) r:=λb=>q #[(i,j,k),hk,O,b];unfold Bef at this;simp only at this;omega
def BT.ex (H:Nat->Nat->Prop):∀(n alo ahi blo bhi:Nat),ahi-alo<=n->∃L,BT H alo ahi blo bhi L:=by
 intro n;induction n with
 |zero =>
  intro alo ahi blo bhi h;apply#[[],.nil λi j U W=>by show λq1=>(λq2=>(λq3=>(zg .ff [[0,1,1,1,-1]] (.k .A .O) .aK .R (.e .L .D) h U W (aa (fh .A .b .J .M U W)))))]
 |succ n ih =>
  intro alo ahi blo bhi h;by_cases q:∃i j,alo<=i/\i<ahi/\blo<=j/\j<bhi/\H i j
  ·have#[i,j,U,W,h3,h4,z]:=q;have#[i,j,k,B]:=JN (H:=H) (alo:=alo) (ahi:=ahi) (blo:=blo) (bhi:=bhi) (i,j,1) Nat.one_pos ⟨U,W,h3,h4,λt I=>by
    have I:t<1:=I;obtain rfl:t=0:=by(show fc .N .t .cB I)
    show z⟩
   have p:=B.pos;have r1:=B.run.ai;have r2:=B.run.ia;have#[L,hL]:=ih alo i blo j (xO .A [[1,1,1,1,-1,1]] .bV (.l .O .D) (.k .aL .G) (.e (.a .C .H) .G) (.e (.a .A .H) .F) h p r2 (aa (fh .A .b .J .M U W)) (aa (ba .A .a .A r1)));have#[R,hR]:=ih (i+k) ahi (j+k) bhi (xO .A [[1,1,1,1,-1,1]] .bV (.l .O .D) (.k .F .G) (.e .aU .H) (.e (.a .A (.a .G .D)) .H) h p r1 (aa (fh .A .b .J .M U W)) (aa (gu .F .a .F r2)));apply#[_,.node B hL hR]
  ·apply#[[],.nil λi j U W h3 h4 z=>q #[i,j,U,W,h3,h4,z]]
public abbrev pre (o:List Nat)(f:Nat->List Int)(s:Nat):Nat:=((o.take s).flatMap f).length
section
variable {f:Nat->List Int}{o:List Nat}
def tY {t:Nat}(h:s<=t):pre o f s<=pre o f t:=by
 have e:o.take t=o.take s++(o.take t).drop s:=by
  have:=eh s (o.take t);rw[List.take_take,xh h]at this;show this.symm
 show((o.take s).flatMap f).length<=((o.take t).flatMap f).length;rw[e,kr,aw];show km _ _
def iD (h:o[s]?=some k):o.take (s+1)=o.take s++[k]:=by
 have#[W,rfl]:=av.mp h;show dz W
def DD (h:o[s]?=some k):pre o f (s+1)=pre o f s+(f k).length:=by
 show((o.take (s+1)).flatMap f).length=_;rw[iD h,kr,aw,iw,aE,dg]
def mO {t:Nat}(h:o[s]?=some k)(q:s<t):pre o f s+(f k).length<=pre o f t:=by
 rw[<- DD h];show tY q
def yF (h:o[s]?=some k):pre o f s+(f k).length<=(o.flatMap f).length:=by
 have:=mO (f:=f) h (av.mp h).1;have e:pre o f o.length=(o.flatMap f).length:=by
  show((o.take o.length).flatMap f).length=_;rw[fo]
 rwa [e]at this
def zD {i:Nat}(h:o[s]?=some k)(U:i<(f k).length):(o.flatMap f)[pre o f s+i]?=(f k)[i]?:=by
 have e:o=o.take s++k::o.drop (s+1):=by
  have#[W,rfl]:=av.mp h;rw[<- cf W,eh]
 have O:o.flatMap f=(o.take s).flatMap f++(f k++(o.drop (s+1)).flatMap f):=by
  conv=>lhs;rw[e]
  rw[kr,iw]
 rw[O,bh (km _ _),oh,dq U]
def xD:∀{o:List Nat} {p:Nat} {v:Int},(o.flatMap f)[p]?=some v->∃s k i,o[s]?=some k/\p=pre o f s+i/\(f k)[i]?=some v
 | [],p,v=>λh=>nomatch h
 |k::o,p,v=>λh=>by
  rw[iw]at h;by_cases q:p<(f k).length
  ·rw[dq q]at h;apply#[0,k,p,rfl,(ky p).symm,h]
  ·rw[bh (ba .A .a .aZ q)]at h;have#[s,k',i,J,W,O]:=xD h;apply#[s+1,k',i,J,?_,O];show p=(((k::o).take (s+1)).flatMap f).length+i;rw[List.take_succ_cons,iw,aw];have W:p-(f k).length=((o.take s).flatMap f).length+i:=W
   (rename_i U;show qy (.e .A (.a .Q .D)) .s (.e .F .R) (.e .aI .A) U (aa (ba .A .a .aZ q)))
end
def DH {n:Nat}{A sp B:Nat->List Int}{o:List Nat}(hp:o.Perm (List.range n))(hA:∀k,k<n->∀x∈A k,x/3=k+1)(hB:∀k,k<n->∀x∈B k,x/3=k+1)(hs:∀k,∀x∈sp k,x<0)(ao:∀k,k+1<n->sp k≠[]) :
  Parts (yz (ks ((List.range n).flatMap λk=>A k++sp k)) (ks (o.flatMap B))) ((List.range n).flatMap λk=>A k++sp k).length (o.flatMap B).length n (pre (List.range n) λk=>A k++sp k) (λk=>pre o B (o.idxOf k)) (λk=>(A k).length) (λk=>(B k).length) (λk=>yz (ks (A k)) (ks (B k))) (λk=>o.idxOf k):=by
 have rg:∀{k},k<n->(List.range n)[k]?=some k:=λ{k} h=>by rw[wg h]
 have io:∀{k},k<n->o[o.idxOf k]?=some k:=λ{k} h=>by
  have hm:k∈o:=hp.mem_iff.mpr (gj.mpr h);rw[aq (List.idxOf_lt_length_of_mem hm),List.getElem_idxOf]
 have nd:o.Nodup:=hp.nodup_iff.mpr List.nodup_range;have oi:∀{s k},o[s]?=some k->k<n/\o.idxOf k=s:=λ{s k} h=>by
  have#[hs,e]:=av.mp h;have hk:k<n:=gj.mp (hp.mem_iff.mp (e▸cj hs));have hm:k∈o:=hp.mem_iff.mpr (gj.mpr hk);apply#[hk,?_];rw[<- e];show nd.idxOf_getElem s hs
 have gap:∀k l,k<l->l<n->pre (List.range n) (λk=>A k++sp k) k+(A k).length<pre (List.range n) (λk=>A k++sp k) l:=λk l W z=>by
  have:=mO (f:=λk=>A k++sp k) (rg (Nat.lt_trans W z)) W;have e:(A k++sp k).length=(A k).length+(sp k).length:=aw;have:=List.length_pos_iff.mpr (ao k (fh .V .b .G .M W z))
  (rename_i z1;show mr .K .u .b9 (.e .D .a8) (.l .O .F) z1 e this)
 have key:∀p q,yz (ks ((List.range n).flatMap λk=>A k++sp k)) (ks (o.flatMap B)) p q->∃k i j,k<n/\p=pre (List.range n) (λk=>A k++sp k) k+i/\q=pre o B (o.idxOf k)+j/\i<(A k).length/\j<(B k).length:=λp q h=>by
  have#[v,W,z]:=yz.ints.mp h;have#[s,k,i,e1,e2,e3]:=xD W;have#[s',k',j,f1,f2,f3]:=xD z;have#[ag,rfl]:=oi f1;have#[z1,z2]:=av.mp e1;rw[List.getElem_range]at z2;subst z2;rw[kc]at z1;have#[j1,j2]:=av.mp f3;have v2:=hB k' ag v (j2▸cj j1);by_cases c:i<(A s).length
  ·rw[dq c]at e3;have#[i1,i2]:=av.mp e3;have v1:=hA s z1 v (i2▸cj i1);obtain rfl:s=k':=by(show vB .C .s (.ie .A (.a .P .U)) (.ie .A (.a .L .U)) v2 v1)
   apply#[s,i,j,z1,e2,f2,c,j1]
  ·rw[bh (ba .A .a .aZ c)]at e3;have#[i1,i2]:=av.mp e3;have v1:=hs s v (i2▸cj i1)
   (show False.elim (OZ .ff [[0,-3,1,1,1]] (.ie .A (.a .L .U)) (.il .B .O) (.ik .O .C) (.ie (.a (.m 3 .A) .C) .B) v2 v1 (Ar.imod _ 3 (by decide)).1 (Ar.imod _ 3 (by decide)).2.2))
 apply#[λk l W z=>nv (gap k l W z),λk l W z h3=>mO (io W) h3,λk l W z e=>?_,λk h=>?_,λk h=>yF (io h),λk i j h hi hj=>?_,λp q m hm R=>?_]
 ·have e:o.idxOf k=o.idxOf l:=e;have a:=io W;rw[e,io z]at a;show(af a).symm
 ·have:=yF (f:=λk=>A k++sp k) (rg h);rw[aw]at this
  (show lA .F .a (.k (.a .A .aG) .C) this)
 ·rw[yz.ints,yz.ints,zD (rg h) (by rw[aw];(show gu (.l .A .Q) .a .B hi)),zD (io h) hj,dq hi]
 ·have#[k,i,j,hk,e1,e2,hi,hj]:=key p q (R.eq 0 hm);have all:∀t,t<m->i+t<(A k).length/\j+t<(B k).length:=λt=>by
   induction t with
   |zero=>show λ_=>#[hi,hj]
   |succ t ih =>
    intro ht;have#[a,b]:=ih (ba .B .a .V ht);have#[k',i',j',ag,ai,ay,aj,ax]:=key _ _ (R.eq (t+1) ht);have ar:k'=k:=by
     rcases Nat.lt_trichotomy k k' with q|q|q
     ·have:=gap k k' q ag;(show JP .C [[1,0,0,0,1,0],[0,1,1,-1,0,1]] (.e .C .Y) (.l .a5 .H) (.e (.a .C .aA) (.a .I .J)) .U (.l (.a .D .H) .I) e1 a ai q this)
     ·show q.symm
     ·have:=gap k' k q hk;(show JP .C [[0,-1,1,1,0,1],[1,0,0,0,1,0]] (.e .C .Y) (.e (.a .C .aA) (.a .H .I)) (.l .I .J) .B (.l (.a .H .J) .D) e1 ai aj q this)
    subst ar
    (show#[(eM (.l .a7 .C) .p (.e (.a .D .P) .a5) (.l .G .C) (.e .D .aK) ai aj e1),(eM (.l .a7 .C) .p (.e (.a .D .P) .a5) (.l .G .C) (.e .D .aK) ay ax e2)])
  have:=all (m-1) (ba .B .a .aG (aa (fc .I .a .D hm)));apply#[k,i,j,hk,e1,e2,by show gh .F .d (.l .T .C) (.e .Z .B) this.1 (aa (fc .I .a .D hm)),by show gh .F .d (.l .T .C) (.e .Z .B) this.2 (aa (fc .I .a .D hm))]
end MP
end
section
namespace MP
namespace R9
open PySem SM
def Pt:=Addr×Addr×List Int×List Int
abbrev tP (p:Pt):V:=.T [.L p.1,.L p.2.1]
public abbrev hP (p:Pt):List (Addr×List V):=[(p.2.1,iV p.2.2.2),(p.1,iV p.2.2.1)]
public abbrev nV (o:List Nat):List V:=o.map λk:Nat=>V.int k
inductive OkP:List Pt->Prop
 |nil:OkP []
 |cons {p:Pt} {ps:List Pt}:(∀x∈p.2.2.1,x/3=ps.length+1)->(∀x∈p.2.2.2,x/3=ps.length+1)->OkP ps->OkP (p::ps)
abbrev sX (ps:List Pt):Nat:=(ps.map λp=>p.2.2.1.length).sum
abbrev sY (ps:List Pt):Nat:=(ps.map λp=>p.2.2.2.length).sum
def OkP.at_:∀{ps:List Pt},OkP ps->∀{k:Nat} {p:Pt},ps.reverse[k]?=some p->(∀x∈p.2.2.1,x/3=k+1)/\(∀x∈p.2.2.2,x/3=k+1)
 | [],_,k,p=>λh=>nomatch h
 |q::ps,h,k,p=>λe=>by
  rw[jm]at e;by_cases c:k<ps.reverse.length
  ·rw[dq c]at e;cases h with
   |cons _ _ h=>show OkP.at_ h e
  ·rw[bh (ba .A .a .aZ c)]at e;have#[c2,e]:=av.mp e;have e:=au.mp (e▸cj c2);subst e;rw[iv]at c2;rw[iy]at c c2;obtain rfl:k=ps.length:=by(show oa .C [[1,1,0,0],[1,0,1,-1]] .b2 (.l .C .U) (.e .a6 .A) c c2 (aa (ba .A .a .aZ c)))
   cases h with
   |cons a b _=>refine#[a,b]
def y1 (l:List Nat):l.reverse.sum=l.sum:=by
 induction l with
 |nil=>rfl
 |cons a l W=>rw[jm,List.sum_append,uk,W,uk];show l.sum+(a+0)=_;(show ow (.e (.a .A (.a .B .O)) .aF) .o)
def Hp.perm {σ:St}{l W:List (Addr×List V)}(h:Hp σ l)(p:l.Perm W):Hp σ W:=#[(p.map _).nodup_iff.mp h.nd,λq U=>h.at_ q (p.mem_iff.mpr U)]
def f9 {vs:List V}{G:St->Prop}{T:V->Fr->List V->St->(Fr->List V->St->Prop)->Prop}{K:Fr->List V->St->Prop}(Inv:Nat->Fr->List V->St->Prop)
  (step:∀i v ρ acc σ,vs[i]?=some v->Inv i ρ acc σ->G σ/\∀k:Fr->List V->St->Prop,(∀ρ' acc' σ',Inv (i+1) ρ' acc' σ'->k ρ' acc' σ')->T v ρ acc σ k) (fin:∀ρ acc σ,Inv vs.length ρ acc σ->G σ/\K ρ acc σ) {ρ:Fr} {acc:List V} {σ:St} (h0:Inv 0 ρ acc σ):kY vs G T ρ acc σ K:=by
 have go:∀(ws:List V) (i:Nat) (ρ:Fr) (acc:List V) (σ:St),vs.drop i=ws->Inv i ρ acc σ->i<=vs.length->kY ws G T ρ acc σ K:=by
  intro ws;induction ws with
  |nil =>
   intro i ρ acc σ e h hi;have:i=vs.length:=by have:=oD.mp e;(show iq .C .g .A .a2 hi this)
   subst this;show fin ρ acc σ h
  |cons v ws U =>
   intro i ρ acc σ e h hi;have W:i<vs.length:=by
    rcases pf i vs.length with q|q
    ·show q
    ·rw[jY q]at e;cases e
   rw[cf W]at e;have#[I,J]:=List.cons.inj e;have#[g,O]:=step i v ρ acc σ (by rw[<- I];show aq W) h;apply#[g,O _ λρ' acc' σ' h'=>U (i+1) ρ' acc' σ' J h' W]
 show go vs 0 ρ acc σ rfl h0 (bb _)
def FT {C:Cal}{σ:St}{ρ:Fr}{K:Fl->Fr->St->Prop}{ss:qa}{e f:Ex}{a:Addr}{xs:List V}(v:V)(U:evV σ ρ e=some (.L a))(W:σ.L a=some xs)(h:evV σ ρ f=some v)(l:xs.length<bx)(k:gw C ss ρ (σ.di a (xs++[v])) K):gw C (.cons (.expr (.bm .append e %[f|0])) ss) ρ σ K:=by
 apply jc (Q:=λv σ=>MW .append v σ/\vg C %[f|0] ρ σ λvs σ=>L0 .append v vs σ λv σ=>v=.none/\gw C ss ρ σ K) e U #[(show(σ.L a).isSome=true by rw[W];rfl),?_];rw[nq];apply jc f h ?_;apply#[xs,W,l,rfl,k]
structure PS (ns:List Int)(cl:Addr)(cs:List V)(pl ol:Addr)(p:Pt)(rest:List Pt)(o:List Nat)(n x y:Nat)(ρ:Fr)(σ:St):Prop where
 r0:ρ 0=some (.ro ns)
 r1:ρ 1=some (.L pl)
 r2:ρ 2=some (.L ol)
 hp:Hp σ ((cl,cs)::(ol,nV o)::(pl,((p::rest).reverse).map tP)::(p.2.1,iV p.2.2.2)::(p.1,iV p.2.2.1)::rest.flatMap hP)
 ok:OkP (p::rest)
 ln:rest.length<=n
 lx:sX (p::rest)<=x
 ly:sY (p::rest)<=y
 pm:o.Perm (List.range (rest.length+1))
section
variable {C:Cal}{ns:List Int}{cl pl ol:Addr}{cs:List V}{p:Pt}{rest:List Pt}{o:List Nat}{n x y:Nat}{ρ:Fr}{σ:St}{K:Fl->Fr->St->Prop}
def PS.upd (h:PS ns cl cs pl ol p rest o n x y ρ σ){i:Nat}{v:V}(J:2<i):PS ns cl cs pl ol p rest o n x y (MP.upd ρ i v) σ:=
 #[(er (fc (.u .O .A) .w (.l .W .A) J)).trans h.r0,(er (fc (.u .U .A) .w (.l .W .A) J)).trans h.r1,(er (fc (.u .W .A) .w (.l .W .A) J)).trans h.r2,h.hp,h.ok,h.ln,h.lx,h.ly,h.pm]
def PS.mono (h:PS ns cl cs pl ol p rest o n x y ρ σ){O U W:Nat}(a:n<=O)(b:x<=U)(c:y<=W):PS ns cl cs pl ol p rest o O U W ρ σ:=
 #[h.r0,h.r1,h.r2,h.hp,h.ok,kz h.ln a,kz h.lx b,kz h.ly c,h.pm]
def PS.lp (h:PS ns cl cs pl ol p rest o n x y ρ σ):evV σ ρ (.bf .len %[.l 1|0])=some (.int (rest.length+1:Nat)):=by
 have:=qe h.r1 (h.hp.get 2 rfl)
 rwa [iy]at this
def PS.at_ (h:PS ns cl cs pl ol p rest o n x y ρ σ)(I:n<=63){i:Int}{v:V}(W:nB σ (tP p) (.int i)=some v):evV σ ρ (.sub (.sub (.l 1) (.neg (.int 1))) (.int i))=some v:=by
 have e:((p::rest).reverse.map tP)[(rest.length:Nat)]?=some (tP p):=by
  rw[jm,cu,bh (by rw[ak,iy];show az _),ak,iy,Nat.sub_self];rfl
 have hl:((p::rest).reverse.map tP).length=rest.length+1:=by rw[ak,iy];rfl
 have J:evV σ ρ (.sub (.l 1) (.neg (.int 1)))=some (tP p):=by
  rw[lP,lz,h.r1];show(σ.L pl).bind (λxs=>fD xs (-1))=_;rw[h.hp.get 2 rfl];show fD _ (-1)=_;have U:jt ((p::rest).reverse.map tP).length (-1)=(rest.length:Nat):=by
   rw[hl];unfold jt;rw[cn (by decide)];(show nt (.ie (.a (.ng 1) (.t .M)) .L) .o)
  unfold fD;rw[U,cn (nt (.ik .O .L) .h),qq];show e
 rw[lP,J];show W
def M5 {m k:Nat}:(nV o).take m++V.int k::(nV o).drop m=nV (o.take m++k::o.drop m):=by
 rw[<- List.map_take,<- List.map_drop];show(cu (l₁:=o.take m) (l₂:=k::o.drop m)).symm
def K5 (H:PS ns cl cs pl ol p rest o n x y ρ σ)(hn:n<=63)(I:y<=63){r v:Int}(W:ρ 5=some (.int r))(J:ρ 6=some (.int v))(z:v/3=(rest.length:Nat)+1)(hk:∀p ρ' σ',PS ns cl cs pl ol p rest o n x (y+1) ρ' σ'->K .next ρ' σ') :
  gw C (.cons (.C (.or (.c .eq (.l 5) (.int 1)) (.c .eq (.l 5) (.int 3))) (.cons (.expr (.bm .append (.sub (.sub (.l 1) (.neg (.int 1))) (.int 1)) %[.l 6|0]))
 .nil) .nil) .nil) ρ σ K:=by
 apply lC (r=1\/r=3) (s6 (by rw[yd,lz,W];rfl) (by rw[yd,lz,W];rfl)) (λc=>?_) λc=>tw (og (hk p _ _ (H.mono (az _) (az _) (dI _))));have U:=H.ly;have O:sY (p::rest)=p.2.2.2.length+sY rest:=uk;apply FT (.int v) (H.at_ hn (i:=1) (v:=.L p.2.1) rfl) (H.hp.get 3 rfl) J (by rw[ak];unfold bx;(show pe .aD .p .a7 .H (.e .C .T) I U O)) (tw (og (hk (p.1,p.2.1,p.2.2.1,p.2.2.2++[v]) _ _ #[H.r0,H.r1,H.r2,?_,?_,H.ln,H.lx,?_,H.pm])))
 ·have e:iV p.2.2.2++[V.int v]=iV (p.2.2.2++[v]):=(cu (l₁:=p.2.2.2) (l₂:=[v])).symm;rw[e];have:=H.hp.set 3 rfl (iV (p.2.2.2++[v]));rw[jm,cu];rw[jm,cu]at this;show this
 ·cases H.ok with
  |cons a b c =>
   apply .cons a (λx B=>?_) c;rcases cq.mp B with q|q
   ·show b x q
   ·rw[au.mp q];show z
 ·show(p.2.2.2++[v]).length+sY rest<=_;rw[aw,iv];(show gh (.k .a2 .S) .d .bM (.e .D .L) U O)
def K6 (H:PS ns cl cs pl ol p rest o n x y ρ σ)(hn:n<=63)(hx:x<=63)(hy:y<=63){q r:Int}(r4:ρ 4=some (.int q))(W:ρ 5=some (.int r))(hk:∀p ρ' σ',PS ns cl cs pl ol p rest o n (x+1) (y+1) ρ' σ'->K .next ρ' σ') :
  gw C (.cons (.a [(.v 6)] (.b .add (.b .mul (.int 3) (.bf .len %[.l 1|0])) (.b .mod (.l 4) (.int 3))))
 (.cons (.C (.or (.c .eq (.l 5) (.int 1)) (.c .eq (.l 5) (.int 2))) (.cons (.expr (.bm .append (.sub (.sub (.l 1) (.neg (.int 1))) (.int 0)) %[.l 6|0]))
 .nil) .nil)
 (.cons (.C (.or (.c .eq (.l 5) (.int 1)) (.c .eq (.l 5) (.int 3))) (.cons (.expr (.bm .append (.sub (.sub (.l 1) (.neg (.int 1))) (.int 1)) %[.l 6|0]))
 .nil) .nil)
 .nil))) ρ σ K:=by
 apply kO (.int (3*((rest.length+1:Nat):Int)+q%3)) ?_ ?_
 ·rw[yc,yc,yc,H.lp,lz,r4];show((oz ((3:Int).natAbs<2^60\/((rest.length+1:Nat):Int).natAbs<2^60) (V.int (3*((rest.length+1:Nat):Int)))).bind λva=>(oz ((0:Int)<3) (V.int (q%3))).bind λvb=>gO .add va vb)=_;unfold oz;rw[cn (.inl (by decide)),cn (by decide)];rfl
 have I:(3*((rest.length+1:Nat):Int)+q%3)/3=(rest.length:Nat)+1:=by(show OX (.ie .A (.a .L .U)) [[3,0,1,-1,1,0],[3,1,0,1,0,1]] (.ik .O .B) (.il .B (.n 3)) (.ie (.a (.m 3 .A) .B) (.a (.m 3 (.t .M)) .C)) (.ik .O .C) (.il .C (.n 3)) (Ar.imod _ 3 (by decide)).1 (Ar.imod _ 3 (by decide)).2.1 (Ar.imod _ 3 (by decide)).2.2 (Ar.imod _ 3 (by decide)).1 (Ar.imod _ 3 (by decide)).2.1)
 have H1:=H.upd (i:=6) (v:=.int (3*((rest.length+1:Nat):Int)+q%3)) (by decide);have W:upd ρ 6 (.int (3*((rest.length+1:Nat):Int)+q%3)) 5=some (.int r):=W;have J:upd ρ 6 (.int (3*((rest.length+1:Nat):Int)+q%3)) 6=some (.int (3*((rest.length+1:Nat):Int)+q%3)):=rfl;generalize upd ρ 6 (.int (3*((rest.length+1:Nat):Int)+q%3))=z at H1 W J;generalize 3*((rest.length+1:Nat):Int)+q%3=v at I J;apply lC (r=1\/r=2) (s6 (by rw[yd,lz,W];rfl) (by rw[yd,lz,W];rfl)) (λc=>?_) λc=>tw (K5 (H1.mono (az _) (dI _) (az _)) hn hy W J I hk);have lx:=H1.lx;have ex:sX (p::rest)=p.2.2.1.length+sX rest:=uk;have e:iV p.2.2.1++[V.int v]=iV (p.2.2.1++[v]):=(cu (l₁:=p.2.2.1) (l₂:=[v])).symm;have H2:PS ns cl cs pl ol (p.1,p.2.1,p.2.2.1++[v],p.2.2.2) rest o n (x+1) y z (σ.di p.1 (iV (p.2.2.1++[v]))):=by
  apply#[H1.r0,H1.r1,H1.r2,?_,?_,H1.ln,?_,H1.ly,H1.pm]
  ·have:=H1.hp.set 4 rfl (iV (p.2.2.1++[v]));rw[jm,cu];rw[jm,cu]at this;show this
  ·cases H1.ok with
   |cons a b c =>
    apply .cons (λx hx=>?_) b c;rcases cq.mp hx with q|q
    ·show a x q
    ·rw[au.mp q];show I
  ·show(p.2.2.1++[v]).length+sX rest<=_;rw[aw,iv];(show gh (.k .a2 .S) .d .bM (.e .D .L) lx ex)
 apply FT (.int v) (H1.at_ hn (i:=0) (v:=.L p.1) rfl) (H1.hp.get 4 rfl) J (by rw[ak];unfold bx;(show pe .aD .p .a7 .H (.e .C .T) hx lx ex)) (tw ?_);rw[e];show K5 H2 hn hy W J I hk
def DG {m k:Nat}(h:o.Perm (List.range k)):(o.take m++k::o.drop m).Perm (List.range (k+1)):=by
 rw[List.range_succ];apply List.perm_middle.trans ?_;rw[eh];show(List.Perm.cons k h).trans (List.perm_append_singleton k _).symm
def NI (H:PS ns cl cs pl ol p rest o n x y ρ σ)(hn:n<=62)(hx:x<=63)(hy:y<=63){q:Int}(r3:ρ 3=some (.int q))(hk:∀p rest o ρ' σ',PS ns cl cs pl ol p rest o (n+1) (x+1) (y+1) ρ' σ'->K .next ρ' σ') :
  gw C (.cons (.a [(.T [4,5])] (.bf .divmod %[.l 3,.int 4|0]))
 (.cons (.C (.c .eq (.l 5) (.int 0)) (.cons (.expr (.bm .insert (.l 2) %[.b .mod (.l 4) (.b .add (.bf .len %[.l 2|0]) (.int 1)),.bf .len %[.l 1|0]|0]))
 (.cons (.expr (.bm .append (.l 1) %[.T %[.L .nil,.L .nil|0]|0]))
 .nil)) .nil)
 (.cons (.a [(.v 6)] (.b .add (.b .mul (.int 3) (.bf .len %[.l 1|0])) (.b .mod (.l 4) (.int 3))))
 (.cons (.C (.or (.c .eq (.l 5) (.int 1)) (.c .eq (.l 5) (.int 2))) (.cons (.expr (.bm .append (.sub (.sub (.l 1) (.neg (.int 1))) (.int 0)) %[.l 6|0]))
 .nil) .nil)
 (.cons (.C (.or (.c .eq (.l 5) (.int 1)) (.c .eq (.l 5) (.int 3))) (.cons (.expr (.bm .append (.sub (.sub (.l 1) (.neg (.int 1))) (.int 1)) %[.l 6|0]))
 .nil) .nil)
 .nil))))) ρ σ K:=by
 apply vD [.int (q/4),.int (q%4)] ?_ rfl ?_
 ·rw[wW,gm,gm,yu,lz,r3];show oz ((0:Int)<4/\(4:Int).natAbs<2^60) (V.T [.int (q/4),.int (q%4)])=_;unfold oz;rw[cn (by decide)]
 have H1:PS ns cl cs pl ol p rest o n x y (gv [4,5] [.int (q/4),.int (q%4)] ρ) σ:=(H.upd (i:=4) (by decide)).upd (i:=5) (by decide);have r4:gv [4,5] [.int (q/4),.int (q%4)] ρ 4=some (.int (q/4)):=rfl;have z:gv [4,5] [.int (q/4),.int (q%4)] ρ 5=some (.int (q%4)):=rfl;generalize gv [4,5] [.int (q/4),.int (q%4)] ρ=ax at H1 r4 z;generalize q/4=d at r4;generalize q%4=r at z;apply lC (r=0) (by rw[yd,lz,z];rfl) (λc=>?_) λc=>tw (K6 (H1.mono (dI _) (az _) (az _)) (by omega) hx hy r4 z λp=>hk p rest o);have ag:o.length=rest.length+1:=by rw[H1.pm.length_eq,kc]
 have ln:=H1.ln;have#[m,hm,em]:∃m:Nat,m<=o.length/\d%((o.length:Int)+1)=m:=by
  have h1:=Int.emod_nonneg d (show((o.length:Int)+1)≠0 by show nt (.iu (.a .L .U) .O) .h);have h2:=Int.emod_lt_of_pos d (show(0:Int)<(o.length:Int)+1 by show nt (.il .O (.a .L .U)) .h);apply#[(d%((o.length:Int)+1)).toNat,by show(Ar.ton _).elim (λW=>(vB .A .b (.il .A (.a .P .U)) .bP h2 W.2)) λW=>(ba .A .a .N W.2),by show(Ar.ton _).elim (λW=>(KS (.ie .A .L) .f .bP W.2)) λW=>(PA (.ie .A .L) .l .a8 .bI .N h1 W.1 W.2)]
 apply#[_,H1.r2,(show(σ.L ol).isSome=true by rw[H1.hp.get 1 rfl];rfl),?_];rw[nq];apply jc (v:=.int m) _ ?_ ?_
 ·rw[yc,yc,qe H1.r2 (H1.hp.get 1 rfl),lz,r4];show oz ((0:Int)<(o.length:Int)+1) (V.int (d%((o.length:Int)+1)))=_;unfold oz;rw[cn (nt (.il .O (.a .L .U)) .h),em]
 rw[nq];apply jc _ H1.lp ?_;apply#[_,H1.hp.get 1 rfl,by rw[ak];unfold bx;(show oa .aD .e (.k .B (.n 62)) (.e .A .S) .H hn ag ln),by show nt (.ik .O .L) .h,by show zg (.il .L (.n (2^60))) .k (.k .B (.n 62)) (.e .C .Z) .cJ .J hn ag ln hm,rfl,?_];have ec:iz (nV o).length (m:Int)=m:=qA (by rw[ak];show hm);rw[ec,M5];have I:=H1.hp.set 1 rfl (nV (o.take m++(rest.length+1)::o.drop m));have I:Hp (σ.di ol (nV (o.take m++(rest.length+1)::o.drop m))) ((cl,cs)::(ol,nV (o.take m++(rest.length+1)::o.drop m))::(pl,((p::rest).reverse).map tP)::(p.2.1,iV p.2.2.2)::(p.1,iV p.2.2.1)::rest.flatMap hP):=I;have ai:=DG (m:=m) H1.pm;generalize o.take m++(rest.length+1)::o.drop m=o2 at I ai;generalize σ.di ol (nV o2)=aj at I;apply#[_,H1.r1,(show(aj.L pl).isSome=true by rw[I.get 2 rfl];rfl),?_];rw[nq,qK,nq];apply#[bb _,λc1 ar=>#[bb _,λc2 ao=>?_]];have Q2:=I.new ar [];have Q3:=Q2.new ao [];apply#[bz rfl,_,Q3.get 4 rfl,by rw[ak,iy];unfold bx;show rest.length+1<_;(show iq (.l .M .V) .b (.k .B (.n 62)) .A hn ln),rfl,?_];have Q4:=Q3.set 4 rfl (((p::rest).reverse).map tP++[V.T [.L c1,.L c2]]);have e:((p::rest).reverse).map tP++[V.T [.L c1,.L c2]]=(((c1,c2,[],[])::p::rest).reverse).map tP:=by
  rw[jm (as:=p::rest),cu];rfl
 rw[e]at Q4 ⊢;apply tw (C:=C) (K6 (p:=(c1,c2,[],[])) (rest:=p::rest) (o:=o2) (n:=n+1) (x:=x) (y:=y) #[H1.r0,H1.r1,H1.r2,?_,?_,zx H1.ln,?_,?_,ai] (fc (.k .M (.n 63)) .a (.k .A (.n 62)) hn) hx hy r4 z λp'=>hk p' (p::rest) o2)
 ·apply Hp.perm Q4 ?_;show List.Perm.append_right (t₁:=(p.2.1,iV p.2.2.2)::(p.1,iV p.2.2.1)::rest.flatMap hP) (lG (l₁:=[(c2,[]),(c1,[])]) (l₂:=[(cl,cs),(ol,nV o2),(pl,(((c1,c2,[],[])::p::rest).reverse).map tP)]))
 ·show .cons (λx h=>nomatch h) (λx h=>nomatch h) H1.ok
 ·show 0+sX (p::rest)<=x;rw[ky];show H1.lx
 ·show 0+sY (p::rest)<=y;rw[ky];show H1.ly
end
structure HB (σ:St)(pl ol:Addr)(S:List Pt)(o:List Nat):Prop where
 lp:σ.L pl=some (S.map tP)
 lo:σ.L ol=some (nV o)
 at_:∀(k:Nat) (p:Pt),S[k]?=some p->(σ.L p.1=some (iV p.2.2.1)/\σ.L p.2.1=some (iV p.2.2.2))/\(∀x∈p.2.2.1,x/3=k+1)/\(∀x∈p.2.2.2,x/3=k+1)
 pm:o.Perm (List.range S.length)
 n0:0<S.length
 nl:S.length<=64
 sx:sX S<=63
 sy:sY S<=63
def HB.ext {σ σ':St}{pl ol:Addr}{S:List Pt}{o:List Nat}(h:HB σ pl ol S o)(E:Ext σ σ'):HB σ' pl ol S o:=
 #[E.L _ _ h.lp,E.L _ _ h.lo,λk p e=>#[#[E.L _ _ (h.at_ k p e).1.1,E.L _ _ (h.at_ k p e).1.2],(h.at_ k p e).2],h.pm,h.n0,h.nl,h.sx,h.sy]
def PS.hb {ns:List Int}{cl pl ol:Addr}{cs:List V}{p:Pt}{rest:List Pt}{o:List Nat}{ρ:Fr}{σ:St}(h:PS ns cl cs pl ol p rest o 63 63 63 ρ σ):HB σ pl ol (p::rest).reverse o:=by
 have W:=h.ln;have hl:(p::rest).reverse.length=rest.length+1:=by rw[iy];rfl
 apply#[h.hp.get 2 rfl,h.hp.get 1 rfl,λk q e=>#[?_,h.ok.at_ e],by rw[hl];show h.pm,by show ba .D .y .a3 hl,by show iq .c1 .b .a7 .a3 W hl,?_,?_]
 ·have U:q∈p::rest:=nc.mp (fe e);have key:∀z∈hP q,z∈(p::rest).flatMap hP:=λz hz=>List.mem_flatMap.mpr #[q,U,hz];apply#[h.hp.at_ (q.1,iV q.2.2.1) (.tail _ (.tail _ (.tail _ (key _ (.tail _ (.head _)))))),h.hp.at_ (q.2.1,iV q.2.2.2) (.tail _ (.tail _ (.tail _ (key _ (.head _)))))]
 ·unfold sX;rw[List.map_reverse,y1];show h.lx
 ·unfold sY;rw[List.map_reverse,y1];show h.ly
structure RP (ns:List Int)(pl ol:Addr)(ρ:Fr):Prop where
 r0:ρ 0=some (.ro ns)
 r1:ρ 1=some (.L pl)
 r2:ρ 2=some (.L ol)
def IJ {C:Cal}{ns:List Int}{ρ:Fr}{σ:St}{K:Fl->Fr->St->Prop}{ss:qa}(r0:ρ 0=some (.ro ns))(U:ns.length<=63)(hk:∀pl ol S o ρ' σ',RP ns pl ol ρ'->HB σ' pl ol S o->gw C ss ρ' σ' K) :
  gw C (.cons (.a [(.T [1,2])] (.T %[.L %[.T %[.L .nil,.L .nil|0]|0],.L %[.int 0|0]|0]))
 (.cons (.each (.v 3) (.seq (.slc (.l 0) .none (.int 63))) (.cons (.a [(.T [4,5])] (.bf .divmod %[.l 3,.int 4|0]))
 (.cons (.C (.c .eq (.l 5) (.int 0)) (.cons (.expr (.bm .insert (.l 2) %[.b .mod (.l 4) (.b .add (.bf .len %[.l 2|0]) (.int 1)),.bf .len %[.l 1|0]|0]))
 (.cons (.expr (.bm .append (.l 1) %[.T %[.L .nil,.L .nil|0]|0]))
 .nil)) .nil)
 (.cons (.a [(.v 6)] (.b .add (.b .mul (.int 3) (.bf .len %[.l 1|0])) (.b .mod (.l 4) (.int 3))))
 (.cons (.C (.or (.c .eq (.l 5) (.int 1)) (.c .eq (.l 5) (.int 2))) (.cons (.expr (.bm .append (.sub (.sub (.l 1) (.neg (.int 1))) (.int 0)) %[.l 6|0]))
 .nil) .nil)
 (.cons (.C (.or (.c .eq (.l 5) (.int 1)) (.c .eq (.l 5) (.int 3))) (.cons (.expr (.bm .append (.sub (.sub (.l 1) (.neg (.int 1))) (.int 1)) %[.l 6|0]))
 .nil) .nil)
 .nil)))))) ss)) ρ σ K:=by
 rw[jZ,qK,nq];apply#[bb _,λc1 ax=>#[bb _,λc2 ar=>#[bz rfl,bz rfl,λpl ag=>?_]]];apply#[bz rfl,λol ai=>#[bz rfl,_,rfl,rfl,?_]];have Q:=(((Hp.nil (σ:=σ)).new ax []).new ar []).new ag [V.T [.L c1,.L c2]];have Q:=Q.new ai [.int 0];have q0:gv [1,2] [.L pl,.L ol] ρ 0=some (.ro ns):=r0;have q1:gv [1,2] [.L pl,.L ol] ρ 1=some (.L pl):=rfl;have q2:gv [1,2] [.L pl,.L ol] ρ 2=some (.L ol):=rfl;show gw _ _ (gv [1,2] [.L pl,.L ol] ρ) _ _;generalize gv [1,2] [.L pl,.L ol] ρ=J at q0 q1 q2;have Q:Hp ((((σ.di c1 []).di c2 []).di pl [V.T [.L c1,.L c2]]).di ol [.int 0]) [(ol,[.int 0]),(pl,[V.T [.L c1,.L c2]]),(c2,[]),(c1,[])]:=Q;show gw _ _ J ((((σ.di c1 []).di c2 []).di pl [V.T [.L c1,.L c2]]).di ol [.int 0]) _;generalize (((σ.di c1 []).di c2 []).di pl [V.T [.L c1,.L c2]]).di ol [.int 0]=O at Q;apply#[_,q0,0,63,by unfold bx;(show fc .b8 .a .X U),rfl,rfl,by decide,by decide,λcl ao=>?_];rw[nP,rv];have Q:=Q.new ao ((ns.take (iz ns.length 63)).map V.int);generalize aj:ns.take (iz ns.length 63)=ms at Q;have W:ms.length<=63:=by rw[<- aj,fb];(show iq .X .b .a7 .A U (Ar.ji _ _).2.1)
 generalize O.di cl (ms.map V.int)=σ2 at Q;apply#[_,Q.get 0 rfl,?_];apply pk (λt ρ' σ'=>∃p rest o,PS ns cl (ms.map V.int) pl ol p rest o t t t ρ' σ') (λt v ρ' σ' hv I=>?_) (λρ' σ' I=>?_) #[(c1,c2,[],[]),[],[0],#[q0,q1,q2,Q,.cons (λx h=>nomatch h) (λx h=>nomatch h) .nil,az _,az _,az _,List.Perm.refl _]]
 ·have#[p,rest,o,H]:=I;rw[cy]at hv;have#[z,hz,rfl]:=omap hv;have ht:=(av.mp hz).1;apply#[H.hp.get 0 rfl,λkk ay=>?_];show NI (K:=wk kk _) (H.upd (i:=3) (v:=.int z) (by decide)) (iq (.k .A (.n 62)) .b .a7 .B W ht) (iq .X .b .a7 .B W ht) (iq .X .b .a7 .B W ht) rfl λp rest o ρ' σ' H'=>ay _ _ #[p,rest,o,H']
 ·have#[p,rest,o,H]:=I;rw[ak]at H;have H:=H.mono W W W;apply#[H.hp.get 0 rfl,hk pl ol _ o ρ' σ' #[H.r0,H.r1,H.r2] H.hb]
end R9
namespace R9
open PySem SM
variable {C:Cal}{σ:St}{ρ:Fr}{Q:V->St->Prop}{T:List (Addr×List T3)}
def hU {α:Type}{f:α->Nat}{p:α}:∀{S:List α},p∈S->f p<=(S.map f).sum
 | [],h=>nomatch h
 |q::S,h=>by
  rw[kh,uk];rcases cw.mp h with rfl|h
  ·show km _ _
  ·have:=hU (f:=f) h;(show gu (.k .A .Q) .a .J this)
def n8 {more:Gens}{x:Nat}{v:V}{acc:List V}{K:Fr->List V->St->Prop}(h:uy C more (upd ρ x v) acc σ K) :
  qg (.v x) v σ ρ λρ'=>wh C .nil ρ' σ λok σ=>if ok then uy C more ρ' acc σ K else K ρ' acc σ:=h
def EH {more:Gens}{xs:List Nat}{vs:List V}{acc:List V}{K:Fr->List V->St->Prop}(hl:xs.length=vs.length)(h:uy C more (gv xs vs ρ) acc σ K) :
  qg (.T xs) (.T vs) σ ρ λρ'=>wh C .nil ρ' σ λok σ=>if ok then uy C more ρ' acc σ K else K ρ' acc σ:=#[vs,rfl,hl,h]
def tD {k:Nat}{es:Exs}:wpE C (.call k es) ρ σ Q=vg C es ρ σ λvs σ=>C k vs σ Q:=rfl
def lK {k:BF}{e:Ex}:wpE C (.bf k %[e|0]) ρ σ Q=wpE C e ρ σ λv σ=>tF k [v] σ Q:=rfl
def y4 {α:Type}{T:List α}{q W:α}{k:Nat}(h:(T++[q])[k]?=some W):(k<T.length/\T[k]?=some W)\/(k=T.length/\W=q):=by
 by_cases c:k<T.length
 ·rw[dq c]at h;show .inl #[c,h]
 ·rw[bh (ba .A .a .aZ c)]at h;have#[c2,e]:=av.mp h;have e:=au.mp (e▸cj c2);rw[iv]at c2;show .inr #[by show oa .C [[1,1,0,0],[1,0,1,-1]] .b2 (.l .C .U) (.e .a6 .A) c c2 (aa (ba .A .a .aZ c)),e]
public abbrev BP (p:Pt)(K:List T3):Prop:=BT (yz (ks p.2.2.1) (ks p.2.2.2)) 0 p.2.2.1.length 0 p.2.2.2.length K
structure HT (σ:St)(tl:Addr)(S:List Pt)(T:List (Addr×List T3)):Prop where
 lt:σ.L tl=some (T.map λq=>V.L q.1)
 ln:T.length=S.length
 at_:∀(k:Nat) (q:Addr×List T3) (p:Pt),T[k]?=some q->S[k]?=some p->σ.L q.1=some (kV q.2)/\BP p q.2
def HT.ext {σ':St}{tl:Addr}{S:List Pt}(h:HT σ tl S T)(E:Ext σ σ'):HT σ' tl S T:=
 #[E.L _ _ h.lt,h.ln,λk q p a b=>#[E.L _ _ (h.at_ k q p a b).1,(h.at_ k q p a b).2]]
def DV {n:Nat}{pl ol:Addr}{S:List Pt}{o:List Nat}(r1:ρ 1=some (.L pl))(B:HB σ pl ol S o)(h:∀tl σ' T,Ext σ σ'->σ.L tl=none->HT σ' tl S T->Q (.L tl) σ') :
  wpE (ku P (n+1)) (.K [] (.seq (.l 1)) (.T [1,2]) .nil (.elt (.call 10 %[.l 1,.l 2|0]))) ρ σ Q:=by
 rw[cX,cW];apply#[_,r1,_,B.lp,?_];apply f9 (λi ρ acc σ'=>Ext σ σ'/\∃T:List (Addr×List T3),T.length=i/\acc=T.map (λq=>V.L q.1)/\∀(k:Nat) (q:Addr×List T3) (p:Pt),T[k]?=some q->S[k]?=some p->σ'.L q.1=some (kV q.2)/\BP p q.2) (λi v ρ acc σ' hv I=>?_) (λρ acc σ' I=>?_) #[Ext.refl σ,[],rfl,rfl,λk q p e=>nomatch e]
 ·have#[E,T,W,rfl,U]:=I;rw[cy]at hv;have#[p,O,rfl]:=omap hv;apply#[E.L _ _ B.lp,λkk ag=>EH rfl ?_];have B':=(B.ext E).at_ i p O;have hm:p∈S:=fe O;have hi:=(av.mp O).1;have lx:=hU (f:=λp:Pt=>p.2.2.1.length) hm;have ly:=hU (f:=λp:Pt=>p.2.2.2.length) hm;have sx:=B.sx;have sy:=B.sy;have nl:=B.nl;unfold sX at sx;unfold sY at sy;show wpE _ (.call 10 _) (gv [1,2] [.L p.1,.L p.2.1] ρ) σ' _;rw[tD];apply#[_,rfl,_,rfl,IH (la:=p.1) (lb:=p.2.1) (xs:=p.2.2.1) (ys:=p.2.2.2) #[B'.1.1,B'.1.2,by show iq .X .b .A .a7 lx sx,by show iq .X .b .A .a7 ly sy] λc σ2 K' E2 J z kK=>?_];apply#[by rw[ak];unfold bx;(show oa .aD .e .C .aI (.k .C (.n 64)) W hi nl),ag _ _ _ #[E.trans E2,T++[(c,K')],by rw[aw,W];rfl,(cu (l₁:=T) (l₂:=[(c,K')])).symm,λk q p' a b=>?_]];rcases y4 a with ⟨_,a⟩|⟨rfl,rfl⟩
  ·apply#[E2.L _ _ (U k q p' a b).1,(U k q p' a b).2]
  ·rw[W,O]at b;have rfl:=af b;have#[L,bt]:=BT.ex (yz (ks p.2.2.1) (ks p.2.2.2)) p.2.2.1.length 0 p.2.2.1.length 0 p.2.2.2.length (az _);have e:=uJ kK bt;apply#[z,?_];show BT _ _ _ _ _ K';rw[e];show bt
 ·have#[E,T,W,rfl,U]:=I;rw[ak]at W;apply#[E.L _ _ B.lp,λc J=>h c _ T (E.di (E.noL J)) (E.noL J) #[cm _ _ _,W,λk q p a b=>#[?_,(U k q p a b).2]]];show((Ext.refl σ').di J).L _ _ (U k q p a b).1
structure HG (σ:St)(gl:Addr)(T:List (Addr×List T3))(G:List Nat):Prop where
 lg:σ.L gl=some (nV G)
 ln:G.length=T.length
 at_:∀(k:Nat) (q:Addr×List T3) (g:Nat),T[k]?=some q->G[k]?=some g->(∀t∈q.2,t.2.2<=g)/\(g=0\/∃t∈q.2,t.2.2=g)
def HG.ext {σ':St}{gl:Addr}{G:List Nat}(h:HG σ gl T G)(E:Ext σ σ'):HG σ' gl T G:=#[E.L _ _ h.lg,h.ln,h.at_]
def BP.len {p:Pt}{K:List T3}(b:BP p K):K.length<=p.2.2.1.length:=by
 have:=yi (lo:=0) b.ok.1 b.ok.2.1 (λ_ _=>bb _) (bb _)
 (show ba .A .a .c2 this)
def DX {tl:Addr}{S:List Pt}(r7:ρ 7=some (.L tl))(B:HT σ tl S T)(hs:S.length<=64)(hx:sX S<=63)(h:∀gl σ' G,Ext σ σ'->σ.L gl=none->HG σ' gl T G->Q (.L gl) σ') :
  wpE C (.K [] (.seq (.l 7)) (.v 1) .nil (.elt (.bf .maxL %[.b .add (.L %[.int 0|0]) (.K [] (.seq (.l 1)) (.T [1,2,3]) .nil (.elt (.l 3)))|0]))) ρ σ Q:=by
 rw[cX,cW];apply#[_,r7,_,B.lt,?_];apply f9 (λi ρ acc σ'=>Ext σ σ'/\∃G:List Nat,G.length=i/\acc=nV G/\∀(k:Nat) (q:Addr×List T3) (g:Nat),T[k]?=some q->G[k]?=some g->(∀t∈q.2,t.2.2<=g)/\(g=0\/∃t∈q.2,t.2.2=g)) (λi v ρ acc σ' hv I=>?_) (λρ acc σ' I=>?_) #[Ext.refl σ,[],rfl,rfl,λk q p _ e=>nomatch e]
 ·have#[E,G,z,rfl,hT]:=I;rw[cy]at hv;have#[q,hq,rfl]:=omap hv;apply#[E.L _ _ B.lt,λkk ai=>n8 ?_];have hi:=(av.mp hq).1;have ln:=B.ln;have#[hk,bp]:=(B.ext E).at_ i q S[i] hq (aq (fh .B .b .G .aL hi ln));have hl:=BP.len bp;have lx:=hU (f:=λp:Pt=>p.2.2.1.length) (S:=S) (cj (show i<S.length by show fh .B .b .G .aL hi ln));unfold sX at hx;have r1:upd ρ 1 (.L q.1) 1=some (.L q.1):=rfl;show wpE _ (.bf .maxL _) (upd ρ 1 (.L q.1)) σ' _;generalize upd ρ 1 (.L q.1)=aj at r1;have fm:(q.2.flatMap λt=>[V.int t.2.2])=q.2.map λt=>V.int t.2.2:=by
   generalize q.2=l;induction l with
   |nil=>rfl
   |cons a l ih=>show dj _ ih
  rw[lK];apply Gv.cat (xs:=[V.int 0]) (ys:=q.2.flatMap λt=>[V.int t.2.2]) (Fv.L (λ_ _=>rfl) (bz rfl)).g (Fv.K (t:=.T [1,2,3]) (us:=q.2) (u:=λr=>iT (jJ r)) (λt=>[V.int t.2.2]) (λ_=>True) (Gv.l r1 hk) trivial (by unfold bx;(show oa .b8 .e .a7 .J .H hx hl lx)) λσ _ v hv ρ' _ K hK=>#[_,rfl,rfl,hK _ trivial (Gives.one rfl)]).g ?_ σ' _ (Ext.refl σ') λc σ2 E2 hc ag=>?_
  ·rw[fm,ak];show 1+_<=_;unfold bx;(show oa (.k (.a .U .A) .V) .e .a7 .J .H hx hl lx)
  ·have e:[V.int 0]++(q.2.flatMap λt=>[V.int t.2.2])=(0::q.2.map λt:T3=>(t.2.2:Int)).map V.int:=by
    rw[fm,kh,jf];rfl
   rw[e]at ag;apply#[_,ag,List.cons_ne_nil _ _,λm hm W=>?_];have h0:0<=m:=W 0 (.head _);have#[g,rfl]:=Int.eq_ofNat_of_zero_le h0;apply#[by rw[ak];unfold bx;(show zg .aD .k .aR .cL .R .c9 hs z hi ln),ai _ _ _ #[E.trans E2,G++[g],by rw[aw,z];rfl,(cu (l₁:=G) (l₂:=[g])).symm,λk q' g' a b=>?_]];rcases y4 b with ⟨_,b⟩|⟨rfl,rfl⟩
   ·show hT k q' g' a b
   ·rw[z,hq]at a;have rfl:=af a;apply#[λt ht=>?_,?_]
    ·have:=W _ (.tail _ (eg.mpr #[t,ht,rfl]))
     (show ba .A .a (.ik .L .P) this)
    ·rcases cw.mp hm with q|q
     ·show .inl (fc .N .t (.ie .L .O) q)
     ·have#[t,ht,et]:=eg.mp q;show .inr #[t,ht,by show ba .C .i (.ie .L .P) et]
 ·have#[E,G,z,rfl,hT]:=I;rw[ak]at z;apply#[E.L _ _ B.lt,λc hc=>h c _ G (E.di (E.noL hc)) (E.noL hc) #[cm _ _ _,z,hT]]
end R9
namespace R9
open PySem SM
variable {Q:V->St->Prop}{op:Cop}{a b:Ex}{pl gl:Addr}
abbrev cc (o:List Nat)(l k:Nat):Bool:=decide (l<k↔o.idxOf l<o.idxOf k)
def uL {k:Nat}:∀{o:List Nat},(o.map λk:Nat=>(k:Int)).idxOf (k:Int)=o.idxOf k
 | []=>rfl
 |a::o=>by
  rw[kh,List.idxOf_cons,List.idxOf_cons,uL];have:((a:Int)==(k:Int))=(a==k):=by
   by_cases e:a=k
   ·subst e;rw[iZ,iZ]
   ·rw[mn.mpr e,mn.mpr (λq=>e (Int.ofNat.inj q))]
  rw[this]
def zR {σ:St}{a b:Bool}{K:Bool->Prop}(h:K (a != b)):zj .ne (.bool a) (.bool b) σ K:=by
 apply#[.bool a,.bool b,rfl,rfl,?_];have e:PyData.eqv (.bool a) (.bool b)=(a==b):=by cases a<;>cases b<;>simp[PyData.eqv]
 rw[e];have W:(!(a==b))=(a != b):=rfl;rw[W];show h
def ET {σ:St}{n:Nat}{a:Addr}{L:List Nat}(h:σ.L a=some (nV L)):eL σ (n+2) (.L a)=some (.list (L.map λk:Nat=>PyData.int k)):=by
 show((σ.L a).bind λxs=>(xs.mapM (eL σ (n+1))).map PyData.list)=_;rw[h];show((nV L).mapM (eL σ (n+1))).map PyData.list=_;have:(nV L).mapM (eL σ (n+1))=some (L.map λk:Nat=>PyData.int k):=by
  clear h;induction L with
  |nil=>rfl
  |cons k L W =>
   show List.mapM (eL σ (n+1)) (V.int k::nV L)=_;rw[List.mapM_cons,W];cases n<;>rfl
 rw[this];rfl
def BK {σ:St}{a b:Addr}{L:List Nat}{K:Bool->Prop}(W:σ.L a=some (nV L))(hb:σ.L b=some [])(h:K L.isEmpty):zj .eq (.L a) (.L b) σ K:=by
 apply#[_,_,ET W,ET (L:=[]) hb,?_];have e:PyData.eqv (.list (L.map λk:Nat=>PyData.int k)) (.list (([]:List Nat).map λk:Nat=>PyData.int k))=L.isEmpty:=by
  cases L with
  |nil=>simp[PyData.eqv,PyData.eqvAll]
  |cons=>simp[PyData.eqv,PyData.eqvAll]
 rw[e];show h
section
variable {C:Cal}{σ:St}{ρ:Fr}{sl ol:Addr}{st o:List Nat}{k:Nat}
def nA {x y:Nat}{l:Nat}(O:ρ y=some (.L ol))(U:ρ x=some (.int l))(W:σ.L ol=some (nV o))(hl:l∈o)(h:Q (.int (o.idxOf l)) σ):wpE C (.bm .index (.l y) %[.l x|0]) ρ σ Q:=by
 apply#[_,O,(show(σ.L ol).isSome=true by rw[W];rfl),_,U,?_];apply#[o.map λk:Nat=>(k:Int),by rw[W,jf];rfl,eg.mpr #[l,hl,rfl],?_];rw[uL];show h
def AY {more:Gens}{x:Nat}{v:V}{acc:List V}{K:Fr->List V->St->Prop}{c:Ex}(h:wpT C c (upd ρ x v) σ λb σ=>if b then (if true=true then uy C more (upd ρ x v) acc σ K else K (upd ρ x v) acc σ) else (if false=true then uy C more (upd ρ x v) acc σ K else K (upd ρ x v) acc σ)) :
  qg (.v x) v σ ρ λρ'=>wh C %[c|0] ρ' σ λok σ=>if ok then uy C more ρ' acc σ K else K ρ' acc σ:=h
def sZ {Q:Bool->St->Prop}:wpT C (.c op a b) ρ σ Q=wpE C a ρ σ λU σ=>wpE C b ρ σ λW σ=>zj op U W σ λr=>Q r σ:=rfl
def BQ:wpE C (.c op a b) ρ σ Q=wpE C a ρ σ λU σ=>wpE C b ρ σ λW σ=>zj op U W σ λr=>Q (.bool r) σ:=rfl
def FQ {K:Fl->Fr->St->Prop}{t e ss:qa}(h:wpE C a ρ σ λU σ=>wpE C b ρ σ λW σ=>zj op U W σ λr=>if r then gw C t ρ σ (iB (λρ σ=>gw C ss ρ σ K) K) else gw C e ρ σ (iB (λρ σ=>gw C ss ρ σ K) K)):gw C (.cons (.C (.c op a b) t e) ss) ρ σ K:=h
def wG (r9:ρ 9=some (.L sl))(ag:ρ 10=some (.int k))(r2:ρ 2=some (.L ol))(hs:σ.L sl=some (nV st))(ho:σ.L ol=some (nV o))(ai:∀l∈st,l∈o)(hk:k∈o)(hl:st.length<=64)(h:∀c,σ.L c=none->Q (.L c) (σ.di c (nV (st.filter λl=>!cc o l k)))) :
  wpE C (.K [(2,10),(3,2)] (.seq (.l 9)) (.v 1) %[.c .ne (.c .lt (.l 1) (.l 2)) (.c .lt (.bm .index (.l 3) %[.l 1|0]) (.bm .index (.l 3) %[.l 2|0]))|0] (.elt (.l 1))) ρ σ Q:=by
 rw[cX,cW];apply#[_,r9,_,hs,?_];apply f9 (λi ρ' acc σ'=>σ'=σ/\ρ' 2=some (.int k)/\ρ' 3=some (.L ol)/\acc=nV ((st.take i).filter λl=>!cc o l k)) (λi v ρ' acc σ' hv I=>?_) (λρ' acc σ' I=>?_) #[rfl,ag,r2,rfl]
 ·have#[rfl,O,U,rfl]:=I;rw[cy]at hv;have#[l,aj,rfl]:=omap hv;have#[hi,rfl]:=av.mp aj;apply#[hs,λkk B=>AY ?_];have O:upd ρ' 1 (.int st[i]) 2=some (.int k):=O;have U:upd ρ' 1 (.int st[i]) 3=some (.L ol):=U;have z:upd ρ' 1 (.int st[i]) 1=some (.int st[i]):=rfl;generalize upd ρ' 1 (.int st[i])=W at z O U;rw[sZ];apply jc (v:=.bool (decide (st[i]<k))) _ ?_ ?_
  ·rw[J0,lz,lz,z,O];show some (V.bool (decide ((st[i]:Int)<k)))=_;show dj (λb=>some (V.bool b)) (ph.mpr Int.ofNat_lt)
  rw[BQ];apply nA U z ho (ai _ (cj hi)) ?_;apply nA U O ho hk ?_;have eb:decide ((o.idxOf st[i]:Int)<o.idxOf k)=decide (o.idxOf st[i]<o.idxOf k):=ph.mpr Int.ofNat_lt;show zj .ne (.bool (decide (st[i]<k))) (.bool (decide ((o.idxOf st[i]:Int)<o.idxOf k))) σ' λr=>if r then (if true=true then uy C (.elt (.l 1)) W _ σ' kk else kk W _ σ') else (if false=true then uy C (.elt (.l 1)) W _ σ' kk else kk W _ σ')
  rw[eb];apply zR ?_;have e:(decide (st[i]<k) != decide (o.idxOf st[i]<o.idxOf k))=!cc o st[i] k:=by
   unfold cc;by_cases a:st[i]<k
   ·by_cases b:o.idxOf st[i]<o.idxOf k
    ·simp[a,b]
    ·simp[a,b]
   ·by_cases b:o.idxOf st[i]<o.idxOf k
    ·simp[a,b]
    ·simp[a,b]
  rw[e];have et:st.take (i+1)=st.take i++[st[i]]:=dz hi;have fl:((st.take i).filter λl=>!cc o l k).length<=64:=kz (lH _ _) (by rw[fb];(show oa .c1 .e .aR .M .J hl hi (Ar.ji _ _).1));cases q:!cc o st[i] k with
  |true =>
   apply eX (eX ?_);apply#[_,z,by rw[ak];unfold bx;(show fc .aD .a .c1 fl),B _ _ _ #[rfl,O,U,?_]];rw[et,fP,j7 (p:=λl=>!cc o l k) q];show(cu (l₁:=(st.take i).filter λl=>!cc o l k) (l₂:=[st[i]])).symm
  |false =>
   apply eY (eY (B _ _ _ #[rfl,O,U,?_]));rw[et,fP,j8 (p:=λl=>!cc o l k) (by rw[q];show gq),List.filter_nil,dg]
 ·have#[rfl,O,U,rfl]:=I;rw[ak,fo];apply#[hs,h]
end
def yX {o:List Nat}{k:Nat}:∀{st:List Nat},(st.filter λl=>!cc o l k).isEmpty=st.all λl=>cc o l k
 | []=>rfl
 |l::st=>by
  rw[List.all_cons];by_cases q:cc o l k=true
  ·rw[j8 (p:=λl=>!cc o l k) (by rw[q];show gq),yX,q,Bool.true_and]
  ·have q:=zd.mpr q;rw[j7 (p:=λl=>!cc o l k) (by rw[q];rfl),q];rfl
structure RS (ns:List Int)(pl ol tl gl sl:Addr)(ρ:Fr):Prop where
 r0:ρ 0=some (.ro ns)
 r1:ρ 1=some (.L pl)
 r2:ρ 2=some (.L ol)
 r7:ρ 7=some (.L tl)
 r8:ρ 8=some (.L gl)
 r9:ρ 9=some (.L sl)
def RS.upd {ns:List Int}{ol tl sl:Addr}{ρ:Fr}(h:RS ns pl ol tl gl sl ρ){i:Nat}{v:V}(J:9<i):RS ns pl ol tl gl sl (MP.upd ρ i v):=
 #[(er (fc (.u .O .A) .w (.l .aN .A) J)).trans h.r0,(er (fc (.u .U .A) .w (.l .aN .A) J)).trans h.r1,(er (fc (.u .W .A) .w (.l .aN .A) J)).trans h.r2,(er (fc (.u (.n 7) .A) .w (.l .aN .A) J)).trans h.r7,(er (fc (.u (.n 8) .A) .w (.l .aN .A) J)).trans h.r8,(er (fc (.u .aN .A) .w (.l .aN .A) J)).trans h.r9]
abbrev pr (G:List Nat)(k:Nat):List Int:=[-(G.getD k 0:Nat),k]
def DW {C:Cal}{σ:St}{ρ:Fr}{S:List Pt}{T:List (Addr×List T3)}{G:List Nat}(r1:ρ 1=some (.L pl))(r8:ρ 8=some (.L gl))(hp:σ.L pl=some (S.map tP))(hg:HG σ gl T G)(hn:G.length=S.length)(hs:S.length<=64)
  (h:∀c,σ.L c=none->Q (.L c) (σ.di c (((List.range S.length).map (pr G)).map iT))) :
  wpE C (.K [(2,8)] (.rng1 (.bf .len %[.l 1|0])) (.v 1) .nil (.elt (.T %[.neg (.sub (.l 2) (.l 1)),.l 1|0]))) ρ σ Q:=by
 rw[cX,zS];apply jc _ (qe r1 hp) #[_,rfl,by show(Ar.nab _).elim (λW=>(iq .a0 .b .aR (.ie .L .P) hs W.2)) λW=>(ba .a0 .a (.ie .L .S) W.2),?_];apply f9 (λi ρ' acc σ'=>σ'=σ/\ρ' 2=some (.L gl)/\acc=((List.range i).map (pr G)).map iT) (λi v ρ' acc σ' hv I=>?_) (λρ' acc σ' I=>?_) #[rfl,r8,rfl]
 ·have#[rfl,U,rfl]:=I;have#[z,rfl]:=gA (a:=0) hv;rw[ky]at z ⊢;apply#[trivial,λkk ag=>n8 ?_];have U:upd ρ' 1 (.int i) 2=some (.L gl):=U;have W:upd ρ' 1 (.int i) 1=some (.int i):=rfl;show wpE _ (.T _) (upd ρ' 1 (.int i)) σ' _;generalize upd ρ' 1 (.int i)=J at W U;have O:i<G.length:=by(show fh .B .n .aX .G hn z)
  have e1:evV σ' J (.sub (.l 2) (.l 1))=some (.int (G.getD i 0:Nat)):=hW U hg.lg W (by
   rw[cy,aq O,jl,aq O];rfl)
  apply jc (v:=iT (pr G i)) _ ?_ #[by rw[ak,ak,kc];unfold bx;(show iq .aD .b .aR .B hs z),ag _ _ _ #[rfl,U,?_]]
  ·rw[yb,gm,lQ,e1,gm,yu,lz,W];rfl
  ·rw[List.range_succ,cu,cu];rfl
 ·have#[rfl,U,rfl]:=I;have e:(te 0 (S.length:Int)).length=S.length:=dQ (a:=0);rw[e];apply#[trivial,h]
def II {C:Cal}{ns:List Int}{σ:St}{ρ:Fr}{ol tl:Addr}{S:List Pt}{o:List Nat}{T:List (Addr×List T3)}{G:List Nat}{K:Fl->Fr->St->Prop}{ss:qa}(H:RP ns pl ol ρ)(r7:ρ 7=some (.L tl))(r8:ρ 8=some (.L gl))(B:HB σ pl ol S o)(hg:HG σ gl T G)(hn:G.length=S.length)
  (hk:∀ρ' σ' sl stay,RS ns pl ol tl gl sl ρ'->Ext σ σ'->σ'.L sl=some (nV stay)->stay.Pairwise (λl k=>(l<k↔o.idxOf l<o.idxOf k))->(∀k,k<S.length->k∉stay->∃l∈stay,¬(l<k↔o.idxOf l<o.idxOf k)/\(G.getD k 0<G.getD l 0\/(G.getD k 0=G.getD l 0/\l<k)))->(∀k∈stay,k<S.length)->gw C ss ρ' σ' K) :
  gw C (.cons (.a [(.v 9)] (.L .nil))
 (.cons (.each (.T [11,10]) (.seq (.bf .sorted %[.K [(2,8)] (.rng1 (.bf .len %[.l 1|0])) (.v 1) .nil (.elt (.T %[.neg (.sub (.l 2) (.l 1)),.l 1|0]))|0])) (.cons (.C (.c .eq (.K [(2,10),(3,2)] (.seq (.l 9)) (.v 1) %[.c .ne (.c .lt (.l 1) (.l 2)) (.c .lt (.bm .index (.l 3) %[.l 1|0]) (.bm .index (.l 3) %[.l 2|0]))|0] (.elt (.l 1))) (.L .nil)) (.cons (.expr (.bm .append (.l 9) %[.l 10|0]))
 .nil) .nil)
 .nil)) ss)) ρ σ K:=by
 have nl:=B.nl;apply vE [] rfl (bb _) λsl bl=>?_;have H0:RS ns pl ol tl gl sl (upd ρ 9 (.L sl)):=#[H.r0,H.r1,H.r2,r7,r8,rfl];generalize upd ρ 9 (.L sl)=ca at H0;have E1:Ext σ (σ.di sl []):=(Ext.refl σ).di bl;have bc:(σ.di sl []).L sl=some (nV []):=cm _ _ _;have bt:=hg.ext E1;have B1:=B.ext E1;generalize σ.di sl []=σ1 at E1 bc bt B1;show t9 C (.seq (.bf .sorted %[_|0])) ca σ1 _;rw[cW,lK];apply DW H0.r1 H0.r8 B1.lp bt hn nl λc1 be=>?_;have ct:c1≠sl:=λq=>by rw[q,bc]at be;cases be
 have E2:Ext σ (σ1.di c1 (((List.range S.length).map (pr G)).map iT)):=E1.di (E1.noL be);have ay:(σ1.di c1 (((List.range S.length).map (pr G)).map iT)).L sl=some (nV []):=(er (xf ct)).trans bc;have hL:(σ1.di c1 (((List.range S.length).map (pr G)).map iT)).L c1=some (((List.range S.length).map (pr G)).map iT):=cm _ _ _;generalize σ1.di c1 (((List.range S.length).map (pr G)).map iT)=σ2 at E2 ay hL;apply#[(List.range S.length).map (pr G),2,by decide,hL,(λt ht=>by have#[k,_,rfl]:=eg.mp ht;rfl),λts cd bd c hc=>?_];have#[R,hR,rfl]:=jG (f:=pr G) (g:=λl=>(l.getD 1 0).toNat) (λk=>rfl) cd;have bd:=gT.mp bd;have ar:c≠sl:=λq=>by rw[q,ay]at hc;cases hc
 have E3:Ext σ (σ2.di c ((R.map (pr G)).map iT)):=E2.di (E2.noL hc);have bn:(σ2.di c ((R.map (pr G)).map iT)).L sl=some (nV []):=(er (xf ar)).trans ay;have bg:(σ2.di c ((R.map (pr G)).map iT)).L c=some ((R.map (pr G)).map iT):=cm _ _ _;generalize σ2.di c ((R.map (pr G)).map iT)=cx at E3 bn bg;have Rn:∀k∈R,k<S.length:=λk h=>gj.mp (hR.mem_iff.mp h);have Ro:∀k,k<S.length->k∈o:=λk h=>B.pm.mem_iff.mpr (gj.mpr h);have Rl:R.length=S.length:=by rw[hR.length_eq,kc]
 apply#[_,bg,?_];apply pk (λt ρ' σ'=>RS ns pl ol tl gl sl ρ'/\Ext σ σ'/\σ'.L c=some ((R.map (pr G)).map iT)/\σ'.L sl=some (nV ((R.take t).foldl (gst (cc o)) []))/\((R.take t).foldl (gst (cc o)) []).length<=t/\(∀l∈(R.take t).foldl (gst (cc o)) [],l<S.length)) (λt v ρ' σ' hv I=>?_) (λρ' σ' I=>?_) #[H0,E3,bg,bn,az _,λl h=>nomatch h]
 ·have#[H',E',aj,W,z,J]:=I;rw[jf,cy]at hv;have#[k,ck,rfl]:=omap hv;have#[ht,rfl]:=av.mp ck;have et:(R.take (t+1)).foldl (gst (cc o)) []=gst (cc o) ((R.take t).foldl (gst (cc o)) []) R[t]:=by
   rw[dz ht,List.foldl_append];rfl
  have ai:=Rn _ (cj ht);generalize (R.take t).foldl (gst (cc o)) []=st at W z J et;generalize R[t]=k at et ai;apply#[aj,λkk bu=>#[_,rfl,rfl,?_]];have H2:RS ns pl ol tl gl sl (gv [11,10] [.int (-(G.getD k 0:Nat)),.int k] ρ'):=(H'.upd (i:=11) (by decide)).upd (i:=10) (by decide);have ax:gv [11,10] [.int (-(G.getD k 0:Nat)),.int k] ρ' 10=some (.int k):=rfl;show gw _ _ (gv [11,10] [.int (-(G.getD k 0:Nat)),.int k] ρ') σ' _;generalize gv [11,10] [.int (-(G.getD k 0:Nat)),.int k] ρ'=da at H2 ax;have B':=B.ext E';apply FQ ?_;apply wG H2.r9 ax H2.r2 W B'.lo (λl h=>Ro l (J l h)) (Ro k ai) (zg .c1 .k .aR .aL .aH .aF nl Rl ht z) λa ha=>?_;apply#[bb _,λb hb=>?_];have Ea:Ext σ' (σ'.di a (nV (st.filter λl=>!cc o l k))):=(Ext.refl σ').di ha;have ao:(σ'.di a (nV (st.filter λl=>!cc o l k))).L a=some (nV (st.filter λl=>!cc o l k)):=cm _ _ _;generalize σ'.di a (nV (st.filter λl=>!cc o l k))=ag at Ea ao hb;have Eb:Ext σ' (ag.di b []):=Ea.di (Ea.noL hb);have ao:=((Ext.refl ag).di (xs:=[]) hb).L _ _ ao;have bv:(ag.di b []).L b=some []:=cm _ _ _;show zj .eq (.L a) (.L b) (ag.di b []) _;generalize ag.di b []=σb at Eb ao bv;apply BK ao bv ?_;have ee:(st.filter λl=>!cc o l k).isEmpty=st.all λl=>cc o l k:=yX;rw[ee];unfold gst at et;cases q:st.all λl=>cc o l k with
  |true =>
   rw[cn q]at et;apply eX (fG (.int k) H2.r9 (Eb.L _ _ W) ax (by rw[ak];unfold bx;(show zg .aD .k .aR .aL .aH .aF nl Rl ht z)) (tw (og (bu _ _ #[H2,(E'.trans Eb).di bl,?_,?_,?_,?_]))))
   ·show(er ar).trans (Eb.L _ _ aj)
   ·rw[et];show(cm _ _ _).trans (dj some (cu (l₁:=st) (l₂:=[k])).symm)
   ·rw[et,aw];show zx z
   ·rw[et];intro l h;rcases cq.mp h with h|h
    ·show J l h
    ·rw[au.mp h];show ai
  |false =>
   rw[br (by rw[q];show gq)]at et;apply eY (tw (C:=C) (og (bu _ _ #[H2,E'.trans Eb,Eb.L _ _ aj,by rw[et];show Eb.L _ _ W,by rw[et];(show ba .O .a .A z),by rw[et];show J])))
 ·have#[H',E',aj,W,z,J]:=I;rw[ak,ak,fo]at W J;apply#[aj,?_];have cb:R.Nodup:=hR.nodup_iff.mpr List.nodup_range;have sp:=n5 (c:=cc o) (R:=λl k=>G.getD k 0<G.getD l 0\/(G.getD k 0=G.getD l 0/\l<k)) (S:=R) (st:=[]) (by
   have:=bd.and cb;apply this.imp λ{l k} h=>?_;have#[h1,h2]:=h;have h1:(if (-(G.getD k 0:Nat):Int)=-(G.getD l 0:Nat) then (if (k:Int)=l then false else decide ((k:Int)<l)) else decide ((-(G.getD k 0:Nat):Int) < -(G.getD l 0:Nat)))=false:=h1;by_cases a:(-(G.getD k 0:Nat):Int)=-(G.getD l 0:Nat)
   ·rw[cn a]at h1;by_cases b:(k:Int)=l
    ·show(h2 (ba .C .f (.ie .P .L) b)).elim
    ·rw[br b]at h1;have:=xq h1
     (show .inr #[(ba .C .f (.ie (.g .L) .S) a),((ah h2).elim (λq1=>(ba .B .a .B q1)) λq1=>(iq .B .c (.ig .P .L) .U this q1))])
   ·rw[br a]at h1;have:=xq h1
    (show .inl ((pv a).elim (λq1=>(iq .B .c (.ig (.g .L) .S) (.il (.g .L) .S) this q1)) λq1=>(ba .B .a (.il .S (.g .L)) q1)))) (λl h=>nomatch h) .nil
  have#[s1,_,s3,s4]:=sp;apply hk ρ' σ' sl _ H' E' W (s1.imp λ{l k} h=>cg h) (λk ai ch=>?_) J;have#[l,hl,hc,hr]:=s4 k (hR.mem_iff.mpr (gj.mpr ai)) ch;apply#[l,hl,xq hc,hr]
end R9
namespace R9
open PySem SM
variable {n:Nat}{e:Ex}{p:Pt}{ys:List Int}
abbrev pA (S:List Pt)(k:Nat):List Int:=((S[k]?).map λp=>p.2.2.1).getD []
abbrev pB (S:List Pt)(k:Nat):List Int:=((S[k]?).map λp=>p.2.2.2).getD []
abbrev pT (T:List (Addr×List T3))(k:Nat):List T3:=((T[k]?).map λq=>q.2).getD []
abbrev sp (ns:List Int)(n k:Nat):List Int:=if (k:Int)<(n:Int)-(ns.length:Int).fmod 2 then [-1-(k:Int)] else []
def C5 {ns:List Int}{k:Nat}:(sp ns n k).length<=1:=by
 unfold sp;split
 ·show az _
 ·show bb _
def LC {ns:List Int}{k:Nat}:∀x∈sp ns n k,x<0:=by
 intro x h;unfold sp at h;split at h
 ·rw[au.mp h];(show nt (.il (.s (.ng 1) .L) .O) .h)
 ·cases h
def GO {ns:List Int}{k:Nat}(h:k+1<n):sp ns n k≠[]:=by
 unfold sp;rw[fQ _ (by decide),cn (vB (.il .L (.s .P .A)) .b .V (.il .A .W) h (Ar.imod _ 2 (by decide)).2.1)];show List.cons_ne_nil _ _
def MU {ns:List Int}{n:Nat}{A:Nat->List Int}{l:List Nat}:(l.flatMap λk=>A k++sp ns n k).length<=(l.flatMap A).length+l.length:=by
 induction l with
 |nil=>show az _
 |cons a l W =>
  rw[iw,iw,aw,aw,aw,ir];have:=C5 (ns:=ns) (n:=n) (k:=a)
  (show qy (.k .aB (.a .T .a1)) .b (.k .C .Y) (.k .B .U) W this)
def sG {f:Pt->List Int}:∀{S:List Pt},((List.range S.length).flatMap λk=>((S[k]?).map f).getD []).length=(S.map λp=>(f p).length).sum
 | []=>rfl
 |p::S=>by
  rw[ir,List.range_succ_eq_map,iw,aw,List.flatMap_map,kh,uk,<- sG];rfl
def y2 {B:Nat->List Int}:∀{l:List Nat},(l.map λj=>((B j).length:Int)).sum=((l.flatMap B).length:Nat)
 | []=>rfl
 |j::l=>by
  rw[kh,uk,iw,aw,y2]
  (show ow (.ie (.a .L .P) (.t .L)) .o)
def Gv.ev {C:Cal}{ρ:Fr}{σ:St}{a:Addr}{xs:List V}(h:∀σ',Ext σ σ'->evV σ' ρ e=some (.L a))(hl:σ.L a=some xs):Gv C ρ σ e xs:=λσ' Q E k=>jc e (h σ' E) (k a σ' (Ext.refl _) (E.L _ _ hl))
def Fv.I {C:Cal}{ρ:Fr}{σ:St}{c f:Ex}{xs ys:List V}(p:Prop)[Decidable p](W:∀(σ':St) (Q:Bool->St->Prop),Ext σ σ'->Q (decide p) σ'->wpT C c ρ σ' Q)(O:Fv C ρ σ e xs)(U:Fv C ρ σ f ys):Fv C ρ σ (.I c e f) (if p then xs else ys):=λσ' Q E k=>by
 show wpT C c ρ σ' λt σ=>if t then wpE C e ρ σ Q else wpE C f ρ σ Q
 apply W σ' _ E ?_;by_cases q:p
 ·rw[cn q]at k;rw[ic q];show eX (O σ' Q E k)
 ·rw[br q]at k;rw[fw q];show eY (U σ' Q E k)
def KX {C:Cal}{ρ:Fr}{σ:St}{K:Fl->Fr->St->Prop}{ss:qa}{x:Nat}{a:Addr}{xs ys:List V}(J:ρ x=some (.L a))(U:σ.L a=some xs)(h:Fv C ρ σ e ys)(hl:xs.length+ys.length<=bx)(hk:∀σ',Ext σ σ'->gw C ss ρ (σ'.di a (xs++ys)) K) :
  gw C (.cons (.expr (.bm .extend (.l x) %[e|0])) ss) ρ σ K:=by
 apply#[_,J,(show(σ.L a).isSome=true by rw[U];rfl),?_];rw[nq];apply h σ _ (Ext.refl σ) λc σ' E O W=>?_;apply#[xs,ys,(λq=>by rw[<- q,U]at O;cases O),E.L _ _ U,W,hl,rfl,hk σ' E]
section
variable {C:Cal}{σ:St}{ρ:Fr}{pl ol:Addr}{S:List Pt}{o:List Nat}
def HB.ptA (B:HB σ pl ol S o){k:Nat}(h:S[k]?=some p):pA S k=p.2.2.1:=by unfold pA;rw[h];rfl
def HB.ptB (B:HB σ pl ol S o){k:Nat}(h:S[k]?=some p):pB S k=p.2.2.2:=by unfold pB;rw[h];rfl
def rZ {x y:Nat}{i:Int}{k:Nat}{v:V}(U:ρ x=some (.L pl))(W:ρ y=some (.int k))(J:σ.L pl=some (S.map tP))(h:S[k]?=some p)(O:nB σ (tP p) (.int i)=some v):evV σ ρ (.sub (.sub (.l x) (.l y)) (.int i))=some v:=by
 rw[lP,hW (e:=.l y) (v:=tP p) U J W (by rw[cy,h];rfl)];show O
def HB.O1 (B:HB σ pl ol S o):(o.flatMap (pB S)).length<=63:=by
 have e:=(B.pm.flatMap_right (pB S)).length_eq;have U:=sG (S:=S) (f:=λp=>p.2.2.2);have:=B.sy;unfold sY at this;have W:((List.range S.length).flatMap (pB S)).length=(S.map λp=>p.2.2.2.length).sum:=U
 (show oa .X .e .C .aS .aX e this W)
def HB.O2 (B:HB σ pl ol S o):((List.range S.length).flatMap (pA S)).length<=63:=by
 have U:=sG (S:=S) (f:=λp=>p.2.2.1);have:=B.sx;unfold sX at this;have W:((List.range S.length).flatMap (pA S)).length=(S.map λp=>p.2.2.1.length).sum:=U
 (show iq .X .b .a7 .C this W)
def vT {f:Nat->List Int}{l:List Nat}{t:Nat}:((l.take t).flatMap f).length<=(l.flatMap f).length:=by
 rw[List.take_eq_take_min];have:=tY (o:=l) (f:=f) (Nat.min_le_right t l.length);have e:pre l f l.length=(l.flatMap f).length:=by show((l.take l.length).flatMap f).length=_;rw[fo]
 rw[e]at this;show this
def DZ {Q:V->St->Prop}{k:Nat}(r1:ρ 1=some (.L pl))(r2:ρ 2=some (.L ol))(ai:ρ 10=some (.int k))(B:HB σ pl ol S o)(hk:k<S.length)(h:∀σ',Ext σ σ'->Q (.int (pre o (pB S) (o.idxOf k):Nat)) σ') :
  wpE C (.bf .sum %[.K [(3,1)] (.seq (.slc (.l 2) .none (.bm .index (.l 2) %[.l 10|0]))) (.v 1) .nil (.elt (.bf .len %[.sub (.sub (.l 3) (.l 1)) (.int 1)|0]))|0]) ρ σ Q:=by
 have nl:=B.nl;have ko:k∈o:=B.pm.mem_iff.mpr (gj.mpr hk);have hi:o.idxOf k<=(nV o).length:=by rw[ak];show nv (List.idxOf_lt_length_of_mem ko)
 have z:o.length=S.length:=by rw[B.pm.length_eq,kc]
 rw[lK,cX,cW];apply#[_,r2,?_];apply nA r2 ai B.lo ko ?_;apply#[nV o,0,(o.idxOf k:Nat),B.lo,rfl,rfl,by decide,by rw[ak]at hi;(show(Ar.nab _).elim (λO=>(zg .a4 .k .aR .Z .c9 (.ie .L (.t .C)) nl hi z O.2)) λO=>(ba .a4 .a (.ie .L .S) O.2)),λc hc=>?_];rw[nP,qA hi,rv,<- List.map_take];have E1:Ext σ (σ.di c (nV (o.take (o.idxOf k)))):=(Ext.refl σ).di hc;have W:(σ.di c (nV (o.take (o.idxOf k)))).L c=some (nV (o.take (o.idxOf k))):=cm _ _ _;have B1:=B.ext E1;have hm:∀j∈o.take (o.idxOf k),j<S.length:=λj hj=>gj.mp (B.pm.mem_iff.mp (nz hj));have hl:(o.take (o.idxOf k)).length<=64:=by rw[fb];(show oa .c1 .e .aR .aL .J nl z (Ar.ji _ _).2.1)
 show BH (.L c) (σ.di c (nV (o.take (o.idxOf k)))) _;generalize σ.di c (nV (o.take (o.idxOf k)))=ag at E1 W B1;have es:=y2 (B:=pB S) (l:=o.take (o.idxOf k));show ∃xs,_;apply#[_,W,?_];generalize aj:o.take (o.idxOf k)=os at W hm hl es;apply f9 (λi ρ' acc σ'=>σ'=ag/\ρ' 3=some (.L pl)/\acc=((os.take i).map λj=>((pB S j).length:Int)).map V.int) (λi v ρ' acc σ' hv I=>?_) (λρ' acc σ' I=>?_) #[rfl,r1,rfl]
 ·have#[rfl,U,rfl]:=I;rw[cy]at hv;have#[j,hj,rfl]:=omap hv;have#[ht,rfl]:=av.mp hj;have ao:=hm _ (cj ht);apply#[W,λkk ax=>n8 ?_];have U:upd ρ' 1 (.int os[i]) 3=some (.L pl):=U;have O:upd ρ' 1 (.int os[i]) 1=some (.int os[i]):=rfl;show wpE _ (.bf .len _) (upd ρ' 1 (.int os[i])) σ' _;have hS:S[os[i]]?=some S[os[i]]:=aq ao;apply jc (v:=.int (pB S os[i]).length) _ ?_ #[by rw[ak,ak,fb];unfold bx;(show oa .aD .e .aR .M .J hl ht (Ar.ji _ _).1),ax _ _ _ #[rfl,U,?_]]
  ·rw[wW,gm,rZ (i:=1) (v:=.L S[os[i]].2.1) U O B1.lp hS rfl,yu];show(σ'.L S[os[i]].2.1).map _=_;rw[(B1.at_ _ _ hS).1.2,B.ptB hS];show some (V.int ((iV S[os[i]].2.2.2).length:Nat))=_;rw[ak]
  ·rw[dz ht,cu,cu];rfl
 ·have#[rfl,U,rfl]:=I;rw[ak,fo];apply#[W,λc2 ar=>#[_,cm _ _ _,?_]];rw[es,<- aj];show h _ (E1.di (E1.noL ar))
end
structure RF (ns:List Int)(pl ol tl sl fl gl kl:Addr)(ρ:Fr):Prop where
 r0:ρ 0=some (.ro ns)
 r1:ρ 1=some (.L pl)
 r2:ρ 2=some (.L ol)
 r7:ρ 7=some (.L tl)
 r9:ρ 9=some (.L sl)
 r12:ρ 12=some (.L fl)
 r13:ρ 13=some (.L gl)
 r14:ρ 14=some (.L kl)
def RF.upd {ns:List Int}{pl ol tl sl fl gl kl:Addr}{ρ:Fr}(h:RF ns pl ol tl sl fl gl kl ρ){i:Nat}{v:V}(I:i=10\/i=15):RF ns pl ol tl sl fl gl kl (MP.upd ρ i v):=
 #[(er (I.elim (λJ=>(fc (.u .O .A) .r .b4 J)) λJ=>(fc (.u .O .A) .r .b5 J))).trans h.r0,(er (I.elim (λJ=>(fc (.u .U .A) .r .b4 J)) λJ=>(fc (.u .U .A) .r .b5 J))).trans h.r1,(er (I.elim (λJ=>(fc (.u .W .A) .r .b4 J)) λJ=>(fc (.u .W .A) .r .b5 J))).trans h.r2,(er (I.elim (λJ=>(fc (.u (.n 7) .A) .r .b4 J)) λJ=>(fc (.u (.n 7) .A) .r .b5 J))).trans h.r7,(er (I.elim (λJ=>(fc (.u .aN .A) .r .b4 J)) λJ=>(fc (.u .aN .A) .r .b5 J))).trans h.r9,(er (I.elim (λJ=>(fc (.u (.n 12) .A) .a .b4 J)) λJ=>(fc (.u (.n 12) .A) .r .b5 J))).trans h.r12,(er (I.elim (λJ=>(fc (.u (.n 13) .A) .a .b4 J)) λJ=>(fc (.u (.n 13) .A) .r .b5 J))).trans h.r13,(er (I.elim (λJ=>(fc (.u (.n 14) .A) .a .b4 J)) λJ=>(fc (.u (.n 14) .A) .r .b5 J))).trans h.r14]
public abbrev fA (ns:List Int)(S:List Pt)(k:Nat):List Int:=pA S k++sp ns S.length k
public abbrev oF (ns:List Int)(S:List Pt)(k:Nat):Nat:=pre (List.range S.length) (fA ns S) k
public abbrev oG (S:List Pt)(o:List Nat)(k:Nat):Nat:=pre o (pB S) (o.idxOf k)
abbrev kp (ns:List Int)(S:List Pt)(o:List Nat)(T:List (Addr×List T3))(stay:List Nat)(k:Nat):List T3:=if k∈stay then (pT T k).map (shP (oF ns S) (oG S o) k) else []
structure S3 (σ σ':St)(fl gl kl:Addr)(xs ys:List Int)(K:List T3):Prop where
 e:Ext σ σ'
 nf:σ.L fl=none
 ng:σ.L gl=none
 nk:σ.L kl=none
 fg:fl≠gl
 fk:fl≠kl
 gk:gl≠kl
 lf:σ'.L fl=some (iV xs)
 lg:σ'.L gl=some (iV ys)
 lk:σ'.L kl=some (K.map tV)
def S3.ext {σ σ' σ2:St}{fl gl kl:Addr}{xs:List Int}{K:List T3}(h:S3 σ σ' fl gl kl xs ys K)(E:Ext σ' σ2):S3 σ σ2 fl gl kl xs ys K:=
 #[h.e.trans E,h.nf,h.ng,h.nk,h.fg,h.fk,h.gk,E.L _ _ h.lf,E.L _ _ h.lg,E.L _ _ h.lk]
def S3.PV {σ σ':St}{fl gl kl:Addr}{xs:List Int}{K:List T3}(h:S3 σ σ' fl gl kl xs ys K)(zs:List Int):S3 σ (σ'.di fl (iV xs++iV zs)) fl gl kl (xs++zs) ys K:=
 #[h.e.di h.nf,h.nf,h.ng,h.nk,h.fg,h.fk,h.gk,(cm _ _ _).trans (dj some cu.symm),(er (xf h.fg)).trans h.lg,(er (xf h.fk)).trans h.lk]
def S3.setG {σ σ':St}{fl gl kl:Addr}{xs:List Int}{K:List T3}(h:S3 σ σ' fl gl kl xs ys K)(zs:List Int):S3 σ (σ'.di gl (iV ys++iV zs)) fl gl kl xs (ys++zs) K:=
 #[h.e.di h.ng,h.nf,h.ng,h.nk,h.fg,h.fk,h.gk,(er h.fg).trans h.lf,(cm _ _ _).trans (dj some cu.symm),(er (xf h.gk)).trans h.lk]
def S3.PU {σ σ':St}{fl gl kl:Addr}{xs:List Int}{K:List T3}(h:S3 σ σ' fl gl kl xs ys K)(M:List T3):S3 σ (σ'.di kl (K.map tV++M.map tV)) fl gl kl xs ys (K++M):=
 #[h.e.di h.nk,h.nf,h.ng,h.nk,h.fg,h.fk,h.gk,(er h.fk).trans h.lf,(er h.gk).trans h.lg,(cm _ _ _).trans (dj some cu.symm)]
def mem_cast {st:List Nat}{k:Nat}:(st.map λk:Nat=>(k:Int)).contains (k:Int)=decide (k∈st):=by
 by_cases q:k∈st
 ·rw[ic q];show List.contains_iff_mem.mpr (eg.mpr #[k,q,rfl])
 ·rw[fw q];apply zd.mpr λh=>q ?_;have#[a,W,e]:=eg.mp (List.contains_iff_mem.mp h);rw[<- Int.ofNat.inj e];show W
section
variable {C:Cal}{ns:List Int}{σ σ':St}{ρ:Fr}{K:Fl->Fr->St->Prop}{pl ol tl sl fl gl kl:Addr}{S:List Pt}{o:List Nat}{T:List (Addr×List T3)}{stay:List Nat}{xs:List Int}{M:List T3}{k:Nat}
def K4 (H:RF ns pl ol tl sl fl gl kl ρ)(B:HB σ pl ol S o)(ag:ns.length<=63)(hk:k<S.length)(W:ρ 10=some (.int k))(Q:S3 σ σ' fl gl kl xs [] M)(hx:xs.length<=127)(h:∀σ2,S3 σ σ2 fl gl kl (xs++fA ns S k) [] M->K .next ρ σ2) :
  gw C (.cons (.expr (.bm .extend (.l 12) %[.b .add (.sub (.sub (.l 1) (.l 10)) (.int 0)) (.I (.c .lt (.l 10) (.b .sub (.bf .len %[.l 1|0]) (.b .mod (.bf .len %[.l 0|0]) (.int 2)))) (.L %[.b .sub (.neg (.int 1)) (.l 10)|0]) (.L .nil))|0]))
 .nil) ρ σ' K:=by
 have B':=B.ext Q.e;have I:S[k]?=some S[k]:=aq hk;have la:=hU (f:=λp:Pt=>p.2.2.1.length) (cj hk);have sx:=B.sx;unfold sX at sx;have O:=C5 (ns:=ns) (n:=S.length) (k:=k);have f1:Gv C ρ σ' (.sub (.sub (.l 1) (.l 10)) (.int 0)) (iV (pA S k)):=by
  rw[B.ptA I];show Gv.ev (a:=S[k].1) (λσ2 E=>rZ (i:=0) H.r1 W (E.L _ _ B'.lp) I rfl) (B'.at_ k _ I).1.1
 have f2:Fv C ρ σ' (.I (.c .lt (.l 10) (.b .sub (.bf .len %[.l 1|0]) (.b .mod (.bf .len %[.l 0|0]) (.int 2)))) (.L %[.b .sub (.neg (.int 1)) (.l 10)|0]) (.L .nil)) (iV (sp ns S.length k)):=by
  have e:iV (sp ns S.length k)=if (k:Int)<(S.length:Int)-(ns.length:Int).fmod 2 then [V.int (-1-(k:Int))] else []:=by
   unfold sp;split
   ·rfl
   ·rfl
  rw[e];apply Fv.I _ (λσ2 Q2 E q=>?_) (Fv.L (λσ2 E=>?_) (bz rfl)) (Fv.L (λσ2 E=>rfl) (bb _))
  ·rw[sZ];apply#[_,W,?_];show wpE C (.bf .len %[.l 1|0]) ρ σ2 λva σ=>wpE C (.b .mod (.bf .len %[.l 0|0]) (.int 2)) ρ σ λz σ=>gI .sub va z σ _;apply jc _ (qe H.r1 (E.L _ _ B'.lp)) ?_;show wpE C (.bf .len %[.l 0|0]) ρ σ2 λva σ=>wpE C (.int 2) ρ σ λz σ=>gI .mod va z σ _;rw[lK];apply#[_,H.r0,by unfold bx;(show fc .b8 .a .X ag),?_];apply#[by decide,?_];show q
  ·rw[gm,yc,lQ,lz,W,yu];rfl
 apply KX H.r12 Q.lf (ys:=iV (fA ns S k)) ?_ ?_ λσ2 E=>h _ ?_
 ·have:=Gv.cat f1 f2.g (by rw[ak,ak];unfold bx;rw[B.ptA I];(show oa (.k .L .V) .e .J .aS (.k .B .U) la sx O));have e:iV (pA S k)++iV (sp ns S.length k)=iV (fA ns S k):=cu.symm;rw[e]at this;show this
 ·rw[ak,ak,aw,B.ptA I];unfold bx;(show zg (.k .aP .V) .k (.k .A (.n 127)) .bR .cM (.k .C .U) hx la sx O)
 ·show(Q.ext E).PV _
end
end R9
namespace R9
open PySem SM
def kM {α W:Type}{f:α->W}:∀{L:List α},(L.flatMap λx=>[f x])=L.map f
 | []=>rfl
 |x::L=>dj (f x::·) (kM (L:=L))
def ptT {T:List (Addr×List T3)}{k:Nat}{q:Addr×List T3}(h:T[k]?=some q):pT T k=q.2:=by unfold pT;rw[h];rfl
section
variable {C:Cal}{ns:List Int}{σ σ':St}{ρ:Fr}{K:Fl->Fr->St->Prop}{pl ol tl sl fl gl kl:Addr}{S:List Pt}{o:List Nat}{T:List (Addr×List T3)}{stay:List Nat}{xs:List Int}{M:List T3}{k:Nat}
def HT.bp (J:HT σ tl S T)(B:HB σ pl ol S o)(hk:k<S.length):BT (yz (ks (pA S k)) (ks (pB S k))) 0 (pA S k).length 0 (pB S k).length (pT T k):=by
 have U:S[k]?=some S[k]:=aq hk;have W:k<T.length:=by rw[J.ln];show hk
 have O:T[k]?=some T[k]:=aq W;rw[B.ptA U,B.ptB U,ptT O];show(J.at_ k _ _ O U).2
def E0 (W:HT σ tl S T)(B:HB σ pl ol S o)(hk:k<S.length):(kp ns S o T stay k).length<=(pA S k).length:=by
 unfold kp;split
 ·rw[ak];have b:=W.bp B hk;have:=yi (lo:=0) b.ok.1 b.ok.2.1 (λ_ _=>bb _) (bb _)
  (show ba .A .a .c2 this)
 ·show bb _
def NH (H:RF ns pl ol tl sl fl gl kl ρ)(B:HB σ pl ol S o)(hT:HT σ tl S T)(hs:σ.L sl=some (nV stay))(ag:ns.length<=63)(hk:k<S.length)(W:ρ 10=some (.int k))(Q:S3 σ σ' fl gl kl xs [] M)(ef:xs.length=oF ns S k)(hx:xs.length<=127)(hM:M.length<=63)(h:∀J σ2,RF ns pl ol tl sl fl gl kl J->S3 σ σ2 fl gl kl (xs++fA ns S k) [] (M++kp ns S o T stay k)->K .next J σ2) :
  gw C (.cons (.a [(.v 15)] (.bf .sum %[.K [(3,1)] (.seq (.slc (.l 2) .none (.bm .index (.l 2) %[.l 10|0]))) (.v 1) .nil (.elt (.bf .len %[.sub (.sub (.l 3) (.l 1)) (.int 1)|0]))|0]))
 (.cons (.C (.c .isIn (.l 10) (.l 9)) (.cons (.expr (.bm .extend (.l 14) %[.K [(5,15),(6,12)] (.seq (.sub (.l 7) (.l 10))) (.T [1,2,3]) .nil (.elt (.T %[.b .add (.bf .len %[.l 6|0]) (.l 1),.b .add (.l 5) (.l 2),.l 3|0]))|0]))
 .nil) .nil)
 (.cons (.expr (.bm .extend (.l 12) %[.b .add (.sub (.sub (.l 1) (.l 10)) (.int 0)) (.I (.c .lt (.l 10) (.b .sub (.bf .len %[.l 1|0]) (.b .mod (.bf .len %[.l 0|0]) (.int 2)))) (.L %[.b .sub (.neg (.int 1)) (.l 10)|0]) (.L .nil))|0]))
 .nil))) ρ σ' K:=by
 apply xR (DZ H.r1 H.r2 W (B.ext Q.e) hk λσ2 E2=>?_);have Q:=Q.ext E2;clear E2;have H1:=H.upd (i:=15) (v:=.int (oG S o k:Nat)) (.inr rfl);have W:upd ρ 15 (.int (oG S o k:Nat)) 10=some (.int k):=W;have I:upd ρ 15 (.int (oG S o k:Nat)) 15=some (.int (oG S o k:Nat)):=rfl;show gw _ _ (upd ρ 15 (.int (oG S o k:Nat))) σ2 _;generalize upd ρ 15 (.int (oG S o k:Nat))=ao at H1 W I;apply FQ #[_,W,_,H1.r9,stay.map (λk:Nat=>(k:Int)),?_,?_]
 ·rw[Q.e.L _ _ hs,jf];rfl
 rw[mem_cast];by_cases q:k∈stay
 ·rw[ic q];apply eX ?_;have ek:kp ns S o T stay k=(pT T k).map (shP (oF ns S) (oG S o) k):=cn q;have hS:S[k]?=some S[k]:=aq hk;have ar:k<T.length:=by rw[hT.ln];show hk
  have hq:T[k]?=some T[k]:=aq ar;have ai:=hT.ext Q.e;have O:=E0 (ns:=ns) (stay:=stay) hT B hk;have la:=hU (f:=λp:Pt=>p.2.2.1.length) (cj hk);have sx:=B.sx;unfold sX at sx;rw[B.ptA hS]at O;have z:=O;rw[ek,ak]at z;have f:=Fv.K (C:=C) (ρ:=ao) (σb:=σ2) (e:=.sub (.l 7) (.l 10)) (fv:=[(5,15),(6,12)]) (t:=.T [1,2,3]) (cs:=.nil) (el:=.T %[.b .add (.bf .len %[.l 6|0]) (.l 1),.b .add (.l 5) (.l 2),.l 3|0]) (us:=pT T k) (u:=λr=>iT (jJ r)) (λt=>[tV (shP (oF ns S) (oG S o) k t)]) (λρ'=>ρ' 5=some (.int (oG S o k:Nat))/\ρ' 6=some (.L fl)) (by
    rw[ptT hq];show Gv.ev (a:=T[k].1) (λU E=>hW (e:=.l 10) (v:=.L T[k].1) H1.r7 (E.L _ _ ai.lt) W (by rw[cy,hq];rfl)) (ai.at_ k _ _ hq hS).1) #[I,H1.r12] (by unfold bx;(show oa .b8 .e .aK .aS .A la sx z)) λU E3 v hv ρ' hi K' hK=>⟨_,rfl,rfl,hK _ #[hi.1,hi.2] (Gives.one (by
    have q1:gv [1,2,3] [.int v.1,.int v.2.1,.int v.2.2] ρ' 1=some (.int v.1):=rfl;have q2:gv [1,2,3] [.int v.1,.int v.2.1,.int v.2.2] ρ' 2=some (.int v.2.1):=rfl;have q3:gv [1,2,3] [.int v.1,.int v.2.1,.int v.2.2] ρ' 3=some (.int v.2.2):=rfl;have q5:gv [1,2,3] [.int v.1,.int v.2.1,.int v.2.2] ρ' 5=some (.int (oG S o k:Nat)):=hi.1;have q6:gv [1,2,3] [.int v.1,.int v.2.1,.int v.2.2] ρ' 6=some (.L fl):=hi.2;show evV U (gv [1,2,3] [.int v.1,.int v.2.1,.int v.2.2] ρ') _=_;generalize gv [1,2,3] [.int v.1,.int v.2.1,.int v.2.2] ρ'=ay at q1 q2 q3 q5 q6;have e1:=mf (a:=.bf .len %[.l 6|0]) (b:=.l 1) (qe q6 (E3.L _ _ Q.lf)) q1;have e2:=mf (σ:=U) (a:=.l 5) (b:=.l 2) q5 q2;rw[yb,gm,e1,gm,e2,gm,lz,q3,yu,ef];rfl))⟩
  rw[kM]at f;have ax:(pT T k).map (λt=>tV (shP (oF ns S) (oG S o) k t))=(kp ns S o T stay k).map tV:=by rw[ek,jf];rfl
  rw[ax]at f;apply KX H1.r14 Q.lk f (by rw[ak,ak];unfold bx;(show zg (.k .L .V) .k .X .aK .Z .cM hM O la sx)) λU E3=>tw (C:=C) (K4 H1 B ag hk W ((Q.ext E3).PU _) hx λaj Q4=>h _ _ H1 Q4)
 ·rw[fw q];apply eY (tw (C:=C) (K4 H1 B ag hk W Q hx λaj Q4=>h _ _ H1 ?_));have ek:kp ns S o T stay k=[]:=br q;rw[ek,dg];show Q4
def IK {t:Nat}(I:HT σ tl S T)(B:HB σ pl ol S o):(((List.range S.length).take t).flatMap (kp ns S o T stay)).length<=63:=by
 have h1:∀l:List Nat,(∀k∈l,k<S.length)->(l.flatMap (kp ns S o T stay)).length<=(l.flatMap (pA S)).length:=λl=>by
  induction l with
  |nil=>show λ_=>az _
  |cons a l O =>
   intro U;rw[iw,iw,aw,aw];have:=E0 (ns:=ns) (stay:=stay) I B (U a (.head _));have:=O λk hk=>U k (.tail _ hk)
   (rename_i W;show gh .bA .b .J .bR W this)
 have:=h1 ((List.range S.length).take t) λk hk=>gj.mp (nz hk);have z:=vT (f:=pA S) (l:=List.range S.length) (t:=t);have:=B.O2
 (rename_i W;show oa .X .e .A .aK .aS W z this)
def uM {t:Nat}(B:HB σ pl ol S o):(((List.range S.length).take t).flatMap (fA ns S)).length<=127:=by
 have O:=vT (f:=fA ns S) (l:=List.range S.length) (t:=t);have W:=MU (ns:=ns) (n:=S.length) (A:=pA S) (l:=List.range S.length);rw[kc]at W;have J:((List.range S.length).flatMap (fA ns S)).length<=((List.range S.length).flatMap (pA S)).length+S.length:=W;have:=B.O2;have:=B.nl
 (rename_i U;show zg (.k .A (.n 127)) .k .A (.k .B .R) .aS (.k .D (.n 64)) O W U this)
def IG {G:List Nat}{xs ys:List Int}(H:RF ns pl ol tl sl fl gl kl ρ)(Q:S3 σ σ' fl gl kl xs ys M)(z:xs.length<=127)(I:ys.length<=63)(hM:∀L,BT (yz (ks xs) (ks ys)) 0 xs.length 0 ys.length L->M=L) :
  gw (ku P 6) (.cons (.ret (.c .eq (.meth (.n %[.none,.l 12,.l 13|0]) 7 .nil) (.call 11 %[.l 14,.bf .len %[.l 12|0],.bf .len %[.l 13|0]|0])))
 .nil) ρ σ' (AG λv _=>v=.bool true):=by
 show wpE _ (.meth (.n _) 7 .nil) ρ σ' λva σ=>wpE _ (.call 11 _) ρ σ λvb σ=>zj .eq va vb σ _;apply SM.told (P:=P) rfl rfl rfl rfl rfl rfl rfl rfl (aj:=true) (ags:=[]) (.inr #[rfl,rfl]) (λ_=>by show fc (.l .A (.n 200)) .a .X I) (n:=2) (la:=fl) (lb:=gl) (λQ q=>#[_,H.r12,_,H.r13,q]) Q.lf Q.lg (fc .cN .a (.k .A (.n 127)) z) (fc .cN .a .X I) λO c L E3 U _ hc=>?_;have eK:=hM L U;have Q:=Q.ext E3;rw[eK]at Q;rw[tD];apply#[_,H.r14,?_];show vg (ku P 6) (.cons _ _) ρ O _;rw[nq];apply jc _ (qe H.r12 Q.lf) ?_;rw[nq];apply jc _ (qe H.r13 Q.lg) ?_;have J:L.length<=xs.length:=by
  have:=yi (lo:=0) U.ok.1 U.ok.2.1 (λ_ _=>bb _) (bb _)
  (show ba .A .a .c2 this)
 have W:vC 0 0 (L++[(xs.length,ys.length,0)]):=vC.of (jo.mpr ⟨U.ok.2.1,.cons (λu hu=>(by cases hu)) .nil,λa ha b hb=>by
  rw[au.mp hb];apply#[(U.ok.1 a ha).1.2.1,(U.ok.1 a ha).1.2.2.2]⟩) λ_ _=>#[bb _,bb _]
 apply DY (P:=P) (k:=11) (n:=5) rfl Q.lk (iq (.l .A (.n 100000)) .b (.k .B (.n 127)) .A z J) W λld ag E4 _ hd=>?_;show KZ (K:=λr=>V.bool r=.bool true) (E4.L _ _ hc) hd uZ rfl
end
def Q5 (ns:List Int)(bc:ns.length<=63)(σ:St):ku P 7 12 [.ro ns] σ λv σ=>v=.bool true:=by
 apply#[IY,rfl,az 1,az 1,?_];have h0:frameOf IY [.ro ns] 0=some (.ro ns):=rfl;generalize frameOf IY [.ro ns]=ρ at h0;apply IJ h0 bc λpl ol S o ai σ1 H1 B=>?_;clear h0;apply xR (DV (n:=5) H1.r1 B λtl σ2 T E2 _ hT=>?_);have B:=B.ext E2;clear E2;have z:RP ns pl ol (upd ai 7 (.L tl)):=#[H1.r0,H1.r1,H1.r2];have r7:upd ai 7 (.L tl) 7=some (.L tl):=rfl;generalize upd ai 7 (.L tl)=U at z r7;apply xR (DX r7 hT B.nl B.sx λll ca G E3 _ hG=>?_);have B:=B.ext E3;have hT:=hT.ext E3;clear E3;have H3:RP ns pl ol (upd U 8 (.L ll)):=#[z.r0,z.r1,z.r2];have r7:upd U 8 (.L ll) 7=some (.L tl):=r7;have r8:upd U 8 (.L ll) 8=some (.L ll):=rfl;generalize upd U 8 (.L ll)=cd at H3 r7 r8;apply II H3 r7 r8 B hG (by rw[hG.ln,hT.ln]) λag W sl stay H4 E4 hs s1 s2 s3=>?_;have B:=B.ext E4;have hT:=hT.ext E4;have hG:=hG.ext E4;clear E4;rw[jZ,qK,nq];apply#[bb _,λfl ar=>#[bb _,λgl ao=>#[bb _,λkl aj=>#[bz rfl,_,rfl,rfl,?_]]]];have Q:S3 W (((W.di fl []).di gl []).di kl []) fl gl kl [] [] []:=by
  have P1:=(((Hp.nil (σ:=W)).new ar []).new ao []).new aj [];have E1:Ext W (W.di fl []):=(Ext.refl W).di ar;have E2:Ext W ((W.di fl []).di gl []):=E1.di (E1.noL ao);apply#[E2.di (E2.noL aj),ar,E1.noL ao,E2.noL aj,P1.ne 2 1 (by decide) rfl rfl,P1.ne 2 0 (by decide) rfl rfl,P1.ne 1 0 (by decide) rfl rfl,P1.get 2 rfl,P1.get 1 rfl,P1.get 0 rfl]
 have H5:RF ns pl ol tl sl fl gl kl (gv [12,13,14] [.L fl,.L gl,.L kl] ag):=#[H4.r0,H4.r1,H4.r2,H4.r7,H4.r9,rfl,rfl,rfl];show gw _ _ (gv [12,13,14] [.L fl,.L gl,.L kl] ag) (((W.di fl []).di gl []).di kl []) _;generalize gv [12,13,14] [.L fl,.L gl,.L kl] ag=cb at H5;generalize ((W.di fl []).di gl []).di kl []=bv at Q;have nl:=B.nl;apply jO (n:=S.length) (λt ρ' σ'=>RF ns pl ol tl sl fl gl kl ρ'/\S3 W σ' fl gl kl (((List.range S.length).take t).flatMap (fA ns S)) [] (((List.range S.length).take t).flatMap (kp ns S o T stay))) (qe H5.r1 (Q.e.L _ _ B.lp)) (fc (.l .A (.n (2^39))) .a .c1 nl) #[H5,Q] (λt ρ' σ' kk K' ht I ax=>?_) λρ' σ' I=>?_
 ·have#[H',Q']:=I;have et:=iD (o:=List.range S.length) (wg ht);apply NH (H'.upd (i:=10) (.inl rfl)) B hT hs bc ht rfl Q' rfl (uM B) (IK hT B) λU σ2 z Q2=>ax _ _ #[z,?_];rw[et,kr,kr,iw,iw,aE,aE,dg,dg];show Q2
 have#[H6,Q6]:=I;have eR:(List.range S.length).take S.length=List.range S.length:=by
  have:=fo (l:=List.range S.length)
  rwa [kc]at this
 have hF:=uM (ns:=ns) (t:=S.length) B;rw[eR]at Q6 hF;apply#[_,H6.r2,_,Q6.e.L _ _ B.lo,?_];apply pk (λt ρ' σ'=>RF ns pl ol tl sl fl gl kl ρ'/\S3 W σ' fl gl kl ((List.range S.length).flatMap (fA ns S)) ((o.take t).flatMap (pB S)) ((List.range S.length).flatMap (kp ns S o T stay))) (λt v ρ' σ' hv I=>?_) (λρ' σ' I=>?_) #[H6,Q6]
 ·have#[H',Q']:=I;rw[cy]at hv;have#[k,hk,rfl]:=omap hv;have bd:k<S.length:=gj.mp (B.pm.mem_iff.mp (fe hk));have O:S[k]?=some S[k]:=aq bd;apply#[Q'.e.L _ _ B.lo,λkk ax=>?_];have z:=H'.upd (i:=10) (v:=.int k) (.inl rfl);have ay:upd ρ' 10 (.int k) 10=some (.int k):=rfl;show gw _ _ (upd ρ' 10 (.int k)) σ' _;generalize upd ρ' 10 (.int k)=U at z ay;have B':=B.ext Q'.e;have bL:=(B.at_ k _ O).1.2;have ne:gl≠S[k].2.1:=λq=>by
   have:=Q'.ng;rw[q,bL]at this;cases this
  have bn:=vT (f:=pB S) (l:=o) (t:=t);have bl:=B.O1;have bg:=hU (f:=λp:Pt=>p.2.2.2.length) (cj bd);have sy:=B.sy;unfold sY at sy;apply#[_,z.r13,(show(σ'.L gl).isSome=true by rw[Q'.lg];rfl),?_];rw[nq];apply jc _ (rZ (i:=1) (v:=.L S[k].2.1) z.r1 ay B'.lp O rfl) ?_;apply#[_,iV (pB S k),ne,Q'.lg,by rw[B.ptB O];show(B'.at_ k _ O).1.2,by rw[ak,ak,B.ptB O];unfold bx;(show zg (.k .L .V) .k .J .aS .bR .cM bn bl bg sy),rfl,?_];apply ax _ _ #[z,?_];have:=Q'.setG (pB S k);rw[iD hk,kr,iw,aE,dg];show this
 have#[H7,Q7]:=I;rw[ak,fo]at Q7;apply#[Q7.e.L _ _ B.lo,?_];apply IG (G:=G) H7 Q7 hF B.O1 λL bt=>?_;have Pp:=DH (n:=S.length) (A:=pA S) (sp:=sp ns S.length) (B:=pB S) (o:=o) B.pm (λk hk x hx=>?_) (λk hk x hx=>?_) (λk=>LC) (λk h=>GO h)
 ·apply Pp.blocks bt (λk hk=>hT.bp B hk) (lg:=λk=>G.getD k 0) (λk hk=>?_) s1 s2 s3;have be:k<T.length:=by rw[hT.ln];show hk
  have bu:k<G.length:=by rw[hG.ln];show be
  have hq:T[k]?=some T[k]:=aq be;have hg:G[k]?=some (G.getD k 0):=by rw[jl,aq bu];rfl
  have:=hG.at_ k _ _ hq hg;rw[ptT hq];show this
 ·have O:S[k]?=some S[k]:=aq hk;rw[B.ptA O]at hx;show(B.at_ k _ O).2.1 x hx
 ·have O:S[k]?=some S[k]:=aq hk;rw[B.ptB O]at hx;show(B.at_ k _ O).2.2 x hx
end R9
end MP
end
section
open PySem PySem.W PyProof.Rows
namespace Mine
def QB:rw9.Holds:=QC λns h=>MP.R9.Q5 ns h st0
end Mine
end
end Mine.Internal
theorem PySem.Challenge.cw_dm0056_09_holds : PySem.Challenge.rw_dm0056_09.Holds :=
 Mine.Internal.Mine.QB
