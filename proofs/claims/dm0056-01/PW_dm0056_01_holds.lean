import PyProof.Rows.All
import Wide.All
import OpenK.AllK
import Wide.FinOn
import Open.Tops
import Wide.BytesRules
import KE.KStateDown
import PyProof.DictItems
import KE.KDictList
import PyProof.Draws
import PyProof.EnumMake
import KE.KLam
import PyProof.Rows.SortShell
import PyProof.Rows.RuleB_bool
import PyProof.Rows.MinMaxN
import PyProof.Rows.SumAny
import PyProof.RulesDelMore
import KE.KEqDict
import PyProof.NeKinds
import PyProof.AutoFloatOps
import PyProof.FloatFits
import PyProof.Raises
import PyProof.Rows.SetFrom
import PyProof.DelItemList
import OpenK.KWalk
import PySem.Challenge.RW_dm0056_01
set_option Elab.async false
set_option linter.all false
set_option tactic.hygienic false
set_option maxRecDepth 100000
set_option compiler.extract_closed false
set_option genCtorIdx false
namespace Mine.Internal
namespace Aq
open Lean
def T(s:String)(l:List Syntax):Syntax:=.node .none (.str `Lean.Parser.Tactic s) l.toArray
def M(s:String)(l:List Syntax):Syntax:=.node .none (.str `Lean.Parser.Term s) l.toArray
def R(s:String)(l:List Syntax):Syntax:=.node .none (.str `Lean.Parser.Tactic.rcasesPat s) l.toArray
def L(l:List Syntax):Syntax:=.node .none `null l.toArray
def a(s:String):Syntax:=.atom .none s
def id(s:String):Syntax:=mkIdent (.str .anonymous s)
def is(s:String)(x:Syntax):Bool:=x.getKind==.str `Lean.Parser.Term s
def mp(f:Syntax->Syntax)(l:List Syntax):List Syntax:=l.foldr (λx r=>f x::r) []
def fm(f:Nat->List Syntax)(n:Nat):List Syntax:=(List.range n).foldr (λi r=>f i++r) []
def sp(s:String)(l:List Syntax):Syntax:=L (l.foldr (λx r=>if r.isEmpty then [x] else x::a s::r) [])
def ar(x:Syntax):List Syntax:=x.getSepArgs.toList
def qs(l:List Syntax):Syntax:=T "tacticSeq" [T "tacticSeq1Indented" [sp ";" l]]
def qp(l:List Syntax):Syntax:=T "paren" [a "(",qs l,a ")"]
def qz(l:List Syntax):Syntax:=T "first" [a "first",L (mp (λx=>.node .none `group (.mk [a "|",qs [x]])) (l++[T "fail" [a "fail",L []]]))]
def qh:Syntax:=M "syntheticHole" [a "?",a "_"]
def ap(f:Syntax)(l:List Syntax):Syntax:=M "app" [f,L l]
def re(x:Syntax):Syntax:=T "refine" [a "refine",x]
def qr(s:String)(l:List Syntax):Syntax:=re (ap (mkIdent (.str `Ar s)) l)
def us:String:="e2_0 e2_1 i2_1 e3_0 e3_1 i3_1 e3_2 i3_2 e4_0 e4_1 i4_1 e4_2 i4_2 e4_3 i4_3 e5_0 e5_1 i5_1 e5_2 i5_2 e5_3 i5_3 e5_4 e6_1 i6_1 e6_2 i6_2 e6_3 i6_3 e6_4 i6_4 e6_5 i6_5 e7_0 i7_1 e7_2 i7_2 e7_3 i7_3 e7_4 i7_4 e8_2 i8_2 e8_3 i8_3 e8_4 i8_4 e9_0 e9_2 e9_3 i9_3 e9_4 i9_4 e9_5 i9_5 e9_7 i9_7 e9_8"
def ql(c:String)(n j:Nat)(l:List Syntax):List Syntax:=
 let x:=c++toString n++"_"++toString (n-j)
 if (us.splitOn " ").contains x then [qr x l] else []
def it(l:List Syntax):Syntax:=T "intro" [a "intro",L l]
def ty(x:Syntax):Syntax:=T "tacticTry_" [a "try",qs [x]]
def cl(x:Syntax):Syntax:=ty (T "clear" [a "clear",L [x]])
def sw(x:Syntax):Syntax:=T "show" [a "show",x]
def ho:Syntax:=M "hole" [a "_"]
def pt(j m:Nat):Syntax:=Nat.repeat (λt=>ap (id "Exists") [M "fun" [a "fun",M "basicFun" [L [ho],L [],a "=>",t]]]) j (Nat.repeat (λt=>ap (id "And") [ho,t]) (m-1) ho)
def mm(o:Option Syntax):MacroM Syntax:=o.elim Macro.throwUnsupported pure
def f1(x:Syntax):Option Syntax:=if x[3].getNumArgs>0||x[1][0].getNumArgs>0 then none else some (qp (mp (λr=>qz [qr (if r[0].getNumArgs==0 then "rwm" else "rwn") [ap r[1] [M "ellipsis" [a ".."]],qh],T "rewriteSeq" [a "rewrite",x[1],T "rwRuleSeq" [a "[",L [r],a "]"],x[3]]]) (ar x[2][1])++[ty (T "withReducible" [a "with_reducible",qs [T "tacticRfl" [a "rfl"]]])]))
def ob(r z:Syntax):Syntax:=T "obtain" [a "obtain",L [r],L [],L [a ":=",L [z]]]
def ot(r:Syntax):Syntax:=
 let y:=r[0][0][0]
 if r[1].getNumArgs==0&&r[0][0].getNumArgs==1&&y.getKind== `Lean.Parser.Tactic.rcasesPat.one&&y[0].getId != `rfl then it [y[0]] else qp [it [id "ζ"],ob r[0] (id "ζ")]
def f2(x:Syntax):Option Syntax:=
 let p:=x[1][0][0]
 let q:=ar p[0][1]
 let n:=q.length
 let t:=x[3][1][0]
 if p.getNumArgs != 1||x[2].getNumArgs != 0||n<2 then none else
 let k:=min n 9
 some (qp (qz (fm (λj=>ql "e" k (j+1) [t,qh]) k)::(if t.isIdent then [cl t] else [])++mp ot (if n<10 then q else q.take 8)++(if n<10 then [] else [qp [it [id "ζ"],ob (x[1][0].setArg 0 (p.setArg 0 (p[0].setArg 1 (sp "," (q.drop 8))))) (id "ζ")]])))
def f3(x:Syntax):Option Syntax:=
 let l:=ar x[1][1]
 let n:=l.length
 if !(is "anonymousCtor" x[1]||x[1].getKind== `«term#[_,]»)||n<2 then none else
 some (qp [sw (ap (id "Exists") [ho]),qz (fm (λi=>
  let k:=9-i
  let b:=l.take (k-1)
  if k==n||2<k&&k<n&&!b.any λs=>(s.find? (is "syntheticHole")).isSome then fm (λj=>mp (λs=>qp (sw (pt (k-j-1) (j+1))::s::(if k==n then [] else [x.setArg 1 (x[1].setArg 1 (sp "," (l.drop (k-1))))]))) (ql "i" k (j+1) (if k==n then l else b++[qh]))) (k-1) else []) 8)])
def f4(x:Syntax):Option Syntax:=
 let y:=x[1][0][1]
 let z:=id "ζ"
 let w:=id "ξ"
 let c (z:Syntax):Syntax:=x.setArg 1 (x[1].setArg 0 (x[1][0].setArg 1 z))
 let g (f:String) (v l:List Syntax):Syntax:=qp (qr f [y,qh]::cl y::it v::l)
 if !y.isIdent||x[1].getNumArgs != 1||x[1][0][0].getNumArgs+x[2].getNumArgs+x[3].getNumArgs != 0 then none else
 some (qz [g "x8" [z] [T "subst" [a "subst",L [z]]],qr "x0" [y],qr "x1" [y],g "x2" [z] [c z],g "x3" [z,w] [c z,c w],qr "x4" [y],qr "x5" [y]])
def dt(s:String):Syntax:=M "dotIdent" [a ".",id s]
def pa:Nat->Syntax->Syntax:=Nat.rec (λs=>s) λ_ f s=>T "rcasesPatMed" [L [if s.getKind== `«term#[_,]» then R "tuple" [a "⟨",sp "," (mp (λr=>T "rcasesPatLo" [f r,L []]) (ar s[1])),a "⟩"] else if is "hole" s then R "ignore" [s] else R "one" [s]]]
end Aq
open Lean in
local macro_rules (kind:=Lean.Parser.Tactic.show)
 |x=>Aq.mm (some (Aq.qz [Aq.T "exact" [Aq.a "exact",x[1]],Aq.re (Aq.M "typeAscription" [Aq.M "hygienicLParen" [Aq.a "(",.node .none `hygieneInfo (.mk [mkIdent .anonymous])],Aq.qh,Aq.a ":",Aq.L [x[1]],Aq.a ")"])]))
open Lean in
local macro_rules (kind:=Lean.Parser.Tactic.rwSeq)
 |x=>Aq.mm (Aq.f1 x)
open Lean in
local macro_rules (kind:=Lean.Parser.Tactic.obtain)
 |x=>Aq.mm (Aq.f2 x)
open Lean in
local macro_rules (kind:=Lean.Parser.Tactic.refine)
 |x=>Aq.mm (Aq.f3 x)
open Lean in
local macro_rules (kind:=Lean.Parser.Tactic.cases)
 |x=>Aq.mm (Aq.f4 x)
open Lean in
local macro_rules (kind:=Lean.Parser.Tactic.apply)
 |x=>Aq.mm (some (Aq.re x[1]))
open Lean in
local macro_rules (kind:=«term%[_|_]»)
 |x=>Aq.mm (if x[3].isNatLit? == some 0 then some ((Aq.ar x[1]).foldr (λe r=>Aq.ap (Aq.dt "cons") [e,r]) (Aq.dt "nil")) else none)
open Lean in
local macro_rules (kind:=Lean.Parser.Tactic.tacticHave__)
 |x=>
  let d:=x[2][0]
  let b:=d[0].getKind== `«term#[_,]»
  Aq.mm (if b||d[0][0].getId== `rfl then some (Aq.T "obtain" [Aq.a "obtain",Aq.L [Aq.pa 9 (if b then d[0] else d[0][0])],Aq.L d[2][0].getArgs.toList,Aq.L [Aq.a ":=",Aq.L [d[4]]]]) else none)
open Lean in
local macro_rules (kind:=Vector.«term#v[_,]»)
 |x=>Aq.mm (some (Aq.ap (mkIdent `List.toArray) [.node .none `«term[_]» (.mk [Aq.a "[",x[1],Aq.a "]"])]))
open Lean in
def Ar.st(x:Syntax):Syntax:=
 let y:=x.rewriteBottomUp λs=>match s with
 |.node _ k a=>.node .none k a
 |.atom _ v=>.atom .none v
 |.ident _ r v p=>.ident .none r v p
 |s=>s
 let d:=y[1]
 let f:=d.getKind== `Lean.Parser.Command.definition
 let a:=d.getKind== `Lean.Parser.Command.abbrev
 let m k l:=((y.setArg 0 ((y[0].setArg 2 mkNullNode).setArg 4 (mkNullNode (.mk [mkNode `Lean.Parser.Command.noncomputable (.mk [mkAtom "noncomputable"])])))).setArg 1 (mkNode k (.mk ([d[0],d[1],d[2],d[3]]++l))))
 if y[0][1].getNumArgs+y[0][4].getNumArgs != 0 then y
 else if f&&d[2][1].getNumArgs != 0&&!(d[2][0].getNumArgs==0&&[`N,`E,`P].contains d[2][1][0][1].getId) then y.setArg 1 (mkNode `Lean.Parser.Command.theorem (.mk [d[0],d[1],mkNode `Lean.Parser.Command.declSig (.mk [d[2][0],d[2][1][0]]),d[3]]))
 else if f||a&&y[0][2].getNumArgs != 0 then m `Lean.Parser.Command.abbrev []
 else if a then m `Lean.Parser.Command.definition [mkNullNode] else y
open Lean in
local macro_rules (kind:=Lean.Parser.Command.declaration)
 |x=>if x.getPos?.isNone||x[1][1][0].getId.getRoot==`PySem then Macro.throwUnsupported else return Ar.st x
open Lean in
local macro_rules (kind:=«term#[_,]»)
 |x=>return mkNode `Lean.Parser.Term.anonymousCtor #[mkAtom "⟨",x[1],mkAtom "⟩"]
def QqV:=PySem.Value->PySem.Shared->Prop
set_option bootstrap.genMatcherCode false
namespace Mine.Z
abbrev aa:=@PySem.wpAny_bind
abbrev ab:=@PySem.wpAny_pure
abbrev ae:=@Nat.sub_add_cancel
abbrev af:=@Option.some.inj
abbrev ah:=@PySem.Heap.get?_push_of_some
abbrev ai:=@List.length_map
abbrev ak:=@of_decide_eq_true
abbrev aq:=@Nat.le_of_ble_eq_true
abbrev av:=@Nat.le_refl
abbrev ax:=@List.mem_singleton
abbrev az:=@if_neg
abbrev ba:=@Option.isSome_iff_exists
abbrev bb:=@congrArg
abbrev bc:=@PySem.Heap.get?_push_size
abbrev bg:=@List.mem_map
abbrev bp:=@PySem.wpAny_holding
abbrev bq:=@List.size_toArray
abbrev br:=@if_pos
abbrev bt:=@PySem.wpAny_mono
abbrev bw:=@List.getElem?_map
abbrev bz:=@List.mem_cons
abbrev cf:=@List.getElem?_eq_some_iff
abbrev cj:=@decide_eq_true
abbrev cm:=@List.getElem?_eq_getElem
abbrev cp:=@Nat.lt_or_gt_of_ne
abbrev cq:=@PySem.builtinLookup_eq_fast
abbrev cv:=@List.length_append
abbrev cw:=@decide_eq_false
abbrev cy:=@List.append_nil
abbrev cz:=@List.mem_of_getElem?
abbrev dg:=@beq_self_eq_true
abbrev dh:=@Bool.and_eq_true
abbrev di:=@PySem.wpAny_of_eq
abbrev dj:=@Nat.zero_le
abbrev dn:=@Bool.false_eq_true
abbrev dp:=@Bool.not_eq_true'
abbrev dq:=@Option.bind_eq_some_iff
abbrev dw:=@List.map_append
abbrev ec:=@PySem.typeLookup_type
abbrev ee:=@beq_false_of_ne
abbrev eh:=@PySem.wpAny_call_entry
abbrev ek:=@Option.some.injEq
abbrev er:=@PySem.wpAny_standAt
abbrev ez:=@congrFun
abbrev fg:=@PySem.Heap.size_push
abbrev fh:=@List.mem_append
abbrev fk:=@Nat.le_trans
abbrev fq:=@List.length_take
abbrev fu:=@Array.getElem?_eq_getElem
abbrev fw:=@PySem.Heap.lt_size
abbrev fx:=@PySem.Heap.SameBut.update
abbrev fy:=@Nat.lt_of_lt_of_le
abbrev gb:=@Nat.ne_of_lt
abbrev gh:=@PySem.isSubtype_type
abbrev gm:=@Option.map_eq_some_iff
abbrev gp:=@List.mem_iff_getElem
abbrev gq:=@Classical.not_and_iff_not_or_not
abbrev gu:=@decide_eq_decide
abbrev gv:=@List.map_cons
abbrev gw:=@Int.toNat_natCast
abbrev iq:=@PySem.wpAny_newObj_type
abbrev ix:=@List.length_drop
abbrev iy:=@Array.length_toList
abbrev iz:=@Nat.le_of_lt
abbrev ja:=@Int.le_trans
abbrev jc:=@PySem.wpAny_setEntries_of
abbrev je:=@PySem.wpAny_callSpecial?_slot
abbrev jh:=@List.length_cons
abbrev ji:=@PySem.Obj.data_mapFields
abbrev jj:=@List.getElem?_eq_none_iff
abbrev jq:=@List.append_assoc
abbrev ju:=@if_false
abbrev jw:=@Bool.false_ne_true
abbrev jx:=@PySem.Heap.get?_update_self
abbrev jy:=@List.mem_append_left
abbrev jz:=@List.lookup_cons
abbrev kc:=@List.all_eq_true
abbrev ku:=@Nat.not_lt_zero
abbrev kz:=@Ne.symm
abbrev lg:=@PySem.Heap.get?_update_other
abbrev lh:=@Int.lt_or_gt_of_ne
abbrev ll:=@PySem.codeAny_builtin
abbrev lp:=@List.map_map
abbrev lq:=@List.exists_cons_of_length_eq_add_one
abbrev mh:=@PySem.wpAny_seqItems
abbrev mi:=@PySem.Around.under_plainId
abbrev mq:=@PySem.wpAny_call
abbrev mr:=@PySem.codeAny_of_tree
abbrev mu:=@List.not_mem_nil
abbrev mx:=@Nat.lt_or_eq_of_le
abbrev my:=@List.nodup_nil
abbrev mz:=@List.forIn_nil
abbrev nh:=@Array.getElem?_eq_some_iff
abbrev nk:=@Nat.sub_eq_zero_of_le
abbrev nq:=@List.length_filter_le
abbrev nv:=@PySem.wpAny_execs_cons
abbrev nz:=@List.drop_eq_getElem_cons
abbrev oe:=@List.forIn_cons
abbrev ou:=@PySem.F.slot_tuple_iterator_next
abbrev ow:=@List.take_succ_eq_append_getElem
abbrev oz:=@List.length_range
abbrev qe:=@PySem.wpAny_truthy_bool
abbrev qg:=@PySem.wpAny_loadPart_at
abbrev qi:=@Nat.lt_succ_self
abbrev qj:=@List.take_length
abbrev qo:=@List.lookup_eq_none_iff
abbrev qq:=@PySem.Heap.get?_none_of_le
abbrev rh:=@Prod.mk.inj
abbrev rj:=@Nat.le_succ
abbrev rl:=@Int.zero_add
abbrev ru:=@PySem.wpAny_setField
abbrev rv:=@PySem.wpAny_askSetting
abbrev sf:=@Prod.mk.injEq
abbrev si:=@List.mem_append_right
abbrev sk:=@List.length_singleton
abbrev sq:=@List.getElem?_eq_none
abbrev su:=@PySem.wpAny_rule
abbrev th:=@Nat.not_lt
abbrev ti:=@Int.fdiv_eq_ediv_of_nonneg
abbrev tj:=@PySem.Heap.Ns.of_isNs
abbrev tu:=@if_true
abbrev tw:=@PySem.Obj.isFreed_of_fields
abbrev tx:=@Nat.zero_add
abbrev ua:=@Nat.succ.inj
abbrev ub:=@List.isEmpty_iff
abbrev uc:=@List.filter_cons
abbrev uf:=@Option.isNone_iff_eq_none
abbrev uo:=@beq_eq_false_iff_ne
abbrev uq:=@PyProof.Rows.F.plain_set_update_loop
abbrev ur:=@List.map_congr_left
abbrev uu:=@List.filterMap_cons
abbrev ux:=@PySem.wpAny_field
abbrev uy:=@PySem.codeAny_call_builtin
abbrev uz:=@Nat.lt_irrefl
abbrev vd:=@Bool.or_eq_true
abbrev vo:=@PySem.wpAny_isInstance
abbrev vp:=@beq_iff_eq
abbrev vq:=@Option.isSome_none
abbrev xu:=@Nat.le_of_succ_le
abbrev xv:=@Int.ofNat_lt
abbrev xw:=@PySem.wpAny_specialOf
abbrev ya:=@PySem.wpAny_load
abbrev yb:=@PySem.Code.quiet_builtin
abbrev yq:=@Nat.eq_of_beq_eq_true
abbrev zd:=@Nat.succ_ne_zero
abbrev ze:=@List.getElem_mem
abbrev zf:=@Bool.or_false
abbrev zg:=@Bool.not_true
abbrev aF:=@PySem.wpAny_typeOf
abbrev aG:=@PySem.wpAny_setState_of
abbrev aH:=@PySem.wpAny_pyIter_slot
abbrev aJ:=@PySem.wpAny_pyIter_list
abbrev aK:=@PySem.entryFor_alias
abbrev aW:=@List.mem_filter
abbrev aX:=@List.filter_nil
abbrev bD:=@PySem.entryFor_of_tree
abbrev bG:=@Int.le_total
abbrev bH:=@Int.le_of_eq
abbrev bI:=@PySem.wpAny_attempt
abbrev bJ:=@PySem.signature?_of
abbrev cD:=@le_of_le_of_eq
abbrev cF:=@PyProof.Rows.callWith_type
abbrev cG:=@Option.none_or
abbrev cH:=@List.pairwise_cons
abbrev cI:=@List.mem_range
abbrev cJ:=@List.length_eraseIdx_of_lt
abbrev cK:=@List.drop_zero
abbrev cL:=@Int.natCast_nonneg
abbrev dC:=@PySem.wpAny_updateSeq
abbrev dD:=@List.mem_or_eq_of_mem_set
abbrev dE:=@List.getElem?_append_left
abbrev dQ:=@bne_self_eq_false
abbrev dR:=@Nat.le_of_lt_succ
abbrev dS:=@List.reverse_cons
abbrev dT:=@List.nodup_append
abbrev dU:=@List.flatten_cons
abbrev eT:=@PySem.F.slot_list_append
abbrev gC:=@PySem.wpAny_loadPart
abbrev gD:=@PySem.evalPart_none_step
abbrev gE:=@decide_eq_false_iff_not
abbrev gF:=@PySem.call_meets
abbrev gG:=@PySem.arm_eval_Attribute
abbrev gH:=@PySem.F.plainAttrs_dict
abbrev gI:=@Nat.le_add_right
abbrev gJ:=@List.length_eq_zero_iff
abbrev gK:=@List.flatten_nil
abbrev iF:=@Int.fmod_nonneg_of_pos
abbrev iU:=@PySem.wpAny_setEpoch_of
abbrev iV:=@PySem.wpAny_alloc
abbrev iW:=@PySem.getMethod_builtin
abbrev iX:=@PySem.Obj.cls_mapFields
abbrev iY:=@PySem.Calls.spliced_nil
abbrev j7:=@PySem.plainId_quiet
abbrev j8:=@List.take_append_drop
abbrev j9:=@List.length_replicate
abbrev mK:=@Bool.and_eq_true_iff
abbrev nB:=@PyProof.Rows.F.entry_set_update_loop
abbrev oM:=@List.ne_and_not_mem_of_not_mem_cons
abbrev qK:=@PySem.F.args_tuple_iterator_next_1
abbrev qL:=@PySem.F.entry_tuple_iterator_next
abbrev tG:=@PySem.F.args_dict_getattribute_2
abbrev tH:=@List.pairwise_map
abbrev AB:=@PySem.AutoFloatOps.wpAny_Constant_float
abbrev FC:=@PySem.slot_list_getitem
end Mine.Z
open Mine.Z
section
namespace Ar
set_option genSizeOf false
set_option genInjectivity false
variable {p s t:Prop}
inductive N where
 |v (i:Nat)
 |n (k:Nat)
 |a (x y:N)
 |m (k:Nat) (x:N)
 |r (x:N) (k:Nat)
inductive E where
 |v (i:Nat)
 |n (k:Int)
 |a (x y:E)
 |s (x y:E)
 |m (k:Int) (x:E)
 |r (x:E) (k:Int)
 |g (x:E)
 |t (x:N)
set_option genCtorIdx true in
inductive R where
 |lt|le|eq|ge|gt|ne
inductive P where
 |i (r:R) (x y:E)
 |n (r:R) (x y:N)
 |ff
structure Q where
 r:R
 x:E
 y:E
public abbrev hd (d:α):List α->α
 | []=>d
 |x::_=>x
public abbrev tl:List α->List α
 | []=>[]
 |_::l=>l
public abbrev nth (d:α):Nat->List α->α
 |0=>hd d
 |i+1=>λl=>nth d i (tl l)
public abbrev N.d (k:List Nat):N->Nat
 |.v i=>nth 0 i k
 |.n c=>c
 |.a x y=>x.d k+y.d k
 |.m c x=>c*x.d k
 |.r x c=>x.d k*c
public abbrev E.d (c:List Int)(k:List Nat):E->Int
 |.v i=>nth 0 i c
 |.n j=>j
 |.a x y=>x.d c k+y.d c k
 |.s x y=>x.d c k-y.d c k
 |.m i x=>i*x.d c k
 |.r x i=>x.d c k*i
 |.g x=>- x.d c k
 |.t x=>(x.d k:Int)
public abbrev R.i (a b:Int):R->Prop
 |.lt=>a<b
 |.le=>a<=b
 |.eq=>a=b
 |.ge=>¬a<b
 |.gt=>¬a<=b
 |.ne=>¬a=b
public abbrev R.n (a b:Nat):R->Prop
 |.lt=>a<b
 |.le=>a<=b
 |.eq=>a=b
 |.ge=>¬a<b
 |.gt=>¬a<=b
 |.ne=>¬a=b
public abbrev P.h (c:List Int)(k:List Nat):P->Prop
 |.i r x y=>r.i (x.d c k) (y.d c k)
 |.n r x y=>r.n (x.d k) (y.d k)
 |.ff=>False
def R.n_i {a b:Nat}:(r:R)->r.n a b->r.i (a:Int) (b:Int)
 |.lt=>xv.mpr
 |.le=>Int.ofNat_le.mpr
 |.eq=>λh=>bb _ h
 |.ge=>λh e=>h (xv.mp e)
 |.gt=>λh e=>h (Int.ofNat_le.mp e)
 |.ne=>λh e=>h (Int.ofNat.inj e)
def R.i_n {a b:Nat}:(r:R)->r.i (a:Int) (b:Int)->r.n a b
 |.lt=>xv.mp
 |.le=>Int.ofNat_le.mp
 |.eq=>λh=>Int.ofNat.inj h
 |.ge=>λh e=>h (xv.mpr e)
 |.gt=>λh e=>h (Int.ofNat_le.mpr e)
 |.ne=>λh e=>h (bb _ e)
def ad {a b c d:Int}(h:a=c)(e:b=d):a+b=c+d:=h▸e▸rfl
def sb {a b c d:Int}(h:a=c)(e:b=d):a-b=c-d:=h▸e▸rfl
def aac (a b c d:Int):a+b+(c+d)=a+c+(b+d):=by omega
def PW {a b:Int}(h:a<0)(e:b<=0):a+b<0:=Int.add_neg_of_neg_of_nonpos h e
def ltd {a b:Int}(h:a<b):0<=b-a+-1:=by omega
abbrev S:List Int->(Nat->Int)->Int
 | []=>λ_=>0
 |y::l=>λf=>f 0*y+S l λj=>f (j+1)
abbrev dl (i j:Nat):Int:=bif Nat.beq i j then 1 else 0
def EY:(l:List Int)->(f g:Nat->Int)->S l (λj=>f j+g j)=S l f+S l g
 | [],_,_=>rfl
 |y::l,f,g=>(ad (Int.add_mul (f 0) (g 0) y) (EY l (λj=>f (j+1)) λj=>g (j+1))).trans (aac _ _ _ _)
def EX (i:Int):(l:List Int)->(f:Nat->Int)->S l (λj=>i*f j)=i*S l f
 | [],_=>(Int.mul_zero i).symm
 |y::l,f=>(ad (Int.mul_assoc i (f 0) y) (EX i l λj=>f (j+1))).trans (Int.mul_add ..).symm
def iC:(l:List Int)->S l (λ_=>0)=0
 | []=>rfl
 |y::l=>(ad (Int.zero_mul y) (iC l)).trans (rl 0)
def y7:(i:Nat)->(l:List Int)->S l (dl i)=nth 0 i l
 |0,[]=>rfl
 |0,y::l=>(ad (Int.one_mul y) (iC l)).trans (Int.add_zero y)
 |i+1,[]=>y7 i []
 |i+1,y::l=>(ad (Int.zero_mul y) (y7 i l)).trans (rl _)
abbrev up:List Nat->List Int
 | []=>[]
 |x::l=>(x:Int)::up l
def uE:(i:Nat)->(l:List Nat)->nth 0 i (up l)=(nth 0 i l:Nat)
 |0,[]=>rfl
 |0,_::_=>rfl
 |i+1,[]=>uE i []
 |i+1,_::l=>uE i l
structure L where
 k:Int
 c:Nat->Int
 n:Nat->Int
abbrev L.d (c k:List Int)(l:L):Int:=l.k+(S c l.c+S k l.n)
abbrev L.add (l m:L):L:=#[l.k+m.k,λj=>l.c j+m.c j,λj=>l.n j+m.n j]
abbrev L.scl (i:Int)(l:L):L:=#[i*l.k,λj=>i*l.c j,λj=>i*l.n j]
abbrev L.num (i:Int):L:=#[i,λ_=>0,λ_=>0]
def L.sQ {c k:List Int}(l m:L):(l.add m).d c k=l.d c k+m.d c k:=
 (bb (l.k+m.k+·) ((ad (EY ..) (EY ..)).trans (aac _ _ _ _))).trans (aac _ _ _ _)
def L.lO {c k:List Int}(i:Int)(l:L):(l.scl i).d c k=i*l.d c k:=
 (bb (i*l.k+·) ((ad (EX ..) (EX ..)).trans (Int.mul_add ..).symm)).trans (Int.mul_add ..).symm
def L.sP {c k:List Int}(i:Int):(L.num i).d c k=i:=
 (bb (i+·) ((ad (iC c) (iC k)).trans (rl 0))).trans (Int.add_zero i)
abbrev N.l:N->L
 |.v i=>#[0,λ_=>0,dl i]
 |.n c=>.num c
 |.a x y=>x.l.add y.l
 |.m c x=>x.l.scl c
 |.r x c=>x.l.scl c
abbrev E.l:E->L
 |.v i=>#[0,dl i,λ_=>0]
 |.n j=>.num j
 |.a x y=>x.l.add y.l
 |.s x y=>x.l.add (y.l.scl (-1))
 |.m i x=>x.l.scl i
 |.r x i=>x.l.scl i
 |.g x=>x.l.scl (-1)
 |.t x=>x.l
def N.l_d {c:List Int}{k:List Nat}:(x:N)->x.l.d c (up k)=(x.d k:Nat)
 |.v i=>(rl _).trans ((ad (iC c) ((y7 i (up k)).trans (uE i k))).trans (rl _))
 |.n i=>L.sP (i:Int)
 |.a x y=>(L.sQ x.l y.l).trans ((ad (N.l_d x) (N.l_d y)))
 |.m i x=>(L.lO i x.l).trans ((bb ((i:Int)*·) (N.l_d x)))
 |.r x i=>(L.lO i x.l).trans ((bb ((i:Int)*·) (N.l_d x)).trans (Int.mul_comm ..))
def nD {c k:List Int}(x y:L):(x.add (y.scl (-1))).d c k=x.d c k-y.d c k:=
 (L.sQ ..).trans (bb (x.d c k+·) ((L.lO ..).trans (Int.neg_one_mul _)))
def E.l_d {c:List Int}{k:List Nat}:(x:E)->x.l.d c (up k)=x.d c k
 |.v i=>(rl _).trans ((ad (y7 i c) (iC (up k))).trans (Int.add_zero _))
 |.n i=>L.sP i
 |.a x y=>(L.sQ x.l y.l).trans ((ad (E.l_d x) (E.l_d y)))
 |.s x y=>(nD x.l y.l).trans ((sb (E.l_d x) (E.l_d y)))
 |.m i x=>(L.lO i x.l).trans ((bb (i*·) (E.l_d x)))
 |.r x i=>(L.lO i x.l).trans ((bb (i*·) (E.l_d x)).trans (Int.mul_comm ..))
 |.g x=>(L.lO (-1) x.l).trans ((Int.neg_one_mul _).trans (bb (- ·) (E.l_d x)))
 |.t x=>N.l_d x
abbrev R.l (x y:L):R->L
 |.lt=>(y.add (x.scl (-1))).add (.num (-1))
 |.le=>y.add (x.scl (-1))
 |.eq=>y.add (x.scl (-1))
 |.ge=>x.add (y.scl (-1))
 |.gt=>(x.add (y.scl (-1))).add (.num (-1))
 |.ne=>.num 0
def less {c k:List Int}{x y:L}(h:x.d c k<y.d c k):0<=((y.add (x.scl (-1))).add (.num (-1))).d c k:=
 cD (ltd h) ((L.sQ ..).trans (ad (nD y x) (L.sP (-1)))).symm
def R.l_d {c k:List Int}{x y:L}:(r:R)->r.i (x.d c k) (y.d c k)->0<=(r.l x y).d c k
 |.lt=>λh=>less h
 |.le=>λh=>cD (Int.sub_nonneg_of_le h) (nD y x).symm
 |.eq=>λh=>cD (Int.sub_nonneg_of_le (bH h)) (nD y x).symm
 |.ge=>λh=>cD (Int.sub_nonneg_of_le (Int.not_lt.mp h)) (nD x y).symm
 |.gt=>λh=>less (Int.not_le.mp h)
 |.ne=>λ_=>bH (L.sP 0).symm
def R.QB {a b Y Z:Int}(r:R)(W:a=Y)(X:b=Z)(h:r.i Y Z):r.i a b:=by subst W X;show h
abbrev Q.h (c:List Int)(k:List Nat)(q:Q):Prop:=q.r.i (q.x.d c k) (q.y.d c k)
abbrev Q.l (q:Q):L:=q.r.l q.x.l q.y.l
def Q.l_d {c:List Int}{k:List Nat}{q:Q}(h:q.h c k):0<=q.l.d c (up k):=
 R.l_d q.r (R.QB q.r (E.l_d q.x) (E.l_d q.y) h)
abbrev R.e:R->Bool
 |.eq=>true
 |_=>false
def R.e_d {a b:Int}:(r:R)->r.e=true->r.i a b->r=.eq/\a=b
 |.eq=>λ_ h=>#[rfl,h]
 |.lt=>λe=>Bool.noConfusion e
 |.le=>λe=>Bool.noConfusion e
 |.ge=>λe=>Bool.noConfusion e
 |.gt=>λe=>Bool.noConfusion e
 |.ne=>λe=>Bool.noConfusion e
def Q.e_d {c:List Int}{k:List Nat}{q:Q}(e:q.r.e=true)(h:q.h c k):q.l.d c (up k)=0:=by
 have#[r,x,y]:=q;have#[rfl,h]:=R.e_d r e h;show(nD y.l x.l).trans ((sb (E.l_d y) (E.l_d x)).trans (Int.sub_eq_zero_of_eq h.symm))
abbrev P.q:P->Q
 |.i r x y=>#[r,x,y]
 |.n r x y=>#[r,.t x,.t y]
 |.ff=>#[.ne,.n 0,.n 0]
def P.to {c:List Int}{k:List Nat}:{p:P}->p.h c k->p.q.h c k
 |.i _ _ _=>id
 |.n r _ _=>R.n_i r
 |.ff=>False.elim
def P.of {c:List Int}{k:List Nat}:(p:P)->p.q.h c k->p.h c k
 |.i _ _ _=>id
 |.n r _ _=>R.i_n r
 |.ff=>λh=>h rfl
abbrev sum:List Q->List Int->L
 | []=>λ_=>.num 0
 |q::qs=>λms=>(q.l.scl (ms.headD 0)).add (sum qs ms.tail)
abbrev good:List Q->List Int->Bool
 | []=>λ_=>true
 |q::qs=>λms=>(q.r.e||decide (0<=ms.headD 0))&&good qs ms.tail
abbrev All (c:List Int)(k:List Nat):List Q->Prop
 | []=>True
 |q::qs=>q.h c k/\All c k qs
def band {a b:Bool}:(a&&b)=true->a=true/\b=true:=(dh a b).mp
def JB {c:List Int}{k:List Nat}:(qs:List Q)->(Z:List Int)->good qs Z=true->All c k qs->0<=(sum qs Z).d c (up k)
 | []=>λ_ _ _=>bH (L.sP 0).symm
 |q::qs=>λZ Y h=>cD
   (Int.add_nonneg (((vd ..).mp (band Y).1).elim
    (λe=>bH ((bb (Z.headD 0*·) (Q.e_d e h.1)).trans (Int.mul_zero _)).symm)
    (λe=>Int.mul_nonneg (ak e) (Q.l_d h.1))) (JB qs Z.tail (band Y).2 h.2))
   ((L.sQ ..).trans (ad (L.lO ..) rfl)).symm
abbrev zero:List Int->(Nat->Int)->Bool
 | []=>λ_=>true
 |_::l=>λf=>decide (f 0=0)&&zero l λj=>f (j+1)
abbrev KZ:List Nat->(Nat->Int)->Bool
 | []=>λ_=>true
 |_::l=>λf=>decide (f 0<=0)&&KZ l λj=>f (j+1)
def AE:(l:List Int)->(f:Nat->Int)->zero l f=true->S l f=0
 | []=>λ_ _=>rfl
 |y::l=>λf h=>(ad ((bb (·*y) (ak (band h).1)).trans (Int.zero_mul y)) (AE l _ (band h).2)).trans (rl 0)
def CK:(l:List Nat)->(f:Nat->Int)->KZ l f=true->S (up l) f<=0
 | []=>λ_ _=>Int.le_refl _
 |y::l=>λf h=>Int.add_le_add (Int.mul_nonpos_of_nonpos_of_nonneg (ak (band h).1) (cL y)) (CK l _ (band h).2)
abbrev ok (c:List Int)(k:List Nat)(qs:List Q)(ms:List Int):Bool:=
 good qs ms&&(decide ((sum qs ms).k<0)&&(zero c (sum qs ms).c&&KZ k (sum qs ms).n))
def PR {c:List Int}{k:List Nat}{qs:List Q}{Z:List Int}(h:ok c k qs Z=true)(W:All c k qs):False:=
 have X:=band (band h).2;have Y:=band X.2
 Int.not_lt.mpr (JB qs Z (band h).1 W) (PW (ak X.1) (ja (bH ((ad (AE c _ Y.1) rfl).trans (rl _))) (CK k _ Y.2)))
abbrev R.L7:R->List R
 |.lt=>[.ge]
 |.le=>[.gt]
 |.eq=>[.lt,.gt]
 |.ge=>[.lt]
 |.gt=>[.le]
 |.ne=>[.eq]
def R.neg {a b:Int}:(r:R)->(∀s,s∈r.L7->¬s.i a b)->r.i a b
 |.lt=>λh=>Decidable.not_not.mp (h .ge (.head _))
 |.le=>λh=>Decidable.not_not.mp (h .gt (.head _))
 |.eq=>λh=>Int.le_antisymm (Decidable.not_not.mp (h .gt (.tail _ (.head _)))) (Int.not_lt.mp (h .lt (.head _)))
 |.ge=>λh=>h .lt (.head _)
 |.gt=>λh=>h .le (.head _)
 |.ne=>λh=>h .eq (.head _)
abbrev oks (c:List Int)(k:List Nat)(x y:E)(qs:List Q):List R->List (List Int)->Bool
 | []=>λ_=>true
 |r::rs=>λms=>ok c k (#[r,x,y]::qs) (ms.headD [])&&oks c k x y qs rs ms.tail
def JF {c:List Int}{k:List Nat}{x y:E}{qs:List Q}(X:All c k qs):(Y:List R)->(Z:List (List Int))->oks c k x y qs Y Z=true->∀s,s∈Y->¬s.i (x.d c k) (y.d c k)
 |_,_,h,_,.head _=>λW=>PR (band h).1 #[W,X]
 |_,Z,h,s,.tail _ m=>JF X _ Z.tail (band h).2 s m
abbrev chk (c:List Int)(k:List Nat)(g:P)(ps:List P)(ms:List (List Int)):Bool:=
 oks c k g.q.x g.q.y (ps.map P.q) g.q.r.L7 ms
def main {c:List Int}{k:List Nat}{g:P}(ps:List P){Z:List (List Int)}(h:chk c k g ps Z=true)(Y:All c k (ps.map P.q)):g.h c k:=
 P.of g (R.neg g.q.r (JF Y g.q.r.L7 Z h))
def M:=List (List Int)
def a0 (c:List Int)(k:List Nat)(g:P)(Z:M)(Y:chk c k g [] Z=true:=by show Ar.y):g.h c k:=main [] Y trivial
def a1 (c:List Int)(k:List Nat)(g:P)(Y:M)(Z:P)(W:Z.h c k)(X:chk c k g [Z] Y=true:=by show Ar.y):g.h c k:=main [Z] X #[P.to W,trivial]
def a2 (c:List Int)(k:List Nat)(g:P)(X:M)(Y Z:P)(T:Y.h c k)(U:Z.h c k)(W:chk c k g [Y,Z] X=true:=by show Ar.y):g.h c k:=main [Y,Z] W #[P.to T,P.to U,trivial]
def a3 (c:List Int)(k:List Nat)(g:P)(W:M)(X Y Z:P)(K:X.h c k)(O:Y.h c k)(T:Z.h c k)(U:chk c k g [X,Y,Z] W=true:=by show Ar.y):g.h c k:=main [X,Y,Z] U #[P.to K,P.to O,P.to T,trivial]
def a4 (c:List Int)(k:List Nat)(g:P)(U:M)(W X Y Z:P)(I:W.h c k)(J:X.h c k)(K:Y.h c k)(O:Z.h c k)(T:chk c k g [W,X,Y,Z] U=true:=by show Ar.y):g.h c k:=main [W,X,Y,Z] T #[P.to I,P.to J,P.to K,P.to O,trivial]
def a5 (c:List Int)(k:List Nat)(g:P)(T:M)(U W X Y Z:P)(G:U.h c k)(H:W.h c k)(I:X.h c k)(J:Y.h c k)(K:Z.h c k)(O:chk c k g [U,W,X,Y,Z] T=true:=by show Ar.y):g.h c k:=main [U,W,X,Y,Z] O #[P.to G,P.to H,P.to I,P.to J,P.to K,trivial]
def a6 (c:List Int)(k:List Nat)(g:P)(O:M)(T U W X Y Z:P)(C:T.h c k)(D:U.h c k)(G:W.h c k)(H:X.h c k)(I:Y.h c k)(J:Z.h c k)(K:chk c k g [T,U,W,X,Y,Z] O=true:=by show Ar.y):g.h c k:=main [T,U,W,X,Y,Z] K #[P.to C,P.to D,P.to G,P.to H,P.to I,P.to J,trivial]
def a7 (c:List Int)(k:List Nat)(g:P)(K:M)(O T U W X Y Z:P)(A:O.h c k)(B:T.h c k)(C:U.h c k)(D:W.h c k)(G:X.h c k)(H:Y.h c k)(I:Z.h c k)(J:chk c k g [O,T,U,W,X,Y,Z] K=true:=by show Ar.y):g.h c k:=main [O,T,U,W,X,Y,Z] J #[P.to A,P.to B,P.to C,P.to D,P.to G,P.to H,P.to I,trivial]
def y:true=true:=rfl
def N.A:N:=.v 0
def E.A:E:=.v 0
def N.B:N:=.v 1
def E.B:E:=.v 1
def N.C:N:=.v 2
def E.C:E:=.v 2
def N.D:N:=.v 3
def E.D:E:=.v 3
def N.F:N:=.v 4
def N.G:N:=.v 5
def N.H:N:=.v 6
def N.I:N:=.v 7
def N.J:N:=.v 8
def N.K:N:=.v 9
def N.O:N:=.n 0
def E.O:E:=.n 0
def N.U:N:=.n 1
def E.U:E:=.n 1
def N.W:N:=.n 2
public abbrev P.l (x y:N):P:=.n .lt x y
public abbrev P.il (x y:E):P:=.i .lt x y
public abbrev P.k (x y:N):P:=.n .le x y
public abbrev P.ik (x y:E):P:=.i .le x y
public abbrev P.e (x y:N):P:=.n .eq x y
public abbrev P.ie (x y:E):P:=.i .eq x y
public abbrev P.g (x y:N):P:=.n .ge x y
public abbrev P.ig (x y:E):P:=.i .ge x y
public abbrev P.j (x y:N):P:=.n .gt x y
public abbrev P.ij (x y:E):P:=.i .gt x y
public abbrev P.u (x y:N):P:=.n .ne x y
public abbrev P.iu (x y:E):P:=.i .ne x y
public abbrev E.ng (k:Int):E:=.n (-k)
def PH (x y:Nat):x<=x-y+y:=Nat.sub_le_iff_le_add.mp (av _)
def imp {a b:Prop}(h:a->b):¬a\/b:=(Classical.em a).elim (λx=>.inr (h x)) .inl
def wg (x k:Nat)(h:0<k):x%k<k/\k*(x/k)+x%k=x:=#[Nat.mod_lt x h,Nat.div_add_mod x k]
def imod (x k:Int)(h:0<k):0<=x%k/\x%k<k/\k*(x/k)+x%k=x:=#[Int.emod_nonneg x (Int.ne_of_gt h),Int.emod_lt_of_pos x h,Int.mul_ediv_add_emod x k]
def nr (x y:Nat):min x y<=x/\min x y<=y/\(x<=min x y\/y<=min x y):=#[Nat.min_le_left x y,Nat.min_le_right x y,(Nat.le_total x y).imp (λh=>Nat.le_min.mpr #[av x,h]) λh=>Nat.le_min.mpr #[h,av y]]
def L2 (x y:Nat):x<=max x y/\y<=max x y/\(max x y<=x\/max x y<=y):=#[Nat.le_max_left x y,Nat.le_max_right x y,(Nat.le_total y x).imp (λh=>Nat.max_le.mpr #[av x,h]) λh=>Nat.max_le.mpr #[h,av y]]
def imax (x y:Int):x<=max x y/\y<=max x y/\(max x y<=x\/max x y<=y):=#[Int.le_max_left x y,Int.le_max_right x y,(bG y x).imp (λh=>Int.max_le.mpr #[Int.le_refl x,h]) λh=>Int.max_le.mpr #[h,Int.le_refl y]]
def ton (x:Int):(0<=x/\(x.toNat:Int)=x)\/(x<=0/\x.toNat=0):=
 (bG 0 x).elim (λh=>.inl #[h,Int.toNat_of_nonneg h]) λh=>.inr #[h,Int.toNat_of_nonpos h]
def nab (x:Int):(0<=x/\(x.natAbs:Int)=x)\/(x<=0/\(x.natAbs:Int)=-x):=
 (bG 0 x).elim (λh=>.inl #[h,Int.natAbs_of_nonneg h]) λh=>.inr #[h,Int.ofNat_natAbs_of_nonpos h]
def sub (x y:Nat)(Y:y<=x->x-y+y=x->p)(Z:x<=y->x-y=0->p):p:=
 (Nat.le_total y x).elim (λh=>Y h (ae h)) λh=>Z h (nk h)
@[elab_as_elim] theorem rwm {Z:Sort u}{a b:Z}{p:Z->Prop}(h:a=b)(q:p b):p a:=Eq.rec (motive:=λx _=>p x) q h.symm
@[elab_as_elim] theorem rwn {Z:Sort u}{a b:Z}{p:Z->Prop}(h:b=a)(q:p b):p a:=Eq.rec (motive:=λx _=>p x) q h
def x0 {Z:Type u}{x:Z}(h:none=some x):p:=Option.noConfusion rfl (heq_of_eq h)
def x1 {Z:Type u}{x:Z}(h:some x=none):p:=x0 h.symm
def x2 {Z:Type u}{x y:Z}(h:some x=some y)(k:x=y->p):p:=k (af h)
def x3 {Y:Type u}{Z:Type v}{a b:Y}{c d:Z}(h:(a,c)=(b,d))(k:a=b->c=d->p):p:=k (bb Prod.fst h) (bb Prod.snd h)
def x4 (h:false=true):p:=Bool.noConfusion h
def x5 (h:true=false):p:=Bool.noConfusion h
def x8 {Z:Type u}{a b:Z}(h:a=b)(k:a=b->p):p:=k h
section
variable {r:Prop}
def e2_0 {q:Prop}(h:p/\q)(k:p->q->r):r:=k h.1 h.2
def e2_1 {p:A->Prop}(h:∃a,p a)(k:∀a,p a->r):r:=h.elim λa g=>k a g
def i2_1 {p:A->Prop}(a:A)(h:p a):∃a,p a:=#[a,h]
def e3_0 {q:Prop}(h:p/\q/\s)(k:p->q->s->r):r:=k h.1 h.2.1 h.2.2
def e3_1 {p q:A->Prop}(h:∃a,p a/\q a)(k:∀a,p a->q a->r):r:=h.elim λa g=>k a g.1 g.2
def i3_1 {p q:A->Prop}(a:A)(h:p a)(i:q a):∃a,p a/\q a:=#[a,h,i]
def e3_2 {p:A->B->Prop}(h:∃a b,p a b)(k:∀a b,p a b->r):r:=h.elim λa g=>g.elim λb g=>k a b g
def i3_2 {p:A->B->Prop}(a:A)(b:B)(h:p a b):∃a b,p a b:=#[a,b,h]
def e4_0 {q:Prop}(h:p/\q/\s/\t)(k:p->q->s->t->r):r:=k h.1 h.2.1 h.2.2.1 h.2.2.2
def e4_1 {p q s:A->Prop}(h:∃a,p a/\q a/\s a)(k:∀a,p a->q a->s a->r):r:=h.elim λa g=>k a g.1 g.2.1 g.2.2
def i4_1 {p q s:A->Prop}(a:A)(h:p a)(i:q a)(j:s a):∃a,p a/\q a/\s a:=#[a,h,i,j]
def e4_2 {p q:A->B->Prop}(h:∃a b,p a b/\q a b)(k:∀a b,p a b->q a b->r):r:=h.elim λa g=>g.elim λb g=>k a b g.1 g.2
def i4_2 {p q:A->B->Prop}(a:A)(b:B)(h:p a b)(i:q a b):∃a b,p a b/\q a b:=#[a,b,h,i]
def e4_3 {p:A->B->C->Prop}(h:∃a b c,p a b c)(k:∀a b c,p a b c->r):r:=h.elim λa g=>g.elim λb g=>g.elim λc g=>k a b c g
def i4_3 {p:A->B->C->Prop}(a:A)(b:B)(c:C)(h:p a b c):∃a b c,p a b c:=#[a,b,c,h]
def e5_0 {q u:Prop}(h:p/\q/\s/\t/\u)(k:p->q->s->t->u->r):r:=k h.1 h.2.1 h.2.2.1 h.2.2.2.1 h.2.2.2.2
def e5_1 {p q s t:A->Prop}(h:∃a,p a/\q a/\s a/\t a)(k:∀a,p a->q a->s a->t a->r):r:=h.elim λa g=>k a g.1 g.2.1 g.2.2.1 g.2.2.2
def i5_1 {p q s t:A->Prop}(a:A)(h:p a)(i:q a)(j:s a)(l:t a):∃a,p a/\q a/\s a/\t a:=#[a,h,i,j,l]
def e5_2 {p q s:A->B->Prop}(h:∃a b,p a b/\q a b/\s a b)(k:∀a b,p a b->q a b->s a b->r):r:=h.elim λa g=>g.elim λb g=>k a b g.1 g.2.1 g.2.2
def i5_2 {p q s:A->B->Prop}(a:A)(b:B)(h:p a b)(i:q a b)(j:s a b):∃a b,p a b/\q a b/\s a b:=#[a,b,h,i,j]
def e5_3 {p q:A->B->C->Prop}(h:∃a b c,p a b c/\q a b c)(k:∀a b c,p a b c->q a b c->r):r:=h.elim λa g=>g.elim λb g=>g.elim λc g=>k a b c g.1 g.2
def i5_3 {p q:A->B->C->Prop}(a:A)(b:B)(c:C)(h:p a b c)(i:q a b c):∃a b c,p a b c/\q a b c:=#[a,b,c,h,i]
def e5_4 {p:A->B->C->D->Prop}(h:∃a b c d,p a b c d)(k:∀a b c d,p a b c d->r):r:=h.elim λa g=>g.elim λb g=>g.elim λc g=>g.elim λd g=>k a b c d g
def e6_1 {p q s t u:A->Prop}(h:∃a,p a/\q a/\s a/\t a/\u a)(k:∀a,p a->q a->s a->t a->u a->r):r:=h.elim λa g=>k a g.1 g.2.1 g.2.2.1 g.2.2.2.1 g.2.2.2.2
def i6_1 {p q s t u:A->Prop}(a:A)(h:p a)(i:q a)(j:s a)(l:t a)(m:u a):∃a,p a/\q a/\s a/\t a/\u a:=#[a,h,i,j,l,m]
def e6_2 {p q s t:A->B->Prop}(h:∃a b,p a b/\q a b/\s a b/\t a b)(k:∀a b,p a b->q a b->s a b->t a b->r):r:=h.elim λa g=>g.elim λb g=>k a b g.1 g.2.1 g.2.2.1 g.2.2.2
def i6_2 {p q s t:A->B->Prop}(a:A)(b:B)(h:p a b)(i:q a b)(j:s a b)(l:t a b):∃a b,p a b/\q a b/\s a b/\t a b:=#[a,b,h,i,j,l]
def e6_3 {p q s:A->B->C->Prop}(h:∃a b c,p a b c/\q a b c/\s a b c)(k:∀a b c,p a b c->q a b c->s a b c->r):r:=h.elim λa g=>g.elim λb g=>g.elim λc g=>k a b c g.1 g.2.1 g.2.2
def i6_3 {p q s:A->B->C->Prop}(a:A)(b:B)(c:C)(h:p a b c)(i:q a b c)(j:s a b c):∃a b c,p a b c/\q a b c/\s a b c:=#[a,b,c,h,i,j]
def e6_4 {p q:A->B->C->D->Prop}(h:∃a b c d,p a b c d/\q a b c d)(k:∀a b c d,p a b c d->q a b c d->r):r:=h.elim λa g=>g.elim λb g=>g.elim λc g=>g.elim λd g=>k a b c d g.1 g.2
def i6_4 {p q:A->B->C->D->Prop}(a:A)(b:B)(c:C)(d:D)(h:p a b c d)(i:q a b c d):∃a b c d,p a b c d/\q a b c d:=#[a,b,c,d,h,i]
def e6_5 {p:A->B->C->D->F->Prop}(h:∃a b c d f,p a b c d f)(k:∀a b c d f,p a b c d f->r):r:=h.elim λa g=>g.elim λb g=>g.elim λc g=>g.elim λd g=>g.elim λf g=>k a b c d f g
def i6_5 {p:A->B->C->D->F->Prop}(a:A)(b:B)(c:C)(d:D)(f:F)(h:p a b c d f):∃a b c d f,p a b c d f:=#[a,b,c,d,f,h]
def e7_0 {q u v w:Prop}(h:p/\q/\s/\t/\u/\v/\w)(k:p->q->s->t->u->v->w->r):r:=k h.1 h.2.1 h.2.2.1 h.2.2.2.1 h.2.2.2.2.1 h.2.2.2.2.2.1 h.2.2.2.2.2.2
def i7_1 {p q s t u v:A->Prop}(a:A)(h:p a)(i:q a)(j:s a)(l:t a)(m:u a)(n:v a):∃a,p a/\q a/\s a/\t a/\u a/\v a:=#[a,h,i,j,l,m,n]
def e7_2 {p q s t u:A->B->Prop}(h:∃a b,p a b/\q a b/\s a b/\t a b/\u a b)(k:∀a b,p a b->q a b->s a b->t a b->u a b->r):r:=h.elim λa g=>g.elim λb g=>k a b g.1 g.2.1 g.2.2.1 g.2.2.2.1 g.2.2.2.2
def i7_2 {p q s t u:A->B->Prop}(a:A)(b:B)(h:p a b)(i:q a b)(j:s a b)(l:t a b)(m:u a b):∃a b,p a b/\q a b/\s a b/\t a b/\u a b:=#[a,b,h,i,j,l,m]
def e7_3 {p q s t:A->B->C->Prop}(h:∃a b c,p a b c/\q a b c/\s a b c/\t a b c)(k:∀a b c,p a b c->q a b c->s a b c->t a b c->r):r:=h.elim λa g=>g.elim λb g=>g.elim λc g=>k a b c g.1 g.2.1 g.2.2.1 g.2.2.2
def i7_3 {p q s t:A->B->C->Prop}(a:A)(b:B)(c:C)(h:p a b c)(i:q a b c)(j:s a b c)(l:t a b c):∃a b c,p a b c/\q a b c/\s a b c/\t a b c:=#[a,b,c,h,i,j,l]
def e7_4 {p q s:A->B->C->D->Prop}(h:∃a b c d,p a b c d/\q a b c d/\s a b c d)(k:∀a b c d,p a b c d->q a b c d->s a b c d->r):r:=h.elim λa g=>g.elim λb g=>g.elim λc g=>g.elim λd g=>k a b c d g.1 g.2.1 g.2.2
def i7_4 {p q s:A->B->C->D->Prop}(a:A)(b:B)(c:C)(d:D)(h:p a b c d)(i:q a b c d)(j:s a b c d):∃a b c d,p a b c d/\q a b c d/\s a b c d:=#[a,b,c,d,h,i,j]
def e8_2 {p q s t u v:A->B->Prop}(h:∃a b,p a b/\q a b/\s a b/\t a b/\u a b/\v a b)(k:∀a b,p a b->q a b->s a b->t a b->u a b->v a b->r):r:=h.elim λa g=>g.elim λb g=>k a b g.1 g.2.1 g.2.2.1 g.2.2.2.1 g.2.2.2.2.1 g.2.2.2.2.2
def i8_2 {p q s t u v:A->B->Prop}(a:A)(b:B)(h:p a b)(i:q a b)(j:s a b)(l:t a b)(m:u a b)(n:v a b):∃a b,p a b/\q a b/\s a b/\t a b/\u a b/\v a b:=#[a,b,h,i,j,l,m,n]
def e8_3 {p q s t u:A->B->C->Prop}(h:∃a b c,p a b c/\q a b c/\s a b c/\t a b c/\u a b c)(k:∀a b c,p a b c->q a b c->s a b c->t a b c->u a b c->r):r:=h.elim λa g=>g.elim λb g=>g.elim λc g=>k a b c g.1 g.2.1 g.2.2.1 g.2.2.2.1 g.2.2.2.2
def i8_3 {p q s t u:A->B->C->Prop}(a:A)(b:B)(c:C)(h:p a b c)(i:q a b c)(j:s a b c)(l:t a b c)(m:u a b c):∃a b c,p a b c/\q a b c/\s a b c/\t a b c/\u a b c:=#[a,b,c,h,i,j,l,m]
def e8_4 {p q s t:A->B->C->D->Prop}(h:∃a b c d,p a b c d/\q a b c d/\s a b c d/\t a b c d)(k:∀a b c d,p a b c d->q a b c d->s a b c d->t a b c d->r):r:=h.elim λa g=>g.elim λb g=>g.elim λc g=>g.elim λd g=>k a b c d g.1 g.2.1 g.2.2.1 g.2.2.2
def i8_4 {p q s t:A->B->C->D->Prop}(a:A)(b:B)(c:C)(d:D)(h:p a b c d)(i:q a b c d)(j:s a b c d)(l:t a b c d):∃a b c d,p a b c d/\q a b c d/\s a b c d/\t a b c d:=#[a,b,c,d,h,i,j,l]
def e9_0 {q u v w k J:Prop}(h:p/\q/\s/\t/\u/\v/\w/\k/\J)(k:p->q->s->t->u->v->w->k->J->r):r:=k h.1 h.2.1 h.2.2.1 h.2.2.2.1 h.2.2.2.2.1 h.2.2.2.2.2.1 h.2.2.2.2.2.2.1 h.2.2.2.2.2.2.2.1 h.2.2.2.2.2.2.2.2
def e9_2 {p q s t u v w:A->B->Prop}(h:∃a b,p a b/\q a b/\s a b/\t a b/\u a b/\v a b/\w a b)(k:∀a b,p a b->q a b->s a b->t a b->u a b->v a b->w a b->r):r:=h.elim λa g=>g.elim λb g=>k a b g.1 g.2.1 g.2.2.1 g.2.2.2.1 g.2.2.2.2.1 g.2.2.2.2.2.1 g.2.2.2.2.2.2
def e9_3 {p q s t u v:A->B->C->Prop}(h:∃a b c,p a b c/\q a b c/\s a b c/\t a b c/\u a b c/\v a b c)(k:∀a b c,p a b c->q a b c->s a b c->t a b c->u a b c->v a b c->r):r:=h.elim λa g=>g.elim λb g=>g.elim λc g=>k a b c g.1 g.2.1 g.2.2.1 g.2.2.2.1 g.2.2.2.2.1 g.2.2.2.2.2
def i9_3 {p q s t u v:A->B->C->Prop}(a:A)(b:B)(c:C)(h:p a b c)(i:q a b c)(j:s a b c)(l:t a b c)(m:u a b c)(n:v a b c):∃a b c,p a b c/\q a b c/\s a b c/\t a b c/\u a b c/\v a b c:=#[a,b,c,h,i,j,l,m,n]
def e9_4 {p q s t u:A->B->C->D->Prop}(h:∃a b c d,p a b c d/\q a b c d/\s a b c d/\t a b c d/\u a b c d)(k:∀a b c d,p a b c d->q a b c d->s a b c d->t a b c d->u a b c d->r):r:=h.elim λa g=>g.elim λb g=>g.elim λc g=>g.elim λd g=>k a b c d g.1 g.2.1 g.2.2.1 g.2.2.2.1 g.2.2.2.2
def i9_4 {p q s t u:A->B->C->D->Prop}(a:A)(b:B)(c:C)(d:D)(h:p a b c d)(i:q a b c d)(j:s a b c d)(l:t a b c d)(m:u a b c d):∃a b c d,p a b c d/\q a b c d/\s a b c d/\t a b c d/\u a b c d:=#[a,b,c,d,h,i,j,l,m]
def e9_5 {p q s t:A->B->C->D->F->Prop}(h:∃a b c d f,p a b c d f/\q a b c d f/\s a b c d f/\t a b c d f)(k:∀a b c d f,p a b c d f->q a b c d f->s a b c d f->t a b c d f->r):r:=h.elim λa g=>g.elim λb g=>g.elim λc g=>g.elim λd g=>g.elim λf g=>k a b c d f g.1 g.2.1 g.2.2.1 g.2.2.2
def i9_5 {p q s t:A->B->C->D->F->Prop}(a:A)(b:B)(c:C)(d:D)(f:F)(h:p a b c d f)(i:q a b c d f)(j:s a b c d f)(l:t a b c d f):∃a b c d f,p a b c d f/\q a b c d f/\s a b c d f/\t a b c d f:=#[a,b,c,d,f,h,i,j,l]
def e9_7 {p q:A->B->C->D->F->G->H->Prop}(h:∃a b c d f y z,p a b c d f y z/\q a b c d f y z)(k:∀a b c d f y z,p a b c d f y z->q a b c d f y z->r):r:=h.elim λa g=>g.elim λb g=>g.elim λc g=>g.elim λd g=>g.elim λf g=>g.elim λy g=>g.elim λz g=>k a b c d f y z g.1 g.2
def i9_7 {p q:A->B->C->D->F->G->H->Prop}(a:A)(b:B)(c:C)(d:D)(f:F)(y:G)(z:H)(h:p a b c d f y z)(i:q a b c d f y z):∃a b c d f y z,p a b c d f y z/\q a b c d f y z:=#[a,b,c,d,f,y,z,h,i]
def e9_8 {p:A->B->C->D->F->G->H->I->Prop}(h:∃a b c d f y z o,p a b c d f y z o)(k:∀a b c d f y z o,p a b c d f y z o->r):r:=h.elim λa g=>g.elim λb g=>g.elim λc g=>g.elim λd g=>g.elim λf g=>g.elim λy g=>g.elim λz g=>g.elim λo g=>k a b c d f y z o g
end
public abbrev M.f:M:=[[1]]
public abbrev M.a:M:=[[1,1]]
public abbrev M.i:M:=[[0,1]]
public abbrev M.j:M:=[[-1,1]]
public abbrev M.b:M:=[[1,1,1]]
public abbrev M.c:M:=[[0,1,1]]
public abbrev M.d:M:=[[1,1,-1]]
public abbrev M.k:M:=[[1,-1,1]]
public abbrev M.e:M:=[[1,1,1,1]]
public abbrev M.h:M:=[[0,1,1,1]]
public abbrev M.g:M:=[[1,0,1],[1,1,0]]
def N.Q:N:=.n 1000000
def N.R:N:=.n (2^60)
def E.L:E:=.n (2^63)
def P.A:P:=.k .A .B
def P.B:P:=.l .A .B
def N.L:N:=.a .A .U
def N.M:N:=.a .A .B
def N.P:N:=.a .B .U
def P.C:P:=.k .U .A
def P.D:P:=.l .O .A
def N.S:N:=.a .C .U
def P.F:P:=.k .C .B
def P.G:P:=.e .A .B
def P.H:P:=.l .A .C
def P.I:P:=.k .L .B
end Ar
namespace Mine.Z
abbrev cg:=λ{k0 k1}=>@Ar.a1 [] [k0,k1]
abbrev gz:=λ{k0 k1 k2}=>@Ar.a1 [] [k0,k1,k2]
abbrev fb:=λ{k0}=>@Ar.a1 [] [k0]
abbrev ph:=λ{c0}=>@Ar.a1 [c0] []
abbrev rq:=λ{k0 k1 k2 k3}=>@Ar.a3 [] [k0,k1,k2,k3]
abbrev jm:=λ{k0 k1 k2 k3}=>@Ar.a2 [] [k0,k1,k2,k3]
abbrev lX:=λ{k0 k1 k2 k3 k4 k5}=>@Ar.a4 [] [k0,k1,k2,k3,k4,k5]
abbrev gr:=λ{k0 k1 k2}=>@Ar.a2 [] [k0,k1,k2]
abbrev tq:=λ{k0 k1 k2}=>@Ar.a3 [] [k0,k1,k2]
abbrev fZ:=λ{c0}=>@Ar.a0 [c0] []
abbrev tn:=λ{k0 k1 k2 k3 k4}=>@Ar.a3 [] [k0,k1,k2,k3,k4]
abbrev n9:=λ{k0 k1}=>@Ar.a0 [] [k0,k1]
abbrev qD:=λ{k0 k1 k2 k3 k4}=>@Ar.a2 [] [k0,k1,k2,k3,k4]
abbrev mn:=λ{k0 k1}=>@Ar.a2 [] [k0,k1]
abbrev i9:=λ{k0 k1 k2 k3}=>@Ar.a4 [] [k0,k1,k2,k3]
abbrev EO:=@Ar.a0 [] []
abbrev oo:=λ{k0}=>@Ar.a0 [] [k0]
abbrev EN:=λ{k0 k1 k2 k3}=>@Ar.a1 [] [k0,k1,k2,k3]
abbrev QF:=λ{k0 k1 k2 k3 k4 k5 k6}=>@Ar.a2 [] [k0,k1,k2,k3,k4,k5,k6]
abbrev xj:=λ{c0 k0}=>@Ar.a2 [c0] [k0]
abbrev ud:=λ{c0 c1}=>@Ar.a1 [c0,c1] []
abbrev fY:=λ{c0 c1 c2 c3}=>@Ar.a2 [c0,c1,c2,c3] []
end Mine.Z
end
section
set_option tactic.hygienic true
set_option backward.match.sparseCases false
namespace MP
set_option genSizeOf false
set_option genInjectivity false
open PySem
structure EV where
 ks:List Expr
 s:Str
 k:Nat
 op:BoolOp
 g:List Comprehension×Scope
 b:Option Expr×Option Expr
 c:Const
abbrev vk (ks:List Expr):EV:=#[ks,"",0,.And,([],default),(none,none),.none]
abbrev v0:EV:=vk []
abbrev vw (x:Expr):EV:=Expr.casesOn (motive_1:=λ_=>EV) x
 (λop xs _=>#[xs,"",0,op,([],default),(none,none),.none])
 (λ_ _ _=>v0)
 (λl _ r _=>vk [l,r])
 (λ_ y _=>vk [y])
 (λ_ _ _ _=>v0)
 (λu y z _=>vk [u,y,z])
 (λ_ _ _=>v0)
 (λ_ _ _=>v0)
 (λy gs sc _=>#[[y],"",0,.And,(gs,sc),(none,none),.none])
 (λy gs sc _=>#[[y],"",0,.And,(gs,sc),(none,none),.none])
 (λy z gs sc _=>#[[y,z],"",0,.And,(gs,sc),(none,none),.none])
 (λ_ _ _ _=>v0)
 (λ_ _=>v0)
 (λ_ _=>v0)
 (λ_ _=>v0)
 (λl _ r _=>vk (l::r))
 (λf xs _ _=>vk (f::xs))
 (λ_ _ _ _=>v0)
 (λ_ _=>v0)
 (λc k _=>#[[],"",k,.And,([],default),(none,none),c])
 (λy _ _=>vk [y])
 (λy z _=>vk [y,z])
 (λ_ _=>v0)
 (λy _=>#[[],y,0,.And,([],default),(none,none),.none])
 (λxs _=>vk xs)
 (λxs k _=>#[xs,"",k,.And,([],default),(none,none),.none])
 (λl h st _=>#[st.toList,"",0,.And,([],default),(l,h),.none])
abbrev bC (k:Nat)(x:Expr):Bool:=Nat.beq x.ctorIdx k
abbrev kids (x:Expr):List Expr:=(vw x).ks
abbrev kid (i:Nat)(x:Expr):Expr:=(kids x).getD i default
abbrev kh (x:Expr):Str:=(vw x).s
abbrev exK (x:Expr):Nat:=(vw x).k
abbrev xT (x:Expr):Str:=match (vw x).c with
 |.str t=>t
 |_=>""
structure SV where
 es:List Expr
 b:List Stmt
 c:List Stmt
abbrev s0:SV:=#[[],[],[]]
abbrev sw (x:Stmt):SV:=Stmt.casesOn (motive_2:=λ_=>SV) x
 (λ_ _ _ _ _ _ _ _ _ _=>s0)
 (λ_ _ _ _ _ _ _ _ _ _=>s0)
 (λ_ _ _ b _ _ _ _ _ _ _=>#[[],b,[]])
 (λe _=>#[e.toList,[],[]])
 (λts _=>#[ts,[],[]])
 (λts e _=>#[e::ts,[],[]])
 (λ_ _ _ _ _ _ _=>s0)
 (λt _ e _=>#[[e,t],[],[]])
 (λ_ _ _ _ _=>s0)
 (λt e b _ _=>#[[e,t],b,[]])
 (λ_ _ _ _ _=>s0)
 (λe b _ _=>#[[e],b,[]])
 (λe b c _=>#[[e],b,c])
 (λ_ _ _=>s0)
 (λ_ _ _=>s0)
 (λ_ _ _=>s0)
 (λ_ _ _=>s0)
 (λ_ _ _ _ _=>s0)
 (λ_ _ _ _ _=>s0)
 (λ_ _ _=>s0)
 (λ_ _=>s0)
 (λ_ _ _ _=>s0)
 (λ_ _=>s0)
 (λ_ _=>s0)
 (λe _=>#[[e],[],[]])
 (λ_=>s0)
 (λ_=>s0)
 (λ_=>s0)
abbrev yu (x:Stmt):List Expr:=(sw x).es
abbrev st0 (x:Stmt):Expr:=(yu x).headD default
end MP
end
section
set_option backward.match.sparseCases false
open PySem PySem.W PyProof.Rows
set_option maxHeartbeats 0
namespace Mine
public abbrev pw:Program:=PySem.Challenge.pw_dm0056_01
public abbrev an:Option Value:=some (Value.ref 6)
public abbrev p0:Pos:=#[0,0,0,0]
public abbrev TB:String->Option Builtin:=PySem.W.Fast.tw14364793385576792824
def goT:=PySem.W.Fast.tw10295753902157049106
def NA:=PySem.W.Fast.tw10110043849684766642
public abbrev L5:Builtin:=PySem.W.Fast.tw4202317264376624991
public abbrev B0:List Frame:=[topFrame p0]
abbrev hU (x:Stmt):Str:=MP.xT (MP.st0 ((MP.sw x).b.headD default))
abbrev QA (d:Str)(x:Stmt):Stmt:=.Expr (.Constant (.str d) (MP.exK (MP.st0 x)) (MP.st0 x).pos) x.pos
abbrev IF (d:Str):Stmt->Stmt
 |.ClassDef n b k bo dl tp sc ts bd sa pos=>.ClassDef n b k (bo.modify 0 (QA d)) dl tp sc ts bd sa pos
 |s=>s
abbrev JV (i:Nat)(d:Str)(p:Program):Program:={p with main:={p.main with body:=p.main.body.modify i (IF d)}}
abbrev Ds:{s:String // hU (pw.main.body.getD 5 default)=Str.ofString s}:=#[_,rfl]
abbrev JU:{cs:List Char // String.ofList cs=Ds.1}:=#[_,rfl]
abbrev OD:Str:=#[(PySem.W.R.mapR Char.toNat JU.1).toArray]
def IG:hU (pw.main.body.getD 5 default)=OD:=by
 rw[Ds.2,<- JU.2,Fast.ofString_ofList,PySem.W.R.mapR_eq];rfl
abbrev pwF:Program:=JV 5 OD pw
def KV:pwF=pw:=by
 have h:JV 5 (hU (pw.main.body.getD 5 default)) pw=pw:=by kernel_rfl
 rw[IG]at h;show h
abbrev S0 (w:World)(os:OsState):Shared:=#[boot_heap w.params,#[[]],boot_drawn,boot_toks,os]
public abbrev bE:List Stmt:=behindTheImports pw
public abbrev bF:List Stmt:=behindTheImports pwF
def OP:bF=bE:=bb behindTheImports KV
public abbrev IB:Env:={scope:=pw.main.scope,locals:=mainNs,globals:=mainNs,cells:=[],code:=Value.ref 13,frame:=some 14}
public abbrev cE:Code:=Code.body bE IB
abbrev X0 (w:World)(os:OsState):Option (Shared×Thread):=topGo TB pw w 11 an 12 (S0 w os) (topStub pw)
abbrev ob (w:World)(os:OsState)(i:Nat):Obj:=((X0 w os).elim (S0 w os) (·.1)).heap.objs.toList.getD i default
abbrev T4 (w:World)(os:OsState):BT:=
 .node (ob w os 0)
  (.node (ob w os 1) (.node (ob w os 3) (.node (ob w os 7) .nil .nil) (.node (ob w os 11) .nil .nil)) (.node (ob w os 5) (.node (ob w os 9) .nil .nil) (.node (ob w os 13) .nil .nil)))
  (.node (ob w os 2) (.node (ob w os 4) (.node (ob w os 8) .nil .nil) (.node (ob w os 12) .nil .nil)) (.node (ob w os 6) (.node (ob w os 10) .nil .nil) (.node (ob w os 14) .nil .nil)))
abbrev S4 (w:World)(os:OsState):SharedT:={tree:=T4 w os,n:=15,life:={},gens:=#[[]],drawn:={},toks:=187,os:=os}
def pre:(λw os=>topGo TB pw w 11 an 12 (S0 w os) (topStub pw))=λw os=>some ((S4 w os).abs,#[denote TB cE,cE,p0,B0]):=by kernel_rfl
def blk:(λw os=>segRun TB pw w 11 an 1 1 (S4 w os).abs (blockOf bE IB cE p0 B0))=λw os=>some (Flow.next,(S4 w os).abs,cE,p0):=by kernel_rfl
def fin:(λw c q s=>topRun TB pw w 11 an 2 s #[doneF .next,c,q,B0])=λw c q s=>some s:=by kernel_rfl
end Mine
end
section
set_option backward.match.sparseCases false
open PySem PySem.W PyProof.Rows
set_option maxHeartbeats 0
namespace Mine
abbrev xS (as:Array Nat)(p:Nat->Bool)(start stop:Nat):Bool:=
 match Nat.beq start 0,Nat.beq stop as.size with
 |true,true=>PySem.W.R.anyR as.toList p
 |_,_=>Array.any as p start stop
def uW:@Array.any Nat=xS:=by
 funext as p start stop
 unfold xS;split
 ·rename_i Y Z;have U:=yq Y;have X:=yq Z;subst U X;rw[<- PySem.W.R.anyR_eq,Array.any_toList]
 ·rfl
abbrev th0:Thread:=piecesOf bF IB cE p0 B0
abbrev XA (w:World)(os:OsState):Option (SharedT×Thread):=goT TB pw w 11 an 1 1973 (S4 w os) th0
abbrev sA (w:World)(os:OsState):SharedT:=(XA w os).elim (S4 w os) (·.1)
abbrev tA (w:World)(os:OsState):Thread:=(XA w os).elim th0 (·.2)
abbrev eQ (t:Thread):Args:=match t.code with|.builtin _ a=>a|_=>{}
def atA:(λw os=>((XA w os).isSome,(tA w os).cur))=λw os=>(true,L5 (eQ (tA w os))):=by kernel_rfl
end Mine
end
section
set_option backward.match.sparseCases false
namespace MP
set_option genSizeOf false
open PySem
set_option genCtorIdx true in
inductive Key where
 |int (i:Int)
 |str (s:Str)
 deriving DecidableEq
variable {α:Type}{i:Addr}{j:Nat}{p:Prop}{f:Addr->Prop}
inductive V where
 |none
 |bool (b:Bool)
 |int (i:Int)
 |str (s:Str)
 |L (a:Addr)
 |dct (a:Addr)
 |set (a:Addr)
 |obj (a:Addr)
 |T (xs:List V)
 |mt (xs:List V)
 |eM (a:Addr)
 |dY (a:Addr)
 |clo (k:Nat) (cs:List V)
 |ro (ns:List Int)
 |dhas (a:Addr)
 |flo
abbrev V.eI:V->Option Key
 |.int i=>some (.int i)
 |.str s=>some (.str s)
 |_=>Option.none
abbrev Key.v:Key->V
 |.int i=>.int i
 |.str s=>.str s
structure St where
 L:Addr->Option (List V)
 D:Addr->Option (List (Key×V))
 S:Addr->Option (List Key)
 I:Addr->Option (Addr×(Nat->Option V))
 Z:Addr->Option Obj
def Fr:=Nat->Option V
abbrev upd {α:Type}(f:Nat->Option α)(i:Nat)(v:α):Nat->Option α:=λj=>if j=i then some v else f j
def ay (f:Nat->Option α)(i:Nat)(v:α):upd f i v i=some v:=by simp[upd]
def bh {f:Nat->Option α}{i:Nat}{v:α}(h:j≠i):upd f i v j=f j:=by simp[upd,h]
abbrev St.cu (σ:St)(a:Addr)(xs:List V):St:={σ with L:=upd σ.L a xs}
abbrev clr {α:Type}(f:Nat->Option α)(i:Nat):Nat->Option α:=λj=>if j=i then none else f j
def fS {f:Nat->Option α}{i:Nat}{v:α}(h:clr f i j=some v):j≠i/\f j=some v:=by
 unfold clr at h;by_cases q:j=i
 ·rw[br q]at h;cases h
 ·rw[az q]at h;apply#[q,h]
def DZ {f:Nat->Option α}{i:Nat}(h:j≠i):clr f i j=f j:=az h
abbrev St.jr (σ:St)(a:Addr)(es:List (Key×V)):St:={σ with D:=upd σ.D a es,Z:=clr σ.Z a}
abbrev St.dZ (σ:St)(a:Addr)(ks:List Key):St:={σ with S:=upd σ.S a ks,Z:=clr σ.Z a}
abbrev St.bN (σ:St)(a:Addr)(o:Obj):St:={σ with Z:=upd σ.Z a o}
abbrev St.ir (σ:St)(a:Addr)(d:Addr)(f:Nat->Option V):St:={σ with I:=upd σ.I a (d,f)}
abbrev St.dom (σ:St)(b:Addr):Prop:=(σ.L b).isSome\/(σ.D b).isSome\/(σ.S b).isSome\/(σ.I b).isSome\/(σ.Z b).isSome\/∃a f,σ.I a=some (b,f)
set_option genInjectivity false
set_option genCtorIdx true in
inductive Bop where
 |add|sub|mul|fdiv|mod|pow
set_option genCtorIdx true in
inductive Cop where
 |eq|ne|lt|le|gt|ge|is|isNot|isIn|notIn
set_option genCtorIdx true in
inductive BM where
 |append
 |pop
 |insert|extend
 |sort
 |index|count|get|setdefault|add
set_option genCtorIdx true in
inductive BF where
 |len
 |set
set_option genCtorIdx true in
inductive BX where
 |cu
inductive Tg where
 |v (x:Nat)
 |T (xs:List Nat)
mutual
inductive Ex where
 |none
 |bool (b:Bool)
 |int (i:Int)
 |str (s:Str)
 |l (x:Nat)
 |b (op:Bop) (a b:Ex)
 |neg (a:Ex)
 |not (a:Ex)
 |and (a b:Ex)
 |or (a b:Ex)
 |c (op:Cop) (a b:Ex)
 |I (c a b:Ex)
 |L (es:Exs)
 |T (es:Exs)
 |dct0
 |call (f:Nat) (es:Exs)
 |meth (e:Ex) (m:Nat) (es:Exs)
 |attr (e:Ex) (a:Nat)
 |g (e:Ex)
 |h (e:Ex)
 |dhasOf (e:Ex)
 |flt
 |ratio (a b:Ex)
 |neS (a b:Ex)
 |bm (k:BM) (e:Ex) (es:Exs)
 |bf (k:BF) (es:Exs)
 |w (f:Nat) (es:Exs)
 |sub (e i:Ex)
 |slc (e lo hi:Ex)
 |K (fv:List (Nat×Nat)) (it:It) (t:Tg) (cs:Exs) (more:Gens)
 |bx (k:BX) (e:Ex)
 |n (es:Exs)
 |N (a b c:Ex)
 |M (e:Ex)
 |dead
inductive Exs where
 |nil
 |cons (e:Ex) (es:Exs)
inductive It where
 |rng1 (e:Ex)
 |rng2 (a b:Ex)
 |enum (e:Ex)
 |seq (e:Ex)
 |keys (e:Ex)
 |items (e:Ex)
inductive Gens where
 |elt (e:Ex)
 |eltP (k v:Ex)
 |cons (it:It) (t:Tg) (cs:Exs) (more:Gens)
end
inductive Tgt where
 |v (x:Nat)
 |attr (o:Ex) (a:Nat)
 |sub (o i:Ex)
 |T (xs:List Nat)
mutual
inductive Stm where
 |a (ts:List Tgt) (e:Ex)
 |aug (x:Nat) (op:Bop) (e:Ex)
 |delD (o i:Ex)
 |delS (o i:Ex)
 |dcomp2 (i:Nat) (fv:List (Nat×Nat)) (it:It) (t:Tg) (k v:Ex)
 |expr (e:Ex)
 |exprF (e:Ex)
 |C (c:Ex) (t e:jo)
 |loop (c:Ex) (b:jo)
 |each (t:Tg) (it:It) (b:jo)
 |ret (e:Ex)
 |brk
 |cont
 |pass
 |dead
inductive jo where
 |nil
 |cons (s:Stm) (ss:jo)
end
set_option genCtorIdx true in
inductive Fl where
 |next|brk|cont
 |ret (v:V)
abbrev fQ (σ:St):Nat->V->Option PyData
 |_,.none=>some .none
 |_,.bool b=>some (.bool b)
 |_,.int i=>some (.int i)
 |_,.str s=>if PyData.strOk s then some (.str s) else Option.none
 |n+1,.T xs=>(xs.mapM (fQ σ n)).map .tuple
 |n+1,.L a=>(σ.L a).bind λxs=>(xs.mapM (fQ σ n)).map .list
 |_,_=>Option.none
abbrev aw:Nat:=1000000
abbrev DC (a b:Int):Prop:=a.natAbs<2^60\/b.natAbs<2^60
abbrev vInt:V->Option Int
 |.int i=>some i|_=>none
abbrev vStr:V->Option Str
 |.str i=>some i|_=>none
abbrev jP:V->Option Addr
 |.L i=>some i|_=>none
abbrev tL:V->Option Addr
 |.dct i=>some i|_=>none
abbrev yF:V->Option Addr
 |.obj i=>some i|_=>none
abbrev vRo:V->Option (List Int)
 |.ro i=>some i|_=>none
abbrev AN:V->Option (List V)
 |.T i=>some i|_=>none
def gy {x:α}(h:none=some x):p:=by cases h
def qt {v:V}{i:Int}(h:vInt v=some i):v=.int i:=by
 induction v using V.casesOn<;>first|show bb _ (af h)|show gy h
def cO {v:V}{i:Str}(h:vStr v=some i):v=.str i:=by
 induction v using V.casesOn<;>first|show bb _ (af h)|show gy h
def jA {v:V}(h:jP v=some i):v=.L i:=by
 induction v using V.casesOn<;>first|show bb _ (af h)|show gy h
def FO {v:V}(h:tL v=some i):v=.dct i:=by
 induction v using V.casesOn<;>first|show bb _ (af h)|show gy h
def oO {v:V}(h:yF v=some i):v=.obj i:=by
 induction v using V.casesOn<;>first|show bb _ (af h)|show gy h
def K6 {v:V}{i:List Int}(h:vRo v=some i):v=.ro i:=by
 induction v using V.casesOn<;>first|show bb _ (af h)|show gy h
def FN {v:V}{i:List V}(h:AN v=some i):v=.T i:=by
 induction v using V.casesOn<;>first|show bb _ (af h)|show gy h
abbrev yf (v:V)(f:Int->Prop):Prop:=match v with
 |.int i=>f i
 |_=>False
def pg {v:V}{f:Int->Prop}(h:yf v f):∃i,v=.int i/\f i:=by
 induction v using V.casesOn<;>first|refine⟨_,rfl,h⟩|show False.elim h
abbrev vt (v:V)(f:Addr->Prop):Prop:=match v with
 |.L i=>f i
 |_=>False
def pf {v:V}(h:vt v f):∃i,v=.L i/\f i:=by
 induction v using V.casesOn<;>first|refine⟨_,rfl,h⟩|show False.elim h
abbrev fA (v:V)(f:Addr->Prop):Prop:=match v with
 |.dct i=>f i
 |_=>False
def yg {v:V}(h:fA v f):∃i,v=.dct i/\f i:=by
 induction v using V.casesOn<;>first|refine⟨_,rfl,h⟩|show False.elim h
abbrev onSet (v:V)(f:Addr->Prop):Prop:=match v with
 |.set i=>f i
 |_=>False
def x9 {v:V}(h:onSet v f):∃i,v=.set i/\f i:=by
 induction v using V.casesOn<;>first|refine⟨_,rfl,h⟩|show False.elim h
abbrev on0 (vs:List V)(p:Prop):Prop:=match vs with
 | []=>p
 |_::_=>False
abbrev on1 (vs:List V)(f:V->Prop):Prop:=match vs with
 | []=>False
 |v::r=>on0 r (f v)
abbrev on2 (vs:List V)(f:V->V->Prop):Prop:=match vs with
 | []=>False
 |v::r=>on1 r (f v)
abbrev on3 (vs:List V)(f:V->V->V->Prop):Prop:=match vs with
 | []=>False
 |v::r=>on2 r (f v)
def xA {vs:List V}(h:on0 vs p):vs=[]/\p:=by
 cases vs
 ·apply#[rfl,h]
 ·show False.elim h
def bU {vs:List V}{f:V->Prop}(h:on1 vs f):∃v,vs=[v]/\f v:=by
 cases vs with
 |nil=>show False.elim h
 |cons v r=>have#[rfl,h]:=xA (p:=f v) h;apply#[v,rfl,h]
def nJ {vs:List V}{f:V->V->Prop}(h:on2 vs f):∃v u,vs=[v,u]/\f v u:=by
 cases vs with
 |nil=>show False.elim h
 |cons v r=>have#[u,rfl,h]:=bU (f:=f v) h;apply#[v,u,rfl,h]
def ND {vs:List V}{f:V->V->V->Prop}(h:on3 vs f):∃v u z,vs=[v,u,z]/\f v u z:=by
 cases vs with
 |nil=>show False.elim h
 |cons v r=>have#[u,z,rfl,h]:=nJ (f:=f v) h;apply#[v,u,z,rfl,h]
abbrev tK (op:Bop)(a b:Int)(σ:St)(Q:V->St->Prop):Prop:=match op with
 |.add=>Q (.int (a+b)) σ
 |.sub=>Q (.int (a-b)) σ
 |.mul=>DC a b/\Q (.int (a*b)) σ
 |.fdiv=>b≠0/\b.natAbs<2^60/\Q (.int (a.fdiv b)) σ
 |.mod=>b≠0/\Q (.int (a.fmod b)) σ
 |.pow=>0<=b/\b<=1000/\a.natAbs<2^64/\Q (.int (a^b.toNat)) σ
abbrev itemsOf (a:V)(σ:St):Option (List V):=match jP a with
 |some l=>σ.L l
 |none=>(vRo a).map λns=>ns.map V.int
abbrev AK (a:V)(b:Addr)(σ:St)(Q:V->St->Prop):Prop:=∃xs ys,itemsOf a σ=some xs/\σ.L b=some ys/\xs.length+ys.length<=aw/\∀c,σ.L c=Option.none->Q (.L c) (σ.cu c (xs++ys))
abbrev AG (a:Addr)(n:Int)(σ:St)(Q:V->St->Prop):Prop:=∃xs,σ.L a=some xs/\xs.length*n.toNat<=aw/\n.natAbs<2^60/\∀c,σ.L c=Option.none->Q (.L c) (σ.cu c ((List.replicate n.toNat xs).flatten))
abbrev CF (op:Bop)(p:Prop):Prop:=match op with
 |.mul=>p
 |_=>False
abbrev CG (op:Bop)(p:Prop):Prop:=match op with
 |.add=>p
 |_=>False
def H7 {op:Bop}(h:CF op p):op=.mul/\p:=by
 cases op<;>first|refine⟨rfl,h⟩|show False.elim h
def H8 {op:Bop}(h:CG op p):op=.add/\p:=by
 cases op<;>first|refine⟨rfl,h⟩|show False.elim h
abbrev iG (op:Bop)(a b:V)(σ:St)(Q:V->St->Prop):Prop:=match vInt b with
 |some j=>match vInt a with
  |some i=>tK op i j σ Q
  |none=>vt a λl=>CF op (AG l j σ Q)
 |none=>match vInt a with
  |some _=>False
  |none=>vt b λm=>CG op (AK a m σ Q)
def qN {op:Bop}{a b:V}{σ:St}{Q:V->St->Prop}(h:iG op a b σ Q):(∃i j,a=.int i/\b=.int j/\tK op i j σ Q)\/(op=.mul/\∃l n,a=.L l/\b=.int n/\AG l n σ Q)\/(op=.add/\∃m,b=.L m/\AK a m σ Q):=by
 unfold iG at h;cases Y:vInt b with
 |some j =>
  rw[Y]at h;cases Z:vInt a with
  |some i=>rw[Z]at h;show .inl #[i,j,qt Z,qt Y,h]
  |none =>
   rw[Z]at h;have h:vt a λl=>CF op (AG l j σ Q):=h;have#[l,e,h]:=pf h;have#[o,h]:=H7 h;show .inr (.inl #[o,l,j,e,qt Y,h])
 |none =>
  rw[Y]at h;cases Z:vInt a with
  |some i=>rw[Z]at h;show h.elim
  |none =>
   rw[Z]at h;have h:vt b λm=>CG op (AK a m σ Q):=h;have#[m,e,h]:=pf h;have#[o,h]:=H8 h;show .inr (.inr #[o,m,e,h])
abbrev wD (a b:V)(σ:St)(K:Bool->Prop):Prop:=∃d e,fQ σ 6 a=some d/\fQ σ 6 b=some e/\K (PyData.eqv d e)
abbrev tJ (a b:V)(σ:St)(K:Bool->Prop):Prop:=match vInt a with
 |some i=>match vInt b with
  |some j=>K (i==j)
  |none=>wD a b σ K
 |none=>match vStr a with
  |some x=>match vStr b with
   |some y=>K (x==y)
   |none=>wD a b σ K
  |none=>wD a b σ K
def jN {a b:V}{σ:St}{K:Bool->Prop}(h:tJ a b σ K):(∃i j,a=.int i/\b=.int j/\K (i==j))\/(∃x y,a=.str x/\b=.str y/\K (x==y))\/wD a b σ K:=by
 unfold tJ at h;cases W:vInt a with
 |some i =>
  rw[W]at h;cases Z:vInt b with
  |some j=>rw[Z]at h;show .inl #[i,j,qt W,qt Z,h]
  |none=>rw[Z]at h;show .inr (.inr h)
 |none =>
  rw[W]at h;cases Y:vStr a with
  |none=>rw[Y]at h;show .inr (.inr h)
  |some x =>
   rw[Y]at h;cases Z:vStr b with
   |some y=>rw[Z]at h;show .inr (.inl #[x,y,cO Y,cO Z,h])
   |none=>rw[Z]at h;show .inr (.inr h)
abbrev EqA (σ:St)(a b:V):Prop:=
 (a=.none/\b=.none)\/(∃(x y:Addr) (ns ms:List Int),a=.set x/\b=.set y/\σ.S x=some (ns.map Key.int)/\σ.S y=some (ms.map Key.int)/\ns.length=ms.length/\∀n∈ns,n∈ms) \/
  ∃(x y:Addr) (es fs:List (Key×V)),a=.dct x/\b=.dct y/\σ.D x=some es/\σ.D y=some fs/\(∀e∈es,∃i,e.1=Key.int i)/\(∀e∈fs,∃i,e.1=Key.int i)/\es.length=fs.length /\
   ∀e∈es,∃u d d',fs.lookup e.1=some u/\fQ σ 6 e.2=some d/\fQ σ 6 u=some d'/\PyData.eqv d d'=true
abbrev EqS (σ:St)(a b:V):Prop:=(EqA σ a b/\∀x,a≠.set x)\/∃xs ys,a=.T xs/\b=.T ys/\xs.length=ys.length/\∀(i:Nat) x y,xs[i]?=some x->ys[i]?=some y->EqA σ x y/\x≠.none
abbrev isNone:V->Bool
 |.none=>true
 |_=>false
abbrev J8 (b:Addr)(v:V)(σ:St)(K:Bool->Prop):Prop:=match v with
 |.L a=>(σ.L a).isSome/\(σ.L b).isSome/\K (a==b)
 |.none=>K false
 |_=>False
abbrev FD (v w:V)(σ:St)(K:Bool->Prop):Prop:=match w with
 |.none=>K (isNone v)
 |.L b=>J8 b v σ K
 |_=>False
abbrev FE (a b:V)(σ:St)(K:Bool->Prop):Prop:=yf a λi=>vt b λl=>∃ns:List Int,σ.L l=some (ns.map V.int)/\K (ns.contains i)
abbrev PQ (op:Cop)(a b:Int)(K:Bool->Prop):Prop:=match op with
 |.lt=>K (decide (a<b))
 |.le=>K (decide (a<=b))
 |.gt=>K (decide (b<a))
 |.ge=>K (decide (b<=a))
 |_=>False
abbrev J7 (op:Cop)(a b:V)(K:Bool->Prop):Prop:=yf a λi=>yf b λj=>PQ op i j K
abbrev jO:Cop->V->V->St->(Bool->Prop)->Prop
 |.eq,a,b,σ,K=>tJ a b σ K
 |.ne,a,b,σ,K=>tJ a b σ λr=>K (!r)
 |.is,a,b,σ,K=>FD a b σ K
 |.isNot,a,b,σ,K=>FD a b σ λr=>K (!r)
 |.isIn,a,b,σ,K=>FE a b σ K
 |.notIn,a,b,σ,K=>FE a b σ λr=>K (!r)
 |op,a,b,σ,K=>J7 op a b K
abbrev rx:V->St->(Bool->Prop)->Prop
 |.none,_,K=>K false
 |.bool b,_,K=>K b
 |.int i,_,K=>K (i != 0)
 |.str s,_,K=>s.cps.size<=aw/\K (s.cps.size != 0)
 |.L a,σ,K=>∃xs,σ.L a=some xs/\K (!xs.isEmpty)
 |.ro ns,_,K=>ns.length<=aw/\K (!ns.isEmpty)
 |.clo _ _,_,K=>K true
 |_,_,_=>False
abbrev fc (n:Nat)(i:Int):Int:=if i<0 then i+n else i
abbrev du (n:Nat)(i:Int):Nat:=min n (fc n i).toNat
abbrev wd (σ:St):V->Option (List V)
 |.L a=>σ.L a
 |_=>Option.none
abbrev jL (a b:V)(σ:St)(K:V->Prop):Prop:=match a with
 |.L a=>yf b λi=>∃xs v,σ.L a=some xs/\0<=fc xs.length i/\xs[(fc xs.length i).toNat]?=some v/\K v
 |.ro ns=>yf b λi=>∃n,ns.length<=aw/\0<=fc ns.length i/\ns[(fc ns.length i).toNat]?=some n/\K (.int n)
 |.T xs=>yf b λi=>∃v,i.natAbs<2^60/\0<=fc xs.length i/\xs[(fc xs.length i).toNat]?=some v/\K v
 |.dct a=>∃es kk v,σ.D a=some es/\b.eI=some kk/\es.lookup kk=some v/\K v
 |_=>False
abbrev l0 (d:Nat):V->Option Int
 |.none=>some d
 |.int i=>some i
 |_=>Option.none
abbrev J6 (a lo hi:V)(σ:St)(Q:V->St->Prop):Prop:=match a with
 |.L a=>∃xs i j,σ.L a=some xs/\l0 0 lo=some i/\l0 xs.length hi=some j/\i.natAbs<2^60/\j.natAbs<2^60 /\
   ∀c,σ.L c=Option.none->Q (.L c) (σ.cu c ((xs.take (du xs.length j)).drop (du xs.length i)))
 |.ro ns=>∃i j,ns.length<=aw/\l0 0 lo=some i/\l0 ns.length hi=some j/\i.natAbs<2^60/\j.natAbs<2^60 /\
   ∀c,σ.L c=Option.none->Q (.L c) (σ.cu c (((ns.take (du ns.length j)).drop (du ns.length i)).map V.int))
 |_=>False
abbrev putD (es:List (Key×V))(k:Key)(v:V):List (Key×V):=
 if es.any (λe=>e.1==k) then es.map (λe=>if e.1=k then (k,v) else e) else es++[(k,v)]
abbrev delD (es:List (Key×V))(k:Key):List (Key×V):=es.filter λe=>e.1 != k
abbrev rf:List Int->List Int->Bool
 |a::as,b::bs=>if a=b then rf as bs else decide (a<b)
 |_,_=>false
abbrev tI (t:Int×Int×Int):V:=.T [.int t.1,.int t.2.1,.int t.2.2]
abbrev mtV (t:Int×Int×Int):V:=.mt [.int t.1,.int t.2.1,.int t.2.2]
abbrev leT (s t:Int×Int×Int):Bool:=!rf [t.1,t.2.1,t.2.2] [s.1,s.2.1,s.2.2]
abbrev MY (k:BM)(v:V)(vs:List V)(σ:St)(Q:V->St->Prop):Prop:=match k with
 |.append=>vt v λa=>on1 vs λx=>∃xs,σ.L a=some xs/\xs.length<aw/\Q .none (σ.cu a (xs++[x]))
 |.pop=>vt v λa=>on0 vs (∃xs x,σ.L a=some (xs++[x])/\Q x (σ.cu a xs))
 |.insert=>False
 |.extend=>vt v λa=>on1 vs λx=>vt x λb=>∃xs ys,a≠b/\σ.L a=some xs/\σ.L b=some ys/\xs.length+ys.length<=aw/\Q .none (σ.cu a (xs++ys))
 |.sort=>vt v λa=>on0 vs (∃ts:List (Int×Int×Int),σ.L a=some (ts.map mtV)/\ts.length<64/\Q .none (σ.cu a ((ts.mergeSort leT).map mtV)))
 |.index=>False
 |.count=>vt v λa=>on1 vs λx=>yf x λi=>∃ns:List Int,σ.L a=some (ns.map V.int)/\Q (.int (ns.count i)) σ
 |.get=>fA v λa=>on2 vs λk d=>∃es kk,σ.D a=some es/\k.eI=some kk/\Q ((es.lookup kk).getD d) σ
 |.setdefault=>fA v λa=>on2 vs λk d=>∃es kk,σ.D a=some es/\k.eI=some kk/\es.length<aw/\Q ((es.lookup kk).getD d) (σ.jr a (if (es.lookup kk).isSome then es else es++[(kk,d)]))
 |.add=>onSet v λa=>on1 vs λk=>yf k λi=>∃ks,σ.S a=some ks/\ks.length<4000/\Q .none (σ.dZ a (if Key.int i∈ks then ks else ks++[Key.int i]))
abbrev OM (k:BM)(v:V)(σ:St):Prop:=match k with
 |.get=>fA v λa=>(σ.D a).isSome=true
 |.setdefault=>fA v λa=>(σ.D a).isSome=true
 |.add=>onSet v λa=>(σ.S a).isSome=true
 |_=>vt v λa=>(σ.L a).isSome=true
abbrev AH (v:V)(σ:St)(Q:V->St->Prop):Prop:=match v with
 |.L a=>∃xs,σ.L a=some xs/\Q (.int xs.length) σ
 |.T xs=>xs.length<=aw/\Q (.int xs.length) σ
 |.ro ns=>ns.length<=aw/\Q (.int ns.length) σ
 |.dct a=>∃es,σ.D a=some es/\Q (.int es.length) σ
 |_=>False
abbrev FG (k:BF)(vs:List V)(σ:St)(Q:V->St->Prop):Prop:=match k with
 |.len=>on1 vs λv=>AH v σ Q
 |.set=>on0 vs (∀c,σ.S c=Option.none->σ.D c=Option.none->Q (.set c) (σ.dZ c []))
abbrev FQ:V->St->Option (List V)
 |.T vs,_=>some vs
 |.mt vs,_=>some vs
 |.L a,σ=>σ.L a
 |_,_=>Option.none
abbrev gj:List Nat->List V->Fr->Fr
 |x::xs,v::vs,ρ=>gj xs vs (upd ρ x v)
 |_,_,ρ=>ρ
abbrev pz:Tg->V->St->Fr->(Fr->Prop)->Prop
 |.v x,v,_,ρ,K=>K (upd ρ x v)
 |.T xs,v,σ,ρ,K=>∃vs,FQ v σ=some vs/\xs.length=vs.length/\K (gj xs vs ρ)
abbrev uj (a b:Int):List V:=(List.range (b-a).toNat).map λi:Nat=>V.int (a+i)
def Cal:=Nat->List V->St->(V->St->Prop)->Prop
abbrev MF (f:V)(vs:List V)(C:Cal)(nclo:Nat)(σ:St)(Q:V->St->Prop):Prop:=match f with
 |.eM a=>on2 vs λk d=>∃es kk,σ.D a=some es/\k.eI=some kk/\Q ((es.lookup kk).getD d) σ
 |.dY a=>on1 vs λk=>∃ks kk,σ.S a=some ks/\k.eI=some kk/\Q (.bool (decide (kk∈ks))) σ
 |.clo k cs=>C (nclo+k) (vs++cs) σ Q
 |.dhas a=>on1 vs λk=>∃es kk,σ.D a=some es/\k.eI=some kk/\Q (.bool (es.lookup kk).isSome) σ
 |_=>False
abbrev hY (fv:List (Nat×Nat))(ρ:Fr):Fr:=λi=>(fv.lookup i).bind ρ
abbrev lC:List V->(St->Prop)->(V->Fr->List V->St->(Fr->List V->St->Prop)->Prop)->Fr->List V->St->(Fr->List V->St->Prop)->Prop
 | [],G,_,ρ,acc,σ,K=>G σ/\K ρ acc σ
 |v::vs,G,T,ρ,acc,σ,K=>G σ/\T v ρ acc σ λρ acc σ=>lC vs G T ρ acc σ K
abbrev MU (v:V)(σ:St)(K:List V->(St->Prop)->St->Prop):Prop:=match v with
 |.L a=>∃xs,σ.L a=some xs/\K xs (λτ=>τ.L a=some xs) σ
 |.T xs=>K xs (λ_=>True) σ
 |.set a=>∃ks,σ.S a=some ks/\∀(o:Obj) (ks':List Key),(∀k,k∈ks'↔k∈ks)->ks'.length=ks.length->K (ks'.map Key.v) (λτ=>τ.Z a=some o) (σ.bN a o)
 |_=>False
abbrev AI (v:V)(σ:St)(K:List V->(St->Prop)->St->Prop):Prop:=fA v λa=>∃es,σ.D a=some es/\∀o:Obj,K (es.map λe=>e.1.v) (λτ=>τ.Z a=some o) (σ.bN a o)
abbrev wC (v:V)(σ:St)(K:List V->(St->Prop)->St->Prop):Prop:=fA v λa=>∃es,σ.D a=some es/\∀o:Obj,K (es.map λe=>V.T [e.1.v,e.2]) (λτ=>τ.Z a=some o) (σ.bN a o)
abbrev MX (k:BX)(v:V)(σ:St)(Q:V->St->Prop):Prop:=match k with
 |.cu=>vt v λa=>∃ns:List Int,σ.L a=some (ns.map V.int)/\(∃us:List Int,us.length<4000/\∀n∈ns,n∈us)/\∀ms:List Int,ms.Nodup->(∀x,x∈ms↔x∈ns)->∀c,σ.S c=Option.none->σ.D c=Option.none->Q (.set c) (σ.dZ c (ms.map Key.int))
mutual
noncomputable def wpE (C:Cal):Ex->Fr->St->(V->St->Prop)->Prop
 |.none,_,σ,Q=>Q .none σ
 |.bool b,_,σ,Q=>Q (.bool b) σ
 |.int i,_,σ,Q=>Q (.int i) σ
 |.str s,_,σ,Q=>Q (.str s) σ
 |.l x,ρ,σ,Q=>∃v,ρ x=some v/\Q v σ
 |.b op a b,ρ,σ,Q=>wpE C a ρ σ λva σ=>wpE C b ρ σ λvb σ=>iG op va vb σ Q
 |.neg a,ρ,σ,Q=>wpE C a ρ σ λv σ=>∃i,v=.int i/\Q (.int (-i)) σ
 |.not a,ρ,σ,Q=>wpE C a ρ σ λv σ=>rx v σ λb=>Q (.bool !b) σ
 |.and a b,ρ,σ,Q=>wpE C a ρ σ λv σ=>rx v σ λt=>if t then wpE C b ρ σ Q else Q v σ
 |.or a b,ρ,σ,Q=>wpE C a ρ σ λv σ=>rx v σ λt=>if t then Q v σ else wpE C b ρ σ Q
 |.c op a b,ρ,σ,Q=>wpE C a ρ σ λva σ=>wpE C b ρ σ λvb σ=>jO op va vb σ λr=>Q (.bool r) σ
 |.I c a b,ρ,σ,Q=>wpT C c ρ σ λt σ=>if t then wpE C a ρ σ Q else wpE C b ρ σ Q
 |.L es,ρ,σ,Q=>xy C es ρ σ λvs σ=>vs.length<=aw/\∀c,σ.L c=Option.none->Q (.L c) (σ.cu c vs)
 |.T es,ρ,σ,Q=>xy C es ρ σ λvs σ=>vs.length<=aw/\Q (.T vs) σ
 |.dct0,_,σ,Q=>∀c,σ.D c=Option.none->Q (.dct c) (σ.jr c [])
 |.call f es,ρ,σ,Q=>xy C es ρ σ λvs σ=>C f vs σ Q
 |.meth e m es,ρ,σ,Q=>wpE C e ρ σ λv σ=>∃a,v=.obj a/\(σ.I a).isSome/\xy C es ρ σ λvs σ=>C m (v::vs) σ Q
 |.attr e x,ρ,σ,Q=>wpE C e ρ σ λv σ=>∃a d f u,v=.obj a/\σ.I a=some (d,f)/\f x=some u/\Q u σ
 |.g e,ρ,σ,Q=>wpE C e ρ σ λv σ=>∃a,v=.dct a/\(σ.D a).isSome/\Q (.eM a) σ
 |.h e,ρ,σ,Q=>wpE C e ρ σ λv σ=>∃a,v=.set a/\(σ.S a).isSome/\Q (.dY a) σ
 |.dhasOf e,ρ,σ,Q=>wpE C e ρ σ λv σ=>∃a,v=.dct a/\(σ.D a).isSome/\Q (.dhas a) σ
 |.flt,_,σ,Q=>Q .flo σ
 |.ratio a b,ρ,σ,Q=>wpE C a ρ σ λv σ=>yf v λm=>m.natAbs<2^60/\wpE C b ρ σ λu σ=>yf u λn=>n.natAbs<2^60/\n≠0/\Q .flo σ
 |.neS a b,ρ,σ,Q=>wpE C a ρ σ λv σ=>wpE C b ρ σ λu σ=>EqS σ v u/\Q (.bool false) σ
 |.bm k e es,ρ,σ,Q=>wpE C e ρ σ λv σ=>OM k v σ/\xy C es ρ σ λvs σ=>MY k v vs σ Q
 |.bf k es,ρ,σ,Q=>xy C es ρ σ λvs σ=>FG k vs σ Q
 |.w f es,ρ,σ,Q=>∃v,ρ f=some v/\xy C es ρ σ λvs σ=>MF v vs C 1000 σ Q
 |.sub e i,ρ,σ,Q=>wpE C e ρ σ λv σ=>wpE C i ρ σ λj σ=>jL v j σ λr=>Q r σ
 |.slc e lo hi,ρ,σ,Q=>wpE C e ρ σ λv σ=>wpE C lo ρ σ λa σ=>wpE C hi ρ σ λb σ=>J6 v a b σ Q
 |.K fv it t cs more,ρ,σ,Q=>qM C it ρ σ λvs G σ =>
   lC vs G (λv ρ' acc σ K=>pz t v σ ρ' λρ'=>cN C cs ρ' σ λok σ=>if ok then jM C more ρ' acc σ K else K ρ' acc σ) (hY fv ρ) [] σ
    λ_ acc σ=>∀c,σ.L c=Option.none->Q (.L c) (σ.cu c acc)
 |.bx k e,ρ,σ,Q=>wpE C e ρ σ λv σ=>MX k v σ Q
 |.n es,ρ,σ,Q=>xy C es ρ σ λvs σ=>∀a d,σ.I a=Option.none->C 0 (.obj a::vs) (σ.ir a d λ_=>Option.none) λv σ=>v=.none/\Q (.obj a) σ
 |.N a b c,ρ,σ,Q=>wpE C a ρ σ λx σ=>wpE C b ρ σ λy σ=>wpE C c ρ σ λz σ=>Q (.mt [x,y,z]) σ
 |.M e,ρ,σ,Q=>wpE C e ρ σ λv σ=>∃a,∃ts:List (List V),v=.L a/\σ.L a=some (ts.map V.T)/\(∀t∈ts,t.length=3)/\∀c,σ.L c=Option.none->Q (.L c) (σ.cu c (ts.map V.mt))
 |.dead,_,_,_=>False
noncomputable def wpT (C:Cal):Ex->Fr->St->(Bool->St->Prop)->Prop
 |.not a,ρ,σ,Q=>wpT C a ρ σ λb σ=>Q (!b) σ
 |.and a b,ρ,σ,Q=>wpT C a ρ σ λt σ=>if t then wpT C b ρ σ Q else Q false σ
 |.or a b,ρ,σ,Q=>wpT C a ρ σ λt σ=>if t then Q true σ else wpT C b ρ σ Q
 |.c op a b,ρ,σ,Q=>wpE C a ρ σ λva σ=>wpE C b ρ σ λvb σ=>jO op va vb σ λr=>Q r σ
 |.neS a b,ρ,σ,Q=>wpE C a ρ σ λv σ=>wpE C b ρ σ λu σ=>EqS σ v u/\Q false σ
 |.I c a b,ρ,σ,Q=>wpT C c ρ σ λt σ=>if t then wpT C a ρ σ Q else wpT C b ρ σ Q
 |.l x,ρ,σ,Q=>∃v,ρ x=some v/\rx v σ λb=>Q b σ
 |.int i,_,σ,Q=>Q (i != 0) σ
 |.bool b,_,σ,Q=>Q b σ
 |.attr e x,ρ,σ,Q=>wpE C e ρ σ λv σ=>∃a d f u,v=.obj a/\σ.I a=some (d,f)/\f x=some u/\rx u σ λb=>Q b σ
 |.w f es,ρ,σ,Q=>∃v,ρ f=some v/\xy C es ρ σ λvs σ=>MF v vs C 1000 σ λr σ=>rx r σ λb=>Q b σ
 |.sub e i,ρ,σ,Q=>wpE C e ρ σ λv σ=>wpE C i ρ σ λj σ=>jL v j σ λr=>rx r σ λb=>Q b σ
 |.b op a b,ρ,σ,Q=>wpE C a ρ σ λva σ=>wpE C b ρ σ λvb σ=>iG op va vb σ λr σ=>rx r σ λb=>Q b σ
 |_,_,_,_=>False
noncomputable def xy (C:Cal):Exs->Fr->St->(List V->St->Prop)->Prop
 |.nil,_,σ,Q=>Q [] σ
 |.cons e es,ρ,σ,Q=>wpE C e ρ σ λv σ=>xy C es ρ σ λvs σ=>Q (v::vs) σ
noncomputable def cN (C:Cal):Exs->Fr->St->(Bool->St->Prop)->Prop
 |.nil,_,σ,Q=>Q true σ
 |.cons e es,ρ,σ,Q=>wpT C e ρ σ λb σ=>if b then cN C es ρ σ Q else Q false σ
noncomputable def qM (C:Cal):It->Fr->St->(List V->(St->Prop)->St->Prop)->Prop
 |.rng1 e,ρ,σ,K=>wpE C e ρ σ λv σ=>∃n:Int,v=.int n/\n.natAbs<2^40/\K (uj 0 n) (λ_=>True) σ
 |.rng2 a b,ρ,σ,K=>wpE C a ρ σ λv σ=>wpE C b ρ σ λu σ=>∃m n:Int,v=.int m/\u=.int n/\m.natAbs<2^40/\n.natAbs<2^40/\K (uj m n) (λ_=>True) σ
 |.enum e,ρ,σ,K=>wpE C e ρ σ λv σ=>∃xs,wd σ v=some xs/\xs.length<=aw/\K (xs.zipIdx.map λp=>V.T [.int p.2,p.1]) (λτ=>wd τ v=some xs) σ
 |.seq e,ρ,σ,K=>wpE C e ρ σ λv σ=>MU v σ K
 |.keys e,ρ,σ,K=>wpE C e ρ σ λv σ=>AI v σ K
 |.items e,ρ,σ,K=>wpE C e ρ σ λv σ=>wC v σ K
noncomputable def jM (C:Cal):Gens->Fr->List V->St->(Fr->List V->St->Prop)->Prop
 |.elt e,ρ,acc,σ,K=>wpE C e ρ σ λv σ=>acc.length<aw/\K ρ (acc++[v]) σ
 |.eltP k v,ρ,acc,σ,K=>wpE C k ρ σ λx σ=>wpE C v ρ σ λy σ=>(∃i,x=.int i)/\acc.length<aw/\K ρ (acc++[.T [x,y]]) σ
 |.cons it t cs more,ρ,acc,σ,K=>qM C it ρ σ λvs G σ =>
   lC vs G (λv ρ acc σ K=>pz t v σ ρ λρ=>cN C cs ρ σ λok σ=>if ok then jM C more ρ acc σ K else K ρ acc σ) ρ acc σ K
end
abbrev AF (a:Addr)(k v:V)(σ:St)(K:St->Prop):Prop:=yf k λi=>∃xs,σ.L a=some xs/\0<=fc xs.length i/\fc xs.length i<xs.length/\K (σ.cu a (xs.set (fc xs.length i).toNat v))
abbrev nC (u k v:V)(σ:St)(K:St->Prop):Prop:=(jP u).elim (fA u λa=>∃es kk,σ.D a=some es/\k.eI=some kk/\es.length<aw/\K (σ.jr a (putD es kk v))) λa=>AF a k v σ K
abbrev J5 (C:Cal):Tgt->V->Fr->St->(Fr->St->Prop)->Prop
 |.v x,v,ρ,σ,K=>K (upd ρ x v) σ
 |.attr o a,v,ρ,σ,K=>wpE C o ρ σ λu σ=>∃x d f,u=.obj x/\σ.I x=some (d,f)/\K ρ (σ.ir x d (upd f a v))
 |.sub o i,v,ρ,σ,K=>wpE C o ρ σ λu σ=>wpE C i ρ σ λj σ=>nC u j v σ λσ=>K ρ σ
 |.T xs,v,ρ,σ,K=>pz (.T xs) v σ ρ λρ=>K ρ σ
abbrev jJ (C:Cal):List Tgt->V->Fr->St->(Fr->St->Prop)->Prop
 | [],_,ρ,σ,K=>K ρ σ
 |t::ts,v,ρ,σ,K=>J5 C t v ρ σ λρ σ=>jJ C ts v ρ σ K
abbrev K5 (a b:Addr)(σ:St)(Q:V->St->Prop):Prop:=∃xs ys,a≠b/\σ.L a=some xs/\σ.L b=some ys/\xs.length+ys.length<=aw/\Q (.L a) (σ.cu a (xs++ys))
abbrev J9 (op:Bop)(v u:V)(σ:St)(Q:V->St->Prop):Prop:=match v with
 |.L a=>vt u λb=>match op with
  |.add=>K5 a b σ Q
  |_=>False
 |.int a=>yf u λb=>tK op a b σ Q
 |_=>False
abbrev MV (u k:V)(σ:St)(K:St->Prop):Prop:=fA u λa=>∃es kk,σ.D a=some es/\k.eI=some kk/\(es.lookup kk).isSome=true/\K (σ.jr a (delD es kk))
abbrev MW (u k:V)(σ:St)(K:St->Prop):Prop:=vt u λa=>yf k λi=>∃xs,σ.L a=some xs/\0<=i/\i<2^60/\K (σ.cu a (xs.take i.toNat))
abbrev t8 (es:List (Key×V))(p:V):List (Key×V):=(AN p).elim es λl=>(l.headD .none).eI.elim es λk=>putD es k (l.tail.headD .none)
abbrev yx (acc:List V):List (Key×V):=acc.foldl t8 []
abbrev xG (T:(Fr->St->Prop)->Fr->St->Prop):Nat->Fr->St->Prop
 |0,_,_=>False
 |n+1,ρ,σ=>T (xG T n) ρ σ
abbrev mU:List V->(St->Prop)->(V->Fr->St->(Fr->St->Prop)->Prop)->Fr->St->(Fr->St->Prop)->Prop
 | [],G,_,ρ,σ,K=>G σ/\K ρ σ
 |v::vs,G,T,ρ,σ,K=>G σ/\T v ρ σ λρ σ=>mU vs G T ρ σ K
abbrev zi (again:Fr->St->Prop)(K:Fl->Fr->St->Prop):Fl->Fr->St->Prop
 |.next,ρ,σ=>again ρ σ
 |fl,ρ,σ=>K fl ρ σ
abbrev wm (again:Fr->St->Prop)(K:Fl->Fr->St->Prop):Fl->Fr->St->Prop
 |.next,ρ,σ=>again ρ σ
 |.cont,ρ,σ=>again ρ σ
 |.brk,ρ,σ=>K .next ρ σ
 |.ret v,ρ,σ=>K (.ret v) ρ σ
mutual
noncomputable def wpS (C:Cal):Stm->Fr->St->(Fl->Fr->St->Prop)->Prop
 |.a ts e,ρ,σ,K=>wpE C e ρ σ λv σ=>jJ C ts v ρ σ λρ σ=>K .next ρ σ
 |.aug x op e,ρ,σ,K=>∃v,ρ x=some v/\wpE C e ρ σ λu σ=>J9 op v u σ λr σ=>K .next (upd ρ x r) σ
 |.delD o i,ρ,σ,K=>wpE C o ρ σ λu σ=>wpE C i ρ σ λj σ=>MV u j σ λσ=>K .next ρ σ
 |.delS o i,ρ,σ,K=>wpE C o ρ σ λu σ=>wpE C i ρ σ λj σ=>MW u j σ λσ=>K .next ρ σ
 |.dcomp2 i fv it t k v,ρ,σ,K=>qM C it ρ σ λvs G σ=>lC vs G (λu ρ' acc σ K=>pz t u σ ρ' λρ'=>cN C .nil ρ' σ λok σ=>if ok then jM C (.eltP k v) ρ' acc σ K else K ρ' acc σ) (hY fv ρ) [] σ λ_ acc σ=>∀c,σ.D c=none->K .next (upd ρ i (.dct c)) (σ.jr c (yx acc))
 |.expr e,ρ,σ,K=>wpE C e ρ σ λv σ=>v=.none/\K .next ρ σ
 |.exprF e,ρ,σ,K=>wpE C e ρ σ λ_ σ=>K .next ρ σ
 |.C c t e,ρ,σ,K=>wpT C c ρ σ λb σ=>if b then dt C t ρ σ K else dt C e ρ σ K
 |.loop c b,ρ,σ,K=>∃n,xG (λagain ρ σ=>wpT C c ρ σ λt σ=>if t then dt C b ρ σ (wm again K) else K .next ρ σ) n ρ σ
 |.each t it b,ρ,σ,K=>qM C it ρ σ λvs G σ=>mU vs G (λv ρ σ k=>pz t v σ ρ λρ=>dt C b ρ σ (wm k K)) ρ σ λρ σ=>K .next ρ σ
 |.ret e,ρ,σ,K=>wpE C e ρ σ λv σ=>K (.ret v) ρ σ
 |.brk,ρ,σ,K=>K .brk ρ σ
 |.cont,ρ,σ,K=>K .cont ρ σ
 |.pass,ρ,σ,K=>K .next ρ σ
 |.dead,_,_,_=>False
noncomputable def dt (C:Cal):jo->Fr->St->(Fl->Fr->St->Prop)->Prop
 |.nil,ρ,σ,K=>K .next ρ σ
 |.cons s ss,ρ,σ,K=>wpS C s ρ σ (zi (λρ σ=>dt C ss ρ σ K) K)
end
structure Fn where
 n:Nat
 dflt:List V
 body:jo
abbrev eQ (f:Fn)(vs:List V):List V:=vs++f.dflt.drop (f.dflt.length-(f.n-vs.length))
abbrev frameOf (f:Fn)(vs:List V):Fr:=λi=>(eQ f vs)[i]?
abbrev mQ (Q:V->St->Prop):Fl->Fr->St->Prop
 |.ret v,_,σ=>Q v σ
 |.next,_,σ=>Q .none σ
 |_,_,_=>False
abbrev ef (P:Nat->Option Fn):Nat->Cal
 |0,_,_,_,_=>False
 |d+1,f,vs,σ,Q=>∃fn,P f=some fn/\vs.length<=fn.n/\fn.n<=vs.length+fn.dflt.length/\dt (ef P d) fn.body (frameOf fn vs) σ (mQ Q)
end MP
end
section
namespace MP
open PySem PyProof.Rows
variable {led:Bool}{t:SetTable}{xs:Array Nat}{j:Nat}
abbrev gB (l:List Nat):Prop:=l.Pairwise (·<·)
structure Tbl (led:Bool)(t:SetTable):Prop where
 led:t.led=led
 nod:t.dummies=#v[]
 rise:gB t.place.toList
def yd (h:t.led=led)(n:Nat):Tbl led (t.standIn n):=⟨h,rfl,by
 show gB (Array.range n).toList;rw[Array.toList_range];show List.pairwise_lt_range⟩
def gB.at (h:gB xs.toList){i x y:Nat}(W:xs[i]?=some x)(Y:xs[j]?=some y)(Z:i<j):x<y:=by
 have#[a,O]:=nh.mp W;have#[b,U]:=nh.mp Y;have:=List.pairwise_iff_getElem.mp h i j (by simpa using a) (by simpa using b) Z;simp only[Array.getElem_toList]at this;rw[O,U]at this;show this
def lU (h:gB xs.toList):∀(f lo hi:Nat),lo<=hi->hi<=xs.size->hi-lo<=f->(∀i x,xs[i]?=some x->i<lo->x<j)->(∀i x,xs[i]?=some x->hi<=i->j<=x) ->
  SetTable.below.go xs j f lo hi<=xs.size/\(∀i x,xs[i]?=some x->i<SetTable.below.go xs j f lo hi->x<j)/\∀i x,xs[i]?=some x->SetTable.below.go xs j f lo hi<=i->j<=x
 |0=>λlo hi h1 O h3 z J=>#[fk h1 O,z,λi x e q=>J i x e (fk (Nat.sub_eq_zero_iff_le.mp (Nat.le_zero.mp h3)) q)]
 |f+1=>λlo hi h1 O h3 z J=>by
  dsimp only[SetTable.below.go];by_cases c:lo<hi
  ·rw[br c];have Y:lo<=(lo+hi)/2:=by(show rq .A [[2,1,1,-1]] .H (.l .D .W) (.e (.a (.m 2 .B) .D) (.a .A .C)) c (Ar.wg _ 2 (by decide)).1 (Ar.wg _ 2 (by decide)).2)
   have Z:(lo+hi)/2<hi:=by(show jm .B [[2,1,1]] (.l .C .B) (.e (.a (.m 2 .A) .D) (.a .C .B)) c (Ar.wg _ 2 (by decide)).2)
   have hm:(lo+hi)/2<xs.size:=fy Z O;have eg:xs.getD ((lo+hi)/2) j=xs[(lo+hi)/2]:=by simp[Array.getD,hm]
   have es:xs[(lo+hi)/2]?=some xs[(lo+hi)/2]:=fu hm;rw[eg];by_cases d:xs[(lo+hi)/2]<j
   ·rw[br d];apply lU h f _ hi Z O (lX .A [[1,1,1,-1,1]] (.k .C .P) (.k .D .F) (.e (.a .C .D) .G) (.e (.a .A (.a .F .U)) .G) h3 Y (ae (gr .A .b (.k .A .C) (.l .C .B) Y Z)) (ae (cg .I .a .B Z))) (λi x e q=>?_) J;rcases mx (dR q) with q|rfl
    ·show Nat.lt_trans (h.at e es q) d
    ·rw[es]at e;cases e;show d
   ·rw[az d];apply lU h f lo _ Y (iz hm) (lX .A [[1,1,1,-1,1]] (.k .C .P) (.l .D .F) (.e (.a .C .G) .F) (.e (.a .A .G) .D) h3 Z (ae (gr .A .b (.k .A .C) (.l .C .B) Y Z)) (ae (cg .A .a .A Y))) z (λi x e q=>?_);rcases mx q with q|rfl
    ·show fk (Nat.le_of_not_lt d) (iz (h.at es e q))
    ·rw[es]at e;cases e;show Nat.le_of_not_lt d
  ·rw[az c];apply#[fk h1 O,z,λi x e q=>J i x e (fk (Nat.le_of_not_lt c) q)]
def below_at (h:gB xs.toList)(j:Nat):SetTable.below xs j<=xs.size/\(∀i x,xs[i]?=some x->i<SetTable.below xs j->x<j)/\∀i x,xs[i]?=some x->SetTable.below xs j<=i->j<=x:=
 lU h xs.size 0 xs.size (dj _) (av _) (av _) (λi x e q=>absurd q (ku _)) λi x e q=>by
  have#[a,_]:=nh.mp e;show absurd a (th.mpr q)
def vU (h:gB xs.toList){k x:Nat}(hk:xs[k]?=some x):SetTable.below xs (x+1)=k+1:=by
 have#[J,O,W]:=below_at h (x+1);have#[I,_]:=nh.mp hk;rcases Nat.lt_trichotomy (SetTable.below xs (x+1)) (k+1) with c|c|c
 ·show absurd (W k x hk (dR c)) (Nat.not_le.mpr (qi x))
 ·show c
 ·have Z:k+1<xs.size:=fy c J;have e:=fu Z;have:=O (k+1) _ e c;have:=h.at hk e (qi k)
  (rename_i Y;show rq (.e .A .P) [[1,1,0,0],[0,0,1,1]] (.l .P .A) (.l .C (.a .D .U)) (.l .D .C) c Y this)
def vT (h:gB xs.toList):SetTable.below xs 0=0:=by
 have#[Y,Z,W]:=below_at h 0;rcases Nat.eq_zero_or_pos (SetTable.below xs 0) with c|c
 ·show c
 ·have e:=fu (fy c Y);show absurd (Z 0 _ e c) (ku _)
def mT (h:gB xs.toList)(hn:xs[SetTable.below xs j]?≠some j):gB (SetTable.insertAt xs (SetTable.below xs j) j).toList:=by
 have#[b1,b2,b3]:=below_at h j;rw[SetTable.toList_insertAt];have W:∀i (Y:i<xs.toList.length),xs[i]?=some xs.toList[i]:=λi Y=>by
  rw[Array.getElem_toList];show fu (by simpa using Y)
 unfold gB;rw[List.pairwise_append];apply#[List.Pairwise.sublist (List.take_sublist _ _) h,cH.mpr #[λy J=>?_,List.Pairwise.sublist (List.drop_sublist _ _) h],λx hx y J=>?_]
 ·have#[i,Y,rfl]:=gp.mp J;rw[List.getElem_drop];have Z:SetTable.below xs j+i<xs.toList.length:=by rw[ix]at Y;(show Ar.sub _ _ (λI U=>(jm (.l .M .C) .b (.l .B .D) (.e (.a .D .A) .C) Y U)) λI U=>(jm (.l .M .C) .c (.l .B .D) (.e .D .O) Y U))
  rcases mx (b3 _ _ (W _ Z) (gI _ _)) with c|c
  ·show c
  ·exfalso
   rcases Nat.eq_zero_or_pos i with rfl|hp
   ·show hn ((W _ Z).trans (bb some c.symm))
   ·have h0:SetTable.below xs j<xs.toList.length:=by(show gz .B .a (.l (.a .A .C) .B) Z)
    have:=h.at (W _ h0) (W _ Z) (cg (.l .A .M) .a (.l .O .B) hp);have:=b3 _ _ (W _ h0) (av _)
    (rename_i z1;show tq .ff [[0,-1,1,1]] .G (.l .C .B) (.k .A .C) c z1 this)
 ·have#[i,Y,rfl]:=gp.mp hx;rw[fq]at Y;have Z:i<xs.toList.length:=by(show gr .B .b .H .F Y (Ar.nr _ _).2.1)
  rw[List.getElem_take];have z:=b2 _ _ (W i Z) (gr .B .b .H .F Y (Ar.nr _ _).1);rcases bz.mp J with rfl|J
  ·show z
  ·have zz:=gp.mp J;clear J;clear J;have#[k,hk,rfl]:=zz;rw[List.getElem_drop];have ag:SetTable.below xs j+k<xs.toList.length:=by rw[ix]at hk;(show Ar.sub _ _ (λI U=>(jm (.l .M .C) .b (.l .B .D) (.e (.a .D .A) .C) hk U)) λI U=>(jm (.l .M .C) .c (.l .B .D) (.e .D .O) hk U))
   show h.at (W i Z) (W _ ag) (jm (.l .A (.a .B .C)) .b (.l .A .D) (.k .D .B) Y (Ar.nr _ _).1)
def has_none (j:Nat):SetTable.has #v[] j=false:=rfl
def rG (hd:t.dummies=#v[]){f:Nat->Int}{h:Int}(Y:∀i,(f i==h)=false):∀(n:Nat) (p:SetTable.Probe) (m:SetTable.Met),p.dummy=none->SetTable.probe.go t f h n p=some m ->
  ∃j,m=.empty j none/\t.place[SetTable.below t.place j]?≠some j
 |0=>λp m Z e=>by cases e
 |n+1=>λp m Z e=>by
  dsimp only[SetTable.probe.go]at e;unfold SetTable.slot at e;rw[hd,has_none]at e;by_cases c:(t.place[SetTable.below t.place p.j]?==some p.j)=true
  ·simp only[c,tu,Y]at e;apply rG hd Y n _ m ?_ e;unfold SetTable.advance;split
   ·show Z
   ·show Z
  ·simp only[c]at e;simp at e;apply#[p.j,by rw[<- e,Z],λq=>c (by rw[q];show dg _)]
def sF (hd:t.dummies=#v[]){h:Int}{r:Nat×Bool}(e:t.freeSlot h=some r):r.2=false/\t.place[SetTable.below t.place r.1]?≠some r.1:=by
 unfold SetTable.freeSlot SetTable.probe at e;cases q:SetTable.probe.go t (λ_=>h+1) h (10*SetTable.turns t.mask) (t.probeStart h) with
 |none=>rw[q]at e;cases e
 |some m =>
  have#[j,rfl,Z]:=rG hd (λi=>by simp;(show fZ (.iu (.a .A .U) .A) .f)) _ _ _ rfl q;rw[q]at e;cases e;apply#[rfl,Z]
def uN (H:Tbl led t)(es:Array (Int×Value))(h:Int)(x:Value):Tbl led (layNew t es h x).2.1/\(layNew t es h x).2.2.1=false:=by
 unfold layNew;cases e:t.freeSlot h with
 |none=>refine#[yd H.led _,rfl]
 |some r =>
  have#[Y,Z]:=sF H.nod e;apply#[?_,Y];show Tbl led ((t.put r.1).1.orStandIn _);unfold SetTable.orStandIn;split
  ·apply#[H.led,?_,mT H.rise Z];show(if SetTable.has t.dummies r.1=true then _ else t.dummies)=#v[];rw[H.nod];rfl
  ·show yd H.led _
def xh {α:Type}(f:Nat->Option α):∀(l:List Nat),gB l->gB ((l.filterMap λj=>(f j).map (j,·)).map (·.1))
 | []=>λ_=>.nil
 |a::l=>λh=>by
  have#[J,Y]:=cH.mp h;rw[uu];cases e:f a with
  |none=>show xh f l Y
  |some b =>
   apply cH.mpr #[λy Z=>?_,xh f l Y];have W:=bg.mp Z;clear Z;have#[p,U,rfl]:=W;have#[j,O,e]:=List.mem_filterMap.mp U;cases q:f j with
   |none=>rw[q]at e;cases e
   |some c=>rw[q]at e;cases e;show J j O
def oU (H:Tbl led t)(es:Array (Int×Value))(n:Nat):Tbl led (relayAll t es n).2.1:=by
 unfold relayAll SetTable.relaid SetTable.laid;cases SetTable.layClean (SetTable.sizeAbove n-1) (es.map (·.1)) with
 |none=>show yd H.led _
 |some o =>
  show Tbl led (if _=true then _ else _:Array (Int×Value)×SetTable×Bool).2.1;split
  ·apply#[H.led,rfl,?_];show gB (List.toArray _).toList;show xh (λj=>o.getD j none) _ List.pairwise_lt_range
  ·show yd H.led _
end MP
end
section
namespace MP
set_option genSizeOf false
set_option genInjectivity false
open PySem
structure Stc where
 prog:Program
 w:World
 hb:Heap
 cM:Addr
 cS:Addr
 attrs:List Str
 gl:Str->Option Value
 cap:Str->Bool
 clo:Nat->List V->Addr->Prop
abbrev Frz (o:Obj):Prop:=
 (o.cls≠.type "list"/\∃xs n,o.data=.seq xs n)\/((o.cls=.type "builtin_function_or_method"\/o.cls=.type "method-wrapper")/\∃vs,o.data=.fields vs)\/∃fd,o.data=.func fd
mutual
noncomputable def VR (G:Stc)(h:Heap):V->Value->Prop
 |.none=>λw=>w=.none
 |.bool b=>λw=>w=.bool b
 |.int i=>λw=>∃t,w=.int i t
 |.str s=>λw=>∃t,w=.str s t
 |.L a=>λw=>w=.ref a
 |.dct a=>λw=>w=.ref a
 |.set a=>λw=>w=.ref a
 |.obj a=>λw=>w=.ref a
 |.T xs=>λw=>∃a ws n,w=.ref a/\IsT h a ws.toArray n/\VRs G h xs ws
 |.mt xs=>λw=>∃a ws n dd,w=.ref a/\h.get? a=some {cls:=.ref G.cM,dict:=dd,data:=.seq ws.toArray n,slots:=#v[]}/\VRs G h xs ws
 |.eM a=>λw=>∃q o,w=.ref q/\h.get? q=some o/\o.cls=.type "builtin_function_or_method"/\o.data=.fields #v[.builtin "dict.get",.ref a]
 |.dY a=>λw=>∃q o,w=.ref q/\h.get? q=some o/\o.cls=.type "builtin_function_or_method"/\o.data=.fields #v[.builtin "set.__contains__",.ref a]
 |.clo k cs=>λw=>∃a o,w=.ref a/\G.clo k cs a/\G.hb.get? a=some o/\o.cls=.type "function"
 |.ro ns=>λw=>∃a ws n,w=.ref a/\IsL G.hb a ws.toArray n/\PyProof.Rows.IntsAre ws ns
 |.dhas a=>λw=>∃q o,w=.ref q/\h.get? q=some o/\o.cls=.type "builtin_function_or_method"/\o.data=.fields #v[.builtin "dict.__contains__",.ref a]
 |.flo=>λw=>∃f t,w=.float f t
noncomputable def VRs (G:Stc)(h:Heap):List V->List Value->Prop
 | []=>λws=>ws=[]
 |v::vs=>λws=>∃w us,ws=w::us/\VR G h v w/\VRs G h vs us
end
section
variable {xs:List V}{ws:List Value}{n:Nat}{o:Obj}{v:V}{w:Value}{k:Key}{es:List (Key×V)}{ks:List Key}{X:List Addr}{b d:Addr}{f:Nat->Option V}
variable {G:Stc}{h:Heap}
def VR.none:VR G h .none .none:=rfl
def VR.bool (b:Bool):VR G h (.bool b) (.bool b):=rfl
def VR.int (i:Int)(t:Tok):VR G h (.int i) (.int i t):=#[t,rfl]
def VR.str (s:Str)(t:Tok):VR G h (.str s) (.str s t):=#[t,rfl]
def VR.L (a:Addr):VR G h (.L a) (.ref a):=rfl
def VR.dct (a:Addr):VR G h (.dct a) (.ref a):=rfl
def VR.set (a:Addr):VR G h (.set a) (.ref a):=rfl
def VR.obj (a:Addr):VR G h (.obj a) (.ref a):=rfl
def VR.T {a:Addr}(g:IsT h a ws.toArray n)(r:VRs G h xs ws):VR G h (.T xs) (.ref a):=#[a,ws,n,rfl,g,r]
def VR.mt {a:Addr}{dd:Option Addr}(g:h.get? a=some {cls:=.ref G.cM,dict:=dd,data:=.seq ws.toArray n,slots:=#v[]})(r:VRs G h xs ws):VR G h (.mt xs) (.ref a):=#[a,ws,n,dd,rfl,g,r]
def VR.eM {q a:Addr}(g:h.get? q=some o)(c:o.cls=.type "builtin_function_or_method")(d:o.data=.fields #v[.builtin "dict.get",.ref a]):VR G h (.eM a) (.ref q):=#[q,o,rfl,g,c,d]
def VR.dY {q a:Addr}(g:h.get? q=some o)(c:o.cls=.type "builtin_function_or_method")(d:o.data=.fields #v[.builtin "set.__contains__",.ref a]):VR G h (.dY a) (.ref q):=#[q,o,rfl,g,c,d]
def VR.ro {a:Addr}{ns:List Int}(g:IsL G.hb a ws.toArray n)(r:PyProof.Rows.IntsAre ws ns):VR G h (.ro ns) (.ref a):=#[a,ws,n,rfl,g,r]
def VRs.nil:VRs G h [] []:=rfl
def VRs.cons {vs:List V}(a:VR G h v w)(r:VRs G h vs ws):VRs G h (v::vs) (w::ws):=#[w,ws,rfl,a,r]
end
abbrev gf (h h':Heap):Prop:=∀b o,h.get? b=some o->Frz o->h'.get? b=some o
mutual
theorem VR.mono {G:Stc}{h h':Heap}(hk:gf h h'):{v:V}->{w:Value}->VR G h v w->VR G h' v w
 |.none=>λx=>x
 |.bool _=>λx=>x
 |.int _=>λx=>x
 |.str _=>λx=>x
 |.L _=>λx=>x
 |.dct _=>λx=>x
 |.set _=>λx=>x
 |.obj _=>λx=>x
 |.T _=>λZ=>by have#[a,ws,n,e,g,r]:=Z;apply#[a,ws,n,e,hk _ _ g (.inl #[show Value.type "tuple" ≠ .type "list" by decide,_,_,rfl]),VRs.mono hk r]
 |.mt _=>λZ=>by have#[a,ws,n,dd,e,g,r]:=Z;apply#[a,ws,n,dd,e,hk _ _ g (.inl #[λx=>(nomatch x),_,_,rfl]),VRs.mono hk r]
 |.eM _=>λZ=>by have#[q,o,e,g,c,d]:=Z;apply#[q,o,e,hk _ _ g (.inr (.inl #[.inl c,_,d])),c,d]
 |.dY _=>λZ=>by have#[q,o,e,g,c,d]:=Z;apply#[q,o,e,hk _ _ g (.inr (.inl #[.inl c,_,d])),c,d]
 |.clo _ _=>λx=>x
 |.ro _=>λx=>x
 |.dhas _=>λZ=>by have#[q,o,e,g,c,d]:=Z;apply#[q,o,e,hk _ _ g (.inr (.inl #[.inl c,_,d])),c,d]
 |.flo=>λx=>x
theorem VRs.mono {G:Stc}{h h':Heap}(hk:gf h h'):{vs:List V}->{ws:List Value}->VRs G h vs ws->VRs G h' vs ws
 | []=>λx=>x
 |_::_=>λZ=>by have#[w,us,e,a,r]:=Z;apply#[w,us,e,VR.mono hk a,VRs.mono hk r]
end
def VR.inv {G:Stc}{h:Heap}(x:VR G h v w):VR G h v w:=x
section
variable {G:Stc}{h:Heap}
def VRs.length:{vs:List V}->{ws:List Value}->VRs G h vs ws->vs.length=ws.length
 | []=>λe=>e▸rfl
 |_::_=>λZ=>by have#[_,_,e,_,r]:=Z;show e▸bb (·+1) (VRs.length r)
def VRs.get {vs:List V}(x:VRs G h vs ws){i:Nat}(e:vs[i]?=some v):∃w,ws[i]?=some w/\VR G h v w:=by
 induction vs generalizing ws i with
 |nil=>cases e
 |cons u vs Z =>
  have#[w,us,q,a,r]:=x;subst q;cases i with
  |zero=>refine#[w,rfl,af e▸a]
  |succ i=>show Z r e
def VRs.append:{vs us:List V}->{ws xs:List Value}->VRs G h vs ws->VRs G h us xs->VRs G h (vs++us) (ws++xs)
 | []=>λe b=>e▸b
 |_::_=>λZ b=>by have#[_,_,e,a,r]:=Z;show e▸.cons a (VRs.append r b)
def VRs.take:{vs:List V}->{ws:List Value}->(n:Nat)->VRs G h vs ws->VRs G h (vs.take n) (ws.take n)
 | []=>λn e=>by have rfl:=e;rw[List.take_nil,List.take_nil];rfl
 |_::_=>λn x=>by
  cases n with
  |zero=>show .nil
  |succ n=>have#[_,_,rfl,a,r]:=x;show .cons a (VRs.take n r)
def VRs.drop:{vs:List V}->{ws:List Value}->(n:Nat)->VRs G h vs ws->VRs G h (vs.drop n) (ws.drop n)
 | []=>λn e=>by have rfl:=e;rw[List.drop_nil,List.drop_nil];rfl
 |_::_=>λn x=>by
  cases n with
  |zero=>show x
  |succ n=>have#[_,_,rfl,_,r]:=x;show VRs.drop n r
def VRs.reverse:{vs:List V}->{ws:List Value}->VRs G h vs ws->VRs G h vs.reverse ws.reverse
 | []=>λe=>by subst e;show .nil
 |_::_=>λZ=>by have#[_,_,e,a,r]:=Z;subst e;rw[dS,dS];show VRs.append (VRs.reverse r) %[a|0]
end
def lG {prog:Program}{w:World}{A:Around}{E:QqV}{s:Shared}{a:Int}{t:Tok}{b:Str}{u:Tok}{Q:Bool->Shared->Prop}(h:Q false s):wpAny (model prog w) A (eqBool (.int a t) (.str b u)) Q E s:=by
 unfold eqBool;show aa (PySem.EqMixed.eq_int_str (qe h))
def lF {prog:Program}{w:World}{A:Around}{E:QqV}{s:Shared}{a:Str}{t:Tok}{b:Int}{u:Tok}{Q:Bool->Shared->Prop}(h:Q false s):wpAny (model prog w) A (eqBool (.str a t) (.int b u)) Q E s:=by
 unfold eqBool;show aa (PySem.EqMixed.eq_str_int (qe h))
abbrev iN:Key->Value->Bool
 |.int i,v=>Value.isInt i v
 |.str s,v=>Value.isStrOf s v
abbrev keyHash (w:World):Key->Int
 |.int i=>hashInt i
 |.str s=>hashStr w s
def pj {v:Value}(h:iN k v=true):(∃i t,k=.int i/\v=.int i t)\/∃s t,k=.str s/\v=.str s t:=by
 cases k with
 |int i=>have#[t,rfl]:=Value.isInt_shape h;show .inl #[i,t,rfl,rfl]
 |str s=>have#[t,rfl]:=Value.isStrOf_shape h;show .inr #[s,t,rfl,rfl]
abbrev pH:Value->Key
 |.int i _=>.int i
 |.str s _=>.str s
 |_=>.int 0
def zr {v:Value}(h:iN k v=true):pH v=k:=by
 rcases pj h with ⟨i,t,rfl,rfl⟩|⟨x,t,rfl,rfl⟩<;>rfl
def s7 (i j:Int):decide (Key.int i=Key.int j)=(i==j):=by
 by_cases e:i=j
 ·subst e;rw[dg,cj rfl]
 ·rw[ee e,cw λq=>e (Key.int.inj q)]
def rY (i j:Str):decide (Key.str i=Key.str j)=decide (i=j):=by
 by_cases e:i=j
 ·subst e;rw[cj rfl,cj rfl]
 ·rw[cw e,cw λq=>e (Key.str.inj q)]
abbrev keyKind (prog:Program)(w:World):KeyKind prog w Key where
 is:=iN
 hash:=keyHash w
 inj:=λv a b ha hb=>(zr ha).symm.trans (zr hb)
 byValue:=λk v h=>by rcases pj h with ⟨i,t,rfl,rfl⟩|⟨x,t,rfl,rfl⟩<;>rfl
 pyHash:=λhv h=>by
  rcases pj hv with ⟨i,t,rfl,rfl⟩|⟨x,t,rfl,rfl⟩
  ·show wpAny_pyHash_int h
  ·show wpAny_pyHash_str h
 eqBool:=λhu hv h=>by
  rcases pj hu with ⟨i,t,rfl,rfl⟩|⟨x,t,rfl,rfl⟩<;>rcases pj hv with ⟨j,u,rfl,rfl⟩|⟨y,u,rfl,rfl⟩
  ·show wpAny_eqBool_int (s7 i j▸h)
  ·show lG h
  ·show lF h
  ·show wpAny_eqBool_str (rY x y▸h)
 «strs»:=λk x t v h=>by
  try clear hv
  have zz:=zr h
  try clear h
  have rfl:=zz;cases v<;>rfl
public abbrev Stc.kk (G:Stc):KeyKind G.prog G.w Key:=keyKind G.prog G.w
abbrev DRs (G:Stc)(h:Heap):List (Key×V)->List (Key×Value)->Prop
 | []=>λds=>ds=[]
 |e::es=>λds=>∃w us,ds=(e.1,w)::us/\VR G h e.2 w/\DRs G h es us
def DRs.nil {G:Stc}{h:Heap}:DRs G h [] []:=rfl
def DRs.cons {G:Stc}{h:Heap}{ds:List (Key×Value)}(a:VR G h v w)(r:DRs G h es ds):DRs G h ((k,v)::es) ((k,w)::ds):=#[w,ds,rfl,a,r]
def DRs.mono {G:Stc}{h h':Heap}(hk:gf h h'):{es:List (Key×V)}->{ds:List (Key×Value)}->DRs G h es ds->DRs G h' es ds
 | []=>λx=>x
 |_::_=>λZ=>by have#[w,us,e,a,r]:=Z;apply#[w,us,e,a.mono hk,r.mono hk]
abbrev OV (G:Stc)(h:Heap):Option V->Option Value->Prop
 |none,none=>True
 |some v,some w=>VR G h v w
 |_,_=>False
def OV.mono {G:Stc}{h h':Heap}(hk:gf h h'){v:Option V}{w:Option Value}(x:OV G h v w):OV G h' v w:=by
 cases v<;>cases w<;>first|show x|show VR.mono hk x
structure c9 (G:Stc)(h:Heap)(a d:Addr)(f:Nat->Option V):Prop where
 here:∃o,h.get? a=some o/\o.cls=.ref G.cS/\o.dict=some d/\∀c,o.data≠.cls c
 ns:∃m,h.Ns1 d m/\(∀i x,G.attrs[i]?=some x->OV G h (f i) (m x))/\∀x,x∉G.attrs->m x=none
 ne:d≠a
public abbrev Stc.led (G:Stc):Bool:=!G.w.params.followText "set-order"
abbrev rg (G:Stc)(h:Heap)(a:Addr)(ks:List Key):Prop:=
 ∃o es ep t,h.get? a=some o/\o.ExactSet/\o.data=.set es ep t/\ElemsOf G.kk es.toList/\(∀k,decide (k∈ks)=true↔∃e∈es.toList,G.kk.is k e.2=true) /\
  es.size<scanBound/\t.fits es.size=true/\es.size=ks.length/\Tbl G.led t
def rg.of {G:Stc}{h:Heap}{a:Addr}(x:rg G h a ks):h.SetOf G.kk a (λk=>decide (k∈ks)) ks.length:=by
 have#[o,es,ep,t,H,I,J,O,U,W,Y,Z,_]:=x;apply#[o,es,ep,t,H,I,J,O,U,W,Y,Z]
structure Rel (G:Stc)(σ:St)(h:Heap):Prop where
 L:∀a xs,σ.L a=some xs->∃ws n,IsL h a ws.toArray n/\VRs G h xs ws
 D:∀a es,σ.D a=some es->∃ds,h.DictOf G.kk a ds/\DRs G h es ds
 S:∀a ks,σ.S a=some ks->rg G h a ks
 I:∀a d f,σ.I a=some (d,f)->c9 G h a d f
 Z:∀a o,σ.Z a=some o->h.get? a=some o/\((σ.D a).isSome\/(σ.S a).isSome)
 Ll:∀a xs,σ.L a=some xs->xs.length<=aw
 Dl:∀a es,σ.D a=some es->es.length<=aw
 inj:∀a a' d f f',σ.I a=some (d,f)->σ.I a'=some (d,f')->a=a'
 apart:∀a d f,σ.I a=some (d,f)->σ.D d=none
 sep:∀a d f a' d' f',σ.I a=some (d,f)->σ.I a'=some (d',f')->a≠d'
 new:∀b,σ.dom b->G.hb.get? b=none
 base:∀b o,G.hb.get? b=some o->h.get? b=some o
structure Evo (X:List Addr)(σ:St)(h:Heap)(σ':St)(h':Heap):Prop where
 keep:∀b o,h.get? b=some o->¬σ.dom b->b∉X->h'.get? b=some o
 frz:gf h h'
 dom:∀b,σ'.dom b->σ.dom b\/h.get? b=none
 there:∀b o,h.get? b=some o->∃o',h'.get? b=some o'
def Evo.refl (X:List Addr)(σ:St)(h:Heap):Evo X σ h σ h:=#[λ_ _ e _ _=>e,λ_ _ e _=>e,λ_ d=>.inl d,λ_ o e=>#[o,e]]
def Evo.trans {σ σ₁ σ₂:St}{h h₁ Z:Heap}(x:Evo X σ h σ₁ h₁)(y:Evo X σ₁ h₁ σ₂ Z):Evo X σ h σ₂ Z:=by
 apply#[λb o e nd W=>y.keep b o (x.keep b o e nd W) (λd=>?_) W,λb o e f=>y.frz b o (x.frz b o e f) f,λb d=>?_,λb o e=>?_]
 ·rcases x.dom b d with d|d
  ·show nd d
  ·rw[e]at d;cases d
 ·rcases y.dom b d with d|d
  ·show x.dom b d
  ·cases hq:h.get? b with
   |none=>show .inr rfl
   |some o=>have#[o',U]:=x.there b o hq;rw[U]at d;cases d
 ·have#[Y,e₁]:=x.there b o e;show y.there b Y e₁
def Evo.more {Y:List Addr}{σ σ':St}{h h':Heap}(x:Evo X σ h σ' h')(O:∀b∈X,b∈Y):Evo Y σ h σ' h':=
 #[λb o e W Z=>x.keep b o e W λU=>Z (O b U),x.frz,x.dom,x.there]
def Evo.less {Y:List Addr}{σ σ':St}{h h':Heap}(x:Evo X σ h σ' h')(U:∀b∈X,b∈Y\/h.get? b=none):Evo Y σ h σ' h':=
 #[λb o e nd Z=>x.keep b o e nd λW=>(U b W).elim Z λq=>(by rw[e]at q;cases q),x.frz,x.dom,x.there]
def yh {xs:Array Value}(c:o.cls=.type "list")(d:o.data=.seq xs n):¬Frz o:=by
 rintro (⟨h,_⟩|⟨_,_,h⟩|⟨_,h⟩)
 ·show h c
 ·rw[d]at h;cases h
 ·rw[d]at h;cases h
def nu {es:Array DictEntry}(d:o.data=.dict es n):¬Frz o:=by
 rintro (⟨_,_,_,h⟩|⟨_,_,h⟩|⟨_,h⟩)<;>(rw[d]at h;cases h)
def q5 {v:Option Value}(d:o.data=.cell v):¬Frz o:=by
 rintro (⟨_,_,_,h⟩|⟨_,_,h⟩|⟨_,h⟩)<;>(rw[d]at h;cases h)
def pq {h h':Heap}{a:Addr}(Z:Heap.SameBut a h h')(Y:∀o,h.get? a=some o->¬Frz o):gf h h':=λb o e f=>by
 by_cases hb:b=a
 ·subst hb;show absurd f (Y o e)
 ·rw[Z.2 b hb];show e
def yt {h h':Heap}{a:Addr}{o':Obj}(Z:Heap.SameBut a h h')(Y:h'.get? a=some o'):∀b o,h.get? b=some o->∃o',h'.get? b=some o':=λb o e=>by
 by_cases hb:b=a
 ·subst hb;apply#[_,Y]
 ·apply#[o,by rw[Z.2 b hb];show e]
def none_at_size (h:Heap):h.get? h.objs.size=none:=by
 cases hq:h.get? h.objs.size with
 |none=>rfl
 |some o=>show absurd (fw hq) (uz _)
def rB {es:Array (Int×Value)}{t:SetTable}(d:o.data=.set es n t):¬Frz o:=by
 rintro (⟨_,_,_,h⟩|⟨_,_,h⟩|⟨_,h⟩)<;>(rw[d]at h;cases h)
def Rel.lz {G:Stc}{σ:St}{h:Heap}(R:Rel G σ h)(d:σ.dom b):∃o,h.get? b=some o:=by
 rcases d with d|d|d|d|d|⟨a,f,d⟩
 ·have#[xs,e]:=ba.mp d;have#[ws,n,Y,_]:=R.L b xs e;apply#[_,Y]
 ·have#[xs,e]:=ba.mp d;have#[ds,#[o,es,ep,Y,_,dd,_],_]:=R.D b xs e;apply#[o,Y]
 ·have#[xs,e]:=ba.mp d;have#[o,es,ep,t,Y,_,dd,_]:=R.S b xs e;apply#[o,Y]
 ·have#[#[d,f],e]:=ba.mp d;have#[o,Y,_]:=(R.I b d f e).here;apply#[o,Y]
 ·have#[o,e]:=ba.mp d;apply#[o,(R.Z b o e).1]
 ·have#[m,#[o',es,ep,W,dd,_],_]:=(R.I a b f d).ns;apply#[o',W]
def Rel.same {G:Stc}{σ:St}{h h':Heap}(R:Rel G σ h)(hk:∀b o,h.get? b=some o->σ.dom b->h'.get? b=some o)(U:gf h h')(hb:∀b o,G.hb.get? b=some o->h'.get? b=some o):Rel G σ h' where
 L:=λa xs e=>by
  have#[ws,n,Y,v]:=R.L a xs e;apply#[ws,n,hk a _ Y (.inl (by rw[e];rfl)),v.mono U]
 D:=λa xs e=>by
  have#[ds,#[o,es,ep,Y,r],v]:=R.D a xs e;apply#[ds,#[o,es,ep,hk a o Y (.inr (.inl (by rw[e];rfl))),r],v.mono U]
 S:=λa xs e=>by
  have#[o,es,ep,t,Y,r]:=R.S a xs e;apply#[o,es,ep,t,hk a o Y (.inr (.inr (.inl (by rw[e];rfl)))),r]
 I:=λa d f e=>by
  have#[#[o,Y,r],#[m,#[o',es,ep,W,J],v,O],ne]:=R.I a d f e;have dd:σ.dom d:=.inr (.inr (.inr (.inr (.inr #[a,f,e]))));apply#[#[o,hk a o Y (.inr (.inr (.inr (.inl (by rw[e];rfl))))),r],#[m,#[o',es,ep,hk d o' W dd,J],λi x H=>(v i x H).mono U,O],ne]
 Z:=λa o e=>#[hk a o (R.Z a o e).1 (.inr (.inr (.inr (.inr (.inl (by rw[e];rfl)))))),(R.Z a o e).2]
 Ll:=R.Ll
 Dl:=R.Dl
 inj:=R.inj
 apart:=R.apart
 sep:=R.sep
 new:=R.new
 base:=hb
def Rel.push {G:Stc}{σ:St}{h:Heap}(R:Rel G σ h)(o:Obj):Rel G σ (h.push o):=
 R.same (λ_ _ e _=>ah o e) (λ_ _ e _=>ah o e) λb o' e=>ah o (R.base b o' e)
def Evo.push (X:List Addr)(σ:St)(h:Heap)(o:Obj):Evo X σ h σ (h.push o):=
 #[λ_ _ e _ _=>ah o e,λ_ _ e _=>ah o e,λ_ d=>.inl d,λ_ o' e=>#[o',ah o e]]
def aA {σ:St}{a:Addr}(d:(σ.cu a xs).dom b):σ.dom b\/b=a:=by
 by_cases h:b=a
 ·show .inr h
 ·apply .inl ?_;rcases d with d|d
  ·show .inl (by simpa[St.cu,upd,h] using d)
  ·show .inr d
def aB {σ:St}{a:Addr}{xs:List (Key×V)}(d:(σ.jr a xs).dom b):σ.dom b\/b=a:=by
 by_cases h:b=a
 ·show .inr h
 ·apply .inl ?_;rcases d with d|d|d
  ·show .inl d
  ·show .inr (.inl (by simpa[St.jr,upd,h] using d))
  ·show .inr (.inr (by simpa[St.jr,clr,h] using d))
def sM {σ:St}{a:Addr}{xs:List Key}(d:(σ.dZ a xs).dom b):σ.dom b\/b=a:=by
 by_cases h:b=a
 ·show .inr h
 ·apply .inl ?_;rcases d with d|d|d|d
  ·show .inl d
  ·show .inr (.inl d)
  ·show .inr (.inr (.inl (by simpa[St.dZ,upd,h] using d)))
  ·show .inr (.inr (.inr (by simpa[St.dZ,clr,h] using d)))
def fP {σ:St}{a:Addr}(hd:(σ.ir a d f).dom b):σ.dom b\/b=a\/b=d:=by
 by_cases h:b=a
 ·show .inr (.inl h)
 ·by_cases h':b=d
  ·show .inr (.inr h')
  ·apply .inl ?_;rcases hd with q|q|q|q|q|⟨c,g,q⟩
   ·show .inl q
   ·show .inr (.inl q)
   ·show .inr (.inr (.inl q))
   ·show .inr (.inr (.inr (.inl (by simpa[St.ir,upd,h] using q))))
   ·show .inr (.inr (.inr (.inr (.inl q))))
   ·apply .inr (.inr (.inr (.inr (.inr #[c,g,?_]))));by_cases Z:c=a
    ·simp only[St.ir,upd,Z,tu,ek,sf]at q;show absurd q.1.symm h'
    ·simpa[St.ir,upd,Z] using q
def lM {σ:St}{a:Addr}(hd:σ.dom a)(d:(σ.bN a o).dom b):σ.dom b:=by
 by_cases h:b=a
 ·show h▸hd
 ·rcases d with d|d|d|d|d|d
  ·show .inl d
  ·show .inr (.inl d)
  ·show .inr (.inr (.inl d))
  ·show .inr (.inr (.inr (.inl d)))
  ·show .inr (.inr (.inr (.inr (.inl (by simpa[St.bN,upd,h] using d)))))
  ·show .inr (.inr (.inr (.inr (.inr d))))
structure At (a:Addr)(h h':Heap):Prop where
 other:∀b o,b≠a->h.get? b=some o->h'.get? b=some o
 here:∃o,h'.get? a=some o
 xB:∀o,h.get? a=some o->¬Frz o
def At.frz {a:Addr}{h h':Heap}(x:At a h h'):gf h h':=λb o e f=>x.other b o (λhb=>x.xB o (hb▸e) f) e
def At.there {a:Addr}{h h':Heap}(x:At a h h'):∀b o,h.get? b=some o->∃o',h'.get? b=some o':=λb o e=>by
 by_cases hb:b=a
 ·subst hb;show x.here
 ·apply#[o,x.other b o hb e]
def At.push (h:Heap)(Z:o.isFreed=false:=by rfl):At h.objs.size h (h.push o):=
 #[λ_ _ _ e=>ah o e,#[o,bc _ Z],λo' e=>by rw[none_at_size]at e;cases e]
def At.kN {a:Addr}{h h':Heap}{o':Obj}(Y:Heap.SameBut a h h')(U:h.get? a=some o)(W:¬Frz o)(Z:h'.get? a=some o'):At a h h':=
 #[λb _ hb e=>by rw[Y.2 b hb];show e,#[o',Z],λ_ e=>by rw[U]at e;cases e;show W]
section
variable {G:Stc}{σ:St}{h h':Heap}{a:Addr}
def Rel.atL (R:Rel G σ h)(x:At a h h')(hb:b≠a)(e:σ.L b=some xs):∃ws n,IsL h' b ws.toArray n/\VRs G h' xs ws:=by
 have#[ws,n,Z,v]:=R.L b xs e;apply#[ws,n,x.other b _ hb Z,v.mono x.frz]
def Rel.atD (R:Rel G σ h)(x:At a h h')(hb:b≠a)(e:σ.D b=some es):∃ds,h'.DictOf G.kk b ds/\DRs G h' es ds:=by
 have#[ds,#[o,Z,ep,Y,r],v]:=R.D b es e;apply#[ds,#[o,Z,ep,x.other b o hb Y,r],v.mono x.frz]
def Rel.atS (R:Rel G σ h)(x:At a h h')(hb:b≠a)(e:σ.S b=some ks):rg G h' b ks:=by
 have#[o,Z,ep,t,Y,r]:=R.S b ks e;apply#[o,Z,ep,t,x.other b o hb Y,r]
def Rel.atI (R:Rel G σ h)(x:At a h h')(hb:b≠a)(hd:d≠a)(e:σ.I b=some (d,f)):c9 G h' b d f:=by
 have#[#[o,O,r],#[m,#[o',es,ep,Z,W],v,Y],ne]:=R.I b d f e;apply#[#[o,x.other b o hb O,r],#[m,#[o',es,ep,x.other d o' hd Z,W],λi y U=>(v i y U).mono x.frz,Y],ne]
def Rel.sW (R:Rel G σ h)(e:σ.L a=some xs):∃o,h.get? a=some o/\o.cls=.type "list":=by
 have#[ws,n,Z,_]:=R.L a xs e;apply#[_,Z,rfl]
def Rel.DY (R:Rel G σ h)(e:σ.D a=some es):∃o,h.get? a=some o/\o.cls=.type "dict":=by
 have#[ds,#[o,Y,ep,Z,c,_],_]:=R.D a es e;apply#[o,Z,c.1]
def Rel.DX (R:Rel G σ h)(e:σ.S a=some ks):∃o,h.get? a=some o/\o.cls=.type "set":=by
 have#[o,Y,ep,t,Z,c,_]:=R.S a ks e;apply#[o,Z,c.1]
def Rel.ME (R:Rel G σ h)(e:σ.I a=some (d,f)):∃o,h.get? a=some o/\o.cls=.ref G.cS:=by
 have#[o,Z,c,_]:=(R.I a d f e).here;apply#[o,Z,c]
def Rel.DV (R:Rel G σ h)(e:σ.I a=some (d,f)):∃o es ep,h.get? d=some o/\o.data=.dict es ep:=by
 have#[m,#[o',es,ep,Z,dd,_],_]:=(R.I a d f e).ns;apply#[o',es,ep,Z,dd]
def Rel.NJ (R:Rel G σ h)(e:σ.L b=some xs)(W:σ.I a=some (d,f)):d≠b:=by
 rintro rfl;have#[o,es,ep,Y,hd]:=R.DV W;have#[ws,n,Z,_]:=R.L _ _ e;have rfl:=af (Y.symm.trans Z);cases hd
def Rel.L9 (R:Rel G σ h){xs:List Key}(e:σ.S b=some xs)(J:σ.I a=some (d,f)):d≠b:=by
 rintro rfl;have#[o,es,ep,W,hd]:=R.DV J;have#[o',U,O,H,Z,_,Y,_]:=R.S _ _ e;rw[W]at Z;cases Z;rw[hd]at Y;cases Y
def Rel.CN (R:Rel G σ h)(e:h.get? b=none)(Y:σ.I a=some (d,f)):d≠b:=by
 rintro rfl;have#[o,es,ep,Z,hd]:=R.DV Y;rw[Z]at e;cases e
def Rel.QC (R:Rel G σ h)(e:σ.Z b=some o):(∃o,h.get? b=some o/\o.cls=.type "dict")\/∃o,h.get? b=some o/\o.cls=.type "set":=
 (R.Z b o e).2.imp (λq=>by
  have#[x,q]:=ba.mp q;show R.DY q) λq=>by
  have#[x,q]:=ba.mp q;show R.DX q
def Rel.atZ (R:Rel G σ h)(x:At a h h')(n:∀b o,σ.Z b=some o->b≠a):∀b o,σ.Z b=some o->h'.get? b=some o/\((σ.D b).isSome\/(σ.S b).isSome):=λb o e=>#[x.other b o (n b o e) (R.Z b o e).1,(R.Z b o e).2]
def Rel.u4 (R:Rel G σ h)(e:h.get? b=some o)(d:(σ.D b).isSome\/(σ.S b).isSome):Rel G (σ.bN b o) h:=
 ⟨R.L,R.D,R.S,R.I,λc o' q=>by
  by_cases Y:c=b
  ·have rfl:=Y.symm;have rfl:=af ((ay σ.Z b o).symm.trans q);apply#[e,d]
  ·show R.Z c o' ((bh Y).symm.trans q),R.Ll,R.Dl,R.inj,R.apart,R.sep,λc q=>R.new c (lM (d.elim (λd=>.inr (.inl d)) λd=>.inr (.inr (.inl d))) q),R.base⟩
def Evo.u4 (d:(σ.D b).isSome\/(σ.S b).isSome):Evo X σ h (σ.bN b o) h:=
 #[λ_ _ e _ _=>e,λ_ _ e _=>e,λc q=>.inl (lM (d.elim (λd=>.inr (.inl d)) λd=>.inr (.inr (.inl d))) q),λ_ o e=>#[o,e]]
def Rel.putL (R:Rel G σ h)(x:At a h h')(J:σ.L a=none->h.get? a=none)(B:IsL h' a ws.toArray n)(hv:VRs G h xs ws)(hz:xs.length<=aw):Rel G (σ.cu a xs) h':=by
 have old:∀b o,h.get? b=some o->∀c:Value,o.cls=c->c≠.type "list"->b≠a:=λb o e c H W hb=>by
  have rfl:=hb.symm;cases Y:σ.L a with
  |none=>rw[J Y]at e;cases e
  |some ys=>have#[o',U,c']:=R.sW Y;rw[e]at U;cases U;show W (H.symm.trans c')
 have Z:∀b c,(∃o,h.get? b=some o/\o.cls=c)->c≠.type "list"->b≠a:=λb c I W=>by have#[o,z,H]:=I;show old b o z c H W
 apply⟨λb ys e=>?_,λb es e=>R.atD x (Z b _ (R.DY e) (by decide)) e,λb ks e=>R.atS x (Z b _ (R.DX e) (by decide)) e,
  λb d f e=>R.atI x (Z b _ (R.ME e) (λq=>nomatch q)) (by
   cases Y:σ.L a with
   |none=>show R.CN (J Y) e
   |some ys=>show R.NJ Y e) e,R.atZ x λb o e=>(R.QC e).elim (λq=>Z b _ q (by decide)) λq=>Z b _ q (by decide),λb ys e=>?_,R.Dl,R.inj,R.apart,R.sep,λb d=>?_,λb o e=>?_⟩
 ·by_cases hb:b=a
  ·try clear old
   try clear Z
   have rfl:=hb.symm;simp only[St.cu,ay,ek]at e;subst e;apply#[ws,n,B,hv.mono x.frz]
  ·simp only[St.cu,bh hb]at e;show R.atL x hb e
 ·by_cases hb:b=a
  ·try clear B
   have rfl:=hb.symm;simp only[St.cu,ay,ek]at e;show e▸hz
  ·simp only[St.cu,bh hb]at e;show R.Ll b ys e
 ·rcases aA d with d|r
  ·show R.new b d
  ·have rfl:=r.symm;cases Y:G.hb.get? a with
   |none=>rfl
   |some o =>
    cases O:σ.L a with
    |none=>have:=R.base a o Y;rw[J O]at this;cases this
    |some ys=>have:=R.new a (.inl (by rw[O];rfl));rw[Y]at this;cases this
 ·apply x.other b o (λhb=>?_) (R.base b o e)
  try clear d
  have rfl:=hb.symm;cases O:σ.L a with
  |none=>have:=R.base a o e;rw[J O]at this;cases this
  |some ys=>have:=R.new a (.inl (by rw[O];rfl));rw[e]at this;cases this
def Evo.putL (x:At a h h')(Y:σ.L a=none->h.get? a=none)(xs:List V):Evo X σ h (σ.cu a xs) h':=by
 apply#[λb o e nd _=>x.other b o (λhb=>?_) e,x.frz,λb d=>?_,x.there]
 ·try clear x
  have rfl:=hb.symm;cases Z:σ.L a with
  |none=>rw[Y Z]at e;cases e
  |some ys=>show nd (.inl (by rw[Z];rfl))
 ·rcases aA d with d|r
  ·show .inl d
  ·have rfl:=r.symm;cases Z:σ.L a with
   |none=>show .inr (Y Z)
   |some ys=>show .inl (.inl (by rw[Z];rfl))
def Rel.putD (R:Rel G σ h)(x:At a h h')(B:σ.D a=none->h.get? a=none)(hi:∀b f,σ.I b≠some (a,f)){xs:List (Key×V)}{ds:List (Key×Value)}(hl:h'.DictOf G.kk a ds)(hv:DRs G h xs ds)(hz:xs.length<=aw):Rel G (σ.jr a xs) h':=by
 have old:∀b o,h.get? b=some o->∀c:Value,o.cls=c->c≠.type "dict"->b≠a:=λb o e c z W hb=>by
  have rfl:=hb.symm;cases U:σ.D a with
  |none=>rw[B U]at e;cases e
  |some ys=>have#[o',O,c']:=R.DY U;rw[e]at O;cases O;show W (z.symm.trans c')
 have Y:∀b c,(∃o,h.get? b=some o/\o.cls=c)->c≠.type "dict"->b≠a:=λb c H W=>by have#[o,ho,z]:=H;show old b o ho c z W
 apply⟨λb es e=>R.atL x (Y b _ (R.sW e) (by decide)) e,λb ys e=>?_,λb ks e=>R.atS x (Y b _ (R.DX e) (by decide)) e,
  λb d f e=>R.atI x (Y b _ (R.ME e) (λq=>nomatch q)) (λhd=>hi b f (hd▸e)) e,λb o e=>(by
   have#[hb,e]:=fS e;have#[q,r]:=R.Z b o e;apply#[x.other b o hb q,?_];show(upd σ.D a xs b).isSome=true\/_;rw[bh hb];show r),R.Ll,λb ys e=>?_,R.inj,λb d f e=>?_,R.sep,λb d=>?_,λb o e=>?_⟩
 ·by_cases hb:b=a
  ·clear Y old
   try clear Y
   try clear old
   have rfl:=hb.symm;simp only[St.jr,ay,ek]at e;subst e;apply#[ds,hl,hv.mono x.frz]
  ·simp only[St.jr,bh hb]at e;show R.atD x hb e
 ·by_cases hb:b=a
  ·try clear hl
   have rfl:=hb.symm;simp only[St.jr,ay,ek]at e;show e▸hz
  ·simp only[St.jr,bh hb]at e;show R.Dl b ys e
 ·have hd:d≠a:=λhd=>hi b f (hd▸e);simp only[St.jr,bh hd];show R.apart b d f e
 ·rcases aB d with d|r
  ·show R.new b d
  ·have rfl:=r.symm;cases U:G.hb.get? a with
   |none=>rfl
   |some o =>
    cases J:σ.D a with
    |none=>have:=R.base a o U;rw[B J]at this;cases this
    |some ys=>have:=R.new a (.inr (.inl (by rw[J];rfl)));rw[U]at this;cases this
 ·apply x.other b o (λhb=>?_) (R.base b o e)
  try clear hi
  try clear d
  try clear x
  have rfl:=hb.symm;cases J:σ.D a with
  |none=>have:=R.base a o e;rw[B J]at this;cases this
  |some ys=>have:=R.new a (.inr (.inl (by rw[J];rfl)));rw[e]at this;cases this
def Evo.putD (x:At a h h')(Y:σ.D a=none->h.get? a=none)(xs:List (Key×V)):Evo X σ h (σ.jr a xs) h':=by
 apply#[λb o e nd _=>x.other b o (λhb=>?_) e,x.frz,λb d=>?_,x.there]
 ·have rfl:=hb.symm;cases Z:σ.D a with
  |none=>rw[Y Z]at e;cases e
  |some ys=>show nd (.inr (.inl (by rw[Z];rfl)))
 ·rcases aB d with d|r
  ·show .inl d
  ·have rfl:=r.symm;cases Z:σ.D a with
   |none=>show .inr (Y Z)
   |some ys=>show .inl (.inr (.inl (by rw[Z];rfl)))
def Rel.u5 (R:Rel G σ h)(x:At a h h')(I:σ.S a=none->h.get? a=none){xs:List Key}(z:rg G h' a xs):Rel G (σ.dZ a xs) h':=by
 have old:∀b o,h.get? b=some o->∀c:Value,o.cls=c->c≠.type "set"->b≠a:=λb o e c B U hb=>by
  have rfl:=hb.symm;cases W:σ.S a with
  |none=>rw[I W]at e;cases e
  |some ys=>have#[o',O,c']:=R.DX W;rw[e]at O;cases O;show U (B.symm.trans c')
 have Y:∀b c,(∃o,h.get? b=some o/\o.cls=c)->c≠.type "set"->b≠a:=λb c H U=>by have#[o,ho,B]:=H;show old b o ho c B U
 apply⟨λb es e=>R.atL x (Y b _ (R.sW e) (by decide)) e,λb ks e=>R.atD x (Y b _ (R.DY e) (by decide)) e,λb ys e=>?_,
  λb d f e=>R.atI x (Y b _ (R.ME e) (λq=>nomatch q)) (by
   cases W:σ.S a with
   |none=>show R.CN (I W) e
   |some ys=>show R.L9 W e) e,λb o e=>(by
   have#[hb,e]:=fS e;have#[q,r]:=R.Z b o e;apply#[x.other b o hb q,?_];show _\/(upd σ.S a xs b).isSome=true;rw[bh hb];show r),R.Ll,R.Dl,R.inj,R.apart,R.sep,λb d=>?_,λb o e=>?_⟩
 ·by_cases hb:b=a
  ·clear Y old
   try clear Y
   try clear old
   have rfl:=hb.symm;simp only[St.dZ,ay,ek]at e;subst e;show z
  ·simp only[St.dZ,bh hb]at e;show R.atS x hb e
 ·rcases sM d with d|r
  ·show R.new b d
  ·have rfl:=r.symm;cases W:G.hb.get? a with
   |none=>rfl
   |some o =>
    cases J:σ.S a with
    |none=>have:=R.base a o W;rw[I J]at this;cases this
    |some ys=>have:=R.new a (.inr (.inr (.inl (by rw[J];rfl))));rw[W]at this;cases this
 ·apply x.other b o (λhb=>?_) (R.base b o e)
  try clear z
  try clear x
  try clear d
  have rfl:=hb.symm;cases J:σ.S a with
  |none=>have:=R.base a o e;rw[I J]at this;cases this
  |some ys=>have:=R.new a (.inr (.inr (.inl (by rw[J];rfl))));rw[e]at this;cases this
def Evo.u5 (x:At a h h')(Y:σ.S a=none->h.get? a=none)(xs:List Key):Evo X σ h (σ.dZ a xs) h':=by
 apply#[λb o e nd _=>x.other b o (λhb=>?_) e,x.frz,λb d=>?_,x.there]
 ·have rfl:=hb.symm;cases Z:σ.S a with
  |none=>rw[Y Z]at e;cases e
  |some ys=>show nd (.inr (.inr (.inl (by rw[Z];rfl))))
 ·rcases sM d with d|r
  ·show .inl d
  ·have rfl:=r.symm;cases Z:σ.S a with
   |none=>show .inr (Y Z)
   |some ys=>show .inl (.inr (.inr (.inl (by rw[Z];rfl))))
def Rel.KW (R:Rel G σ h){f':Nat->Option V}(e:σ.I a=some (d,f))(x:At d h h')(B:c9 G h' a d f'):Rel G (σ.ir a d f') h':=by
 have ag:d≠a:=B.ne;have Y:∀c d' g,(σ.ir a d f').I c=some (d',g)->∃J,σ.I c=some (d',J):=λc d' g q=>by
  by_cases hc:c=a
  ·try clear ag
   have rfl:=hc.symm;simp only[St.ir,ay,ek,sf]at q;apply#[f,q.1▸e]
  ·apply#[g,by simpa[St.ir,upd,hc] using q]
 apply⟨λb es W=>R.atL x (R.NJ W e).symm W,λb ks W=>R.atD x (λhb=>?_) W,λb ys W=>R.atS x (R.L9 W e).symm W,λb d' g W=>?_,R.atZ x λb o W hb=>((R.Z b o W).2.elim (λq=>(by subst hb;rw[R.apart a b f e]at q;cases q)) λq=>(by
  have#[ks,q]:=ba.mp q;show R.L9 q e hb.symm)),R.Ll,R.Dl,λb z d' g g' e1 e2=>?_,λb d' g W=>?_,λb d' g z ar g' e1 e2=>?_,λb hd=>?_,λb o W=>?_⟩
 ·subst hb;have H:σ.D b=some ks:=W;rw[R.apart a b f e]at H;cases H
 ·by_cases hb:b=a
  ·have rfl:=hb.symm;simp only[St.ir,ay,ek,sf]at W;have#[rfl,rfl]:=W;show B
  ·simp only[St.ir,bh hb]at W;show R.atI x (R.sep _ _ _ _ _ _ W e) (λhd=>hb (R.inj b a d g f (hd▸W) e)) W
 ·have#[O,q1]:=Y b d' g e1;have#[U,q2]:=Y z d' g' e2;show R.inj b z d' O U q1 q2
 ·by_cases hb:b=a
  ·clear B
   try clear B
   have rfl:=hb.symm;simp only[St.ir,ay,ek,sf]at W;show W.1▸R.apart a d f e
  ·show R.apart b d' g (by simpa[St.ir,upd,hb] using W)
 ·have#[O,q1]:=Y b d' g e1;have#[U,q2]:=Y z ar g' e2;show R.sep _ _ _ _ _ _ q1 q2
 ·have ha:σ.dom a:=.inr (.inr (.inr (.inl (by rw[e];rfl))));have ao:σ.dom d:=.inr (.inr (.inr (.inr (.inr #[a,f,e]))));rcases fP hd with q|e|e
  ·show R.new b q
  ·rw[e];show R.new _ ha
  ·rw[e];show R.new _ ao
 ·apply x.other b o (λhb=>?_) (R.base b o W);clear Y
  try clear Y
  try clear x
  try clear hd
  have rfl:=hb.symm;have:=R.new d (.inr (.inr (.inr (.inr (.inr #[a,f,e])))));rw[W]at this;cases this
def Evo.KW (Y:Nat->Option V)(e:σ.I a=some (d,f))(x:At d h h'):Evo X σ h (σ.ir a d Y) h':=by
 apply#[λb o W Z _=>x.other b o (λhb=>Z (hb▸.inr (.inr (.inr (.inr (.inr #[a,f,e])))))) W,x.frz,λb hd=>.inl ?_,x.there];rcases fP hd with q|rfl|rfl
 ·show q
 ·show .inr (.inr (.inr (.inl (by rw[e];rfl))))
 ·show .inr (.inr (.inr (.inr (.inr #[a,f,e]))))
def Rel.L6 (R:Rel G σ h)(ha:h.get? a=none)(hd:h.get? d=none)(ag:d≠a)(hk:∀b o,h.get? b=some o->h'.get? b=some o)(hl:c9 G h' a d λ_=>none):Rel G (σ.ir a d λ_=>none) h':=by
 have J:=R.same (λb o e _=>hk b o e) (λb o e _=>hk b o e) λb o e=>hk b o (R.base b o e);have Y:∀b,h.get? b=none->¬σ.dom b:=λb hb q=>by have#[o,ho]:=R.lz q;rw[hb]at ho;cases ho
 have B:∀b g,σ.I b≠some (d,g):=λb g q=>Y d hd (.inr (.inr (.inr (.inr (.inr #[b,g,q])))));have ao:σ.I a=none:=by
  cases hq:σ.I a with
  |none=>rfl
  |some p=>show absurd (.inr (.inr (.inr (.inl (by rw[hq];rfl))))) (Y a ha)
 have base:∀c d' g,(σ.ir a d λ_=>none).I c=some (d',g)->(a=c/\d=d')\/(c≠a/\σ.I c=some (d',g)):=λc d' g q=>by
  by_cases O:c=a
  ·try clear ao
   have rfl:=O.symm;simp only[St.ir,ay,ek,sf]at q;show .inl #[rfl,q.1]
  ·show .inr #[O,by simpa[St.ir,upd,O] using q]
 apply#[J.L,J.D,J.S,λb d' g z=>?_,J.Z,R.Ll,R.Dl,λb b' d' g g' e1 e2=>?_,λb d' g z=>?_,λb d' g b' ar g' e1 e2=>?_,λb q=>?_,J.base]
 ·by_cases hb:b=a
  ·have rfl:=hb.symm;simp only[St.ir,ay,ek,sf]at z;have#[rfl,rfl]:=z;show hl
  ·show J.I b d' g (by simpa[St.ir,upd,hb] using z)
 ·rcases base b d' g e1 with ⟨rfl,rfl⟩|⟨_,U⟩<;>rcases base b' _ g' e2 with ⟨h1,h2⟩|⟨_,H⟩
  ·show h1
  ·show absurd H (B _ _)
  ·show absurd (h2▸U) (B _ _)
  ·show R.inj b b' d' g g' U H
 ·rcases base b d' g z with ⟨rfl,rfl⟩|⟨_,U⟩
  ·show σ.D d=none;cases hq:σ.D d with
   |none=>rfl
   |some p=>show absurd (.inr (.inl (by rw[hq];rfl))) (Y d hd)
  ·show R.apart b d' g U
 ·have W:∀c d' g,σ.I c=some (d',g)->σ.dom c/\σ.dom d':=λc d' g q=>#[.inr (.inr (.inr (.inl (by rw[q];rfl)))),.inr (.inr (.inr (.inr (.inr #[c,g,q]))))];rcases base b d' g e1 with ⟨rfl,rfl⟩|⟨_,U⟩<;>rcases base b' ar g' e2 with ⟨h1,h2⟩|⟨_,H⟩
  ·rw[<- h2];show ag.symm
  ·rintro rfl;show Y _ ha (W _ _ _ H).2
  ·rw[<- h2];show λr=>Y _ hd (r▸(W _ _ _ U).1)
  ·show R.sep _ _ _ _ _ _ U H
 ·have fresh:∀c,h.get? c=none->G.hb.get? c=none:=λc O=>by
   cases hq:G.hb.get? c with
   |none=>rfl
   |some o=>rw[R.base c o hq]at O;cases O
  rcases fP q with q|e|e
  ·show R.new b q
  ·rw[e];show fresh _ ha
  ·rw[e];show fresh _ hd
def Evo.L6 (f:Nat->Option V)(Z:h.get? a=none)(hd:h.get? d=none)(hk:∀b o,h.get? b=some o->h'.get? b=some o):Evo X σ h (σ.ir a d f) h':=by
 apply#[λb o e _ _=>hk b o e,λb o e _=>hk b o e,λb q=>?_,λb o e=>#[o,hk b o e]];rcases fP q with q|rfl|rfl
 ·show .inl q
 ·show .inr Z
 ·show .inr hd
end
end MP
end
section
namespace MP
open PySem PyProof.Rows
variable {env:Env}{ρ:Fr}{h:Heap}{Q:V->St->Prop}{w:Value}{b:Bool}
structure AOk (A:Around)(d:Nat):Prop where
 handled:A.handled=none
 depth:A.depth+3*d+20<recursionLimit
 units:A.units+30*d+300<cLine
structure yo (env:Env):Prop where
 kind:env.scope.kind=.function
 nd:(env.scope.names.map (·.1)).Nodup
 globals:env.globals=mainGlobals
 builtins:env.builtins=builtinsNs
structure FR (G:Stc)(σ:St)(env:Env)(ρ:Fr)(h:Heap):Prop where
 ns:∃m,h.Ns env.locals m/\∀i x,env.scope.names[i]?=some (x,.local)->OV G h (ρ i) (m x)
 cells:∀(i:Nat) (x:Str) (k:NameKind),env.scope.names[i]?=some (x,k)->k=.cell\/k=.free->∃c w,env.cells.lookup x=some c/\h.IsCell c w/\OV G h (ρ i) w/\¬σ.dom c/\c≠env.locals/\(G.cap x=false->G.hb.get? c=none)
 inj:∀(i j:Nat) (x y:Str) (k k':NameKind) (c:Addr),env.scope.names[i]?=some (x,k)->env.scope.names[j]?=some (y,k')->(k=.cell\/k=.free)->(k'=.cell\/k'=.free)->env.cells.lookup x=some c->env.cells.lookup y=some c->i=j
 loc:¬σ.dom env.locals
 notfrz:∀o,h.get? env.locals=some o->¬Frz o
 new:G.hb.get? env.locals=none
 allc:∀p∈env.cells,∃o,h.get? p.2=some o
def FR.evo {G:Stc}{σ σ':St}{h':Heap}(F:FR G σ env ρ h)(x:Evo [] σ h σ' h'):FR G σ' env ρ h':=by
 have#[m,#[o,es,ep,U,r],B]:=F.ns;have W:=x.keep _ _ U F.loc (by simp);have Z:∀b o,h.get? b=some o->¬σ.dom b->¬σ'.dom b:=λb o e nd d=>(x.dom b d).elim nd λq=>by rw[e]at q;cases q
 apply#[#[m,#[o,es,ep,W,r],λi y e=>(B i y e).mono x.frz],λi y k e hk=>?_,F.inj,Z _ _ U F.loc,λI e=>?_,F.new,λp H=>by have#[o,e]:=F.allc p H;show x.there _ o e]
 ·have#[c,w,h1,#[J,Y,hd],h3,O,z]:=F.cells i y k e hk;apply#[c,w,h1,#[J,x.keep _ _ Y O (by simp),hd],h3.mono x.frz,Z _ _ Y O,z]
 ·rw[W]at e;cases e;show F.notfrz o U
structure Go (X:List Addr)(σ:St)(s:Shared)(σ':St)(s':Shared):Prop where
 e:Evo X σ s.heap σ' s'.heap
 g:s'.gens=s.gens
 o:s'.os=s.os
inductive iv (G:Stc)(X:List Addr)(σ:St)(s:Shared)(Q:V->St->Prop)(w:Value)(s':Shared):Prop
 |mk (v:V) (σ':St):Q v σ'->VR G s'.heap v w->Rel G σ' s'.heap->Go X σ s σ' s'->iv G X σ s Q w s'
inductive kj (G:Stc)(X:List Addr)(σ:St)(s:Shared)(Q:Bool->St->Prop)(b:Bool)(s':Shared):Prop
 |mk (σ':St):Q b σ'->Rel G σ' s'.heap->Go X σ s σ' s'->kj G X σ s Q b s'
inductive EZ (G:Stc)(X:List Addr)(σ:St)(s:Shared)(Q:List V->St->Prop)(ws:List Value)(s':Shared):Prop
 |mk (vs:List V) (σ':St):Q vs σ'->VRs G s'.heap vs ws->Rel G σ' s'.heap->Go X σ s σ' s'->EZ G X σ s Q ws s'
section
variable {G:Stc}{X:List Addr}{σ σ₁ σ₂:St}{s s₁ s₂:Shared}{tk:Nat}{M:Model}{A:Around}{E:QqV}
def Go.refl:Go X σ s σ s:=#[Evo.refl _ _ _,rfl,rfl]
def Go.trans (x:Go X σ s σ₁ s₁)(y:Go X σ₁ s₁ σ₂ s₂):Go X σ s σ₂ s₂:=#[x.e.trans y.e,y.g.trans x.g,y.o.trans x.o]
def Go.frz (x:Go X σ s σ₁ s₁):gf s.heap s₁.heap:=x.e.frz
def Go.keep (x:Go X σ s σ₁ s₁):∀b o,s.heap.get? b=some o->¬σ.dom b->b∉X->s₁.heap.get? b=some o:=x.e.keep
def Go.dom (x:Go X σ s σ₁ s₁):∀b,σ₁.dom b->σ.dom b\/s.heap.get? b=none:=x.e.dom
def Go.there (x:Go X σ s σ₁ s₁):∀b o,s.heap.get? b=some o->∃o',s₁.heap.get? b=some o':=x.e.there
def Go.new (x:Go X σ s σ₁ s₁){b:Addr}(e:s₁.heap.get? b=none):s.heap.get? b=none:=by
 cases hq:s.heap.get? b with
 |none=>rfl
 |some o=>have#[o',Z]:=x.there _ _ hq;rw[e]at Z;cases Z
def Go.more {Y:List Addr}(x:Go X σ s σ₁ s₁)(Z:∀b∈X,b∈Y):Go Y σ s σ₁ s₁:=#[x.e.more Z,x.g,x.o]
def Go.less {Y:List Addr}(x:Go X σ s σ₁ s₁)(Z:∀b∈X,b∈Y\/s.heap.get? b=none):Go Y σ s σ₁ s₁:=#[x.e.less Z,x.g,x.o]
def Go.to {Z:Drawn}(x:Go X σ s σ₁ s₁)(y:Evo X σ₁ s₁.heap σ₂ h):Go X σ s σ₂ #[h,s₁.gens,Z,tk,s₁.os]:=#[x.e.trans y,x.g,x.o]
def Go.tok (x:Go X σ s σ₁ s₁):Go X σ s σ₁ {s₁ with toks:=tk}:=#[x.e,x.g,x.o]
def iv.back {s':Shared}(x:Go X σ s σ₁ s₁):iv G X σ₁ s₁ Q w s'->iv G X σ s Q w s'
 |⟨v,σ',q,vr,r,e⟩=>#[v,σ',q,vr,r,x.trans e]
def kj.back {Q:Bool->St->Prop}{s':Shared}(x:Go X σ s σ₁ s₁):kj G X σ₁ s₁ Q b s'->kj G X σ s Q b s'
 |⟨σ',q,r,e⟩=>#[σ',q,r,x.trans e]
def Go.back {t:Sem Value}(x:Go X σ s σ₁ s₁)(h:wpAny M A t (iv G X σ₁ s₁ Q) E s₂):wpAny M A t (iv G X σ s Q) E s₂:=bt h (λ_ _=>iv.back x) λ_ _ x=>x
def Go.t4 {t:Sem Bool}{Q:Bool->St->Prop}(x:Go X σ s σ₁ s₁)(h:wpAny M A t (kj G X σ₁ s₁ Q) E s₂):wpAny M A t (kj G X σ s Q) E s₂:=bt h (λ_ _=>kj.back x) λ_ _ x=>x
def iv.here {v:V}(q:Q v σ)(vr:VR G s.heap v w)(r:Rel G σ s.heap):iv G X σ s Q w {s with toks:=tk}:=#[v,σ,q,vr,r,Evo.refl _ _ _,rfl,rfl]
def iv.yk {v:V}(q:Q v σ)(vr:VR G s.heap v w)(r:Rel G σ s.heap):iv G X σ s Q w s:=#[v,σ,q,vr,r,.refl]
def kj.here {Q:Bool->St->Prop}(q:Q b σ)(r:Rel G σ s.heap):kj G X σ s Q b s:=#[σ,q,r,.refl]
def kj.yk {Q:Bool->St->Prop}(q:Q b σ)(r:Rel G σ s.heap):kj G X σ s Q b {s with toks:=tk}:=#[σ,q,r,Evo.refl _ _ _,rfl,rfl]
end
public abbrev Stc.M (G:Stc):Model:=model G.prog G.w
structure Cx (G:Stc)(sc:Scope)(d:Nat)(A:Around)(env:Env)(ρ:Fr)(σ:St)(s:Shared):Prop where
 ao:AOk A d
 es:env.scope=sc
 eo:yo env
 F:FR G σ env ρ s.heap
 R:Rel G σ s.heap
def Cx.go {G:Stc}{sc:Scope}{d:Nat}{A:Around}{σ σ₁:St}{s s₁:Shared}(c:Cx G sc d A env ρ σ s)(r:Rel G σ₁ s₁.heap)(x:Go [] σ s σ₁ s₁):Cx G sc d A env ρ σ₁ s₁:=#[c.ao,c.es,c.eo,c.F.evo x.e,r]
def Cx.at {G:Stc}{sc:Scope}{d:Nat}{A:Around}{Z:Fr}{σ σ₁:St}{s s₁:Shared}(c:Cx G sc d A env ρ σ s)(F:FR G σ₁ env Z s₁.heap)(R:Rel G σ₁ s₁.heap):Cx G sc d A env Z σ₁ s₁:=#[c.ao,c.es,c.eo,F,R]
abbrev dk (G:Stc)(C:Cal)(sc:Scope)(d:Nat)(e:Ex)(ex:Expr):Prop:=
 ∀⦃A E env ρ σ Q s⦄,Cx G sc d A env ρ σ s->wpE C e ρ σ Q->wpAny G.M A (eval ex env) (iv G [] σ s Q) E s
abbrev rt (G:Stc)(C:Cal)(sc:Scope)(d:Nat)(e:Ex)(ex:Expr):Prop:=
 ∀⦃A E env ρ σ Q s⦄,Cx G sc d A env ρ σ s->wpT C e ρ σ Q->wpAny G.M A (isTrue ex env (eval ex env)) (kj G [] σ s Q) E s
abbrev oq (G:Stc)(C:Cal)(sc:Scope)(d:Nat)(es:Exs)(exs:List Expr):Prop:=
 ∀⦃A E env ρ σ Q s pos⦄,Cx G sc d A env ρ σ s->xy C es ρ σ Q->wpAny G.M A (spliced (backTo pos (starEach exs env))) (EZ G [] σ s Q) E s
section
variable {G:Stc}{A:Around}{E:QqV}{s:Shared}{σ:St}{α:Type}
def kq {t:Sem Value}{P:V->St->Prop}{R:QqV}(h:wpAny G.M A t (iv G [] σ s P) E s)
  (k:∀v σ₁ s₁ w,P v σ₁->VR G s₁.heap v w->Rel G σ₁ s₁.heap->Go [] σ s σ₁ s₁->R w s₁):wpAny G.M A t R E s:=
 bt h (λ_ _ Z=>by have#[v,σ',q,vr,r,x]:=Z;show k v σ' _ _ q vr r x) λ_ _ x=>x
def kE {t:Sem Bool}{P:Bool->St->Prop}{R:Bool->Shared->Prop}(h:wpAny G.M A t (kj G [] σ s P) E s)
  (k:∀b σ₁ s₁,P b σ₁->Rel G σ₁ s₁.heap->Go [] σ s σ₁ s₁->R b s₁):wpAny G.M A t R E s:=
 bt h (λ_ _ Z=>by have#[σ',q,r,x]:=Z;show k _ σ' _ q r x) λ_ _ x=>x
def kD {t:Sem (List Value)}{P:List V->St->Prop}{R:List Value->Shared->Prop}(h:wpAny G.M A t (EZ G [] σ s P) E s)
  (k:∀vs σ₁ s₁ ws,P vs σ₁->VRs G s₁.heap vs ws->Rel G σ₁ s₁.heap->Go [] σ s σ₁ s₁->R ws s₁):wpAny G.M A t R E s:=
 bt h (λ_ _ Z=>by have#[v,σ',q,vr,r,x]:=Z;show k v σ' _ _ q vr r x) λ_ _ x=>x
end
def mF {G:Stc}{σ:St}{a:Addr}{xs:List V}{ws:List Value}(R:Rel G σ h)(e:σ.L a=some xs)(v:VRs G h xs ws):ws.length<=aw:=v.length▸R.Ll a xs e
def zK {n:Nat}(h:n<=aw):(n:Int)<2^63:=Int.lt_of_le_of_lt (Int.ofNat_le.mpr h) (by decide)
def L8 (n:Nat):((n:Int) != 0)=(n != 0):=by
 cases n<;>rfl
def nZ {α Z:Type}{ws:List α}{ns:List Z}(q:ws.length=ns.length):ws.toArray.isEmpty=ns.isEmpty:=by
 cases ws<;>cases ns<;>first|rfl|cases q
set_option maxRecDepth 100000 in
def yI {prog:Program}{w:World}{A:Around}{E:QqV}{s:Shared}{a:Addr}{o:Obj}{Q:Bool->Shared->Prop}(Y:s.heap.get? a=some o)(W:o.cls=.type "function")(h:Q true s):wpAny (model prog w) A (truthy (.ref a)) Q E s:=by
 have Z:s.TypeIs (.ref a) "function":=#[o,Y,W];unfold truthy
 first
  |refine aa (wpAny_callSpecial?_none (name:=Str.ofString "__bool__") Z (by rw[ec,cq];kernel_rfl) ?_)
  |refine aa (ab (aa (wpAny_callSpecial?_none (name:=Str.ofString "__bool__") Z (by rw[ec,cq];kernel_rfl) ?_)))
 first
  |refine aa (xw (name:=Str.ofString "__len__") (r:=none) Z (by rw[ec,cq];kernel_rfl) ?_)
  |refine aa (ab (aa (xw (name:=Str.ofString "__len__") (r:=none) Z (by rw[ec,cq];kernel_rfl) ?_)))
 show ab h
def cQ {G:Stc}{A:Around}{E:QqV}{s:Shared}{σ:St}{v:V}{K:Bool->Prop}(R:Rel G σ s.heap)(vr:VR G s.heap v w)(h:rx v σ K){Q:Bool->Shared->Prop}
  (k:∀b tk,K b->Q b {s with toks:=tk}):wpAny G.M A (truthy w) Q E s:=by
 induction v using V.casesOn
 case none=>have rfl:=vr;show truthy_none (k _ s.toks h)
 case bool=>have rfl:=vr;show qe (k _ s.toks h)
 case int=>have#[t,rfl]:=vr;show truthy_int (k _ s.toks h)
 case str =>
  have#[t,rfl]:=vr;show PySem.P.truthy_str (Int.not_le.mpr (zK h.1)) (k _ _ (by rw[L8];show h.2))
 case L =>
  have rfl:=vr;have#[xs,e,hk]:=h;have#[ws,n,Z,Y]:=R.L _ xs e;show wpAny_truthy_list Z.isList (zK (mF R e Y)) (k _ _ (by rw[nZ Y.length.symm];show hk))
 case ro =>
  have#[a,ws,n,rfl,g,r]:=vr;show wpAny_truthy_list #[_,R.base _ _ g,rfl,_,rfl] (zK (fk (Nat.le_of_eq r.length) h.1)) (k _ _ (by rw[nZ r.length];show h.2))
 case clo =>
  have#[a,o,rfl,_,W,U]:=vr;show yI (R.base _ _ W) U (k _ s.toks h)
 all_goals first|show False.elim h|show False.elim vr
abbrev binOp:Bop->Operator
 |.add=>.Add|.sub=>.Sub|.mul=>.Mult|.fdiv=>.FloorDiv|.mod=>.Mod|.pow=>.Pow
abbrev iP:Cop->CmpOp
 |.eq=>.Eq|.ne=>.NotEq|.lt=>.Lt|.le=>.LtE|.gt=>.Gt|.ge=>.GtE|.is=>.Is|.isNot=>.IsNot|.isIn=>.In|.notIn=>.NotIn
def log2_lt_of {b:Int}(h:b.natAbs<2^60):b.natAbs.log2<9000:=by
 by_cases h0:b.natAbs=0
 ·rw[h0];decide +kernel
 ·have:=(Nat.log2_lt h0).mpr h;(show fb (.l .A (.n 9000)) .a (.l .A (.n 60)) this)
section
variable {G:Stc}{A:Around}{E:QqV}{s:Shared}{σ:St}
def jZ {op:Bop}{a b:Int}{t u:Tok}(R:Rel G σ s.heap)(h:iG op (.int a) (.int b) σ Q):wpAny G.M A (binaryOp (binOp op) (.int a t) (.int b u)) (iv G [] σ s Q) E s:=by
 cases op with
 |add=>show add_int (iv.here h (.int _ _) R)
 |sub=>show sub_int (iv.here h (.int _ _) R)
 |mul =>
  apply mul_int (iv.here h.2 (.int _ _) R) ?_;rcases h.1 with q|q
  ·show IntMulOk.of_left (intBits_le_64 ((Ar.nab _).elim (λZ=>(ph (.il (.g (.n (2^64))) .A) .a (.ik .O .A) Z.1)) λZ=>(xj (.il (.g (.n (2^64))) .A) .d (.l .A .R) (.ie (.t .A) (.g .A)) q Z.2)) ((Ar.nab _).elim (λZ=>(xj (.il .A (.n (2^64))) .d (.l .A .R) (.ie (.t .A) .A) q Z.2)) λZ=>(ph (.il .A (.n (2^64))) .a (.ik .A .O) Z.1)))
  ·show IntMulOk.of_right (intBits_le_64 ((Ar.nab _).elim (λZ=>(ph (.il (.g (.n (2^64))) .A) .a (.ik .O .A) Z.1)) λZ=>(xj (.il (.g (.n (2^64))) .A) .d (.l .A .R) (.ie (.t .A) (.g .A)) q Z.2)) ((Ar.nab _).elim (λZ=>(xj (.il .A (.n (2^64))) .d (.l .A .R) (.ie (.t .A) .A) q Z.2)) λZ=>(ph (.il .A (.n (2^64))) .a (.ik .A .O) Z.1)))
 |fdiv=>show floordiv_int h.1 (iv.here h.2.2 (.int _ _) R) (.inl (PyProof.noPylong_of_log2 (log2_lt_of h.2.1)))
 |mod=>show mod_int' h.1 (iv.here h.2 (.int _ _) R)
 |pow =>
  have#[h0,U,W,Y]:=h;show pow_int_small h0 (ph (.ik .A (.n 1000000)) .a (.ik .A (.n 1000)) U) W (iv.here Y (.int _ _) R)
end
section
variable {k:Nat}{pos:Pos}{x e₁:Expr}{a b:Ex}{rest xs:List Expr}
variable {G:Stc}{C:Cal}{sc:Scope}{d:Nat}
def BD:dk G C sc d .none (.Constant .none k pos):=λ_ _ _ _ _ _ _ c h=>Constant_none (iv.yk h .none c.R)
def BQ {b:Bool}:dk G C sc d (.bool b) (.Constant (.bool b) k pos):=λ_ _ _ _ _ _ _ c h=>Constant_bool (iv.yk h (.bool b) c.R)
def GF {i:Int}:dk G C sc d (.int i) (.Constant (.int i) k pos):=λ_ _ _ _ _ _ _ c h=>wpAny_Constant_int (iv.here h (.int _ _) c.R)
def G4 {x:Str}:dk G C sc d (.str x) (.Constant (.str x) k pos):=λ_ _ _ _ _ _ _ c h=>by
 show wpAny _ _ (mkText x) _ _ _;show wpAny_mkText (iv.here h (.str _ _) c.R)
def rp {names:List (Str×NameKind)}(Z:(names.map (·.1)).Nodup):∀{i:Nat} {x:Str} {k:NameKind},names[i]?=some (x,k)->names.lookup x=some k:=by
 induction names with
 |nil=>intro i x k e;simp at e
 |cons p r W =>
  intro i x k e;have#[y,k']:=p;simp only[gv,List.nodup_cons]at Z;cases i with
  |zero=>simp only[List.getElem?_cons_zero,ek,sf]at e;have#[rfl,rfl]:=e;simp
  |succ i =>
   simp only[List.getElem?_cons_succ]at e;have Y:x≠y:=λq=>Z.1 (by
    subst q;show bg.mpr #[(x,k),cz e,rfl])
   rw[jz,uo.mpr Y];show W Z.2 e
abbrev isVar (k:NameKind):Bool:=k==.local||k==.cell||k==.free
abbrev jg (x:Str):Bool:=!(x==("__debug__":Str))&&!(x==("__classdict__":Str))
def eX {A:Around}{E:QqV}{env:Env}{ρ:Fr}{σ:St}{s:Shared}{i:Nat}{x:Str}{k:NameKind}{v:V}{Q:QqV}(W:yo env)(F:FR G σ env ρ s.heap)
  (hi:env.scope.names[i]?=some (x,k)) (hk:isVar k=true) (O:jg x=true) (hv:ρ i=some v) (h:∀w,VR G s.heap v w->Q w s):wpAny G.M A (loadName env x) Q E s:=by
 have Z:env.kindOf x=some k:=rp W.nd hi;simp only[jg,dh,dp]at O;have get:∀{w:Option Value},OV G s.heap (ρ i) w->∃w',w=some w'/\VR G s.heap v w':=λ{w} o=>by
  rw[hv]at o;cases w with
  |none=>show o.elim
  |some w'=>refine#[w',rfl,o]
 cases k with
 | «local» =>
  have#[m,I,H]:=F.ns;have#[w',e,vr]:=get (H i x hi);show wpAny_loadName_local W.kind Z I e (h w' vr)
 |cell =>
  have#[c,w,U,Y,o,_,_,_]:=F.cells i x _ hi (.inl rfl);have#[w',rfl,vr]:=get o;show wpAny_loadName_cell W.kind Z U Y (h w' vr)
 |free =>
  have#[c,w,U,Y,o,_,_,_]:=F.cells i x _ hi (.inr rfl);have J:=get o
  try clear o
  try clear hi
  have#[w',rfl,vr]:=J;show wpAny_loadName_free W.kind Z U Y (h w' vr) O.2
 |_=>cases hk
def jC {i:Nat}{x:Str}{k:NameKind}(U:sc.names[i]?=some (x,k))(hk:isVar k=true)(Y:jg x=true):dk G C sc d (.l i) (.Name x pos):=λ_ _ _ _ _ _ _ c h=>by
 have#[v,W,q]:=h;have Z:(x==("__debug__":Str))=false:=by simp only[jg,dh,dp]at Y;show Y.1
 show wpAny_Name (eX c.eo c.F (by rw[c.es];show U) hk Y W λw vr=>iv.yk q vr c.R) Z
def G9 (Z:dk G C sc d a x):dk G C sc d (.neg a) (.UnaryOp .USub x pos):=λ_ _ _ _ _ _ _ c h =>
 UnaryOp_ (kq (Z c h) λv σ₁ s₁ w q vr r x=>by
  have#[i,rfl,q]:=q;have#[t,rfl]:=vr;show PyProof.Rows.neg_int (iv.back x (iv.here q (.int _ _) r)))
def G8 (Y:dk G C sc d a x):dk G C sc d (.not a) (.UnaryOp .Not x pos):=λ_ _ _ _ _ _ _ c h =>
 UnaryOp_ (kq (Y c h) λv σ₁ s₁ w q vr r x=>not_of (cQ r vr q λb Z q=>iv.back x (iv.here q (.bool _) r)))
def snd_and {Z:Expr}(W:dk G C sc d a e₁)(hb:dk G C sc d b (.BoolOp .And (Z::rest) pos)):dk G C sc d (.and a b) (.BoolOp .And (e₁::Z::rest) pos):=λ_ _ _ _ _ _ _ c h =>
 BoolOp_and (kq (W c h) λv σ₁ s₁ w q vr r x=>cQ r vr q λt Y q=>by
  cases t with
  |true=>show x.tok.back (hb (c.go r x.tok) q)
  |false=>show iv.back x (iv.here q vr r))
def KG {Z:Expr}(W:dk G C sc d a e₁)(hb:dk G C sc d b (.BoolOp .Or (Z::rest) pos)):dk G C sc d (.or a b) (.BoolOp .Or (e₁::Z::rest) pos):=λ_ _ _ _ _ _ _ c h =>
 BoolOp_or (kq (W c h) λv σ₁ s₁ w q vr r x=>cQ r vr q λt Y q=>by
  cases t with
  |false=>show x.tok.back (hb (c.go r x.tok) q)
  |true=>show iv.back x (iv.here q vr r))
def GD {c:Ex}{y z:Expr}(Z:rt G C sc d c x)(Y:dk G C sc d a y)(hb:dk G C sc d b z):dk G C sc d (.I c a b) (.IfExp x y z pos):=λ_ _ _ _ _ _ _ c h =>
 IfExp_ (kE (Z c h) λt σ₁ s₁ q r x=>by
  cases t with
  |true=>show x.back (Y (c.go r x) q)
  |false=>show x.back (hb (c.go r x) q))
def BU (Y:rt G C sc d a x):rt G C sc d (.not a) (.UnaryOp .Not x pos):=λ_ _ _ _ _ _ _ c h =>
 isTrue_not (bt (Y c h) (λ_ _ Z=>by have#[a,q,r,x]:=Z;apply#[a,q,r,x]) λ_ _ x=>x)
def BZ (Z:rt G C sc d a e₁)(hb:rt G C sc d b (.BoolOp .And rest pos)):rt G C sc d (.and a b) (.BoolOp .And (e₁::rest) pos):=λ_ _ _ _ _ _ _ c h =>
 isTrue_and (kE (Z c h) λt σ₁ s₁ q r x=>by
  cases t with
  |true=>show x.t4 (hb (c.go r x) q)
  |false=>show kj.back x (kj.here q r))
def GW (Z:rt G C sc d a e₁)(hb:rt G C sc d b (.BoolOp .Or rest pos)):rt G C sc d (.or a b) (.BoolOp .Or (e₁::rest) pos):=λ_ _ _ _ _ _ _ c h =>
 isTrue_or (kE (Z c h) λt σ₁ s₁ q r x=>by
  cases t with
  |false=>show x.t4 (hb (c.go r x) q)
  |true=>show kj.back x (kj.here q r))
def BW {c:Ex}{y z:Expr}(Z:rt G C sc d c x)(Y:rt G C sc d a y)(hb:rt G C sc d b z):rt G C sc d (.I c a b) (.IfExp x y z pos):=λ_ _ _ _ _ _ _ c h =>
 isTrue_IfExp (kE (Z c h) λt σ₁ s₁ q r x=>by
  cases t with
  |true=>show x.t4 (Y (c.go r x) q)
  |false=>show x.t4 (hb (c.go r x) q))
def wq {e:Ex}(U:dk G C sc d e x)(W:∀env whole,isTrue x env whole=(do let v←whole;standAt x.pos;holding [v] (truthy v)))
  (Y:∀ρ σ Q,wpT C e ρ σ Q->wpE C e ρ σ λv σ=>rx v σ λb=>Q b σ):rt G C sc d e x:=λ_ _ _ _ _ _ _ c h =>
 isTrue_plain (kq (U c (Y _ _ _ h)) λv σ₁ s₁ w q vr r y=>cQ r vr q λb Z q=>kj.back y (kj.yk q r)) (W _ _)
def lu:oq G C sc d .nil []:=λ_ _ _ _ _ _ _ _ c h=>iY #[[],_,h,.nil,c.R,.refl]
def jf {e:Ex}{r:Exs}(I:dk G C sc d e x)(J:oq G C sc d r xs)(O:∀env,starEach (x::xs) env=(false,eval x env)::starEach xs env):oq G C sc d (.cons e r) (x::xs):=λ_ _ _ _ _ _ _ _ c h =>
 spliced_more (kq (I c h) λv σ₁ s₁ w q vr U x =>
  kD (J (c.go U x) q) λvs σ₂ s₂ ws Y W r₂ Z =>
   #[v::vs,σ₂,Y,.cons (vr.mono Z.frz) W,r₂,x.trans Z]) (O _)
def wK {es:Exs}(h₀:oq G C sc d es xs):dk G C sc d (.T es) (.Tuple xs k pos):=λA E env ρ σ Q s c h =>
 Tuple_ (kD (h₀ c h) λvs σ₁ s₁ ws q Z r x=>by
  have hz:=q.1;rw[Z.length]at hz;unfold aw at hz;apply iq (?_:iv G [] σ s Q (.ref s₁.heap.objs.size) _) (by show ws.toArray.size<=sizeLine;rw[bq,show sizeLine=16777216 from rfl];(show fb (.k .A (.n 16777216)) .a (.k .A .Q) hz));apply#[.T vs,σ₁,q.2,.T (IsT.new _ _) (Z.mono λ_ _ e _=>ah _ e),r.push _,x.to (Evo.push _ _ _ _)])
def GB {es:Exs}(h₀:oq G C sc d es xs):dk G C sc d (.L es) (.List xs pos):=λA E env ρ σ Q s c h =>
 List_ (kD (h₀ c h) λvs σ₁ s₁ ws q Z r x=>by
  have hz:=q.1;have W:=hz;rw[Z.length]at hz;unfold aw at hz;have O:σ₁.L s₁.heap.objs.size=none:=by
   cases hq:σ₁.L s₁.heap.objs.size with
   |none=>rfl
   |some ys=>have#[o,U,_]:=r.sW hq;rw[none_at_size]at U;cases U
  apply iq (?_:iv G [] σ s Q (.ref s₁.heap.objs.size) _) (by show ws.toArray.size<=sizeLine;rw[bq,show sizeLine=16777216 from rfl];(show fb (.k .A (.n 16777216)) .a (.k .A .Q) hz));have Y:At s₁.heap.objs.size s₁.heap (s₁.heap.push {cls:=.type "list",data:=.seq ws.toArray}):=At.push s₁.heap;apply#[.L _,_,q.2 _ O,.L _,r.putL Y (λ_=>none_at_size _) (IsL.new _ _) Z W,x.to (Evo.putL Y (λ_=>none_at_size _) _)])
end
end MP
end
section
namespace MP
open PySem PyProof.Rows
section
variable {a:Addr}{ks:List Key}
variable {G:Stc}{A:Around}{E:QqV}{s:Shared}
public abbrev cY (G:Stc):Obj:={cls:=.type "set",dict:=none,data:=.set #v[] 0 (.fresh 0 0 G.led)}
def nG (h:Heap):rg G (h.push (cY G)) h.objs.size []:=
 #[_,#v[],0,_,bc _ rfl,#[rfl,rfl,rfl],rfl,λe Z=>by simp at Z,λk=>by simp,by decide,by rfl,by rfl,#[rfl,rfl,.nil]]
def pY {Q:QqV}(h:Q (.ref s.heap.objs.size) {s with heap:=s.heap.push (cY G)}) :
  codeAny G.M A (.call (.builtin "set.__new__") #[[.type "set"],[]]) (wants Q E) s:=by
 apply mr ?_;show wpAny _ A.in1 (do checkBuiltinCall "set.__new__" #[[.type "set"],[]];again (.builtin "set.__new__" #[[.type "set"],[]])) _ _ s;apply aa (di F.newCall_set_0 (ab #[j7 F.plain_set_new _,ll F.entry_set_new ?_]));rw[mi F.plain_set_new _];unfold Builtin.«set.__new__» Builtin.Frozenset.newClass;have Z:=sub_set_self;have#[Y,g,d,tk,os]:=s;dsimp only
 wp_walk
 apply rv (ab ?_);dsimp only;simp only[newObj];apply aa (iV (ab ?_));show ab h
set_option maxHeartbeats 1000000 in
set_option maxRecDepth 100000 in
def q6 {Q:QqV}(h:Q (.ref s.heap.objs.size) {s with heap:=s.heap.push (cY G)}):wpAny G.M A (call (.type "set") []) Q E s:=by
 have#[c,tl,J]:=F.called_set.mro;have U:=F.called_set.made;have O:=F.called_set.sub;apply mq (mr ?_);show wpAny _ _ (callAny (.type "set") _) _ _ _;apply ab #[yb _ (by decide +kernel),ll F.entry_type_call ?_];rw[Around.under_plain (weight_type_call_type "set" [] []) rfl];have h1:=F.called_set.notType;have h2:=F.called_set.canCreate;have H:=F.typeCall_set_0
 repeat (any_goals (first|assumption|wp_step))
 apply codeAny_mono (pY (E:=E) (Q:=λobj s₁=>obj=.ref s.heap.objs.size/\s₁={s with heap:=s.heap.push (cY G)}) #[rfl,rfl]) λr s₁ W=>?_;cases r with
 |error e=>show W
 |ok fl =>
  cases fl with
  |ret obj =>
   have#[rfl,rfl]:=W;have z:Shared.TypeIs {s with heap:=s.heap.push (cY G)} (.ref s.heap.objs.size) "set":=#[_,bc _ rfl,rfl];have I:=F.called_set.init.lookup;have B:=F.called_set.init.bind (.ref s.heap.objs.size)
   repeat (any_goals (first|assumption|wp_step))
   apply codeAny_mono (uy (R:=wants (λr s₂=>r=.none/\Q (.ref s.heap.objs.size) s₂) E) F.called_set.init.plain F.entry_set_init (check_set_init z ?_)) λr₂ s₂ Z=>?_
   ·unfold Builtin.«set.__init__» noKeywords
    wp_walk
    apply#[rfl,h]
   ·cases r₂ with
    |error e=>show Z
    |ok Y =>
     cases Y with
     |ret r =>
      have#[rfl,hq]:=Z
      repeat (any_goals (first|assumption|wp_step))
     |_=>show Z.elim
  |_=>show W.elim
def k9 {o:Obj}{es Z:Array (Int×Value)}{ep:Nat}{t W:SetTable}(I:s.heap.get? a=some o)(hex:o.ExactSet)(hd:o.data=.set es ep t)
  (U:ElemsOf G.kk Z.toList) (Y:∀k,decide (k∈ks)=true↔∃e∈Z.toList,G.kk.is k e.2=true) (hb:Z.size<scanBound) (J:W.fits Z.size=true) (H:Z.size=ks.length) (B:Tbl G.led W) :
  (s.heap.update a (Obj.putSet Z W)).get? a=some {o with data:=.set Z (ep+1) W}/\rg G (s.heap.update a (Obj.putSet Z W)) a ks:=by
 have#[O,_]:=SetOf_store (knd:=G.kk) I hex hd U Y hb J;apply#[O,_,Z,ep+1,W,O,hex,rfl,U,Y,hb,J,H,B]
def t7 {g:Bool->Sem Unit}(hg:∀(b:Bool) (s₁:Shared) (Q':Unit->Shared->Prop),Q' () s₁->wpAny G.M A (g b) Q' E s₁)
  {o:Obj} {es Z:Array (Int×Value)} {ep:Nat} {t Y:SetTable} (ho:s.heap.get? a=some o) (hex:o.ExactSet) (hd:o.data=.set es ep t)
  (U:ElemsOf G.kk Z.toList) (W:∀k,decide (k∈ks)=true↔∃e∈Z.toList,G.kk.is k e.2=true) (hb:Z.size<scanBound) (hf:Y.fits Z.size=true) (hn:Z.size=ks.length) (hT:Tbl G.led Y)
  {R:Option Bool->Shared->Prop} (h:∀h',Heap.SameBut a s.heap h'->rg G h' a ks->R (some true) {s with heap:=h'}) :
  wpAny G.M A (do
    storeSet a Z Y
    if (!false&&Y.tooFull)=true then do
      g (relayAll Y Z (SetTable.grown Z.size)).2.2
      storeSet a (relayAll Y Z (SetTable.grown Z.size)).1 (relayAll Y Z (SetTable.grown Z.size)).2.1
      pure (some true)
     else pure (some true)) R E s:=by
 have O:=fx s.heap a (Obj.putSet Z Y);apply aa (wpAny_storeSet_of ho hd ?_ (fits_of_scanBound hb));have#[I,_]:=SetOf_store (knd:=G.kk) ho hex hd U W hb hf;split
 ·have J:=relayAll_perm Y Z (SetTable.grown Z.size);have H:=relayAll_fits Y Z (SetTable.grown Z.size);have z:=oU hT Z (SetTable.grown Z.size);generalize relayAll Y Z (SetTable.grown Z.size)=L at J H z ⊢;have sz:L.1.size=Z.size:=by rw[<- iy,J.length_eq,iy]
  have B:L.1.size<scanBound:=by rw[sz];show hb
  apply aa (hg _ _ _ (aa (wpAny_storeSet_of I rfl (ab (h _ (O.trans (fx _ a _)) ?_)) (fits_of_scanBound B))));show(k9 (s:={s with heap:=s.heap.update a (Obj.putSet Z Y)}) I hex rfl (U.perm J) (λk=>(W k).trans #[λ⟨e,he,q⟩=>#[e,J.mem_iff.mpr he,q],λ⟨e,he,q⟩=>#[e,J.mem_iff.mp he,q]]) B H (sz.trans hn) z).2
 ·show ab (h _ O (k9 (s:=s) ho hex hd U W hb hf hn hT).2)
def I0 {b:Bool}{Q:Unit->Shared->Prop}(h:Q () s):wpAny G.M A (match b with|true=>rule "set.scan.the-table-gave-way" |false=>pure ()) Q E s:=by
 cases b
 ·show ab h
 ·show su h
def lZ {k:Key}{x:Value}{Q:Bool->Shared->Prop}(O:G.kk.is k x=true)(H:x.scannable=true)(bu:plainKind x=true)(hS:rg G s.heap a ks)(B:ks.length+1<scanBound)
  (h:∀b h',Heap.SameBut a s.heap h'->rg G h' a (if k∈ks then ks else ks++[k])->Q b {s with heap:=h'}):wpAny G.M A (setAddHashed a x (G.kk.hash k)) Q E s:=by
 have#[o,es,ep,t,ho,hex,hd,ag,U,hb,hf,hn,hT]:=id hS;unfold setAddHashed setAddHashedIn;apply bp (aa (aG ho hd hf ?_));dsimp only;rw[byScan_of H hb ag];simp only[↓reduceIte];unfold setAddByScan;apply aa (aa (su (aa (wpAny_setScan_of O ho hd hf ag ?_))));cases hr:List.findIdx? (λe=>G.kk.is k e.2) es.toList with
 |some j =>
  have#[hj,bn,_]:=List.findIdx?_eq_some_iff_getElem.mp hr;have hk:k∈ks:=ak ((U k).mpr #[es.toList[j],ze hj,bn]);have:=h false s.heap (Heap.SameBut.refl a s.heap) (by rw[br hk];show hS);show ab (ab this)
 |none =>
  have hk:k∉ks:=λq=>by
   have#[e,he,hp]:=(U k).mp (cj q);have:=List.findIdx?_eq_none_iff.mp hr e he;rw[hp]at this;cases this
  rw[az hk]at h;have Z:=layNew_perm t es (G.kk.hash k) x;have Y:=layNew_fits t es (G.kk.hash k) x;have be:=uN hT es (G.kk.hash k) x;dsimp only;generalize layNew t es (G.kk.hash k) x=L at Z Y be ⊢;rw[Array.toList_push]at Z;have I:ElemsOf G.kk L.1.toList:=(ag.push O H).perm Z;have W:∀k',decide (k'∈ks++[k])=true↔∃e∈L.1.toList,G.kk.is k' e.2=true:=λk'=>by
   have:=mem_push_iff (S:=λk=>decide (k∈ks)) O U Z k';simpa using this
  have z:L.1.size=(ks++[k]).length:=by rw[<- iy,Z.length_eq,cv,cv,iy,hn];rfl
  have bd:L.1.size<scanBound:=by rw[z,cv];show B
  have#[J,hw]:=be;have ar:∀b:Bool,(if b=true then L.2.1 else {L.2.1 with plain:=false}).fits L.1.size=true:=λb=>by
   cases b
   ·show SetTable.fits_plain_off Y
   ·show Y
  have bl:∀b:Bool,Tbl G.led (if b=true then L.2.1 else {L.2.1 with plain:=false}):=λb=>by
   cases b
   ·apply#[J.led,J.nod,J.rise]
   ·show J
  apply aa (I0 ?_);rw[hw];split
  ·apply aa ?_;rw[hashByValue_scannable 8 H];apply ab (t7 (λb s₁ Q' hq=>by cases b<;>first|show ab hq|show su hq) ho hex hd I W bd (ar _) z (bl _) λh' hs ao=>ab (h _ h' hs ao))
  ·apply aa ?_;apply ab (t7 (λb s₁ Q' hq=>by cases b<;>first|show ab hq|show su hq) ho hex hd I W bd (ar _) z (bl _) λh' hs ao=>ab (h _ h' hs ao))
def EC {k:Key}{x:Value}{Q:QqV}(Z:G.kk.is k x=true)(W:x.scannable=true)(U:plainKind x=true)(J:rg G s.heap a ks)(Y:ks.length+1<scanBound)
  (h:∀h',Heap.SameBut a s.heap h'->rg G h' a (if k∈ks then ks else ks++[k])->Q .none {s with heap:=h',toks:=s.toks+1}):wpAny G.M A (call (.builtin "set.add") [.ref a,x]) Q E s:=by
 apply eh F.slot_set_add J.of.typeIs F.entry_set_add ?_ (F.args_set_add_2 _ _);unfold Builtin.«set.add» Builtin.Frozenset.oneOther;simp only[List.isEmpty_nil,bind_assoc];unfold Builtin.Frozenset.addrOf setAdd;apply aa (ab ?_)
 try dsimp only
 apply aa (ab ?_)
 try dsimp only
 apply aa (bp (aa (G.kk.pyHash Z (lZ (s:={s with toks:=s.toks+1}) Z W U J Y λb h' I O=>?_))));show wpAny _ _ (ret Value.none) _ _ _;show ab #[_,rfl,h h' I O]
end
end MP
end
section
set_option tactic.hygienic true
namespace MP
open PySem PyProof.Rows
variable {h:Heap}{a b:V}{x y:Value}{K:Bool->Prop}{Q:QqV}
abbrev ML (h:Heap)(w:Value)(d:PyData)(n:Nat):Prop:=∃as,Reads h w d as/\d.canLay0=true/\d.depth<=n
abbrev OW (h:Heap)(ws:List Value)(ds:List PyData)(n:Nat):Prop:=∃as,ReadsAll h ws ds as/\PyData.canLayAll0 ds=true/\PyData.depthAll ds<=n
def gQ {G:Stc}{σ:St}(n:Nat)(Z:∀{v:V} {w:Value} {d:PyData},fQ σ n v=some d->VR G h v w->ML h w d n) :
  {xs:List V}->{ws:List Value}->{ds:List PyData}->xs.mapM (fQ σ n)=some ds->VRs G h xs ws->OW h ws ds n
 | []=>λe vr=>by
  have rfl:=vr;have rfl:=af (e:some []=some _);apply#[[],.nil,rfl,dj _]
 |x::xs=>λe z=>by
  have#[w,us,q,a,r]:=z;subst q;rw[List.mapM_cons]at e;have#[d,H,Y]:=dq.mp e;have#[B,I,W]:=dq.mp Y;clear e
  try clear Y
  try clear e
  have U:=af W
  try clear W
  have rfl:=U;have#[as,J,c1,d1]:=Z H a;have#[bs,O,c2,d2]:=gQ n Z I r;apply#[as++bs,.cons J O,by simp[PyData.canLayAll0,c1,c2],Nat.max_le.mpr #[d1,d2]]
def CB {x:Str}{t:Tok}{d:PyData}{n:Nat}(e:(if PyData.strOk x then some (PyData.str x) else Option.none)=some d):ML h (.str x t) d n:=by
 cases c:PyData.strOk x with
 |true=>rw[c]at e;have rfl:=af e;apply#[[],.str _ _,by simpa[PyData.canLay0] using c,dj _]
 |false=>rw[c]at e;show gy e
def zl {G:Stc}{σ:St}(R:Rel G σ h):(n:Nat)->{v:V}->{w:Value}->{d:PyData}->fQ σ n v=some d->VR G h v w->ML h w d n:=by
 intro n;induction n with
 |zero =>
  intro v w d e vr;induction v using V.casesOn
  case none=>have rfl:=vr;have rfl:=af e;apply#[[],.none,rfl,dj _]
  case bool=>have rfl:=vr;have rfl:=af e;apply#[[],.bool _,rfl,dj _]
  case int=>have#[t,rfl]:=vr;have rfl:=af e;apply#[[],.int _ _,rfl,dj _]
  case str=>have#[t,rfl]:=vr;show CB e
  all_goals show gy e
 |succ n Z =>
  intro v w d e vr;induction v using V.casesOn
  case none=>have rfl:=vr;have rfl:=af e;apply#[[],.none,rfl,dj _]
  case bool=>have rfl:=vr;have rfl:=af e;apply#[[],.bool _,rfl,dj _]
  case int=>have#[t,rfl]:=vr;have rfl:=af e;apply#[[],.int _ _,rfl,dj _]
  case str=>have#[t,rfl]:=vr;show CB e
  case L =>
   have rfl:=vr;have#[xs,Y,e]:=dq.mp e;have#[ds,hd,rfl]:=gm.mp e;have#[ws,m,U,W]:=R.L _ xs Y;have#[as,r,c,dd]:=gQ n Z hd W;apply#[_,.list U rfl rfl (by simpa using r),by simpa[PyData.canLay0] using c,Nat.succ_le_succ dd]
  case T =>
   have#[a,ws,m,rfl,g,r]:=vr;have#[ds,hd,rfl]:=gm.mp e;have#[as,r,c,dd]:=gQ n Z hd r;apply#[_,.tuple g rfl rfl (by simpa using r),by simpa[PyData.canLay0] using c,Nat.succ_le_succ dd]
  all_goals show gy e
section
variable {G:Stc}{A:Around}{E:QqV}{s:Shared}{σ:St}{d:Nat}
def wj {d:PyData}(c:d.canLay0=true)(h:d.depth<=6):SeqAt.shaped d=true:=by
 unfold SeqAt.shaped;rw[c,Bool.true_and];show cj (fk h (by decide))
def AOk.u64 (Z:AOk A d):A.units+64<cLine:=by have:=Z.units;(show gz (.l (.a .A (.n 64)) .B) .a (.l (.a (.a .A (.m 30 .C)) (.n 300)) .B) this)
def KJ (H:AOk A d)(R:Rel G σ s.heap)(Z:VR G s.heap a x)(vb:VR G s.heap b y)(h:tJ a b σ K)(k:∀r,K r->Q (.bool r) s):wpAny G.M A (compareOp .Eq x y) Q E s:=by
 rcases jN h with ⟨i,j,rfl,rfl,h⟩|⟨i,j,rfl,rfl,h⟩|⟨d,e,hd,U,hk⟩
 ·have#[t,rfl]:=Z;have#[u,rfl]:=vb;show PyProof.Rows.eq_int (k _ h)
 ·have#[t,rfl]:=Z;have#[u,rfl]:=vb;show eq_str (k _ h)
 ·have#[as,W,I,O]:=zl R 6 hd Z;have#[bs,Y,J,db]:=zl R 6 U vb;show eq_dataH W Y (wj I O) (wj J db) H.u64 (k _ hk)
def KH (H:AOk A d)(R:Rel G σ s.heap)(Z:VR G s.heap a x)(vb:VR G s.heap b y)(h:tJ a b σ λr=>K (!r))(k:∀r,K r->Q (.bool r) s):wpAny G.M A (compareOp .NotEq x y) Q E s:=by
 rcases jN h with ⟨i,j,rfl,rfl,h⟩|⟨i,j,rfl,rfl,h⟩|⟨d,e,hd,U,hk⟩
 ·have#[t,rfl]:=Z;have#[u,rfl]:=vb;show ne_int (k _ h)
 ·have#[t,rfl]:=Z;have#[u,rfl]:=vb;show ne_str (k _ h)
 ·have#[as,W,I,O]:=zl R 6 hd Z;have#[bs,Y,J,db]:=zl R 6 U vb;show ne_dataH W Y (wj I O) (wj J db) H.u64 (k _ hk)
def kY {v:Value}{R:Bool->Shared->Prop}(h:R (v==.none) s):wpAny G.M A (isSame v .none) R E s:=by
 induction v using Value.casesOn<;>show di (by rfl) (by show h)
def FI (Z:VR G h a x):(x==.none)=isNone a:=by
 induction a using V.casesOn
 case int=>have#[t,rfl]:=Z;rfl
 case str=>have#[t,rfl]:=Z;rfl
 case T=>have#[_,_,_,rfl,_]:=Z;rfl
 case mt=>have#[_,_,_,_,rfl,_]:=Z;rfl
 case eM=>have#[_,_,rfl,_]:=Z;rfl
 case dY=>have#[_,_,rfl,_]:=Z;rfl
 case ro=>have#[_,_,_,rfl,_]:=Z;rfl
 case dhas=>have#[_,_,rfl,_]:=Z;rfl
 case flo=>have#[_,_,rfl]:=Z;rfl
 case clo=>have#[_,_,rfl,_]:=Z;rfl
 all_goals have rfl:=Z;rfl
def jY (R:Rel G σ s.heap)(Y:VR G s.heap a x)(vb:VR G s.heap b y)(h:FD a b σ K){Q:Bool->Shared->Prop}(k:∀r,K r->Q r s):wpAny G.M A (isSame x y) Q E s:=by
 induction b using V.casesOn with
 |none =>
  have rfl:=vb;show kY (k _ (by rw[FI Y];show h))
 |L q =>
  have rfl:=vb;have h:J8 q a σ K:=h;induction a using V.casesOn with
  |none=>have rfl:=Y;show wpAny_isSame_plain rfl (k _ h)
  |L p =>
   have rfl:=Y;have#[O,U,W]:=h;have#[xs,I]:=ba.mp O;have#[ys,J]:=ba.mp U;by_cases Z:p=q
   ·try clear U
    subst Z;show wpAny_isSame_ref_self (k _ (dg p▸W))
   ·have#[z,g1,H]:=R.sW I;have#[B,g2,c2]:=R.sW J;show wpAny_isSame_ref_other Z g1 g2 (by rw[H];decide) (k _ (uo.mpr Z▸W))
  |_=>show False.elim h
 |_=>show False.elim h
def sr {G:Stc}:{ns:List Int}->{ws:List Value}->VRs G h (ns.map V.int) ws->IntsAre ws ns
 | []=>λe=>by have rfl:=e;show .nil
 |_::_=>λz=>by have#[_,_,rfl,#[t,rfl],r]:=z;show .cons _ _ (sr r)
def b6 (ns:List Int)(i:Int):(ns.any λx=>x==i)=ns.contains i:=by
 rw[Bool.eq_iff_iff];simp
def KI (R:Rel G σ s.heap)(Y:VR G s.heap a x)(vb:VR G s.heap b y)(h:FE a b σ K)(k:∀r,K r->Q (.bool r) s):wpAny G.M A (compareOp .In x y) Q E s:=by
 replace h:=pg (v:=a) h;have#[i,rfl,h]:=h;have Z:=pf (v:=b) h
 try clear h
 have#[l,rfl,ns,e,hk]:=Z;have#[t,rfl]:=Y;have rfl:=vb;have#[ws,n,U,W]:=R.L _ _ e;show in_list_ints U.isList (sr W) (k _ (by rw[b6];show hk))
def yN (R:Rel G σ s.heap)(Y:VR G s.heap a x)(vb:VR G s.heap b y)(h:FE a b σ λr=>K (!r))(k:∀r,K r->Q (.bool r) s):wpAny G.M A (compareOp .NotIn x y) Q E s:=by
 replace h:=pg (v:=a) h;have#[i,rfl,h]:=h;have Z:=pf (v:=b) h
 try clear h
 have#[l,rfl,ns,e,hk]:=Z;have#[t,rfl]:=Y;have rfl:=vb;have#[ws,n,U,W]:=R.L _ _ e;show notin_list_ints U.isList (sr W) (k _ (by rw[b6];show hk))
def iJ {op:Cop}{K:Bool->Prop}(Y:AOk A d)(R:Rel G σ s.heap)(Z:VR G s.heap a x)(vb:VR G s.heap b y)(h:jO op a b σ K)(k:∀r,K r->Q (.bool r) s):wpAny G.M A (compareOp (iP op) x y) Q E s:=by
 have ord:J7 op a b K->wpAny G.M A (compareOp (iP op) x y) Q E s:=λh=>by
  replace h:=pg (v:=a) h;have#[i,rfl,h]:=h;replace h:=pg (v:=b) h;have#[j,rfl,h]:=h;have#[t,rfl]:=Z;have#[u,rfl]:=vb;induction op using Cop.casesOn
  case lt=>show lt_int (k _ h)
  case le=>show le_int (k _ h)
  case gt=>show gt_int (k _ h)
  case ge=>show ge_int (k _ h)
  all_goals show False.elim h
 induction op using Cop.casesOn with
 |eq=>show KJ Y R Z vb h k
 |ne=>show KH Y R Z vb h k
 |is =>
  show wpAny G.M A (do return .bool (← isSame x y)) Q E s;show aa (jY R Z vb h λr q=>ab (k _ q))
 |isNot =>
  show wpAny G.M A (do return .bool (!(← isSame x y))) Q E s;show aa (jY (K:=λr=>K (!r)) R Z vb h λr q=>ab (k _ q))
 |isIn=>show KI R Z vb h k
 |notIn=>show yN R Z vb h k
 |lt=>show ord h
 |le=>show ord h
 |gt=>show ord h
 |ge=>show ord h
end
section
variable {G:Stc}{C:Cal}{sc:Scope}{d:Nat}
def GL {op:Cop}{a b:Ex}{x y:Expr}{pos:Pos}(I:dk G C sc d a x)(hb:dk G C sc d b y)(J:behindInMarks (iP op) y=false):dk G C sc d (.c op a b) (.Compare x [iP op] [y] pos):=λ_ _ _ _ _ _ _ c h =>
 wpAny_Compare1 (kq (I c h) λv σ₁ s₁ w q vr r x =>
  kq (hb (c.go r x) q) λO σ₂ s₂ U W Y r₂ Z =>
   iJ c.ao r₂ (vr.mono Z.frz) Y W λb q=>iv.back (x.trans Z) (iv.yk q (.bool _) r₂)) J
def vl {G:Stc}{A:Around}{E:QqV}{s:Shared}{env:Env}{l op r pos whole}{Q:Bool->Shared->Prop}
  (h:wpAny G.M A (eval l env) (λa s₁=>wpAny G.M A (eval r env) (λb s₂=>wpAny G.M A (compareOp op a b) (λc Z=>wpAny G.M A (truthy c) Q E Z) E s₂) E s₁) E s)
  (U:behindInMarks op r=false):wpAny G.M A (isTrue (.Compare l [op] [r] pos) env whole) Q E s:=by
 rw[isTrue_Compare1,markedBehindIn_of_false U];apply aa (bt h (λa s₁ h₁=>aa (bp (bt h₁ (λb s₂ W=>aa (er (aa (wpAny_operating (bt W (λc Z Y=>bp Y) λ_ _ x=>x)))) ) λ_ _ x=>x))) λ_ _ x=>x)
def BY {op:Cop}{a b:Ex}{x y:Expr}{pos:Pos}(I:dk G C sc d a x)(hb:dk G C sc d b y)(J:behindInMarks (iP op) y=false):rt G C sc d (.c op a b) (.Compare x [iP op] [y] pos):=λ_ _ _ _ _ _ _ c h =>
 vl (kq (I c h) λv σ₁ s₁ w q vr r x =>
  kq (hb (c.go r x) q) λO σ₂ s₂ U W Y r₂ Z =>
   iJ c.ao r₂ (vr.mono Z.frz) Y W λb q=>qe (kj.back (x.trans Z) (kj.here q r₂))) J
end
end MP
end
section
namespace MP
open PySem PyProof.Rows
variable {ws:List Value}
def md {n:Nat}(h:n<=aw):n<=sizeLine:=by rw[show sizeLine=16777216 from rfl];unfold aw at h;(show fb (.k .A (.n 16777216)) .a (.k .A .Q) h)
section
variable {G:Stc}{σ:St}{h:Heap}
def Rel.M4 (R:Rel G σ h):σ.L h.objs.size=none:=by
 cases hq:σ.L h.objs.size with
 |none=>rfl
 |some ys=>have#[o,Z,_]:=R.sW hq;rw[none_at_size]at Z;cases Z
def Rel.freshD (R:Rel G σ h):σ.D h.objs.size=none:=by
 cases hq:σ.D h.objs.size with
 |none=>rfl
 |some ys=>have#[o,Z,_]:=R.DY hq;rw[none_at_size]at Z;cases Z
def Rel.DH (R:Rel G σ h):σ.S h.objs.size=none:=by
 cases hq:σ.S h.objs.size with
 |none=>rfl
 |some ys=>have#[o,Z,_]:=R.DX hq;rw[none_at_size]at Z;cases Z
def kX {X:List Addr}{σ₁:St}{s s₁:Shared}{tk:Nat}{W:Drawn}{Q:V->St->Prop}{vs:List V}(r:Rel G σ₁ s₁.heap)(x:Go X σ s σ₁ s₁)(Y:VRs G s₁.heap vs ws)(hz:vs.length<=aw)
  (q:∀c,σ₁.L c=none->Q (.L c) (σ₁.cu c vs)):iv G X σ s Q (.ref s₁.heap.objs.size) #[s₁.heap.push {cls:=.type "list",data:=.seq ws.toArray},s₁.gens,W,tk,s₁.os]:=by
 have Z:At s₁.heap.objs.size s₁.heap (s₁.heap.push {cls:=.type "list",data:=.seq ws.toArray}):=At.push s₁.heap;apply#[.L _,_,q _ r.M4,.L _,r.putL Z (λ_=>none_at_size _) (IsL.new _ _) Y hz,x.to (Evo.putL Z (λ_=>none_at_size _) _)]
def VRs.rep {vs:List V}(x:VRs G h vs ws):∀k:Nat,VRs G h (List.replicate k vs).flatten (List.replicate k ws).flatten
 |0=>by simpa using VRs.nil
 |k+1=>by simpa[List.replicate_succ] using x.append (x.rep k)
def VRs.ints {ns:List Int}(i:IntsAre ws ns):VRs G h (ns.map V.int) ws:=by
 induction i with
 |nil=>show .nil
 |cons n t r Z=>show .cons (.int n t) Z
end
section
variable {G:Stc}{A:Around}{E:QqV}{s:Shared}{σ:St}
def pE {l:Addr}{items:Array Value}{k:Nat}{x:Int}{u:Tok}{Q:QqV}(Y:IsL s.heap l items k)(W:-(2^63:Int)<=x)(O:x<2^63)(Z:items.size*x.toNat<=2^24)
  (h:Q (.ref s.heap.objs.size) {s with heap:=s.heap.push {cls:=.type "list",data:=.seq (List.foldl (λx1 x2=>x1++x2) #v[] (List.replicate (if items.isEmpty=true then 0 else x.toNat) items))}}) :
  wpAny G.M A (binaryOp .Mult (.ref l) (.int x u)) Q E s:=
 wpAny_binaryOp_repeat_ref (T:="list") (U:="int") (by decide) #[_,Y,rfl] (λs'=>typeIs_int s' x u) noFill_list_mul F.fills_int_mul F.slot_int_rmul repeat_list F.slot_int_index.lookup
  (gF F.slot_int_rmul (typeIs_int s x u) F.entry_int_rmul (F.args_int_rmul_2 _ _) (int___rmul___int_list x u l items k)
   ⟨Y,rfl,#[_,Y,rfl],gF F.slot_list_mul #[_,Y,rfl] F.entry_list_mul (F.args_list_mul_2 _ _)
    (AutoListH.list___mul___list_int_3 l items k x u (by simp[Builtin.List.listFitsIndex];(show#[(ph (.ik (.ng 9223372036854775808) .A) .a (.ik (.g .L) .A) W),(ph (.il .A (.n 9223372036854775808)) .a (.il .A .L) O)])) (i9 (.g .A .B) [[8,8,1,-1,-1]] (.k .B (.n (2^24))) (.l .C (.n 8)) (.e (.a (.m 8 .A) .C) .D) (.e (.a .D .U) (.n (2^63))) Z (Ar.wg _ 8 (by decide)).1 (Ar.wg _ 8 (by decide)).2 (ae (EO (.k .U (.n (2^63))) .f))) (by simp[Builtin.List.listTooLong,sizeLine];(show fb (.k .A (.n 16777216)) .a (.k .A (.n (2^24))) Z)))
    #[Y,h]⟩)
set_option maxHeartbeats 2000000 in
def BR {op:Bop}{a b:V}{x y:Value}{Q:V->St->Prop}(R:Rel G σ s.heap)(va:VR G s.heap a x)(vb:VR G s.heap b y)(h:iG op a b σ Q):wpAny G.M A (binaryOp (binOp op) x y) (iv G [] σ s Q) E s:=by
 have J:∀i j t u,x=.int i t->y=.int j u->iG op (.int i) (.int j) σ Q->wpAny G.M A (binaryOp (binOp op) x y) (iv G [] σ s Q) E s:=λi j t u z e2 q=>by
  try clear J
  subst z;subst e2;show jZ R q
 have Z:∀(l:Addr) (xs:List V) (ws:List Value) (i:Int) (t:Tok) (n:Nat),IsL s.heap l ws.toArray n->VRs G s.heap xs ws->xs.length*i.toNat<=aw->i.natAbs<2^60->(∀c,σ.L c=none->Q (.L c) (σ.cu c (List.replicate i.toNat xs).flatten)) ->
   x=.ref l->y=.int i t->wpAny G.M A (binaryOp .Mult x y) (iv G [] σ s Q) E s:=λl xs ws i t n Y hv hz hb q z e2=>by
  subst z;subst e2;have h1:=hv.length;apply pE Y ((Ar.nab _).elim (λU=>(ph (.ik (.g .L) .A) .a (.ik .O .A) U.1)) λU=>(xj (.ik (.g .L) .A) .d (.l .A .R) (.ie (.t .A) (.g .A)) hb U.2)) ((Ar.nab _).elim (λU=>(xj (.il .A .L) .d (.l .A .R) (.ie (.t .A) .A) hb U.2)) λU=>(ph (.il .A .L) .a (.ik .A .O) U.1)) ?_ ?_
  ·simp only[bq];rw[<- h1];unfold aw at hz;(show fb (.k .A (.n (2^24))) .a (.k .A .Q) hz)
  ·have e:List.foldl (λx1 x2=>x1++x2) #v[] (List.replicate (if ws.toArray.isEmpty=true then 0 else i.toNat) ws.toArray)=((List.replicate i.toNat ws).flatten).toArray:=by
    rw[listMul_foldl];cases ws with
    |nil=>simp
    |cons w ws=>simp
   rw[e];show kX R .refl (hv.rep _) (by rw[lm_len_rep_flat,Nat.mul_comm];show hz) q
 rcases qN h with ⟨i,j,rfl,rfl,_⟩|⟨rfl,l,n,rfl,rfl,q⟩|⟨rfl,m,rfl,q⟩
 ·have#[t,rfl]:=va.inv;have#[u,rfl]:=vb.inv;show jZ R h
 ·have#[u,rfl]:=vb.inv;have rfl:=va;have#[xs,z,hz,hb,q]:=q;have#[ws,n,Y,hv]:=R.L _ _ z;show Z _ _ _ _ _ _ Y hv hz hb q rfl rfl
 ·clear Z
  try clear Z
  have rfl:=vb;have#[xs,ys,W,e5,hz,q]:=q;have#[us,m,ag,H]:=R.L _ _ e5;have go:∀(l:Addr) (ws:List Value) (n:Nat),x=.ref l->IsL s.heap l ws.toArray n->VRs G s.heap xs ws->wpAny G.M A (binaryOp (binOp .add) x (.ref _)) (iv G [] σ s Q) E s:=λl ws n ex Y hv=>by
   subst ex;have h1:=hv.length;have h2:=H.length;apply P.add_list Y ag ?_ (by simp only[bq];rw[<- h1,<- h2];show md hz);rw[List.append_toArray];show kX R .refl (hv.append H) (by simpa using hz) q
  unfold itemsOf at W;cases I:jP a with
  |some l' =>
   rw[I]at W;have I:=jA I;subst I;have#[ws,n,Y,hv]:=R.L _ _ W;show go _ ws n va.inv Y hv
  |none =>
   rw[I]at W;cases B:vRo a with
   |none=>rw[B]at W;cases W
   |some ns =>
    rw[B]at W
    try clear q
    try clear Y
    try clear hz
    try clear I
    try clear h1
    try clear hv
    cases W;have B:=K6 B;subst B;have#[a,ws,n,ex,g,r]:=va.inv;show go a ws n ex (R.base _ _ g) (VRs.ints (G:=G) (h:=s.heap) r)
def wM {C:Cal}{sc:Scope}{d:Nat}{op:Bop}{a b:Ex}{x y:Expr}{pos:Pos}(J:dk G C sc d a x)(hb:dk G C sc d b y):dk G C sc d (.b op a b) (.BinOp x (binOp op) y pos):=λ_ _ _ _ _ _ _ c h =>
 wpAny_BinOp (kq (J c h) λv σ₁ s₁ w q vr r x =>
  kq (hb (c.go r x) q) λO σ₂ s₂ U W Y r₂ Z =>
   (x.trans Z).back (BR r₂ (vr.mono Z.frz) Y W))
def DRs.look {h:Heap}(k:Key):{es:List (Key×V)}->{ds:List (Key×Value)}->DRs G h es ds->OV G h (es.lookup k) (valueAt ds k)
 | []=>λe=>by have rfl:=e;show trivial
 |(k',v)::es=>λz=>by
  have#[w,us,e,a,r]:=z;subst e;by_cases hk:k'=k
  ·subst hk;rw[List.lookup_cons_self,show valueAt ((k',w)::us) k'=some w by simp[valueAt]];show a
  ·rw[jz,uo.mpr (λq=>hk q.symm)];simpa[valueAt,List.find?_cons,hk] using DRs.look k r
def key_is {v:V}{k:Key}{w:Value}{h:Heap}(hk:v.eI=some k)(vr:VR G h v w):G.kk.is k w=true:=by
 induction v using V.casesOn
 case int=>have#[t,rfl]:=vr;have rfl:=af hk;simp[keyKind,iN,Value.isInt]
 case str=>have#[t,rfl]:=vr;have rfl:=af hk;simp[keyKind,iN,Value.isStrOf]
 all_goals show gy hk
def B6 {a b:V}{x y:Value}{ve se:Expr}{K:V->Prop}(R:Rel G σ s.heap)(va:VR G s.heap a x)(vb:VR G s.heap b y)(h:jL a b σ K)(hs:subscripted se false x y=operate [x,y] (getItem x y)){Q:QqV}(k:∀v w tk,K v->VR G s.heap v w->Q w {s with toks:=tk}) :
  wpAny G.M A (subscriptTail ve se x y) Q E s:=by
 have listAt:∀(l:Addr) (ws:List Value) (i:Int) (t:Tok) (n:Nat) (v:Value),IsL s.heap l ws.toArray n->ws.length<=aw->0<=fc ws.length i->ws[(fc ws.length i).toNat]?=some v->x=.ref l->y=.int i t->(∀tk,Q v {s with toks:=tk})->wpAny G.M A (subscriptTail ve se x y) Q E s:=λl ws i t n v I hz h0 Y e1 e2 H=>by
  subst e1;subst e2;have U:(fc ws.length i).toNat<ws.length:=(cf.mp Y).1;unfold fc at h0 Y U;unfold aw at hz;by_cases hi:i<0
  ·simp only[hi,tu]at h0 Y U;show tail_any I.isList.typeIs FC.lookup (wpAny_getItem_list_neg I.isList hi (by simp only[bq];(show Ar.a1 [_] [_] (.ik (.g (.t .A)) .A) .a (.ik .O (.a .A (.t .A))) h0)) (xj (.ik (.g .L) .A) .b (.k .A .Q) (.ik .O (.a .A (.t .A))) hz h0) (by simpa using Y) (H s.toks)) hs
  ·simp only[hi,ju]at h0 Y U;show tail_any I.isList.typeIs FC.lookup (wpAny_getItem_list I.isList (ph (.ik .O .A) .a (.ig .A .O) hi) ((Ar.ton _).elim (λW=>(Ar.a3 [_] [_,_] (.il .A .L) [[1,1,1,-1]] (.k .A .Q) (.l .B .A) (.ie (.t .B) .A) hz U W.2)) λW=>(ph (.il .A .L) .a (.ik .A .O) W.1)) (by simpa using Y) (H s.toks)) hs
 have J:∀(l:Addr) (ws:List Value) (i:Int) (t:Tok) (n:Nat) (v:Value),IsT s.heap l ws.toArray n->i.natAbs<2^60->0<=fc ws.length i->ws[(fc ws.length i).toNat]?=some v->x=.ref l->y=.int i t->(∀tk,Q v {s with toks:=tk})->wpAny G.M A (subscriptTail ve se x y) Q E s:=λl ws i t n v I hz h0 Y e1 e2 H=>by
  subst e1;subst e2;have U:(fc ws.length i).toNat<ws.length:=(cf.mp Y).1;have hT:IsTup s.heap l ws.toArray:=#[_,I,rfl,n,rfl];apply tail_any hT.typeIs slot_tuple_getitem.lookup (PyProof.Rows.getItem_tuple hT ((Ar.nab _).elim (λW=>(ph (.ik (.g .L) .A) .a (.ik .O .A) W.1)) λW=>(xj (.ik (.g .L) .A) .d (.l .A .R) (.ie (.t .A) (.g .A)) hz W.2)) ((Ar.nab _).elim (λW=>(xj (.il .A .L) .d (.l .A .R) (.ie (.t .A) .A) hz W.2)) λW=>(ph (.il .A .L) .a (.ik .A .O) W.1)) (j:=(fc ws.length i).toNat) ?_ (by simpa using Y) (H s.toks)) hs;unfold seqIndex?;rw[bq]
  change (if (decide (0<=fc ws.length i)&&decide (fc ws.length i<ws.length))=true then some (fc ws.length i).toNat else none)=_
  rw[br];simp only[dh,decide_eq_true_eq];(show#[(ph (.ik .O .A) .a (.ik .O .A) h0),((Ar.ton _).elim (λW=>(Ar.a2 [_] [_,_] (.il .A (.t .A)) .d (.l .B .A) (.ie (.t .B) .A) U W.2)) λW=>(Ar.a2 [_] [_,_] (.il .A (.t .A)) .b (.l .B .A) (.ik .A .O) U W.1))])
 induction a using V.casesOn with
 |L a =>
  clear hs
  try clear hs
  have rfl:=va;have#[i,rfl,xs,v,e,h0,hx,hk]:=pg (v:=b) h;have#[t,rfl]:=vb;have#[ws,n,I,Y]:=R.L _ _ e;have Z:=Y.length;have#[w,z,vr]:=Y.get hx;rw[Z]at h0 z;show listAt _ ws _ _ n w I (Z▸R.Ll _ _ e) h0 z rfl rfl λtk=>k v w tk hk vr
 |ro ns =>
  have#[i,rfl,v,hz,h0,hx,hk]:=pg (v:=b) h;have#[t,rfl]:=vb;have#[a,ws,n,rfl,g,r]:=va;have Y:=VRs.ints (G:=G) (h:=s.heap) r;have Z:=r.length.symm;have#[w,z,vr]:=Y.get (v:=.int v) (by rw[bw,hx];rfl);rw[Z]at h0 z;show listAt _ ws _ _ _ w (R.base _ _ g) (Z▸hz) h0 z rfl rfl λtk=>k (.int v) w tk hk vr
 |T xs =>
  clear listAt;have zz:=pg (v:=b) h;clear h
  try clear listAt
  try clear h
  have#[i,rfl,v,hb,h0,hx,hk]:=zz;have#[t,rfl]:=vb;have#[a,ws,n,rfl,g,r]:=va;have#[w,z,vr]:=r.get hx;show J _ _ _ _ _ _ g hb (r.length▸h0) (r.length▸z) rfl rfl λtk=>k v w tk hk vr
 |dct a =>
  clear J;have rfl:=va;have#[es,kk,v,e,ag,I,hk]:=h;have#[ds,hd,Y]:=R.D _ _ e;have hh:=Y.look kk;rw[I]at hh;cases H:valueAt ds kk with
  |none=>rw[H]at hh;show hh.elim
  |some w =>
   rw[H]at hh;show tail_any hd.typeIs slot_dict_getitem.lookup (wpAny_getItem_of (key_is ag vb) hd.mapOf H (k v w _ hk hh)) hs
 |_=>show False.elim h
end
end MP
end
section
namespace MP
open PySem PyProof.Rows
variable {a:Ex}{x:Expr}{pos:Pos}{A:Around}{E:QqV}{σ:St}{s:Shared}{h:Heap}{i:Int}
structure GOk (G:Stc):Prop where
 cls:∃N mN,ClsAt G.hb G.cS N mN/\mN "__getattribute__"=none/\mN "__getattr__"=none/\mN "__setattr__"=none/\∀x∈G.attrs,mN x=none/\typeLookup (.type "object") x=pure none
 len:G.attrs.length<=100
 nd:G.attrs.Nodup
 sys:∃o,G.hb.get? sysModules=some o
 names:∃mg mb,G.hb.Ns mainGlobals mg/\G.hb.Ns builtinsNs mb/\∀x,G.gl x=(mg x).or (mb x)
abbrev isSlice (x:Expr):Bool:=bC 26 x
def eV {Z:Expr}(h:isSlice Z=false)(x y:Value):subscripted Z false x y=operate [x,y] (getItem x y):=by
 induction Z using Expr.casesOn<;>first|rfl|show Bool.noConfusion h
section
variable {G:Stc}{C:Cal}{sc:Scope}{d:Nat}
def wL {b:Ex}{y:Expr}(I:dk G C sc d a x)(hb:dk G C sc d b y)(J:isSlice y=false):dk G C sc d (.sub a b) (.Subscript x y pos):=λ_ _ _ _ _ _ _ c h =>
 Subscript_ (kq (I c h) λv σ₁ s₁ w q vr r x =>
  kq (hb (c.go r x) q) λO σ₂ s₂ U W Y r₂ Z =>
   B6 r₂ (vr.mono Z.frz) Y W (eV J _ _) λv w tk q vr=>iv.back (x.trans Z) (iv.here q vr r₂))
abbrev IY (G:Stc)(C:Cal)(sc:Scope)(d:Nat)(e:Ex)(x:Option Expr):Prop:=(e=.none/\x=none)\/∃y,x=some y/\dk G C sc d e y
def IY.at {e:Ex}{x:Option Expr}(p:IY G C sc d e x){env:Env}{ρ:Fr}{Q:V->St->Prop}(c:Cx G sc d A env ρ σ s)(h:wpE C e ρ σ Q):wpAny G.M A (evalPart x env) (iv G [] σ s Q) E s:=by
 rcases p with ⟨rfl,rfl⟩|⟨y,rfl,p⟩
 ·show gD (iv.yk h .none c.R)
 ·show evalPart_some_step (p c h)
def HC (a:Int)(n:Nat):(max 0 (min a n)).toNat=min n a.toNat:=by
 rcases bG a 0 with h|h
 ·rw[Int.toNat_of_nonpos h,Nat.min_zero,Int.max_eq_left (ja (Int.min_le_left ..) h)];rfl
 ·rcases bG a n with h'|h'
  ·rw[Int.min_eq_left h',Int.max_eq_right h,Nat.min_eq_right (Int.toNat_le.mpr h')]
  ·rw[Int.min_eq_right h',Int.max_eq_right (cL n),gw,Nat.min_eq_left ((Int.le_toNat h).mpr h')]
def lR (n:Nat)(i:Int):clipAt n i=du n i:=HC _ n
def part_of {v:V}{w:Value}{k:Nat}(vr:VR G h v w)(e:l0 k v=some i):∃o,IsPart w o/\o.getD k=i:=by
 induction v using V.casesOn
 case none=>have rfl:=vr;apply#[none,.none,af e]
 case int=>have#[t,rfl]:=vr;apply#[_,.int _ _,af e]
 all_goals show gy e
def vD (n:Nat)(o:Option Int)(h:o.getD (0:Nat)=i):o.elim 0 (clipAt n)=du n i:=by
 cases o with
 |none=>simp at h;subst h;simp[du,fc]
 |some j=>simp at h;subst h;show lR n j
def vC (n:Nat)(o:Option Int)(h:o.getD (n:Nat)=i):o.elim n (clipAt n)=du n i:=by
 cases o with
 |none=>have rfl:=(h:(n:Int)=i);show(Nat.min_self n).symm
 |some j=>simp at h;subst h;show lR n j
def B8 {a b c:V}{x y z:Value}{H:Expr}{lo Y:Option Expr}{p:Pos}{Q:V->St->Prop}(R:Rel G σ s.heap)(B:VR G s.heap a x)(vb:VR G s.heap b y)(vc:VR G s.heap c z)(h:J6 a b c σ Q) :
  wpAny G.M A (subscriptTail H (.Slice lo Y none p) x (.ref s.heap.objs.size)) (iv G [] σ s Q) E {s with heap:=s.heap.push {cls:=.type "slice",data:=.fields #v[y,z,.none]}}:=by
 have go:∀(l:Addr) (xs:List V) (ws:List Value) (n:Nat) (i j:Int),x=.ref l->IsL s.heap l ws.toArray n->VRs G s.heap xs ws->xs.length<=aw->l0 0 b=some i->l0 xs.length c=some j->(∀c,σ.L c=none->Q (.L c) (σ.cu c ((xs.take (du xs.length j)).drop (du xs.length i)))) ->
   wpAny G.M A (subscriptTail H (.Slice lo Y none p) x (.ref s.heap.objs.size)) (iv G [] σ s Q) E {s with heap:=s.heap.push {cls:=.type "slice",data:=.fields #v[y,z,.none]}}:=λl xs ws n i j e I O hz Y U q=>by
  subst e;have#[o1,p1,e1]:=part_of vb Y;have#[o2,p2,e2]:=part_of vc U;have W:(s.heap.push {cls:=.type "slice",data:=.fields #v[y,z,.none]}).IsList l ws.toArray:=(I.push _).isList;have Z:=O.length;apply tail_any (T:="list") (id:="list.__getitem__") (ops:=[.ref s.heap.objs.size,.ref l]) ?_ FC.lookup (wpAny_getItem_list_slice W (Heap.IsSliceOf.new ..) p1 p2 .none (by simp) ?_ (by simp only[bq];rw[<- Z];show md hz)) rfl
  ·show W.typeIs
  ·have e:slicePick ws.toArray o1 o2 none=((ws.take (du ws.length j)).drop (du ws.length i)).toArray:=by
    rw[slicePick_plain,bq,vD ws.length o1 e1,vC ws.length o2 (Z▸e2),List.drop_take]
   rw[e];have R':=R.push {cls:=.type "slice",data:=.fields #v[y,z,.none]};have J:=((O.take (du xs.length j)).drop (du xs.length i)).mono (h':=s.heap.push {cls:=.type "slice",data:=.fields #v[y,z,.none]}) λ_ _ e _=>ah _ e;rw[<- Z];show kX (s₁:={s with heap:=s.heap.push {cls:=.type "slice",data:=.fields #v[y,z,.none]}}) R' #[Evo.push _ _ _ _,rfl,rfl] J (by simp only[ix,fq];(show rq .A .e .F (.k .D .C) (.k .A .D) hz (Ar.nr _ _).2.1 (Nat.sub_le _ _))) q
 induction a using V.casesOn with
 |L a =>
  have rfl:=B;have#[xs,i,j,e,Y,U,_,_,q]:=h;have#[ws,n,I,O]:=R.L _ _ e;show go _ xs ws n i j rfl I O (R.Ll _ _ e) Y U q
 |ro ns =>
  have#[a,ws,n,rfl,g,r]:=B;have#[i,j,hz,Y,U,_,_,q]:=h;apply go _ _ _ _ i j rfl (R.base _ _ g) (VRs.ints r) (by simpa using hz) Y (by simpa using U) λc hc=>?_;have:=q c hc;simpa[List.map_drop,List.map_take] using this
 |_=>show False.elim h
def G5 {b c:Ex}{lo hi:Option Expr}{p:Pos}(ha:dk G C sc d a x)(hb:IY G C sc d b lo)(hc:IY G C sc d c hi):dk G C sc d (.slc a b c) (.Subscript x (.Slice lo hi none p) pos):=λ_ _ _ _ _ _ _ c h =>
 Subscript_ (kq (ha c h) λv σ₁ s₁ w q vr r x =>
  wpAny_Slice (kq (hb.at (c.go r x) q) λao σ₂ s₂ z I U r₂ Y =>
   kq (hc.at (c.go r₂ (x.trans Y)) I) λag H ar B J W O Z =>
    gD ((x.trans (Y.trans Z)).back (B8 O ((vr.mono Y.frz).mono Z.frz) (U.mono Z.frz) W J))))
abbrev lr (x:Expr):Bool:=!(bC 16 x&&(kids x).tail.isEmpty)
def xi {o:Expr}(h:lr o=true)(attr:Str)(env:Env)(whole:Sem Value):attributeBase o attr env whole=whole:=by
 induction o using Expr.casesOn with
 |Call f args Z pos =>
  cases args with
  |nil=>show Bool.noConfusion h
  |cons a as=>induction f using Expr.casesOn<;>show(rfl:whole=whole)
 |_=>show(rfl:whole=whole)
def c9.inst {a dd:Addr}{f:Nat->Option V}(I:c9 G h a dd f){m:Str->Option Value}(W:h.Ns1 dd m):h.Inst a G.cS m:=by
 have#[o,Z,U,hd,Y]:=I.here;apply#[o,Z,U,Y,.inr #[dd,hd,I.ne,W]]
def pO {v:V}{w:Value}(vr:VR G h v w):handedOut w=pure w:=by
 induction v using V.casesOn
 case int=>have#[t,rfl]:=vr;rfl
 case str=>have#[t,rfl]:=vr;rfl
 case T=>have#[_,_,_,rfl,_]:=vr;rfl
 case mt=>have#[_,_,_,_,rfl,_]:=vr;rfl
 case eM=>have#[_,_,rfl,_]:=vr;rfl
 case dY=>have#[_,_,rfl,_]:=vr;rfl
 case ro=>have#[_,_,_,rfl,_]:=vr;rfl
 case dhas=>have#[_,_,rfl,_]:=vr;rfl
 case flo=>have#[_,_,rfl]:=vr;rfl
 case clo=>have#[_,_,rfl,_]:=vr;rfl
 all_goals have rfl:=vr;rfl
def qS {a dd:Addr}{f:Nat->Option V}{i:Nat}{name:Str}{u:V}{expr:Bool}{Q:QqV}(K:GOk G)(R:Rel G σ s.heap)(hI:σ.I a=some (dd,f))(J:G.attrs[i]?=some name)(B:f i=some u)
  (k:∀w tk,VR G s.heap u w->Q w {s with toks:=tk}):wpAny G.M A (getAttr (.ref a) name expr) Q E s:=by
 have#[N,mN,X,O,ag,z,W]:=K.cls;have I:=R.I a dd f hI;have#[m,hm,H,_]:=I.ns;have Y:=H i name J;rw[B]at Y;cases U:m name with
 |none=>rw[U]at Y;show Y.elim
 |some w =>
  rw[U]at Y;have#[hh,g,dr,t,os]:=s;have#[nm,q,bs,sn,sub,ao,d2,k0,k1,k2,k3,k5,hC]:=(X.keeps R.base).obj;have Z:=cz J;show load_attr hC (X.keeps R.base).ns O (W name Z).1 (W name Z).2 (I.inst hm) U (pO Y) (k w _ Y)
def qU {i:Nat}{name:Str}(K:GOk G)(U:dk G C sc d a x)(hb:lr x=true)(W:G.attrs[i]?=some name):dk G C sc d (.attr a i) (.Attribute x name pos):=λ_ _ _ _ _ _ _ c h =>
 Attribute_any_ (kq (U c h) λv σ₁ s₁ w q vr r x=>by
  have#[b,dd,f,u,rfl,O,Y,q]:=q;have rfl:=vr;show qS K r O W Y λw Z vr=>iv.back x (iv.here q vr r)) (by rw[gG,xi hb])
end
variable {args:List Expr}{A:Around}{E:QqV}{s:Shared}{σ:St}
abbrev isStar:Expr->Bool
 |.Starred _ _=>true
 |_=>false
abbrev noStar:List Expr->Bool
 | []=>true
 |e::r=>!isStar e&&noStar r
def band {a b:Bool}(h:(a&&b)=true):a=true/\b=true:=(dh a b).mp h
def eW {e:Expr}(h:(!isStar e)=true)(r:List Expr)(env:Env):starEach (e::r) env=(false,eval e env)::starEach r env:=by
 induction e using Expr.casesOn<;>first|rfl|show Bool.noConfusion h
def wo:{args:List Expr}->noStar args=true->(env:Env)->starEach args env=args.map λe=>(false,eval e env)
 | [],_,env=>rfl
 |e::r,h,env=>(eW (band h).1 r env).trans (bb (_::·) (wo (band h).2 env))
def fj {x:Expr}{xs:List Expr}(h:noStar (x::xs)=true):(∀env,starEach (x::xs) env=(false,eval x env)::starEach xs env)/\noStar xs=true:=
 #[eW (band h).1 xs,(band h).2]
def jb (h:noStar args=true)(pos:Pos)(env:Env):(backTo pos (starEach args env)).any (·.1)=false:=by
 rw[wo h];simp[backTo,List.any_eq_false]
def vV (h:noStar args=true)(pos:Pos)(env:Env):(backTo pos (starEach args env)).all (λx=>!x.1)=true:=by
 rw[wo h];simp[backTo]
def nt {M:Model}{f:Value}{Z:List (Bool×Sem Value)}{Q:Args->Shared->Prop}(Y:Z.any (·.1)=false)(h:wpAny M A (spliced Z) (λvs s'=>Q #[vs,[]] s') E s):wpAny M A (evalArgs f true Z []) Q E s:=by
 cases Z with
 |nil =>
  unfold evalArgs;show wpAny M A (spliced []>>=_) Q E s;apply aa (bt h (λvs s' h'=>?_) λ_ _ x=>x);apply bp ?_;show aa (ab (aa (ab (ab h'))))
 |cons t r =>
  have#[b,x]:=t;simp only[List.any_cons,Bool.or_eq_false_iff]at Y;have#[rfl,_]:=Y;show Calls.evalArgs_plain h
section
variable {G:Stc}{C:Cal}{sc:Scope}{d:Nat}
def oh {env:Env}{o:Expr}{name:Str}{apos pos:Pos}{Q:QqV}(hb:lr o=true)(I:noStar args=true)(O:args.length<30)(Z:(apos.endLine==pos.line)=true)
  (h:wpAny G.M A (eval o env) (λJ s₁=>∀pl,wpAny G.M A (getMethod J name pl) (λp s₂=>wpAny G.M A (callWith pos p.1 p.2 (backTo pos (starEach args env)) []) Q E s₂) E s₁) E s) :
  wpAny G.M A (eval (.Call (.Attribute o name apos) args [] pos) env) Q E s:=by
 rw[arm_eval_Call,xi hb];apply aa (bt h (λJ s₁ h₁=>?_) λ_ _ e=>e);apply aa (er ?_);have Y:methodCallForm (args.length+([]:List Keyword).length) (backTo pos (starEach args env)) (backToKw pos (keywordEach [] env))=true:=by
  unfold methodCallForm;rw[vV I];show decide (args.length<30)=true;show cj O
 have U:methodCallPos true o env apos pos=pure pos:=by unfold methodCallPos;simp[Z]
 unfold methodCall;rw[Y];apply aa (bp (bt (h₁ _) (λp s₂ W=>?_) λ_ _ e=>e));show aa (di U W)
def og {env:Env}{ρ:Fr}{id:String}{first:List Value}{es:Exs}{pos:Pos}{P:List V->St->Prop}{Q:QqV}(Y:noStar args=true)(Z:oq G C sc d es args)(c:Cx G sc d A env ρ σ s)(h:xy C es ρ σ P)
  (k:∀vs σ₁ s₁ ws,P vs σ₁->VRs G s₁.heap vs ws->Rel G σ₁ s₁.heap->Go [] σ s σ₁ s₁->wpAny G.M A (call (.builtin id) (first++ws)) Q E s₁) :
  wpAny G.M A (callWith pos (.builtin id) first (backTo pos (starEach args env)) []) Q E s:=
 Calls.callWith_builtin (jb Y pos env) (nt (jb Y pos env) (kD (Z c h) k))
def tM {h:Heap}{a:Addr}{xs ys:List V}{ws us:List Value}{n:Nat}{f:Array Value->Array Value}(R:Rel G σ h)(e:σ.L a=some xs)(Y:IsL h a ws.toArray n)(hv:VRs G h ys us)(hz:ys.length<=aw)(W:f ws.toArray=us.toArray) :
  Rel G (σ.cu a ys) (h.update a (Obj.mapSeq f))/\Evo [] σ h (σ.cu a ys) (h.update a (Obj.mapSeq f)):=by
 have Z:=Y.update f;rw[W]at Z;have x:At a h (h.update a (Obj.mapSeq f)):=⟨λb o hb O=>(lg h _ (kz hb)).trans O,#[_,Z],λo U=>by
  have rfl:=af (U.symm.trans Y);show yh rfl rfl⟩
 apply#[R.putL x (λq=>by rw[e]at q;cases q) Z hv hz,Evo.putL x (λq=>by rw[e]at q;cases q) _]
abbrev qA:BM->Str
 |.append=>"append"
 |.pop=>"pop"
 |.insert=>"insert"
 |.extend=>"extend"
 |.sort=>"sort"
 |.index=>"index"
 |.count=>"count"
 |.get=>"get"
 |.setdefault=>"setdefault"
 |.add=>"add"
abbrev ON:BM->String
 |.append=>"list.append"
 |.pop=>"list.pop"
 |.insert=>"list.insert"
 |.extend=>"list.extend"
 |.sort=>"list.sort"
 |.index=>"list.index"
 |.count=>"list.count"
 |.get=>"dict.get"
 |.setdefault=>"dict.setdefault"
 |.add=>"set.add"
def rU {h:Heap}{a:Addr}{items:Array Value}{n:Nat}(Z:IsL h a items n):∀b,Value.ref a=.ref b->∃ob,h.get? b=some ob/\ob.dict=none:=λb e=>by
 injection e with e;subst e;apply#[_,Z,rfl]
def nE {k:BM}{v:V}{w:Value}{pl:Sem Bool}{Q:Value×List Value->Shared->Prop}(R:Rel G σ s.heap)(vr:VR G s.heap v w)(h:OM k v σ)(q:Q (.builtin (ON k),[w]) s) :
  wpAny G.M A (getMethod w (qA k) pl) Q E s:=by
 have lst:∀(a:Addr) (name:Str) (id:String),(σ.L a).isSome=true->Slot "list" name id->typeOf (.builtin id)=pure (.type "method_descriptor")->Q (.builtin id,[.ref a]) s->wpAny G.M A (getMethod (.ref a) name pl) Q E s:=λa name id e W Y q=>by
  have#[xs,e]:=ba.mp e;have#[ws,n,Z,_]:=R.L _ _ e;show iW #[_,Z,rfl] PySem.F.plainAttrs_list W Y (rU Z) q
 induction k using BM.casesOn
 case get =>
  replace h:=yg (v:=v) h;have#[a,rfl,h]:=h;have rfl:=vr;have#[xs,e]:=ba.mp h;have#[ds,hd,_]:=R.D _ _ e;show iW hd.typeIs gH PySem.F.slot_dict_get PySem.F.type_dict_get hd.mapOf.noDict q
 case setdefault =>
  replace h:=yg (v:=v) h;have#[a,rfl,h]:=h;have rfl:=vr;have#[xs,e]:=ba.mp h;have#[ds,hd,_]:=R.D _ _ e;show iW hd.typeIs gH PySem.F.slot_dict_setdefault PySem.F.type_dict_setdefault hd.mapOf.noDict q
 case add =>
  replace h:=x9 (v:=v) h;have#[a,rfl,h]:=h;have rfl:=vr;have#[xs,e]:=ba.mp h;show getMethod_set_add (R.S _ _ e).of q
 all_goals
  replace h:=pf (v:=v) h;have#[a,rfl,h]:=h;have rfl:=vr
 case append=>show lst _ _ _ h eT PySem.F.type_list_append q
 case pop=>show lst _ _ _ h PySem.F.slot_list_pop PySem.F.type_list_pop q
 case insert=>show lst _ _ _ h PySem.F.slot_list_insert PySem.F.type_list_insert q
 case extend=>show lst _ _ _ h PySem.F.slot_list_extend PySem.F.type_list_extend q
 case sort=>show lst _ _ _ h PySem.F.slot_list_sort PySem.F.type_list_sort q
 case index=>show lst _ _ _ h PySem.F.slot_list_index PySem.F.type_list_index q
 case count=>show lst _ _ _ h PySem.F.slot_list_count PySem.F.type_list_count q
end
section
variable {h:Heap}{k:Key}{v:V}{w:Value}{es:List (Key×V)}{a:Addr}{ws:List Value}
variable {G:Stc}{A:Around}{E:QqV}{s:Shared}{σ:St}
def tc (K:GOk G)(R:Rel G σ s.heap){b:Addr}(d:σ.dom b):(b==sysModules)=false:=by
 apply uo.mpr λe=>?_;have#[o,Z]:=K.sys;have:=R.new b d;rw[e,Z]at this;cases this
def DRs.put (vr:VR G h v w){ds:List (Key×Value)}(r:DRs G h es ds):DRs G h (putD es k v) (stored ds k w):=by
 have O:∀{es:List (Key×V)} {ds:List (Key×Value)},DRs G h es ds->(es.any λe=>e.1==k)=ds.any λY=>decide (Y.1=k):=by
  intro es;induction es with
  |nil=>intro ds r;have rfl:=r;rfl
  |cons e es Z=>intro ds r;have#[w,us,rfl,a,r]:=r;rw[List.any_cons,List.any_cons,Z r];rfl
 have W:∀{es:List (Key×V)} {ds:List (Key×Value)},DRs G h es ds->DRs G h (es.map λe=>if e.1=k then (k,v) else e) (ds.map λY=>if Y.1=k then (Y.1,w) else Y):=by
  intro es;induction es with
  |nil=>intro ds r;have rfl:=r;show .nil
  |cons e es Z =>
   intro ds r;have#[k',J]:=e;have#[w',us,rfl,a,r]:=r;rw[gv,gv];by_cases hk:k'=k
   ·subst hk;rw[br rfl,br rfl];show .cons vr (Z r)
   ·rw[az hk,az hk];show .cons a (Z r)
 have U:∀{es:List (Key×V)} {ds:List (Key×Value)},DRs G h es ds->DRs G h (es++[(k,v)]) (ds++[(k,w)]):=by
  intro es;induction es with
  |nil=>intro ds r;have rfl:=r;show .cons vr .nil
  |cons e es Z=>intro ds r;have#[w',us,rfl,a,r]:=r;show .cons a (Z r)
 unfold putD stored;rw[O r];split
 ·show W r
 ·show U r
def DRs.length:{es:List (Key×V)}->{ds:List (Key×Value)}->DRs G h es ds->es.length=ds.length
 | []=>λe=>e▸rfl
 |_::_=>λz=>by have#[_,_,rfl,_,r]:=z;show bb (·+1) r.length
def OV.getD {v:Option V}{w:Option Value}{u:V}{x:Value}(o:OV G h v w)(a:VR G h u x):VR G h (v.getD u) (w.getD x):=by
 cases v<;>cases w
 ·show a
 ·show False.elim o
 ·show False.elim o
 ·show o
def bS (es:List (Key×V))(k:Key)(v:V):(putD es k v).length<=es.length+1:=by
 unfold putD;split<;>simp
def IJ (R:Rel G σ s.heap)(e:σ.D a=some es):∀b f,σ.I b≠some (a,f):=λb f q=>by
 have:=R.apart b a f q;rw[e]at this;cases this
def K7 {h':Heap}{Z:List (Key×V)}{ds:List (Key×Value)}(R:Rel G σ s.heap)(e:σ.D a=some es)(O:Heap.SameBut a s.heap h')(hd:h'.DictOf G.kk a ds)(hv:DRs G s.heap Z ds)(hz:Z.length<=aw) :
  Rel G (σ.jr a Z) h'/\Evo [] σ s.heap (σ.jr a Z) h':=by
 have#[B,#[o,H,ep,J,z,W,_],_]:=R.D _ _ e;have#[o',U,I,Y,_]:=id hd;have x:At a s.heap h':=At.kN O J (nu W) Y;apply#[R.putD x (λq=>by rw[e]at q;cases q) (IJ R e) hd hv hz,Evo.putD x (λq=>by rw[e]at q;cases q) _]
def rZ (hk:v.eI=some k)(vr:VR G h v w):w.scannable=true:=by
 induction v using V.casesOn
 case int=>have#[t,rfl]:=vr;rfl
 case str=>have#[t,rfl]:=vr;rfl
 all_goals show gy hk
def rE (h:es.lookup k=none)(v:V):putD es k v=es++[(k,v)]:=by
 unfold putD;rw[az];simp only[List.any_eq_true,not_exists,not_and];intro e Z hk;rw[qo]at h;have:=h e Z;simp only[vp]at hk;simp[hk]at this
def yZ (R:Rel G σ s.heap)(e:σ.D a=some es):Rel G (σ.jr a es) s.heap/\Evo [] σ s.heap (σ.jr a es) s.heap:=by
 have W:upd σ.D a es=σ.D:=by
  funext b
  unfold upd;split
  ·rename_i h;rw[h,e]
  ·rfl
 have hd:∀b,(σ.jr a es).dom b->σ.dom b:=λb d=>(aB d).elim id λq=>.inr (.inl (by rw[q,e];rfl));have Y:σ.jr a es={σ with Z:=clr σ.Z a}:=by unfold St.jr;rw[W]
 apply#[?_,λ_ _ e _ _=>e,λ_ _ e _=>e,λb d=>.inl (hd b d),λ_ o e=>#[o,e]];apply#[R.L,?_,R.S,R.I,λb o q=>?_,R.Ll,?_,R.inj,?_,R.sep,λb d=>R.new b (hd b d),R.base]
 ·rw[Y];show R.D
 ·rw[Y]at q ⊢;show R.Z b o (fS q).2
 ·rw[Y];show R.Dl
 ·rw[Y];show R.apart
def PE {ks Z:List Key}{h':Heap}(R:Rel G σ s.heap)(e:σ.S a=some ks)(W:Heap.SameBut a s.heap h')(Y:rg G h' a Z) :
  Rel G (σ.dZ a Z) h'/\Evo [] σ s.heap (σ.dZ a Z) h':=by
 have#[o,ag,ep,tt,B,hc,O,_]:=R.S _ _ e;have#[o',I,z,H,U,_]:=id Y;have x:At a s.heap h':=At.kN W B (rB O) U;have J:σ.S a=none->s.heap.get? a=none:=λq=>by rw[e]at q;cases q
 apply#[R.u5 x J Y,Evo.u5 x J _]
def VRs.one:VRs G h [v] ws->∃w,ws=[w]/\VR G h v w
 |⟨w,us,e,a,r⟩=>#[w,e.trans (bb (w::·) r),a]
def VRs.two {u:V}:VRs G h [v,u] ws->∃w w',ws=[w,w']/\VR G h v w/\VR G h u w'
 |⟨w,us,e,a,r⟩=>by have#[w',Z,b]:=VRs.one r;apply#[w,w',e.trans (bb (w::·) Z),a,b]
def tX {k:BM}{v:V}{vs:List V}{Q:V->St->Prop}(K:GOk G)(hk:k≠.sort)(R:Rel G σ s.heap)(vr:VR G s.heap v w)(J:VRs G s.heap vs ws)(h:MY k v vs σ Q) :
  wpAny G.M A (call (.builtin (ON k)) (w::ws)) (iv G [] σ s Q) E s:=by
 induction k using BM.casesOn
 case append =>
  replace h:=pf (v:=v) h;have#[a,rfl,h]:=h;have rfl:=vr;have#[x,rfl,xs,e,hz,q]:=bU (vs:=vs) h;have#[wa,rfl,va]:=J.one;have#[us,n,Y,O]:=R.L _ _ e;have Z:=O.length;apply gF eT #[_,Y,rfl] PySem.F.entry_list_append (PySem.F.args_list_append_2 _ _) (list_append _ _ _ _ (by simp only[bq];rw[<- Z];show md (cg .A .a .B hz))) #[Y,?_];have#[z,H]:=tM (f:=λx=>x.push wa) R e Y (O.append %[va|0]) (by simp;(show cg .I .a .B hz)) (by simp);apply#[.none,_,q,.none,z,H,rfl,rfl]
 case pop =>
  replace h:=pf (v:=v) h;have#[a,rfl,h]:=h;have rfl:=vr;have#[rfl,xs,v,e,q]:=xA (vs:=vs) h;have rfl:=J;have#[us,n,Y,O]:=R.L _ _ e;have Z:=O.length;have hz:=R.Ll _ _ e;have#[u,hu,vu]:=O.get (i:=xs.length) (v:=v) (by simp);have U:us.length=xs.length+1:=by rw[<- Z];simp
  apply gF PySem.F.slot_list_pop #[_,Y,rfl] PySem.F.entry_list_pop (PySem.F.args_list_pop_1 _) (MeetsSeq.list_pop_last _ _ _ u (by simp only[bq];rw[U];simpa using hu) (by simp only[bq];rw[<- Z];show md hz)) #[Y,?_];have#[z,H]:=tM (f:=λx=>x.eraseIdxIfInBounds (us.toArray.size-1)) (us:=us.take xs.length) R e Y (by simpa using O.take xs.length) (by simp at hz;(show cg .A .a .I hz)) (by
   have e:us.toArray.eraseIdxIfInBounds (us.toArray.size-1)=(us.eraseIdx (us.length-1)).toArray:=by simp
   rw[e,List.eraseIdx_eq_take_drop_succ];simp[U])
  apply#[v,_,q,vu.mono H.frz,z,H,rfl,rfl]
 case insert=>show False.elim h
 case extend =>
  replace h:=pf (v:=v) h;have#[a,rfl,h]:=h;have rfl:=vr;replace h:=bU (vs:=vs) h;have#[x,rfl,h]:=h;have#[b,rfl,xs,ys,bu,e1,e2,hz,q]:=pf (v:=x) h;have#[wa,rfl,rfl]:=J.one;have#[us,n,Y,O]:=R.L _ _ e1;have#[ts,m,bl,ao]:=R.L _ _ e2;have Z:=O.length;have U:=ao.length;have ag:us.length+ts.length<=sizeLine:=by rw[<- Z,<- U];show md hz
  apply gF PySem.F.slot_list_extend #[_,Y,rfl] PySem.F.entry_list_extend (PySem.F.args_list_extend_2 _ _) (AutoSeq1.list_extend_list_list_0 _ _ _ _ _ _ ?_ (by simp only[bq];(show gz .A .a (.k (.a .A .C) .B) ag)) (by simp only[bq];(show gz (.k .M .S) .a (.k .M .C) ag))) #[Y,bl,?_]
  ·simp only[bq,Builtin.List.listTooLong];rw[show sizeLine=16777216 from rfl]at ag;simp;intro _;first|omega|(unfold sizeLine;(show cg (.k .M (.n (2^24))) .a (.k .M (.n 16777216)) ag))
  ·have#[z,H]:=tM (f:=λx=>x++ts.toArray) R e1 Y (O.append ao) (by simpa using hz) (by simp);apply#[.none,_,q,.none,z,H,rfl,rfl]
 case index=>show False.elim h
 case count =>
  replace h:=pf (v:=v) h;have#[a,rfl,h]:=h;have rfl:=vr;replace h:=bU (vs:=vs) h;have#[x,rfl,h]:=h;have#[i,rfl,ns,e,q]:=pg (v:=x) h;have#[wa,rfl,#[t,rfl]]:=J.one;have#[us,n,Y,O]:=R.L _ _ e;show count_list_ints Y.isList (sr O) (iv.here q (.int _ _) R)
 case get =>
  replace h:=yg (v:=v) h;have#[a,rfl,h]:=h;have rfl:=vr;have#[x,y,rfl,es,kk,e,W,q]:=nJ (vs:=vs) h;have#[wa,wb,rfl,va,vb]:=J.two;have#[ds,hd,O]:=R.D _ _ e;have Y:=O.look kk;apply call_meetsIn PySem.F.slot_dict_get hd.typeIs PySem.F.entry_dict_get (PySem.F.args_dict_get_3 _ _ _) (meets_dict_get_default G.kk _ (key_is W va) (tc K R (.inr (.inl (by rw[e];rfl)))) _) #[_,hd.mapOf,?_];apply#[_,σ,q,Y.getD vb,R,Evo.refl _ _ _,rfl,rfl]
 case setdefault =>
  replace h:=yg (v:=v) h;have#[a,rfl,h]:=h;have rfl:=vr;have#[x,y,rfl,es,kk,e,W,hz,q]:=nJ (vs:=vs) h;have#[wa,wb,rfl,va,vb]:=J.two;have#[ds,hd,O]:=R.D _ _ e;have Y:=O.look kk;have Z:=O.length;apply call_meetsIn PySem.F.slot_dict_setdefault hd.typeIs PySem.F.entry_dict_setdefault (PySem.F.args_dict_setdefault_3 _ _ _) (kt_meets_setdefault G.kk _ (key_is W va) (tc K R (.inr (.inl (by rw[e];rfl)))) _) #[ds,hd,by rw[<- Z];show md (cg .A .a .B hz),λv' ao=>?_,λhn h' be ar=>?_]
  ·rw[ao]at Y;cases h1:es.lookup kk with
   |none=>rw[h1]at Y;show Y.elim
   |some u =>
    rw[h1]at Y q;simp only[Option.getD_some,Option.isSome_some,tu]at q;have#[z,H]:=yZ R e;apply#[u,_,q,Y,z,H,rfl,rfl]
  ·rw[hn]at Y;cases h1:es.lookup kk with
   |some u=>rw[h1]at Y;show Y.elim
   |none =>
    rw[h1]at q;simp only[Option.getD_none,vq,dn,ju]at q;have e2:=rE h1;have#[z,H]:=K7 R e ar be (O.put vb) (fk (bS _ _ _) (cg .I .a .B hz));rw[e2]at z H;apply#[_,_,q,vb.mono H.frz,z,H,rfl,rfl]
 case add =>
  replace h:=x9 (v:=v) h;have#[a,rfl,h]:=h;have rfl:=vr;replace h:=bU (vs:=vs) h;have#[x,rfl,h]:=h;have#[i,rfl,ks,e,hz,q]:=pg (v:=x) h;have#[wa,rfl,va]:=J.one;have hS:=R.S _ _ e;have bd:plainKind wa=true:=by have#[t,rfl]:=va;rfl
  have W:(V.int i).eI=some (.int i):=rfl;apply EC (key_is W va) (rZ W va) bd hS (by rw[show scanBound=4096 from rfl];(show fb (.l .L (.n 4096)) .a (.l .A (.n 4000)) hz)) λh' ar bn=>?_;have#[z,H]:=PE R e ar bn;apply#[.none,_,q,.none,z,H,rfl,rfl]
 case sort=>show absurd rfl hk
def KN {C:Cal}{sc:Scope}{d:Nat}{k:BM}{a:Ex}{es:Exs}{o:Expr}{args:List Expr}{apos pos:Pos}(K:GOk G)(hk:k≠.sort)(H:dk G C sc d a o)(J:oq G C sc d es args)(hb:lr o=true)(I:noStar args=true)(U:args.length<30)(Y:(apos.endLine==pos.line)=true) :
  dk G C sc d (.bm k a es) (.Call (.Attribute o (qA k) apos) args [] pos):=λ_ _ _ _ _ _ _ c h =>
 oh hb I U Y (kq (H c h) λv σ₁ s₁ w q vr r x pl =>
  nE r vr q.1 (og I J (c.go r x) q.2 λvs σ₂ s₂ ws W O r₂ Z =>
   (x.trans Z).back (tX K hk r₂ (vr.mono Z.frz) O W)))
end
variable {M:Model}{A:Around}{E:QqV}{s:Shared}
abbrev ui (p:Arguments):Bool:=p.posonlyargs.isEmpty&&p.kwonlyargs.isEmpty&&p.vararg.isNone&&p.kwarg.isNone
abbrev addDefaults:List (Str×Value)->List (Str×Value)->List (Str×Value)
 |slots,[]=>slots
 |slots,(n,d)::r=>addDefaults (if (slots.lookup n).isNone then slots++[(n,d)] else slots) r
def xg (f:Str×Value->List (Str×Value)->Sem (ForInStep (List (Str×Value))))
  (Z:∀n d slots,f (n,d) slots=if (slots.lookup n).isNone then pure (.yield (slots++[(n,d)])) else pure (.yield slots)) :
  ∀(l:List (Str×Value)) (slots:List (Str×Value)) (Q:List (Str×Value)->Shared->Prop),Q (addDefaults slots l) s->wpAny M A (forIn l slots f) Q E s
 | []=>λslots Q h=>by rw[mz];show ab h
 |(n,d)::r=>λslots Q h=>by
  rw[oe,Z];apply aa ?_;dsimp only[addDefaults]at h;split
  ·rename_i Y;rw[br Y]at h;show ab (xg f Z r _ Q h)
  ·rename_i Y;rw[az Y]at h;show ab (xg f Z r _ Q h)
def xp:∀(l₁ l₂ slots:List (Str×Value)),addDefaults slots (l₁++l₂)=addDefaults (addDefaults slots l₁) l₂
 | []=>λ_ _=>rfl
 |(n,d)::r=>λl₂ slots=>by rw[List.cons_append];dsimp only[addDefaults];show xp r l₂ _
def aE:∀(l slots:List (Str×Value)),(∀p∈l,(slots.lookup p.1).isSome=true)->addDefaults slots l=slots
 | []=>λ_ _=>rfl
 |(n,d)::r=>λslots h=>by
  have W:=h (n,d) (.head _);dsimp only[addDefaults];rw[az (by cases Y:slots.lookup n<;>simp_all)];show aE r slots λp Z=>h p (.tail _ Z)
def uw {slots:List (Str×Value)}{n:Str}(h:n∈slots.map (·.1)):(slots.lookup n).isSome=true:=by
 cases hq:slots.lookup n with
 |some v=>rfl
 |none =>
  rw[qo]at hq;have Z:=bg.mp h
  try clear h
  have#[p,Y,rfl]:=Z;have:=hq p Y;simp at this
def lookup_none_of_not_mem {slots:List (Str×Value)}{n:Str}(h:n∉slots.map (·.1)):slots.lookup n=none:=by
 rw[qo];intro p Z;simp only[bne_iff_ne,ne_eq,uo];rintro rfl;show h (bg.mpr #[p,Z,rfl])
def b7:∀(l slots:List (Str×Value)),(l.map (·.1)).Nodup->(∀n∈l.map (·.1),n∉slots.map (·.1))->addDefaults slots l=slots++l
 | []=>λ_ _ _=>(cy _).symm
 |(n,d)::r=>λslots Z h=>by
  simp only[gv,List.nodup_cons]at Z;have U:=h n (.head _);dsimp only[addDefaults];rw[br (by rw[lookup_none_of_not_mem U];rfl)]
  rewrite [b7 r _ Z.2 λm Y=>?_]
  ·simp
  ·have W:=h m (.tail _ Y);simp only[dw,gv,List.map_nil,fh,ax,not_or];apply#[W,λe=>Z.1 (e▸Y)]
def qY {n₁ n₂:List Str}{vals d₁ d₂:List Value}(I:(n₁++n₂).Nodup)(z:n₁.length=vals.length)(H:n₂.length=d₂.length)(J:d₁.length<=n₁.length) :
  addDefaults ((n₁++n₂).zip vals) (((n₁++n₂).drop ((n₁++n₂).length-(d₁++d₂).length)).zip (d₁++d₂))=(n₁++n₂).zip (vals++d₂):=by
 have e0:(n₁++n₂).zip vals=n₁.zip vals:=by
  have:=List.zip_append (l₁:=n₁) (r₁:=n₂) (l₂:=vals) (r₂:=[]) z;simpa using this
 have e1:(n₁++n₂).drop ((n₁++n₂).length-(d₁++d₂).length)=n₁.drop (n₁.length-d₁.length)++n₂:=by
  rw[cv,cv,show n₁.length+n₂.length-(d₁.length+d₂.length)=n₁.length-d₁.length by show Ar.a3 [] [_,_,_,_,_,_] .G [[1,-1,-1,1],[1,1,1,-1]] (.e .C .D) (.e (.a .A (.a .F .D)) (.a .G .C)) (.e (.a .B .F) .G) H (ae (jm (.k .M (.a .C .D)) .k (.e .D .B) (.k .A .C) H J)) (ae (cg .A .a .A J)),List.drop_append,show n₁.length-d₁.length-n₁.length=0 by(show Ar.sub _ _ (λU Y=>(Ar.sub _ _ (λW Z=>(jm (.e .A .O) [[1,0,0],[1,1,1]] (.e .M .C) (.e (.a .C .D) .B) Y Z)) λW Z=>(gr (.e .A .O) [[1,0,0],[1,1,1]] (.e .M .C) (.e .C .O) Y Z))) λU Y=>(fb (.e .A .O) [[1,0],[1,1]] (.e .A .O) Y))];rfl
 have f1:(n₁.zip vals).map (·.1)=n₁:=List.map_fst_zip (cg .A .a .G z);have f2:(n₂.zip d₂).map (·.1)=n₂:=List.map_fst_zip (cg .A .a .G H);have hd:=dT.mp I;rw[e0,e1,List.zip_append (by rw[ix];(show Ar.sub _ _ (λU Y=>(Ar.sub _ _ (λW Z=>(jm .G [[1,-1,1],[1,1,-1]] (.e (.a .A .C) .D) (.e (.a .C .B) .D) Y Z)) λW Z=>(i9 .G [[1,1,-1,0,1],[1,0,1,1,0]] (.k .B .C) (.e (.a .A .D) .C) .F (.e .D .O) J Y W Z))) λU Y=>(Ar.sub _ _ (λW Z=>(rq .G [[1,1,0,1],[1,0,1,0]] (.k .C .D) (.e .A .O) (.e (.a .D .B) .C) U Y Z)) λW Z=>(i9 .G [[1,1,1,0,1],[1,0,0,1,0]] (.k .B .C) (.k .C .D) (.e .A .O) (.e .D .O) J U Y Z)))),xp];have e2:addDefaults (n₁.zip vals) ((n₁.drop (n₁.length-d₁.length)).zip d₁)=n₁.zip vals:=aE _ _ λp hp=>by
  apply uw ?_;rw[f1];show List.mem_of_mem_drop (List.of_mem_zip hp).1
 rw[e2,b7,List.zip_append z]
 ·rw[f2];show hd.2.1
 ·intro n hn hm;rw[f1]at hm;rw[f2]at hn;show hd.2.2 n hm n hn rfl
def yY {ns:List Str}{vals ds:List Value}(J:ns.Nodup)(z:vals.length<=ns.length)(h2:ns.length<=vals.length+ds.length)(I:ds.length<=ns.length) :
  addDefaults (ns.zip vals) ((ns.drop (ns.length-ds.length)).zip ds)=ns.zip (vals++ds.drop (ds.length-(ns.length-vals.length))):=by
 have en:=j8 vals.length ns;have ed:=j8 (ds.length-(ns.length-vals.length)) ds;have:=qY (n₁:=ns.take vals.length) (n₂:=ns.drop vals.length) (vals:=vals) (d₁:=ds.take (ds.length-(ns.length-vals.length))) (d₂:=ds.drop (ds.length-(ns.length-vals.length)))
  (by rw[en];show J) (by rw[fq];(show(Ar.nr _ _).2.2.elim (λW=>(mn .G .g .A (.k .B .A) (Ar.nr _ _).1 W)) λW=>(tq .G [[1,1,0,1],[1,0,1,0]] (.k .B .C) .A (.k .C .A) z (Ar.nr _ _).1 W))) (by rw[ix,ix];(show Ar.sub _ _ (λW Z=>(Ar.sub _ _ (λY U=>(jm .G [[1,1,-1],[1,-1,1]] (.e (.a .B .C) .D) (.e (.a .C .A) .D) Z U)) λY U=>(Ar.a5 [] [_,_,_,_,_,_] .G [[1,0,0,1,1,0],[1,1,1,-1,0,1]] (.k .C (.a .D .F)) (.e (.a .A .D) .C) (.e (.a .B .G) .F) (.k .F .A) (.e .G .O) h2 (ae (cg .A .a .A z)) Z Y U))) λW Z=>(Ar.sub _ _ (λY U=>(rq .G [[1,0,1,0],[1,1,0,1]] (.k .C .D) (.e .B .O) (.e (.a .D .A) .C) W Z U)) λY U=>(Ar.a5 [] [_,_,_,_,_,_] .G [[1,0,0,0,1,0],[1,1,1,1,0,1]] (.k .C (.a .D .F)) (.e (.a .A .D) .C) (.k .F .G) (.e .B .O) (.e .G .O) h2 (ae (cg .A .a .A z)) W Z U)))) (by rw[fq,fq];(show Ar.sub _ _ (λW Z=>((Ar.nr _ _).2.2.elim (λY=>(Ar.sub _ _ (λq3 p3=>(Ar.a5 [] [_,_,_,_,_,_,_] .A [[1,1,1,1,1,-1]] (.k .C .D) (.k .A .F) (.e (.a .F .G) .C) (.k .H .B) (.e (.a .G .H) .D) I (Ar.nr _ _).1 Z Y p3)) λq3 p3=>(Ar.a5 [] [_,_,_,_,_,_,_] .A [[1,1,1,1,1,1]] (.k .C .D) (.k .A .F) (.e (.a .F .G) .C) (.k .H .B) (.k .D .H) I (Ar.nr _ _).1 Z Y q3))) λY=>(rq .A .e (.k .C .D) (.k .A .C) (.k .D .B) I (Ar.nr _ _).2.1 Y))) λW Z=>(gr .A .b (.k .A .C) (.e .C .O) (Ar.nr _ _).1 Z)))
 rw[en,ed]at this;show this
def rH:∀(ms:List Str) (n:Str) (u:Value) (l:List (Str×Value)),n∉ms->(ms.filterMap λm=>(((n,u)::l).lookup m).map (m,·))=ms.filterMap λm=>(l.lookup m).map (m,·)
 | []=>λ_ _ _ _=>rfl
 |m::ms=>λn u l h=>by
  simp only[bz,not_or]at h;have e:((n,u)::l).lookup m=l.lookup m:=by rw[jz,uo.mpr (kz h.1)]
  simp only[uu,e,rH ms n u l h.2]
def rI:∀{ns:List Str} {us:List Value},ns.Nodup->us.length=ns.length->(ns.filterMap λn=>((ns.zip us).lookup n).map (n,·))=ns.zip us
 | [],_,_,_=>by simp
 |n::ns,[],_,h=>by simp at h
 |n::ns,u::us,Z,h=>by
  simp only[List.nodup_cons]at Z;have Y:=rI (ns:=ns) (us:=us) Z.2 (by simpa using h);simp only[List.zip_cons_cons,uu,List.lookup_cons_self,Option.map_some];rw[rH ns n u _ Z.1,Y]
def wB {α:Type}{c:Bool}{a b:Sem α}{Q:α->Shared->Prop}(Z:c=false)(h:wpAny M A b Q E s):wpAny M A (if c=true then a else b) Q E s:=by
 subst Z;show h
section
variable {ns:List Str}{vals ds xs:List Value}
def EJ (h:vals.length<=ns.length):(decide (vals.length>ns.length)&&true)=false:=by
 rw[cw (th.mpr h)];rfl
def A6 (J:xs=ds)(h1:vals.length<=ns.length)(z:ns.length<=vals.length+ds.length)(U:ds.length<=ns.length) :
  (!((ns.take (ns.length-(xs.drop (xs.length-ns.length)).length)).filter λn=>((ns.zip vals).lookup n).isNone).isEmpty)=false:=by
 subst J;rw[nk U,cK,Bool.not_eq_false',ub,List.filter_eq_nil_iff];intro n Y O;have e0:ns.zip vals=(ns.take vals.length).zip vals:=by
  have:=List.zip_append (l₁:=ns.take vals.length) (r₁:=ns.drop vals.length) (l₂:=vals) (r₂:=[]) (by rw[fq];(show(Ar.nr _ _).2.2.elim (λZ=>(mn .G .g .A (.k .B .A) (Ar.nr _ _).1 Z)) λZ=>(tq .G [[1,1,0,1],[1,0,1,0]] (.k .B .C) .A (.k .C .A) h1 (Ar.nr _ _).1 Z)));rw[j8,cy,List.zip_nil_right,cy]at this;show this
 have I:n∈(ns.zip vals).map (·.1):=by
  rw[e0,List.map_fst_zip (by rw[fq];(show cg .A .a .A (Ar.nr _ _).1))];rw[List.mem_take_iff_getElem]at Y ⊢;have#[i,W,e]:=Y;apply#[i,by(first|show(Ar.nr _ _).2.2.elim (λZ=>(Ar.a5 [] [_,_,_,_,_,_,_] .B [[1,1,1,1,1,1]] (.k .C (.a .D .F)) (.l .A .G) (.k .G .H) (.e (.a .H .F) .C) (.k .D .B) z W (Ar.nr _ _).1 (ae (cg .A .a .A U)) Z)) λZ=>(rq .B .e .H (.k .C .D) (.k .D .B) W (Ar.nr _ _).2.1 Z)|omega),e]
 cases (uw I).symm.trans (bb _ (uf.mp O))
def fX {n v d:Nat}(Y:v<=n)(Z:n<=v+d):v+(d-(d-(n-v)))=n:=by
 rw[Nat.sub_sub_self (Nat.sub_le_iff_le_add'.mpr Z),Nat.add_sub_cancel' Y]
def A7 (O:xs=ds)(Z:ns.Nodup)(U:vals.length<=ns.length)(W:ns.length<=vals.length+ds.length)(Y:ds.length<=ns.length) :
  ((ns++[]).filterMap λn=>((addDefaults (ns.zip vals) ((ns.drop (ns.length-(xs.drop (xs.length-ns.length)).length)).zip (xs.drop (xs.length-ns.length)))).lookup n).map (n,·))=ns.zip (vals++ds.drop (ds.length-(ns.length-vals.length))):=by
 subst O;rw[nk Y,cK,cy,yY Z U W Y];show rI Z (by rw[cv,ix];show fX U W)
end
def IW {nm qn:Str}{args:List Arg}{kd dfs body sc gl clo df kdf dc pm cd bl ct bu}{vals ds:List Value}{Q:List (Str×Value)->Shared->Prop}
  (hd:∀(Q:Option (Array Value)->Shared->Prop),(∀o,(o.getD #v[]).toList=ds->Q o s)->wpAny M A (seqItems? df) Q E s)
  (Z:(args.map (·.arg)).Nodup) (Y:vals.length<=(args.map (·.arg)).length) (O:(args.map (·.arg)).length<=vals.length+ds.length) (U:ds.length<=(args.map (·.arg)).length)
  (h:Q ((args.map (·.arg)).zip (vals++ds.drop (ds.length-((args.map (·.arg)).length-vals.length)))) s):wpAny M A (bindArgs #[nm,qn,#[[],args,none,[],kd,none,dfs],body,sc,gl,clo,df,kdf,dc,pm,cd,bl,ct,bu] #[vals,[]]) Q E s:=
 aa (m:=forIn [] _ _) (ab (aa (hd _ λo W=>wB (EJ Y) (wB (A6 W Y O U) (aa (xg _ (λn d slots=>rfl) _ _ _ (aa (m:=forIn [] _ _) (ab (ab (A7 W Z Y O U▸h))))))))))
def vQ {fd:FuncData}{vals ds:List Value}{Q:List (Str×Value)->Shared->Prop}(Z:ui fd.params=true)
  (hd:∀(Q:Option (Array Value)->Shared->Prop),(∀o,(o.getD #v[]).toList=ds->Q o s)->wpAny M A (seqItems? fd.defaults) Q E s)
  (Y:(fd.params.args.map (·.arg)).Nodup) (O:vals.length<=fd.params.args.length) (U:fd.params.args.length<=vals.length+ds.length) (W:ds.length<=fd.params.args.length)
  (h:Q ((fd.params.args.map (·.arg)).zip (vals++ds.drop (ds.length-(fd.params.args.length-vals.length)))) s):wpAny M A (bindArgs fd #[vals,[]]) Q E s:=by
 have B:(fd.params.args.map (·.arg)).length=fd.params.args.length:=ai _;rw[<- B]at O U W h;have e:fd.params=#[[],fd.params.args,none,[],fd.params.kw_defaults,none,fd.params.defaults]:=by
  clear O U W h hd Y B;cases fd with|mk nm qn p =>
  cases p with|mk po args J I kd H dfs =>
  have#[Z,h4]:=band Z;have#[Z,h5]:=band Z;have#[h6,z]:=band Z;show congr (congr (congr (bb (λpo J I H=>Arguments.mk po args J I kd H dfs) (ub.mp h6)) (uf.mp h5)) (ub.mp z)) (uf.mp h4)
 have:=IW (nm:=fd.name) (qn:=fd.qualname) (kd:=fd.params.kw_defaults) (dfs:=fd.params.defaults) (body:=fd.body) (sc:=fd.scope) (gl:=fd.globals) (clo:=fd.closure) (df:=fd.defaults) (kdf:=fd.kwdefaults) (dc:=fd.doc) (pm:=fd.pyModule) (cd:=fd.annotations) (bl:=fd.code) (ct:=fd.closureTuple) (bu:=fd.builtins) hd Y O U W h;rw[<- e]at this;show this
variable {h:Heap}{v:V}{w:Value}{s₁:Shared}{A:Around}{E:QqV}{X:List Addr}{i:Nat}{x:Str}{k:NameKind}{ρ:Fr}{Q:Unit->Shared->Prop}
abbrev envX (env:Env):List Addr:=env.locals::env.cells.map (·.2)
abbrev FlR (G:Stc)(h:Heap):Fl->Flow->Prop
 |.next=>λf=>f=.next
 |.brk=>λf=>f=.brk
 |.cont=>λf=>f=.cont
 |.ret v=>λf=>∃w,f=.ret w/\VR G h v w
def FlR.next {G:Stc}:FlR G h .next .next:=rfl
def FlR.brk {G:Stc}:FlR G h .brk .brk:=rfl
def FlR.cont {G:Stc}:FlR G h .cont .cont:=rfl
def FlR.ret {G:Stc}(x:VR G h v w):FlR G h (.ret v) (.ret w):=#[w,rfl,x]
inductive qd (G:Stc)(env:Env)(σ:St)(s:Shared)(K:Fl->Fr->St->Prop)(f:Flow)(s':Shared):Prop
 |mk (fl:Fl) (ρ':Fr) (σ':St):FlR G s'.heap fl f->K fl ρ' σ'->FR G σ' env ρ' s'.heap->Rel G σ' s'.heap->Go (envX env) σ s σ' s'->qd G env σ s K f s'
inductive oH (G:Stc)(env:Env)(σ:St)(s:Shared)(K:Fr->St->Prop)(s':Shared):Prop
 |mk (ρ':Fr) (σ':St):K ρ' σ'->FR G σ' env ρ' s'.heap->Rel G σ' s'.heap->Go (envX env) σ s σ' s'->oH G env σ s K s'
def mem_of_lookup {α Z:Type}[BEq α][LawfulBEq α]{l:List (α×Z)}{x:α}{c:Z}(h:l.lookup x=some c):(x,c)∈l:=by
 induction l with
 |nil=>simp at h
 |cons p r W =>
  have#[y,b]:=p;rw[jz]at h;split at h
  ·rename_i Y;cases h;rw[vp]at Y;subst Y;show .head _
  ·show .tail _ (W h)
section
variable {G:Stc}{env:Env}{σ σ₁:St}{s:Shared}{h₁:Heap}{tk:Nat}
def Go.wide (x:Go [] σ s σ₁ s₁):Go (envX env) σ s σ₁ s₁:=x.more λ_ h=>(nomatch h)
def qd.back {K:Fl->Fr->St->Prop}{f:Flow}{s':Shared}(x:Go (envX env) σ s σ₁ s₁):qd G env σ₁ s₁ K f s'->qd G env σ s K f s'
 |⟨Z,ρ',σ',a,b,c,d,e⟩=>#[Z,ρ',σ',a,b,c,d,x.trans e]
def oH.back {K:Fr->St->Prop}{s':Shared}(x:Go (envX env) σ s σ₁ s₁):oH G env σ₁ s₁ K s'->oH G env σ s K s'
 |⟨ρ',σ',b,c,d,e⟩=>#[ρ',σ',b,c,d,x.trans e]
def Go.EL {M:Model}{s₂:Shared}{t:Sem Flow}{K:Fl->Fr->St->Prop}(x:Go (envX env) σ s σ₁ s₁)(h:wpAny M A t (qd G env σ₁ s₁ K) E s₂):wpAny M A t (qd G env σ s K) E s₂:=bt h (λ_ _=>qd.back x) λ_ _ x=>x
def Rel.frame {h':Heap}{a:Addr}{o':Obj}(R:Rel G σ h)(Z:Heap.SameBut a h h')(hd:¬σ.dom a)(hb:G.hb.get? a=none)(Y:gf h h'):Rel G σ h':=
 R.same (λb o e d=>by rw[Z.2 b (λhb=>hd (hb▸d))];show e) Y λb o e=>by rw[Z.2 b (λh=>by subst h;rw[hb]at e;cases e)];show R.base b o e
def Evo.frame {h':Heap}{a:Addr}{o':Obj}(Z:Heap.SameBut a h h')(U:h'.get? a=some o')(O:a∈X)(W:gf h h'):Evo X σ h σ h':=
 #[λb o e _ Y=>by rw[Z.2 b (λhb=>Y (hb▸O))];show e,W,λb d=>.inl d,yt Z U]
def fB {names:List (Str×NameKind)}(W:(names.map (·.1)).Nodup){j:Nat}{k':NameKind}(O:names[i]?=some (x,k))(U:names[j]?=some (x,k')):i=j:=by
 have Y:(names.map (·.1))[i]?=some x:=by rw[bw,O];rfl
 have J:(names.map (·.1))[j]?=some x:=by rw[bw,U];rfl
 have Z:i<(names.map (·.1)).length:=(cf.mp Y).1;show(List.getElem?_inj Z W).mp (Y.trans J.symm)
abbrev nR (k:NameKind):Bool:=k==.local||k==.cell
abbrev Own (G:Stc)(x:Str)(k:NameKind):Prop:=nR k=true/\(k=.cell->G.cap x=false)
def dW (eo:yo env)(F:FR G σ env ρ s.heap)(R:Rel G σ s.heap)
  (hi:env.scope.names[i]?=some (x,k)) (hk:nR k=true) (hN:∀c,env.cells.lookup x=some c->k=.cell->G.hb.get? c=none) (vr:VR G s.heap v w) (bM:env.locals∈X) (bd:∀c,env.cells.lookup x=some c->k=.cell->c∈X)
  (q:∀s',FR G σ env (upd ρ i v) s'.heap->Rel G σ s'.heap->Go X σ s σ s'->Q () s'):wpAny G.M A (storeName env x w) Q E s:=by
 have W:env.kindOf x=some k:=rp eo.nd hi;cases k with
 | «local» =>
  have#[m,hn,hm]:=F.ns;apply wpAny_storeName_local W hn (λh' ag O=>?_) (by rw[eo.kind];rfl);have H:gf s.heap h':=pq O F.notfrz;have#[o',ca,cb,z,ao,_]:=id ag;have R':=R.frame (o':=o') O F.loc F.new H;apply q _ #[#[_,ag,λj y Y=>?_],λj y k' Y I=>?_,F.inj,F.loc,λo e=>?_,F.new,λp hp=>by have#[o,e]:=F.allc p hp;show yt O z _ o e] R' #[Evo.frame O z bM H,rfl,rfl]
  ·by_cases Z:j=i
   ·try clear ag
    subst Z;rw[hi]at Y;cases Y;simp only[ay,tu];show vr.mono H
   ·have bu:y≠x:=λe=>Z (by subst e;show fB eo.nd Y hi);simp only[bh Z,bu,ju];show(hm j y Y).mono H
  ·have#[c,w',h1,#[oc,B,hd],h3,h4,h5,h6]:=F.cells j y k' Y I;have Z:j≠i:=λe=>by
    subst e;rw[hi]at Y;cases Y;rcases I with h|h<;>cases h
   apply#[c,w',h1,#[oc,by rw[O.2 c h5];show B,hd],?_,h4,h5,h6];rw[bh Z];show h3.mono H
  ·rw[z]at e;cases e;show nu ao
 |cell =>
  try clear h1
  have#[c,bR,hc,U,o,h4,h5,h6]:=F.cells i x _ hi (.inl rfl);have h7:=hN c hc rfl;apply wpAny_storeName_cell eo.kind W hc U λh' ar O=>?_;have#[oc,B,hd]:=id U;have#[bn,J,ao]:=id ar;have H:gf s.heap h':=pq O λo e=>by rw[B]at e;cases e;show q5 hd
  have R':=R.frame (o':=bn) O h4 h7 H;have hX:c∈X:=bd c hc rfl;have#[m,#[o2,es,ep,bv,r2],hm]:=F.ns;apply q _ #[#[m,#[o2,es,ep,by rw[O.2 _ h5.symm];show bv,r2],λj y Y=>?_],λj y k' Y I=>?_,F.inj,F.loc,λo e=>?_,F.new,λp hp=>by have#[o,e]:=F.allc p hp;show yt O J _ o e] R' #[Evo.frame O J hX H,rfl,rfl]
  ·have Z:j≠i:=λe=>by subst e;rw[hi]at Y;cases Y
   rw[bh Z];show(hm j y Y).mono H
  ·have#[c2,w2,g1,#[bl,be,gd],g3,g4,g5,g6]:=F.cells j y k' Y I;by_cases Z:j=i
   ·clear q
    try clear q
    try clear hN
    try clear bd
    try clear W
    try clear B
    try clear J
    try clear U
    subst Z;rw[hi]at Y;cases Y;rw[hc]at g1;cases g1;apply#[c,some w,hc,ar,by rw[ay];show vr.mono H,h4,h5,h6]
   ·have bL:c2≠c:=λe=>by subst e;show Z (F.inj j i y x k' _ c2 Y hi I (.inl rfl) g1 hc)
    apply#[c2,w2,g1,#[bl,by rw[O.2 _ bL];show be,gd],?_,g4,g5,g6];rw[bh Z];show g3.mono H
  ·rw[O.2 _ h5.symm]at e;show F.notfrz o e
 |_=>cases hk
def H5 (F:FR G σ env ρ h)(hi:env.scope.names[i]?=some (x,k))(hk:Own G x k):∀c,env.cells.lookup x=some c->k=.cell->G.hb.get? c=none:=λc W e=>by
 have#[O,Y,Z,_,_,_,_,U]:=F.cells i x _ hi (.inl e);rw[W]at Z;cases Z;show U (hk.2 e)
def dX (O:yo env)(F:FR G σ env ρ s.heap)(R:Rel G σ s.heap)
  (W:env.scope.names[i]?=some (x,k)) (hk:Own G x k) (vr:VR G s.heap v w) (Z:env.locals∈X) (Y:∀c,env.cells.lookup x=some c->c∈X)
  (q:∀s',FR G σ env (upd ρ i v) s'.heap->Rel G σ s'.heap->Go X σ s σ s'->Q () s'):wpAny G.M A (storeName env x w) Q E s:=
 dW O F R W hk.1 (H5 F W hk) vr Z (λc U _=>Y c U) q
def ug (W:yo env)(F:FR G σ env ρ s.heap)(R:Rel G σ s.heap)
  (Z:env.scope.names[i]?=some (x,k)) (hk:Own G x k) (vr:VR G s.heap v w)
  (q:∀s',FR G σ env (upd ρ i v) s'.heap->Rel G σ s'.heap->Go (envX env) σ s σ s'->Q () s'):wpAny G.M A (storeName env x w) Q E s:=
 dX W F R Z hk vr (.head _) (λc Y=>.tail _ (bg.mpr #[(x,c),mem_of_lookup Y,rfl])) q
end
variable {xs:List Stmt}{pos:Pos}{x:Expr}
abbrev vm (G:Stc)(C:Cal)(sc:Scope)(d:Nat)(st:Stm)(x:Stmt):Prop:=
 ∀⦃A E env ρ σ K s⦄,Cx G sc d A env ρ σ s->wpS C st ρ σ K->wpAny G.M A (exec x env) (qd G env σ s K) E s
abbrev dO (G:Stc)(C:Cal)(sc:Scope)(d:Nat)(st:jo)(xs:List Stmt):Prop:=
 ∀⦃A E env ρ σ K s⦄,Cx G sc d A env ρ σ s->dt C st ρ σ K->wpAny G.M A (execs xs env) (qd G env σ s K) E s
section
variable {G:Stc}{C:Cal}{sc:Scope}{d:Nat}
def qd.here {env:Env}{σ:St}{s:Shared}{tk:Nat}{K:Fl->Fr->St->Prop}{Z:Fl}{f:Flow}{ρ:Fr}(a:FlR G s.heap Z f)(q:K Z ρ σ)(F:FR G σ env ρ s.heap)(R:Rel G σ s.heap):qd G env σ s K f {s with toks:=tk}:=
 #[Z,ρ,σ,a,q,F,R,Go.refl.tok]
def qd.yk {A:Around}{env:Env}{σ:St}{s:Shared}{K:Fl->Fr->St->Prop}{Z:Fl}{f:Flow}{ρ:Fr}(a:FlR G s.heap Z f)(q:K Z ρ σ)(c:Cx G sc d A env ρ σ s):qd G env σ s K f s:=
 #[Z,ρ,σ,a,q,c.F,c.R,.refl]
def yW:dO G C sc d .nil []:=λ_ _ _ _ _ _ _ c h=>wpAny_execs_nil (qd.yk .next h c)
def tZ {st:Stm}{r:jo}{x:Stmt}(h₁:vm G C sc d st x)(Z:dO G C sc d r xs):dO G C sc d (.cons st r) (x::xs):=λ_ _ _ _ _ _ _ c h =>
 nv (bt (h₁ c h) (λf s' l=>by
  have#[O,ρ',σ',a,q,U,W,Y]:=l;cases O with
  |next=>have rfl:=a;show Y.EL (Z (c.at U W) q)
  |brk=>have rfl:=a;apply#[.brk,ρ',σ',.brk,q,U,W,Y]
  |cont=>have rfl:=a;apply#[.cont,ρ',σ',.cont,q,U,W,Y]
  |ret v=>have#[w,rfl,v]:=a;apply#[_,ρ',σ',.ret v,q,U,W,Y]) λ_ _ x=>x)
def BC:vm G C sc d .pass (.Pass pos):=λ_ _ _ _ _ _ _ c h=>wpAny_Pass (qd.yk .next h c)
def GN:vm G C sc d .brk (.Break pos):=λ_ _ _ _ _ _ _ c h=>by
 show wpAny G.M _ (do standAt pos;pure Flow.brk) _ _ _;show aa (er (ab (qd.yk .brk h c)))
def BN:vm G C sc d .cont (.Continue pos):=λ_ _ _ _ _ _ _ c h=>by
 show wpAny G.M _ (do standAt pos;pure Flow.cont) _ _ _;show aa (er (ab (qd.yk .cont h c)))
def BK {x:Stmt}:vm G C sc d .dead x:=λ_ _ _ _ _ _ _ c h=>h.elim
def yS:dk G C sc d .dead x:=λ_ _ _ _ _ _ _ c h=>h.elim
def yR:rt G C sc d .dead x:=λ_ _ _ _ _ _ _ c h=>h.elim
def G6 {e:Ex}(Z:dk G C sc d e x):vm G C sc d (.ret e) (.Return (some x) pos):=λ_ _ _ _ _ _ _ c h =>
 wpAny_Return_some (kq (Z c h) λv σ₁ s₁ w q vr r x=>#[.ret v,_,σ₁,.ret vr,q,c.F.evo x.e,r,x.wide])
def BB:vm G C sc d (.ret .none) (.Return none pos):=λ_ _ _ _ _ _ _ c h =>
 wpAny_Return_none (qd.yk (.ret .none) h c)
abbrev vh (x:Expr):Bool:=!(bC 8 x||(bC 9 x||bC 10 x))
def yc {e:Expr}(h:vh e=true)(t:Option Expr)(n:Nat)(env:Env):swapsWith e t n env=pure false:=by
 induction e using Expr.casesOn<;>first|rfl|show Bool.noConfusion h
def BI {e:Ex}(Z:dk G C sc d e x)(Y:vh x=true):vm G C sc d (.expr e) (.Expr x pos):=λ_ _ _ _ _ _ _ c h =>
 wpAny_Expr (kq (Z c h) λv σ₁ s₁ w q vr r x=>by
  have#[rfl,q]:=q;have rfl:=vr;apply#[.next,_,σ₁,.next,q,c.F.evo x.e,r,x.wide]) (by unfold interactive;rw[c.eo.kind];rfl) (yc Y _ _ _)
def BO {c:Ex}{t e:jo}{ys:List Stmt}(W:rt G C sc d c x)(Z:dO G C sc d t xs)(Y:dO G C sc d e ys):vm G C sc d (.C c t e) (.If x xs ys pos):=λ_ _ _ _ _ _ _ c h =>
 wpAny_If (kE (W c h) λb σ₁ s₁ q r x=>by
  cases b with
  |true=>show x.wide.EL (Z (c.go r x) q)
  |false=>show x.wide.EL (Y (c.go r x) q))
abbrev NP (C:Cal)(c:Ex)(b:jo)(K:Fl->Fr->St->Prop)(again:Fr->St->Prop)(ρ:Fr)(σ:St):Prop:=wpT C c ρ σ λt σ=>if t then dt C b ρ σ (wm again K) else K .next ρ σ
inductive K4 (G:Stc)(C:Cal)(env:Env)(c:Ex)(b:jo)(K:Fl->Fr->St->Prop)(σ:St)(s:Shared)(n:Nat)(s':Shared):Prop
 |mk (ρ':Fr) (σ':St):xG (NP C c b K) n ρ' σ'->FR G σ' env ρ' s'.heap->Rel G σ' s'.heap->Go (envX env) σ s σ' s'->K4 G C env c b K σ s n s'
def BH {c:Ex}{b:jo}(hc:rt G C sc d c x)(hb:dO G C sc d b xs):vm G C sc d (.loop c b) (.While x xs [] pos):=λA E env ρ σ K s J h=>by
 have#[n,h]:=h;apply wpAny_While (codeAny_whileLoop (K4 G C env c b K σ s) ?_ n #[ρ,σ,h,J.F,J.R,.refl]);intro n s' z;have#[ρ',σ',B,I,R',H]:=z;cases n with
 |zero=>show B.elim
 |succ n =>
  apply kE (hc (J.at (A:=_) I R') B) λt σ₁ s₁ q r y=>?_;clear h B;cases t with
  |false=>show wpAny_execs_nil #[.next,ρ',σ₁,.next,q,I.evo y.e,r,H.trans y.wide]
  |true =>
   apply bt (hb ((J.at I R').go r y) q) (λf s₂ l=>?_) λ_ _ x=>x;have#[fl,Z,σ₂,a,Y,U,W,O]:=l;have x3:=H.trans (y.wide.trans O);clear q y H O r R' I J hc hb;cases fl with
   |next=>have rfl:=a;apply#[n,qi n,Z,σ₂,Y,U,W,x3]
   |cont=>have rfl:=a;apply#[n,qi n,Z,σ₂,Y,U,W,x3]
   |brk=>have rfl:=a;apply#[.next,Z,σ₂,.next,Y,U,W,x3]
   |ret v=>have#[w,rfl,v]:=a;apply#[_,Z,σ₂,.ret v,Y,U,W,x3]
end
end MP
end
section
set_option tactic.hygienic true
namespace MP
open PySem PyProof.Rows
variable {σ:St}{h h':Heap}{i:Nat}{pos:Pos}{A:Around}{E:QqV}{s:Shared}{Q:Unit->Shared->Prop}{items:Array Value}{vs:List V}{env:Env}
abbrev LU (G:Stc)(env:Env)(σ:St)(s:Shared)(K:Fr->St->Prop):Unit->Shared->Prop:=λ_ s'=>oH G env σ s K s'
abbrev iB (G:Stc)(C:Cal)(sc:Scope)(d:Nat)(t:Tgt)(x:Expr):Prop:=
 ∀⦃A E env ρ σ K s v w⦄,Cx G sc d A env ρ σ s->VR G s.heap v w->J5 C t v ρ σ K->wpAny G.M A (assign x env w) (LU G env σ s K) E s
section
variable {G:Stc}{C:Cal}{sc:Scope}{d:Nat}
def Rel.keeps (R:Rel G σ h)(hk:∀b o,h.get? b=some o->h'.get? b=some o):Rel G σ h':=R.same (λb o e _=>hk b o e) (λb o e _=>hk b o e) λb o e=>hk b o (R.base b o e)
def Evo.keeps {X:List Addr}(hk:∀b o,h.get? b=some o->h'.get? b=some o):Evo X σ h σ h':=#[λb o e _ _=>hk b o e,λb o e _=>hk b o e,λb d=>.inl d,λb o e=>#[o,hk b o e]]
def gY (x:Heap.ExtBut h.objs.size h h'):∀b o,h.get? b=some o->h'.get? b=some o:=λb o e=>x b o (gb (fw e)) e
def wI {x:Str}{k:NameKind}(Z:sc.names[i]?=some (x,k))(hk:Own G x k):iB G C sc d (.v i) (.Name x pos):=λ_ _ _ _ _ _ _ _ _ c vr h =>
 assign_Name (ug c.eo c.F c.R (by rw[c.es];show Z) hk vr λs' W Y x=>#[_,_,h,W,Y,x])
def qQ {a dd:Addr}{f:Nat->Option V}{name:Str}{u:V}{w:Value}(K:GOk G)(R:Rel G σ s.heap)(hI:σ.I a=some (dd,f))(hn:G.attrs[i]?=some name)(vr:VR G s.heap u w)
  (k:∀s',Rel G (σ.ir a dd (upd f i u)) s'.heap->Go [] σ s (σ.ir a dd (upd f i u)) s'->Q () s'):wpAny G.M A (setAttr (.ref a) name w) Q E s:=by
 have#[N,mN,X,dc,da,cd,bu]:=K.cls;have I:=R.I a dd f hI;have#[m,hm,hv,z]:=I.ns;have#[hh,g,dr,t,os]:=s;have#[nm,q,bs,sn,sub,dv,d2,k0,k1,k2,k3,k5,hC]:=(X.keeps R.base).obj;have U:=cz hn;have cc:a≠G.cS:=by
  intro q;have#[_,_,_,_,_,_,_,_,_,_,_,_,ct]:=X.obj;have:=R.new a (.inr (.inr (.inr (.inl (by rw[hI];rfl)))));rw[q,ct]at this;cases this
 have hw:Within m G.attrs:=λy hy=>by
  by_cases h:y∈G.attrs
  ·show h
  ·show absurd (z y h) hy
 apply store_attr PySem.F.store_object hC (X.keeps R.base).ns cd (bu name U).1 (bu name U).2 cc (I.inst hm) (λh' cA I' hk W=>?_) hw (fk K.len (by decide));have#[o,ho,hc,hd,ck]:=I.here;have#[B,e₁,ao,O,Z,J]:=W o ho;have eo:B=o:=by
  have#[oc,od,cM,cB]:=o;have#[ca,bM,bL,bv]:=B;simp only at ao O Z hd
  try clear W
  subst ao;subst O;subst Z;have:=J dd hd;simp only at this;rw[hd,this]
 try clear J
 try clear Z
 subst eo;have Y:h'.Ns1 dd (λy=>if y=name then some w else m y):=by
  have#[o',e',_,_,bd]:=I';have zz:=af (e₁.symm.trans e')
  try clear e'
  have rfl:=zz;rcases bd with ⟨bl,_⟩|⟨d',bd,_,Y⟩
  ·rw[hd]at bl;cases bl
  ·have rfl:=af (hd.symm.trans bd);show Y
 have H:At dd hh h':=by
  have#[od,es,ep,ch,cl,_]:=hm;have#[bR,df,dm,be,_]:=Y;apply#[λb ob hb e=>?_,#[bR,be],λo' e=>?_]
  ·by_cases bn:b=a
   ·rw[bn]at e ⊢;rw[ho]at e;cases e;show e₁
   ·show hk b ob bn (λcx d' ag ed=>by
     clear hk
     try clear hk
     have rfl:=af (ho.symm.trans ag);have rfl:=af (hd.symm.trans ed);show hb) e
  ·try clear ho
   try clear ag
   try clear ed
   have rfl:=af (ch.symm.trans e);show nu cl
 have cn:c9 G h' a dd (upd f i u):=by
  apply#[#[_,e₁,hc,hd,ck],#[_,Y,λj y hj=>?_,λy hy=>?_],I.ne]
  ·by_cases ar:j=i
   ·have rfl:=ar.symm;rw[hn]at hj;cases hj;simp only[ay,tu];show vr.mono H.frz
   ·have cb:y≠name:=λe=>by
     rw[e]at hj;show ar ((List.getElem?_inj (cf.mp hj).1 K.nd).mp (hj.trans hn.symm))
    simp only[bh ar,cb,ju];show(hv j y hj).mono H.frz
  ·have:y≠name:=λe=>hy (e▸U);simp only[this,ju];show z y hy
 show k _ (R.KW hI H cn) #[Evo.KW _ hI H,rfl,rfl]
def AW {o:Ex}{x:Expr}{name:Str}(K:GOk G)(U:dk G C sc d o x)(O:G.attrs[i]?=some name):iB G C sc d (.attr o i) (.Attribute x name pos):=λ_ _ _ _ _ _ _ _ _ c vr h=>by
 rw[assign_Attribute];apply aa (bp (kq (U c h) λu σ₁ s₁ W q Z r x=>?_));have#[a,dd,f,rfl,J,q]:=q;have rfl:=Z;apply aa (er (aa (bp (qQ K r J O (vr.mono x.frz) λs' I Y=>wpAny_release ?_))));apply#[_,_,q,(c.F.evo x.e).evo Y.e,I,(x.trans Y).wide]
def o7 {it l:Addr}(I:l≠it):∀(n i:Nat) (s:Shared) (Q:List Value->Shared->Prop),s.heap.IsListIter it l i->s.heap.IsList l items->i+n<=items.size ->
  (∀h',h'.IsListIter it l (i+n)->Heap.SameBut it s.heap h'->Q ((items.toList.drop i).take n) {s with heap:=h'})->wpAny G.M A (draw (.ref it) n) Q E s
 |0=>λi s Q hit z H hQ=>by
  dsimp only[draw];show ab (by simpa using hQ s.heap hit (.refl ..))
 |n+1=>λi s Q hit z H hQ=>by
  dsimp only[draw];have hx:items[i]?=some items[i]:=fu (gz .B .a (.k (.a .A .S) .B) H);apply aa (wpAny_pyNext_list_item hit z hx λh₁ W Z=>?_);have O:h₁.IsList l items:=by have#[o,ho,r]:=z;apply#[o,by rw[Z.2 l I];show ho,r]
  apply aa (bp (o7 I n (i+1) _ _ W O (gz (.k (.a .L .B) .C) .a (.k (.a .A .P) .C) H) λJ Y U=>ab ?_));have hd:items.toList.drop i=items[i]::items.toList.drop (i+1):=by
   rw[nz (by simpa using (by(show gz .B .a (.k (.a .A .S) .B) H):i<items.size))];simp
  have:=hQ J (by rw[show i+(n+1)=i+1+n by(show n9 (.e (.a .A .P) (.a .L .B)) [[1],[1]])];show Y) (Z.trans U);rw[hd,List.take_succ_cons]at this;show this
def iZ {t:Addr}{Q:List Value->Shared->Prop}(hh:A.handled=none)(z:s.heap.IsList t items)
  (hQ:∀h',Heap.ExtBut s.heap.objs.size s.heap h'->Q items.toList {s with heap:=h'}):wpAny G.M A (unpackItems (.ref t) items.size none) Q E s:=by
 have H:t≠s.heap.objs.size:=by have#[o,I,_]:=z;show gb (fw I)
 unfold unpackItems;apply aa ?_
 ·unfold notIterableAtAll;apply aa (xw z.typeIs slot_list_iter.lookup ?_);apply ab ?_;simp only[dn,ju];apply aa (bp (aJ z ?_));have hp:(s.heap.push {cls:=.type "list_iterator",data:=.fields #v[.ref t,.int 0 0]}).IsList t items:=by have#[o,I,r]:=z;apply#[o,ah _ I,r]
  apply aa (bp (o7 H items.size 0 _ _ #[_,bc _ rfl,rfl,rfl] hp (oo (.k (.a .O .A) .A) .f) λh₁ Y Z=>?_));have B:List.take items.size (List.drop 0 items.toList)=items.toList:=by
   rw[cK];show List.take_of_length_le (by simp)
  rw[B];rw[az (by simp)];have W:h₁.IsList t items:=by have#[o,I,r]:=hp;apply#[o,by rw[Z.2 t H];show I,r]
  apply aa (bp (wpAny_pyNext_list_end hh Y W (by simp) λJ U=>?_));simp only[vq,dn,ju];apply ab (hQ J λb o hb e=>U b o hb (Z.extBut b o hb (ah _ e)))
abbrev AA (G:Stc):Prop:=∀(A:Around) (E:QqV) (s:Shared) (t:Addr) (ws:List Value) (n:Nat) (dd:Option Addr) (Q:List Value->Shared->Prop),A.handled=none->(∀b o,G.hb.get? b=some o->s.heap.get? b=some o) ->
 s.heap.get? t=some {cls:=.ref G.cM,dict:=dd,data:=.seq ws.toArray n,slots:=#v[]} ->
 (∀h',Heap.ExtBut s.heap.objs.size s.heap h'->Q ws {s with heap:=h'})->wpAny G.M A (unpackItems (.ref t) ws.length none) Q E s
def vg {A:Around}{E:QqV}{v:V}{w:Value}{Q:List Value->Shared->Prop}(U:AA G)(Z:A.handled=none)(R:Rel G σ s.heap)(vr:VR G s.heap v w)(e:FQ v σ=some vs)
  (k:∀ws h',VRs G h' vs ws->Rel G σ h'->(∀b o,s.heap.get? b=some o->h'.get? b=some o)->Q ws {s with heap:=h'}):wpAny G.M A (unpackItems w vs.length none) Q E s:=by
 have fin:∀ws h',VRs G s.heap vs ws->Heap.ExtBut s.heap.objs.size s.heap h'->Q ws {s with heap:=h'}:=λws h' r x =>
  k ws h' (r.mono λb o e _=>gY x b o e) (R.keeps (gY x)) (gY x)
 clear k;induction v using V.casesOn
 case L =>
  have rfl:=vr;have#[ws,n,W,Y]:=R.L _ _ e;have:=iZ (G:=G) (A:=A) (E:=E) (Q:=Q) Z W.isList λh' x=>fin ws h' Y x;rw[bq,<- Y.length]at this;show this
 case T =>
  have#[a,ws,n,rfl,g,r]:=vr;have rfl:=af e;have:=PyProof.Rows.unpackItems_tuple (prog:=G.prog) (w:=G.w) (A:=A) (E:=E) (Q:=Q) Z #[_,g,rfl,_,rfl] λh' x=>fin _ h' r x;rw[bq,<- r.length]at this;show this
 case mt =>
  have#[a,ws,n,dd,rfl,g,r]:=vr;have rfl:=af e;have:=U A E s _ _ _ _ Q Z R.base g λh' x=>fin _ h' r x;rw[<- r.length]at this;show this
 all_goals show gy e
def any_some {α:Type}{a:Option α}{f:α->Bool}(h:a.any f=true):∃x,a=some x/\f x=true:=by
 cases a with
 |none=>show Bool.noConfusion h
 |some x=>refine#[x,rfl,h]
abbrev vi (sc:Scope)(i:Nat):Str:=(sc.names[i]?.map (·.1)).getD ""
abbrev kindAt (k:NameKind->Bool)(sc:Scope)(i:Nat):Bool:=sc.names[i]?.any λy=>k y.2&&jg y.1
def aO {p:NameKind->Bool}(h:kindAt p sc i=true):∃k,sc.names[i]?=some (vi sc i,k)/\p k=true/\jg (vi sc i)=true:=by
 have#[y,e,h]:=any_some h;have Z:vi sc i=y.1:=by unfold vi;rw[e];rfl
 apply#[y.2,Z▸e,(band h).1,Z▸(band h).2]
abbrev rz (sc:Scope):List Nat->List Expr->List Expr
 | []=>λ_=>[]
 |i::is=>λl=>.Name (vi sc i) (l.headD default).pos::rz sc is l.tail
abbrev ownAt (cap:Str->Bool)(sc:Scope)(i:Nat):Bool:=kindAt nR sc i&&(kindAt (·==.local) sc i||!cap (vi sc i))
def uA {G:Stc}{sc:Scope}(h:ownAt G.cap sc i=true):∃k,sc.names[i]?=some (vi sc i,k)/\Own G (vi sc i) k/\jg (vi sc i)=true:=by
 have#[k,Z,O,U]:=aO (band h).1;apply#[k,Z,#[O,λe=>?_],U];rcases vd .. |>.mp (band h).2 with q|q
 ·have#[k',W,Y,_]:=aO q;rw[Z]at W;cases W;rw[e]at Y;cases Y
 ·show(dp _).mp q
abbrev oY (cap:Str->Bool)(sc:Scope)(is:List Nat):Bool:=is.all (ownAt cap sc)
def gV:(is:List Nat)->(l:List Expr)->(assignEach (rz sc is l) env).length=is.length
 | []=>λ_=>rfl
 |_::is=>λl=>bb (·+1) (gV is l.tail)
def eF {env:Env}:(is:List Nat)->(l:List Expr)->(assignEach (rz sc is l) env).findIdx? (·.1)=none
 | []=>λ_=>rfl
 |_::is=>λl=>by
  have e:=eF (env:=env) is l.tail;show List.findIdx? _ ((false,_)::assignEach (rz sc is l.tail) env)=none;rw[List.findIdx?_cons,e];rfl
abbrev wJ (elts:List Expr):List Str:=elts.filterMap λx=>bif bC 23 x then some (kh x) else none
def iI {X:List Addr}(Z:env.scope=sc)(eo:yo env)(Y:env.locals∈X)(is:List Nat)(l:List Expr){ws:List Value}{ρ:Fr}(U:oY G.cap sc is=true)(O:is.length=vs.length)(J:∀y∈wJ (rz sc is l),∀c,env.cells.lookup y=some c->c∈X)
  (F:FR G σ env ρ s.heap) (R:Rel G σ s.heap) (vr:VRs G s.heap vs ws) (k:∀s',FR G σ env (gj is vs ρ) s'.heap->Rel G σ s'.heap->Go X σ s σ s'->Q () s') :
  wpAny G.M A (assignInOrder ((assignEach (rz sc is l) env).map (·.2)) ws) Q E s:=by
 induction is generalizing l vs ws ρ s with
 |nil=>show ab (k s F R .refl)
 |cons i is B =>
  cases vs with
  |nil=>show nomatch O
  |cons v vs =>
  have#[w,us,e,I,vr]:=vr;subst e;have#[kk,hi,hk,_]:=uA (band U).1;show wpAny G.M A (do holding us (assign (.Name (vi sc i) (l.headD default).pos) env w);assignInOrder ((assignEach (rz sc is l.tail) env).map (·.2)) us) Q E s;apply aa (bp (assign_Name (dX eo F R (by rw[Z];show hi) hk I Y (J _ (.head _)) λs' F' R' W=>?_)));show B l.tail (band U).2 (ua O) (λy z=>J y (.tail _ z)) F' R' (vr.mono W.frz) λH F2 R2 x2=>k H F2 R2 (W.trans x2)
def tP (Z:env.scope=sc)(O:yo env){is:List Nat}{l:List Expr}{ws:List Value}{ρ:Fr}(U:oY G.cap sc is=true)(W:is.length=vs.length)
  (F:FR G σ env ρ s.heap) (R:Rel G σ s.heap) (vr:VRs G s.heap vs ws) (k:∀s',FR G σ env (gj is vs ρ) s'.heap->Rel G σ s'.heap->Go (envX env) σ s σ s'->Q () s') :
  wpAny G.M A (assignInOrder ((assignEach (rz sc is l) env).map (·.2)) ws) Q E s:=
 iI Z O (.head _) is l U W (λy _ c Y=>.tail _ (bg.mpr #[(y,c),mem_of_lookup Y,rfl])) F R vr k
def FU {is:List Nat}{l:List Expr}{k:Nat}(U:AA G)(W:oY G.cap sc is=true):iB G C sc d (.T is) (.Tuple (rz sc is l) k pos):=λ_ _ _ _ _ _ _ _ _ c vr h=>by
 have#[vs,e,Y,q]:=h;rw[assign_Tuple];apply aa (er ?_);unfold unpack;rw[gV,eF,Y];apply aa (bp (vg U c.ao.handled c.R vr e λws h' Z J hk=>?_));apply tP c.es c.eo W Y (c.F.evo (Evo.keeps hk)) J Z λH I O x2=>?_;apply#[_,_,q,I,O,#[(Evo.keeps hk).trans x2.e,x2.g,x2.o]]
def rC {prog:Program}{w:World}{l:Addr}{n:Nat}{k:Int}{t:Tok}{v:Value}(Y:IsL s.heap l items n)(h0:0<=fc items.size k)(W:fc items.size k<items.size)(hz:items.size<2^62)
  (J:Q () {s with heap:=s.heap.update l (Obj.mapSeq (·.setIfInBounds (fc items.size k).toNat v))}):wpAny (model prog w) A (setItem (.ref l) (.int k t) v) Q E s:=by
 unfold setItem
 try with_reducible refine bp ?_
 first|refine aa (ab ?_)|skip
 apply aa (wpAny_sequenceKey Y.isList.typeIs (by decide) ?_);apply aa (je (name:=Str.ofString "__setitem__") Y.isList.typeIs slot_list_setitem (eh slot_list_setitem Y.isList.typeIs entry_list_setitem ?_ (args_list_setitem _ _ _)));show wpAny _ _ (Builtin.List.listSubscript? (.int k t)>>=_) _ _ s;have hb:-(2^63)<=k/\k<2^63:=by
  unfold fc at h0 W;split at h0<;>(first|(rename_i z;show⟨(xj (.ik (.g .L) .A) .b (.l .A (.n (2^62))) (.ik .O (.a .A (.t .A))) hz h0),(ph (.il .A .L) .a (.il .A .O) z)⟩)|omega)
 apply aa (wpAny_listSubscript_int (fitsIndex_both hb.1 hb.2) ?_);clear hb;have U:seqIndex? k items.size=some (fc items.size k).toNat:=br ((dh _ _).mpr #[cj h0,cj W]);have H:items[(fc items.size k).toNat]?=some items[(fc items.size k).toNat]:=fu ((Ar.ton _).elim (λZ=>(Ar.a2 [_] [_,_] .B .b (.il .A (.t .B)) (.ie (.t .A) .A) W Z.2)) λZ=>(Ar.a3 [_] [_,_] .B .e (.ik .O .A) (.il .A (.t .B)) (.e .A .O) h0 W Z.2));cases k with
 |ofNat j =>
  have e:(fc items.size (Int.ofNat j)).toNat=j:=by
   unfold fc;rw[az (Int.not_lt.mpr (cL j))];rfl
  have hj:j<items.size:=by(show(Ar.ton _).elim (λZ=>(Ar.a3 [_] [_,_,_] .B [[1,1,-1,1]] (.il .A (.t .B)) (.e .C .A) (.ie (.t .C) .A) W e Z.2)) λZ=>(Ar.a4 [_] [_,_,_] .B [[1,1,1,-1,1]] (.ik .O .A) (.il .A (.t .B)) (.e .C .A) (.e .C .O) h0 W e Z.2))
  have I:items[j]?=some items[j]:=fu hj;clear H;rw[e]at J;show wpAny _ _ ((seqItemAt l j>>=λr=>pure (r.map (j,·)))>>=_) _ _ s;apply aa (aa (wpAny_seqItemAt Y rfl (ab ?_)));rw[I];show wpAny _ _ (setSeqItemAt l j v>>=_) _ _ s;apply aa (wpAny_setSeqItemAt Y rfl ?_)
  first
   |show aa (ab (ab ⟨.none,rfl,ab J⟩))
   |show ab ⟨.none,rfl,ab J⟩
 |negSucc j =>
 show wpAny _ _ ((Builtin.List.listItems (.ref l)>>=λxs=>pure ((seqIndex? (Int.negSucc j) xs.size).bind λi=>xs[i]?.map (i,·)))>>=_) _ _ s;apply aa (aa ?_);show wpAny _ _ (seqItems? (.ref l)>>=_) _ _ s;apply aa (mh Y rfl (ab (ab ?_)));rw[U];simp only[Option.bind_some,H,Option.map_some];show wpAny _ _ (setSeqItemAt l _ v>>=_) _ _ s;apply aa (wpAny_setSeqItemAt Y rfl ?_)
 first
  |show aa (ab (ab ⟨.none,rfl,ab J⟩))
  |show ab ⟨.none,rfl,ab J⟩
def VRs.set:∀{vs:List V} {ws:List Value} (n:Nat) {v:V} {w:Value},VRs G h vs ws->VR G h v w->VRs G h (vs.set n v) (ws.set n w)
 | [],_,n,_,_,e,_=>by subst e;show .nil
 |_::_,_,0,_,_,⟨_,_,e,_,r⟩,q=>by subst e;show .cons q r
 |_::_,_,n+1,_,_,⟨_,_,e,a,r⟩,q=>by subst e;show .cons a (VRs.set n r q)
def FV {o i:Ex}{x y:Expr}(ho:dk G C sc d o x)(hi:dk G C sc d i y):iB G C sc d (.sub o i) (.Subscript x y pos):=λA E env ρ σ K s v w c vr h=>by
 rw[arm_assign_Subscript];apply aa (bp (kq (ho c h) λu σ₁ s₁ bl q U r x=>?_));apply aa (bp (kq (hi (c.go r x) q) λj σ₂ s₂ be Z W r₂ Y=>?_));apply aa (er (aa (bp ?_)));have H:=(vr.mono x.frz).mono Y.frz;unfold nC at Z;cases eu:jP u with
 |some a =>
  rw[eu]at Z;have rfl:=jA eu;have rfl:=U;replace Z:=pg (v:=j) Z;have#[i,rfl,xs,e,h0,h1,Z]:=Z;have#[t,rfl]:=W;have#[ws,n,hl,z]:=r₂.L _ _ e;have hz:=r₂.Ll _ _ e;have ag:=z.length;have O:ws.toArray.size=xs.length:=by rw[bq,ag]
  apply rC hl (by rw[O];show h0) (by rw[O];show h1) (by rw[O];unfold aw at hz;(show fb (.l .A (.n (2^62))) .a (.k .A .Q) hz)) (wpAny_release ?_);rw[O];have#[R',J]:=tM r₂ e hl (z.set (fc xs.length i).toNat H) (by rw[List.length_set];show hz) (f:=λa=>a.setIfInBounds (fc xs.length i).toNat w) (by simp);apply#[_,_,Z,((c.F.evo x.e).evo Y.e).evo J,R',((x.trans Y).to J).wide]
 |none =>
 rw[eu]at Z;replace Z:=yg (v:=u) Z;have#[a,rfl,bn,kk,e,ao,hz,Z]:=Z;have rfl:=U;have#[ds,hd,z]:=r₂.D _ _ e;apply wpAny_setItem_pairs (key_is ao W) hd (λh' bd ar=>wpAny_release ?_) (by rw[<- z.length];show md (cg .A .a .B hz));have#[R',J]:=K7 r₂ e ar bd (z.put H) (fk (bS _ _ _) (cg .I .a .B hz));apply#[_,_,Z,((c.F.evo x.e).evo Y.e).evo J,R',((x.trans Y).to J).wide]
end
variable {x value:Expr}{targets xs:List Expr}{env:Env}
abbrev wc (sc:Scope)(ts:List Expr):List Str:=ts.filterMap λ
 |.Name id pos=>if sc.names.lookup id==some .local&&pos.line==(ts.head?.map (·.pos.line)).getD 0 then some id else none
 |_=>none
abbrev KC (x:Expr):Option (Option (List Expr)):=bif bC 25 x then some (some (kids x)) else bif bC 24 x then none else some none
abbrev tgK:List Expr->Option (Option (List Expr))
 | []=>some none
 |x::r=>bif r.isEmpty then KC x else some none
abbrev tupK (x:Expr):Option (List Expr):=bif bC 25 x then some (kids x) else none
abbrev N7 (sc:Scope)(ts vs:List Expr):Option (Option (List Str)):=
 bif !(ts.length==2||ts.length==3)||vs.length != ts.length then some none
 else bif vs.any isStar then some none
 else bif (wc sc ts).length != ts.length||(wc sc ts).eraseDups.length != (wc sc ts).length then some none
 else bif vs.all (foldedForSure 8) then some none
 else bif vs.all (constantsAlone 8) then none
 else some (some (wc sc ts))
abbrev swp (sc:Scope)(targets:List Expr)(value:Expr):Option (Option (List Str)):=
 (tgK targets).bind λo=>o.elim (some none) λts=>(tupK value).elim (some none) (N7 sc ts)
def gL (h:bC 25 x=true):∃es k p,x=.Tuple es k p:=Expr.Tuple.elim (motive_1:=λx=>∃es k p,x=.Tuple es k p) x (yq h) λes k p=>#[es,k,p,rfl]
def AY (h:tgK targets=some none)(value:Expr)(env:Env):swappedStores targets value env=pure none:=by
 cases targets with
 |nil=>rfl
 |cons x r =>
  revert h
  induction x using Expr.casesOn
  case Tuple =>
   cases r with
   |nil=>show λh=>gy (af h).symm
   |cons y r=>show λ_=>(rfl:(pure none:Sem (Option (List Str)))=pure none)
  case List =>
   cases r with
   |nil=>show λh=>gy h
   |cons y r=>show λ_=>(rfl:(pure none:Sem (Option (List Str)))=pure none)
  all_goals show λ_=>(rfl:(pure none:Sem (Option (List Str)))=pure none)
def yG {vs:List Expr}(h:tupK value=some vs):∃k p,value=.Tuple vs k p:=by
 unfold tupK at h;cases e:bC 25 value with
 |false=>rw[e]at h;show gy h
 |true=>rw[e]at h;have#[es,k,p,rfl]:=gL e;have rfl:=af h;apply#[k,p,rfl]
def AX {ts:List Expr}(h:tgK targets=some (some ts)):∃k p,targets=[.Tuple ts k p]:=by
 cases targets with
 |nil=>show gy (af h)
 |cons x r =>
  cases r with
  |nil =>
   have h:KC x=some (some ts):=h;unfold KC at h;cases e:bC 25 x with
   |false =>
    rw[e]at h;cases Z:bC 24 x with
    |false=>rw[Z]at h;show gy (af h)
    |true=>rw[Z]at h;show gy h
   |true=>rw[e]at h;have#[es,k,p,rfl]:=gL e;have rfl:=af (af h);apply#[_,_,rfl]
  |cons y r=>show gy (af h)
def yH (h:tupK value=none)(ts:List Expr)(k:Nat)(p:Pos)(env:Env):swappedStores [.Tuple ts k p] value env=pure none:=by
 revert h
 induction value using Expr.casesOn
 case Tuple=>show λh=>gy h.symm
 all_goals show λ_=>(rfl:(pure none:Sem (Option (List Str)))=pure none)
def fT {α:Type}{b:Bool}{x y:Option (Option α)}{r:Option α}{t u:Sem (Option α)}(h:(bif b then x else y)=some r)(Y:x=some r->t=pure r)(Z:y=some r->u=pure r):(if b=true then t else u)=pure r:=by
 cases b with
 |true=>show Y h
 |false=>show Z h
def jW {sc:Scope}{r:Option (List Str)}(h:swp sc targets value=some r)(O:env.scope=sc)(hk:env.blockKind=.function):swappedStores targets value env=pure r:=by
 have#[o,W,h]:=dq.mp h;cases o with
 |none=>have rfl:=af h;show AY W value env
 |some ts =>
  have Y:=AX W
  try clear W
  have#[k,p,rfl]:=Y;have h:(tupK value).elim (some none) (N7 sc ts)=some r:=h;cases Z:tupK value with
  |none=>rw[Z]at h;have rfl:=af h;show yH Z ts k p env
  |some vs =>
   rw[Z]at h;have Y:=yG Z
   try clear Z
   have#[k',U,rfl]:=Y;subst O;have e:swappedStores [.Tuple ts k p] (.Tuple vs k' U) env=(if (!(ts.length==2||ts.length==3)||vs.length != ts.length||env.blockKind != .function)=true then pure none
    else if vs.any isStar=true then pure none
    else if ((wc env.scope ts).length != ts.length||(wc env.scope ts).eraseDups.length != (wc env.scope ts).length)=true then pure none
    else if vs.all (foldedForSure 8)=true then pure none
    else if vs.all (constantsAlone 8)=true then (do unsupported "assign.tuple-of-constant-expressions:order-of-the-stores";pure (some (wc env.scope ts)))
    else pure (some (wc env.scope ts))):=rfl
   rw[e,hk,show(ScopeKind.function != ScopeKind.function)=false from rfl,zf];show fT h (λh=>af h▸rfl) λh=>fT h (λh=>af h▸rfl) λh=>fT h (λh=>af h▸rfl) λh=>fT h (λh=>af h▸rfl) λh=>fT h (λh=>gy h) λh=>af h▸rfl
def ry (h:vh value=true)(targets:List Expr)(n:Nat)(env:Env):swapsWithSole targets value n env=pure false:=by
 cases targets with
 |nil=>rfl
 |cons t r =>
  cases r with
  |nil=>show yc h _ _ _
  |cons=>rfl
section
variable {G:Stc}{C:Cal}{sc:Scope}{d:Nat}
inductive cW (G:Stc)(C:Cal)(sc:Scope)(d:Nat):List Tgt->List Expr->Prop
 |nil:cW G C sc d [] []
 |cons {t:Tgt} {x:Expr} {ts:List Tgt} {xs:List Expr}:iB G C sc d t x->(∀env,assignEach (x::xs) env=(false,assign x env)::assignEach xs env)->cW G C sc d ts xs->cW G C sc d (t::ts) (x::xs)
def wN {A:Around}{E:QqV}{ts:List Tgt}(U:cW G C sc d ts xs):∀{ρ:Fr} {σ:St} {K:Fr->St->Prop} {s:Shared} {v:V} {w:Value},Cx G sc d A env ρ σ s->VR G s.heap v w ->
  jJ C ts v ρ σ K->wpAny G.M A (assignAll w ((assignEach xs env).map (·.2))) (LU G env σ s K) E s:=by
 induction U with
 |nil=>show λc vr h=>ab #[_,_,h,c.F,c.R,.refl]
 | @cons t x ts xs W J O Y =>
  intro ρ σ K s v w c vr h;rw[J];cases O with
  |nil=>show W c vr h
  |cons a b B =>
   rw[b env]at Y ⊢;apply aa (bp (bt (W c vr h) (λ_ s' l=>?_) λ_ _ x=>x));have#[ρ',σ',q,H,I,Z]:=l;show bt (Y (c.at H I) (vr.mono Z.frz) q) (λ_ _=>oH.back Z) λ_ _ x=>x
def tY {ts:List Tgt}{e:Ex}{pos:Pos}(U:cW G C sc d ts xs)(O:dk G C sc d e x)(J:vh x=true)(W:swp sc xs x=some none):vm G C sc d (.a ts e) (.Assign xs x pos):=λ_ _ _ _ _ _ _ c h=>by
 rw[exec_Assign];apply aa (er ?_);rw[ry J];apply aa (ab ?_);rw[az (by decide)];apply aa (kq (O c h) λv σ₁ s₁ w q vr r x=>?_);rw[jW W c.es (by unfold Env.blockKind;rw[c.eo.kind];rfl)];apply aa (ab ?_);show wpAny G.M _ (do assignAll w _;pure Flow.next) _ _ _;apply aa (bt (wN U (c.go r x) vr q) (λ_ s' l=>ab ?_) λ_ _ x=>x);have#[ρ',σ',Y,H,I,Z]:=l;apply#[.next,ρ',σ',.next,Y,H,I,x.wide.trans Z]
def dI:∀(xs:List Nat) (vs:List V) (x:Nat) (v:V) (ρ:Fr),xs.length=vs.length->gj (xs++[x]) (vs++[v]) ρ=upd (gj xs vs ρ) x v
 | [],[],_,_,_,_=>rfl
 | [],_::_,_,_,_,h=>absurd h.symm (zd _)
 |_::_,[],_,_,_,h=>absurd h (zd _)
 |y::xs,u::vs,x,v,ρ,h=>by
  show dI xs vs x v _ (ua h)
def AP {α:Type}{f:Nat->Option α}{i j:Nat}{a b:α}(h:i≠j):upd (upd f i a) j b=upd (upd f j b) i a:=by
 funext k
 unfold upd;by_cases Y:k=j<;>by_cases Z:k=i<;>simp_all
def kB:∀(xs:List Nat) (vs:List V) (x:Nat) (v:V) (ρ:Fr),x∉xs->gj xs vs (upd ρ x v)=upd (gj xs vs ρ) x v
 | [],_,_,_,_,_=>rfl
 |_::_,[],_,_,_,_=>rfl
 |y::xs,u::vs,x,v,ρ,h=>by
  show gj xs vs (upd (upd ρ x v) y u)=upd (gj xs vs (upd ρ y u)) x v;have h:=oM h;rw[AP h.1,kB xs vs x v _ h.2]
def bO:∀(xs:List Nat) (vs:List V) (ρ:Fr),xs.length=vs.length->xs.Nodup->gj xs.reverse vs.reverse ρ=gj xs vs ρ
 | [],[],_,_,_=>rfl
 | [],_::_,_,h,_=>absurd h.symm (zd _)
 |_::_,[],_,h,_=>absurd h (zd _)
 |x::xs,v::vs,ρ,h,Z=>by
  have Z:=List.nodup_cons.mp Z;have h:xs.length=vs.length:=ua h;rw[dS,dS,dI _ _ _ _ _ (by rw[List.length_reverse,List.length_reverse];show h),bO xs vs ρ h Z.2];show(kB xs vs x v ρ Z.1).symm
abbrev NF (cap:Str->Bool)(sc:Scope)(is:List Nat)(xs:List Str):Bool:=decide (xs=is.map (vi sc))&&oY cap sc is
def qO {A:Around}{E:QqV}(Z:env.scope=sc)(B:yo env){σ:St}(is:List Nat){vs:List V}{ws:List Value}{ρ:Fr}{s:Shared}{Q:Unit->Shared->Prop}(W:oY G.cap sc is=true)(U:is.length=vs.length)
  (F:FR G σ env ρ s.heap) (R:Rel G σ s.heap) (vr:VRs G s.heap vs ws) (k:∀s',FR G σ env (gj is vs ρ) s'.heap->Rel G σ s'.heap->Go (envX env) σ s σ s'->Q () s') :
  wpAny G.M A (assignInOrder ((is.map (vi sc)).map λn=>bindName env n) ws) Q E s:=by
 induction is generalizing vs ws ρ s with
 |nil=>show ab (k s F R .refl)
 |cons i is I =>
  cases vs with
  |nil=>show nomatch U
  |cons v vs =>
  have#[w,us,e,O,vr]:=vr;subst e;have#[kk,H,hk,_]:=uA (band W).1;show wpAny G.M A (do holding us (bindName env (vi sc i) w);assignInOrder ((is.map (vi sc)).map λn=>bindName env n) us) Q E s;apply aa (bp (wpAny_bindName (ug B F R (by rw[Z];show H) hk O λs' F' R' Y=>?_)));show I (band W).2 (ua U) F' R' (vr.mono Y.frz) λJ F2 z x2=>k J F2 z (Y.trans x2)
def snd_swap {is:List Nat}{e:Ex}{pos:Pos}{names:List Str}(U:AA G)(H:dk G C sc d e x)(B:vh x=true)(O:swp sc xs x=some (some names))(J:NF G.cap sc is names=true)(Y:is.Nodup):vm G C sc d (.a [.T is] e) (.Assign xs x pos):=λ_ _ _ _ _ _ _ c h=>by
 rw[exec_Assign];apply aa (er ?_);rw[ry B];apply aa (ab ?_);rw[az (by decide)];apply aa (kq (H c h) λv σ₁ s₁ w q vr r x=>?_);rw[jW O c.es (by unfold Env.blockKind;rw[c.eo.kind];rfl)];apply aa (ab ?_);have#[vs,z,W,q]:=q;show wpAny G.M _ (do rule "assign.swapped-stores";let items←unpackItems w names.length none;assignInOrder (names.reverse.map λn=>bindName _ n) items.reverse;pure Flow.next) _ _ _;apply aa (su (aa ?_))
 try clear O
 have rfl:=ak (band J).1;rw[ai,W,<- List.map_reverse];apply vg U c.ao.handled r vr z λws h' Z R' hk=>?_;apply aa (qO c.es c.eo is.reverse (by unfold oY;rw[List.all_reverse];show(band J).2) (by simpa using W) ((c.F.evo x.e).evo (Evo.keeps hk)) R' Z.reverse λs2 I R2 x2=>ab ?_);rw[bO _ _ _ W Y]at I;apply#[.next,_,_,.next,q,I,R2,x.wide.trans #[(Evo.keeps hk).trans x2.e,x2.g,x2.o]]
end
end MP
end
section
namespace MP
open PySem PyProof.Rows
def iO:typeLookup (.type "list") (dunderI "add")=pure (some (.builtin "list.__iadd__")):=by rw[ec,cq];kernel_rfl
def uT:fillsInplaceSlot (.type "list") "add" (Operator.Add==.Add)=pure false:=by
 unfold fillsInplaceSlot;show(typeLookup (.type "list") (dunderI "add")>>=λZ=>pure (Z.isSome&&!isSeqSlot Z))=pure false;rw[iO];first|rfl|kernel_rfl
def DD:seqSlot? (.type "list") (dunderI "add")=pure (some (.builtin "list.__iadd__")):=by
 unfold seqSlot?;rw[iO];first|rfl|kernel_rfl
section
variable {G:Stc}{A:Around}{E:QqV}{s:Shared}{σ:St}
def uS {a b:Value}{Q:QqV}(Z:s.TypeIs a "list")(hb:s.TypeIs b "list")(Y:wpAny G.M A (call (.builtin "list.__iadd__") [a,b]) Q E s):wpAny G.M A (inplaceOp .Add a b) Q E s:=by
 unfold inplaceOp;apply bp ?_;apply aa (aF Z (aa (di uT ?_)));show wpAny _ A (if false=true then _ else _) Q E s;rw[az jw];apply aa (wpAny_binaryOp1_none (nm:="add") Z hb noFill_list_add ?_);apply aa (di DD ?_);show aa (su Y)
def BS {op:Bop}{a b:V}{x y:Value}{Q:V->St->Prop}(U:op=.add\/op=.sub)(R:Rel G σ s.heap)(H:VR G s.heap a x)(vb:VR G s.heap b y)(h:J9 op a b σ Q):wpAny G.M A (inplaceOp (binOp op) x y) (iv G [] σ s Q) E s:=by
 induction a using V.casesOn with
 |L a =>
  have rfl:=H;replace h:=pf (v:=b) h;have#[b,rfl,h]:=h;have rfl:=vb;rcases U with rfl|rfl
  ·have#[xs,ys,ag,e1,e2,hz,q]:=h;have#[us,n,I,z]:=R.L _ _ e1;have#[ts,m,J,W]:=R.L _ _ e2;have O:=z.length;have Y:=W.length;have Z:us.length+ts.length<=sizeLine:=by rw[<- O,<- Y];show md hz
   apply uS #[_,I,rfl] #[_,J,rfl] (gF PySem.F.slot_list_iadd #[_,I,rfl] PySem.F.entry_list_iadd (PySem.F.args_list_iadd_2 _ _) (AutoSeq1.list___iadd___list_list_0 _ _ _ _ _ _ ?_ (by simp only[bq];(show gz .A .a (.k (.a .A .C) .B) Z)) (by simp only[bq];(show gz (.k .M .S) .a (.k .M .C) Z))) #[I,J,?_])
   ·simp only[bq,Builtin.List.listTooLong];rw[show sizeLine=16777216 from rfl]at Z;simp;intro _;first|omega|(unfold sizeLine;(show cg (.k .M (.n (2^24))) .a (.k .M (.n 16777216)) Z))
   ·have#[r',x']:=tM (f:=λx=>x++ts.toArray) R e1 I (z.append W) (by simpa using hz) (by simp);apply#[.L _,_,q,.L _,r',x',rfl,rfl]
  ·show False.elim h
 |int a =>
  have#[t,rfl]:=H;replace h:=pg (v:=b) h;have#[b,rfl,h]:=h;have#[u,rfl]:=vb;rcases U with rfl|rfl
  ·show P.iadd_int (iv.here h (.int _ _) R)
  ·show P.isub_int (iv.here h (.int _ _) R)
 |_=>show False.elim h
def GV {C:Cal}{sc:Scope}{d:Nat}{op:Bop}{i:Nat}{e:Ex}{x:Str}{k:NameKind}{y:Expr}{pos Y:Pos}(U:op=.add\/op=.sub)(he:dk G C sc d e y)(hi:sc.names[i]?=some (x,k))(hk:Own G x k)(z:jg x=true) :
  vm G C sc d (.aug i op e) (.AugAssign (.Name x Y) (binOp op) y pos):=λ_ _ _ _ _ _ _ c h=>by
 have#[v,hv,h]:=h;have O:isVar k=true:=by cases k<;>first|rfl|show Bool.noConfusion hk.1
 apply wpAny_AugAssign_Name (eX c.eo c.F (by rw[c.es];show hi) O z hv λw vr=>?_);apply kq (he c h) λu σ₁ s₁ I q Z r x=>?_;apply bt (BS U r (vr.mono x.frz) Z q) (λw' s' l=>?_) λ_ _ x=>x;have#[v',σ',B,W,H,J]:=l;apply ug c.eo ((c.F.evo x.e).evo J.e) H (by rw[c.es];show hi) hk W λs2 F2 R2 x2=>?_;apply#[.next,_,σ',.next,B,F2,R2,(x.trans J).wide.trans x2]
end
end MP
end
section
namespace MP
set_option genInjectivity false
open PySem PyProof.Rows
variable {own:List Addr}{σ σ':St}{env:Env}{ρ:Fr}{h h':Heap}{s s':Shared}{i:Nat}{t:Tg}{x:Expr}{pos:Pos}{b:jo}
def FR.but {G:Stc}(F:FR G σ env ρ h)(hk:∀b o,b∉own->h.get? b=some o->h'.get? b=some o)(I:gf h h')(U:∀b∈own,b∉envX env):FR G σ env ρ h':=by
 have#[m,#[o,es,ep,J,r],hm]:=F.ns;have Z:=hk _ _ (λq=>U _ q (.head _)) J;apply#[#[m,#[o,es,ep,Z,r],λi y e=>(hm i y e).mono I],λi y k e W=>?_,F.inj,F.loc,λz e=>?_,F.new,λp O=>?_]
 ·have#[c,w,H,#[B,Y,hd],h3,h4,h5]:=F.cells i y k e W;apply#[c,w,H,#[B,hk _ _ (λq=>U _ q (.tail _ (bg.mpr #[(y,c),mem_of_lookup H,rfl]))) Y,hd],h3.mono I,h4,h5]
 ·rw[Z]at e;cases e;show F.notfrz o J
 ·have#[o,e]:=F.allc p O;apply#[o,hk _ _ (λq=>U _ q (.tail _ (bg.mpr #[p,O,rfl]))) e]
def Evo.but {X:List Addr}{h₀:Heap}(x:Evo X σ h₀ σ' h)(hk:∀b o,b∉own->h.get? b=some o->h'.get? b=some o)(Y:∀b∈own,h₀.get? b=none):Evo X σ h₀ σ' h':=by
 have out:∀b o,h₀.get? b=some o->b∉own:=λb o e q=>by rw[Y b q]at e;cases e
 apply#[λb o e nd W=>hk b o (out b o e) (x.keep b o e nd W),λb o e f=>hk b o (out b o e) (x.frz b o e f),x.dom,λb o e=>by have#[Z,e₁]:=x.there b o e;apply#[Z,hk b Z (out b o e) e₁]]
abbrev w7 (s s':Shared):Prop:=s'.gens=s.gens/\s'.os=s.os
def w7.rfl {Z:Drawn}{tk:Tok}:w7 s #[h,s.gens,Z,tk,s.os]:=#[Eq.refl _,Eq.refl _]
def Go.but {X:List Addr}{s₀:Shared}(x:Go X σ s₀ σ' s)(hk:∀b o,b∉own->s.heap.get? b=some o->s'.heap.get? b=some o)(g:w7 s s')(Z:∀b∈own,s₀.heap.get? b=none):Go X σ s₀ σ' s':=#[x.e.but hk Z,g.1.trans x.g,g.2.trans x.o]
abbrev MN (own:List Addr)(pos:Nat->Heap->Prop):Prop:=∀i h h',pos i h->(∀b∈own,∀o,h.get? b=some o->h'.get? b=some o)->gf h h'->pos i h'
abbrev OX (own:List Addr)(pos:Nat->Heap->Prop):Prop:=∀i h,pos i h->∀b∈own,∃o,h.get? b=some o/\¬Frz o
abbrev MK (G:Stc)(it:Addr)(pos:Nat->Heap->Prop):Prop:=∀(A:Around) (E:QqV) (s:Shared) (i:Nat) (Q:QqV),pos i s.heap->Q (.ref it) s->wpAny G.M A (pyIter (.ref it)) Q E s
abbrev y8 (own:List Addr)(s s':Shared):Prop:=(∀b o,b∉own->s.heap.get? b=some o->s'.heap.get? b=some o)/\w7 s s'
abbrev MM (G:Stc)(it:Addr)(own:List Addr)(vs:List V)(Gd:St->Prop)(tup:Bool)(pos:Nat->Heap->Prop):Prop:=∀(A:Around) (E:QqV) (s:Shared) (σ:St) (i:Nat) (v:V) (target:Expr) (Q:QqV),A.handled=none->Rel G σ s.heap->Gd σ->pos i s.heap->vs[i]?=some v->(tup=true->∃es k p,target=.Tuple es k p) ->
  (∀w s',y8 own s s'->(gf s.heap s'.heap->VR G s'.heap v w/\pos (i+1) s'.heap)->Q w s') ->
  wpAny G.M A (pyNext (.ref it)) (λr s₁=>match r with|none=>False|some w=>wpAny G.M A (letOwnedTupleGo target (.ref it) w) (λ_ s₂=>Q w s₂) E s₁) E s
abbrev MH (G:Stc)(it:Addr)(own:List Addr)(vs:List V)(Gd:St->Prop)(pos:Nat->Heap->Prop):Prop:=∀(A:Around) (E:QqV) (s:Shared) (σ:St) (i:Nat) (Q:Option Value->Shared->Prop),A.handled=none->Rel G σ s.heap->Gd σ->pos i s.heap->vs[i]?=none ->
  (∀s',y8 own s s'->Q none s')->wpAny G.M A (pyNext (.ref it)) Q E s
structure Itr (G:Stc) where
 it:Addr
 own:List Addr
 vs:List V
 Gd:St->Prop
 tup:Bool
 pos:Nat->Heap->Prop
 keep:MN own pos
 obj:OX own pos
 self:MK G it pos
 next:MM G it own vs Gd tup pos
 stop:MH G it own vs Gd pos
def zk {it:Addr}(h:Heap.SameBut it s.heap s'.heap)(g:w7 s s'):y8 [it] s s':=#[λb o hb e=>by rw[h.2 b λq=>hb (q▸.head _)];show e,g]
def yl {it:Addr}(h:Heap.ExtBut it s.heap s'.heap)(Z:it∈own)(g:w7 s s'):y8 own s s':=#[λb o hb e=>h b o (λq=>hb (q▸Z)) e,g]
section
variable {G:Stc}{C:Cal}{sc:Scope}{d:Nat}
def Itr.there (I:Itr G)(Z:I.pos i h){b:Addr}(hb:b∈I.own):∃o,h.get? b=some o:=by have#[o,e,_]:=I.obj i h Z b hb;apply#[o,e]
def Itr.xB (I:Itr G)(Z:I.pos i h){b:Addr}(hb:b∈I.own){o:Obj}(e:h.get? b=some o):¬Frz o:=by have#[o',Y,f]:=I.obj i h Z b hb;have rfl:=af (e.symm.trans Y);show f
def Itr.frz (I:Itr G)(Z:I.pos i h)(hk:∀b o,b∉I.own->h.get? b=some o->h'.get? b=some o):gf h h':=λb o e f=>hk b o (λhb=>I.xB Z hb e f) e
def Itr.rel (I:Itr G)(Z:I.pos i h)(R:Rel G σ h)(hd:∀b∈I.own,¬σ.dom b)(hb:∀b∈I.own,G.hb.get? b=none)(hk:∀b o,b∉I.own->h.get? b=some o->h'.get? b=some o):Rel G σ h':=
 R.same (λb o e Y=>hk b o (λq=>hd b q Y) e) (λb o e f=>hk b o (λq=>I.xB Z q e f) e) λb o e=>hk b o (λq=>by rw[hb b q]at e;cases e) (R.base b o e)
inductive oI (G:Stc)(σ:St)(s:Shared)(tupled:Bool)(P:List V->(St->Prop)->St->Prop)(itv:Value)(s':Shared):Prop
 |mk (I:Itr G) (σ':St):itv=.ref I.it->(I.tup=true->tupled=true)->P I.vs I.Gd σ'->I.pos 0 s'.heap->Rel G σ' s'.heap->Go [] σ s σ' s'->(∀b∈I.own,s.heap.get? b=none)->(∀b∈I.own,¬σ'.dom b)->oI G σ s tupled P itv s'
abbrev xq (G:Stc)(C:Cal)(sc:Scope)(d:Nat)(tupled:Bool)(it:It)(x:Expr):Prop:=
 ∀⦃A E env ρ σ P s⦄,Cx G sc d A env ρ σ s->qM C it ρ σ P->wpAny G.M A (eval x env) (λv s₁=>wpAny G.M A (pyIter v) (oI G σ s tupled P) E s₁) E s
abbrev LX (G:Stc)(X:List Addr)(env:Env)(σ:St)(s:Shared)(K:Fr->Prop)(s':Shared):Prop:=∃ρ',K ρ'/\FR G σ env ρ' s'.heap/\Rel G σ s'.heap/\Go X σ s σ s'
abbrev y6 (G:Stc)(C:Cal)(sc:Scope)(d:Nat)(t:Tg)(x:Expr):Prop:=
 ∀⦃A E env ρ σ K s v w⦄,Cx G sc d A env ρ σ s->VR G s.heap v w->pz t v σ ρ K->wpAny G.M A (assign x env w) (λ_ s'=>LX G (envX env) env σ s K s') E s
abbrev isTup (x:Expr):Bool:=bC 25 x
abbrev eU (x:Expr):List Str:=bif bC 23 x then [kh x] else bif bC 25 x then wJ (kids x) else []
abbrev tf (G:Stc)(C:Cal)(sc:Scope)(d:Nat)(t:Tg)(x:Expr):Prop:=
 ∀⦃A E X env ρ σ K s v w⦄,env.locals∈X->(∀y∈eU x,∀c,env.cells.lookup y=some c->c∈X)->Cx G sc d A env ρ σ s->VR G s.heap v w->pz t v σ ρ K->wpAny G.M A (assign x env w) (λ_ s'=>LX G X env σ s K s') E s
def tf.plain (h:tf G C sc d t x):y6 G C sc d t x:=λ_ _ _ _ _ _ _ _ _ c vr q=>h (.head _) (λy _ c Z=>.tail _ (bg.mpr #[(y,c),mem_of_lookup Z,rfl])) c vr q
def FW {x:Str}{k:NameKind}(W:sc.names[i]?=some (x,k))(hk:Own G x k):tf G C sc d (.v i) (.Name x pos):=λ_ _ _ _ _ _ _ _ _ _ Z Y c vr h =>
 assign_Name (dX c.eo c.F c.R (by rw[c.es];show W) hk vr Z (Y x (.head _)) λs' O U x=>#[_,h,O,U,x])
def FX {is:List Nat}{l:List Expr}{k:Nat}(U:AA G)(J:oY G.cap sc is=true):tf G C sc d (.T is) (.Tuple (rz sc is l) k pos):=λ_ _ _ _ _ _ _ _ _ _ Y W c vr h=>by
 have#[vs,e,O,q]:=h;rw[assign_Tuple];apply aa (er ?_);unfold unpack;rw[gV,eF,O];apply aa (bp (vg U c.ao.handled c.R vr e λws h' Z H hk=>?_));apply iI c.es c.eo Y is l J O W (c.F.evo (Evo.keeps hk)) H Z λz B I x2=>?_;apply#[_,q,B,I,(Evo.keeps hk).trans x2.e,x2.g,x2.o]
abbrev DM (C:Cal)(t:Tg)(b:jo)(K:Fl->Fr->St->Prop)(v:V)(ρ:Fr)(σ:St)(k:Fr->St->Prop):Prop:=pz t v σ ρ λρ=>dt C b ρ σ (wm k K)
inductive mI (I:Itr G)(C:Cal)(env:Env)(t:Tg)(b:jo)(K:Fl->Fr->St->Prop)(σ:St)(s:Shared)(n:Nat)(s':Shared):Prop
 |mk (i:Nat) (σ':St) (ρ':Fr):n=I.vs.length-i->I.pos i s'.heap->FR G σ' env ρ' s'.heap->Rel G σ' s'.heap->Go (envX env) σ s σ' s'->(∀b∈I.own,¬σ'.dom b)->mU (I.vs.drop i) I.Gd (DM C t b K) ρ' σ' (K .next)->mI I C env t b K σ s n s'
def mI.next {I:Itr G}{K:Fl->Fr->St->Prop}{ρ':Fr}{n:Nat}(lt:I.vs.length-(i+1)<n)(Z:I.pos (i+1) s'.heap)(F:FR G σ' env ρ' s'.heap)(R:Rel G σ' s'.heap)(x:Go (envX env) σ s σ' s')(hd:∀b∈I.own,¬σ'.dom b)(q:mU (I.vs.drop (i+1)) I.Gd (DM C t b K) ρ' σ' (K .next)) :
  ∃m,m<n/\mI I C env t b K σ s m s':=#[_,lt,i+1,σ',ρ',rfl,Z,F,R,x,hd,q]
def Itr.B5 {I:Itr G}{Y:List Addr}{W Z:St}{J hb:Heap}{j:Nat}(H:∀b∈I.own,b∉Y)(O:I.pos j J)(hd:∀c∈I.own,¬W.dom c)(x:Evo Y W J Z hb):I.pos j hb/\∀c∈I.own,¬Z.dom c:=
 #[I.keep _ _ _ O (λc U o e=>x.keep c o e (hd c U) (H c U)) x.frz,λc U B=>(x.dom c B).elim (hd c U) λq=>by have#[o,e]:=I.there O U;rw[e]at q;cases q]
def xW {l:List V}{v:V}(e:l[i]?=some v):i<l.length/\l.drop i=v::l.drop (i+1):=by
 have h:=cf.mp e;apply#[h.1,?_];rw[nz h.1,h.2]
def s9 (h:isTup x=true):∃es k p,x=.Tuple es k p:=gL h
def jE (F:FR G σ env ρ h)(W:∀b∈own,h.get? b=none):∀b∈own,b∉envX env:=λb hb Y=>by
 rcases bz.mp Y with rfl|Y
 ·have#[m,#[o,J,ep,Z,_],_]:=F.ns;rw[W _ hb]at Z;cases Z
 ·have U:=bg.mp Y
  try clear Y
  have#[p,O,rfl]:=U;have#[o,Z]:=F.allc p O;rw[W _ hb]at Z;cases Z
def zm (R:Rel G σ h)(Z:∀b∈own,h.get? b=none):∀b∈own,G.hb.get? b=none:=λb hb=>by
 cases hq:G.hb.get? b with
 |none=>rfl
 |some o=>have:=R.base b o hq;rw[Z b hb]at this;cases this
def zW {ys:List Stmt}(ht:y6 G C sc d t x)(hb:dO G C sc d b ys){A:Around}{E:QqV}{I:Itr G}{σ₀:St}{s₁:Shared}{K:Fl->Fr->St->Prop}{v:V}{w:Value}(c:Cx G sc d A env ρ σ s₁)
  (hX:∀b∈I.own,b∉envX env) {n:Nat} (lt:I.vs.length-(i+1)<n) (x0:Go (envX env) σ₀ s σ s₁) (hp:I.pos (i+1) s₁.heap) (hd:∀b∈I.own,¬σ.dom b) (vr:VR G s₁.heap v w)
  (hf:pz t v σ ρ λρ=>dt C b ρ σ (wm (λρ σ=>mU (I.vs.drop (i+1)) I.Gd (DM C t b K) ρ σ (K .next)) K))
  {Qp:Flow->Shared->Prop} (h1:∀s',(∃m,m<n/\mI I C env t b K σ₀ s m s')->Qp .next s'/\Qp .cont s') (h2:∀s',qd G env σ₀ s K .next s'->Qp .brk s') (h3:∀w s',qd G env σ₀ s K (.ret w) s'->Qp (.ret w) s') :
  wpAny G.M A (assign x env w) (λ_ B=>wpAny G.M A (execs ys env) Qp E B) E s₁:=by
 apply bt (ht c vr hf) (λ_ B l=>?_) λ_ _ x=>x;have#[bl,ag,be,bd,H]:=l;have#[bn,ar]:=I.B5 hX hp hd H.e;apply bt (hb (c.at be bd) ag) (λf bu l=>?_) λ_ _ x=>x;have#[fl,O,U,a,Z,W,Y,J]:=l;have#[ao,z]:=I.B5 hX bn ar J.e;have x5:=(x0.trans H).trans J;cases fl with
 |next=>have rfl:=a;show(h1 _ (mI.next lt ao W Y x5 z Z)).1
 |cont=>have rfl:=a;show(h1 _ (mI.next lt ao W Y x5 z Z)).2
 |brk=>have rfl:=a;show h2 _ #[.next,O,U,.next,Z,W,Y,x5]
 |ret v=>have#[w,rfl,v]:=a;show h3 _ _ #[_,O,U,.ret v,Z,W,Y,x5]
def BJ {it:It}{y:Expr}{ys:List Stmt}(ht:y6 G C sc d t x)(hi:xq G C sc d (isTup x) it y)(hb:dO G C sc d b ys)(hs:∀env v,foldedSetIterable y env v=pure v) :
  vm G C sc d (.each t it b) (.For x y ys [] pos):=λA E env ρ σ K s c h=>by
 apply wpAny_For (bt (hi c h) (λv s₁ h₁=>bt h₁ (λbl s₂ l=>?_) λ_ _ x=>x) λ_ _ x=>x) (hs env);have#[I,σ₁,rfl,ag,hf,hp,r,H,W,bd]:=l;have J:=zm c.R W;have hX:=jE c.F W;apply codeAny_forLoop_any (mI I C env t b K σ s) ?_ (I.vs.length-0)
  #[0,σ₁,ρ,rfl,hp,c.F.evo H.e,r,H.wide,bd,hf]
 intro n s' z;have#[i,σ',ρ',en,Y,F',R',x',O,U]:=z;cases hq:I.vs[i]? with
 |none =>
  rw[List.drop_eq_nil_of_le (jj.mp hq)]at U;apply I.stop A _ s' σ' i _ c.ao.handled R' U.1 Y hq λs2 g=>?_;have#[Z,g2]:=g;show wpAny_execs_nil #[.next,ρ',σ',.next,U.2,F'.but Z (I.frz Y Z) hX,I.rel Y R' O J Z,x'.but Z g2 W]
 |some v =>
  have#[be,B]:=xW hq;rw[B]at U;apply bt (I.next A _ s' σ' i v x ?Q c.ao.handled R' U.1 Y hq (λq=>s9 (ag q)) ?k) (λr s₁ hr=>?m) λ_ _ x=>x
  case m =>
   cases r with
   |none=>show hr.elim
   |some w=>show hr
  case k =>
   intro w s2 g z;have#[Z,g2]:=g;have#[vr,ar]:=z (I.frz Y Z);show zW ht hb (c.at (F'.but Z (I.frz Y Z) hX) (I.rel Y R' O J Z)) hX (en▸Nat.sub_succ_lt_self _ _ be) (x'.but Z g2 W) ar O vr U.2 (λ_ q=>#[q,q]) (λ_ q=>q) λ_ _ q=>q
end
end MP
end
section
set_option tactic.hygienic true
namespace MP
open PySem PyProof.Rows
abbrev ownsTuple (n:String):Bool:=["enumerate","zip","dict_itemiterator","dict_reverseitemiterator","odict_iterator","itertools.zip_longest","itertools.pairwise"].contains n
section
variable {G:Stc}{A:Around}{E:QqV}{s:Shared}
def mw {it:Addr}{o:Obj}{n:String}{target:Expr}{w:Value}{Q:Unit->Shared->Prop}(Z:s.heap.get? it=some o)(W:o.cls=.type n)(Y:ownsTuple n=false)(h:Q () s):wpAny G.M A (letOwnedTupleGo target (.ref it) w) Q E s:=by
 have go:wpAny G.M A (do
   let (.ref r,.ref a):=(Value.ref it,w)|return
   let o←load r
   match o.cls,o.data with
   |.type n,.fields vs=>if (ownsTuple n&&vs[0]?==some (rawInt a))=true then do rule "for.unpacks-the-owned-tuple";updateField r 0 .none else pure ()
   |_,_=>pure ():Sem Unit) Q E s:=by
  induction w using Value.casesOn with
  |ref a =>
   apply aa (ya Z ?_);rw[W];cases o.data with
   |fields vs =>
    show wpAny _ _ (if (ownsTuple n&&vs[0]?==some (rawInt a))=true then _ else _) _ _ _;rw[Y,Bool.false_and,az (by decide)];show ab h
   |_=>show ab h
  |_=>show ab h
 induction target using Expr.casesOn<;>first|show go|show ab h
def jd {o:Obj}{n:String}{vs:Array Value}(Z:o.cls=.type n)(hd:o.data=.fields vs)(W:n ≠ "builtin_function_or_method")(Y:n ≠ "method-wrapper"):¬Frz o:=by
 rintro (⟨_,_,_,h⟩|⟨h|h,_⟩|⟨_,h⟩)
 ·rw[hd]at h;cases h
 ·rw[Z]at h;injection h with h;show W h
 ·rw[Z]at h;injection h with h;show Y h
 ·rw[hd]at h;cases h
abbrev HO (G:Stc)(it l:Addr)(hne:l≠it)(xs:List V):Itr G where
 it:=it
 own:=[it]
 vs:=xs
 Gd:=λτ=>τ.L l=some xs
 tup:=false
 pos:=λi h=>h.IsListIter it l i
 keep:=λi h h' zz3 hk _=>by have#[o,ho,r]:=zz3;apply#[o,hk it (.head _) o ho,r]
 obj:=λi h z b hb=>by have#[o,ho,hc,hd]:=z;have rfl:=ax.mp hb;apply#[o,ho,jd hc hd (by decide) (by decide)]
 self:=λA E s i Q hp q=>wpAny_pyIter_listiter hp q
 next:=λA E s σ i v target Q hh R hg hp hv htup k=>by
  have#[ws,n,hl,hvs]:=R.L l xs hg;have#[w,hw,vr]:=hvs.get hv;apply wpAny_pyNext_list_item hp hl.isList (by simpa using hw) λh' hp' hs=>?_;have#[o,ho,hc,hd]:=id hp';show mw ho hc (by decide) (k w _ (zk hs .rfl) λhf=>#[vr.mono hf,hp'])
 stop:=λA E s σ i Q hh R hg hp hv k=>by
  have#[ws,n,hl,hvs]:=R.L l xs hg;have hlen:=hvs.length;show wpAny_pyNext_list_end hh hp hl.isList (by simpa[<- hlen] using hv) λh' he=>k _ (yl he (.head _) .rfl)
end
end MP
end
section
namespace MP
open PySem PyProof.Rows
variable {α:Type}{ps:List Nat}
def slot_set_iter:Slot "set" "__iter__" "set.__iter__":=
 .of (owner:="set") (n:="__iter__") (by rw[ec,cq];kernel_rfl) (by decide +kernel) (by decide +kernel) (by decide +kernel)
  (by first|show .inl (by decide +kernel)|show .inr (by decide +kernel)) (by rw[gh];kernel_rfl)
def lH:entryFor table "set.__iter__"=some Builtin.«frozenset.__iter__»:=
 aK (id':="frozenset.__iter__") (by kernel_rfl) (by first|rfl|decide +kernel|(unfold String.splitOn;simp +decide [String.splitOnAux])) (by decide +kernel) (by kernel_rfl)
def n0 (a:Value):argsOk "set.__iter__" #[[a],[]]:=by unfold argsOk;kernel_rfl
def gx:Slot "set_iterator" "__next__" "set_iterator.__next__":=
 .of (owner:="set_iterator") (n:="__next__") (by rw[ec,cq];kernel_rfl) (by decide +kernel) (by decide +kernel) (by decide +kernel)
  (by first|show .inl (by decide +kernel)|show .inr (by decide +kernel)) (by rw[gh];kernel_rfl)
def sh:entryFor table "set_iterator.__next__"=some Builtin.«set_iterator.__next__»:=entryFor_of_fast (by kernel_rfl)
def te (a:Value):argsOk "set_iterator.__next__" #[[a],[]]:=by unfold argsOk;kernel_rfl
def ye:Slot "set_iterator" "__iter__" "set_iterator.__iter__":=
 .of (owner:="set_iterator") (n:="__iter__") (by rw[ec,cq];kernel_rfl) (by decide +kernel) (by decide +kernel) (by decide +kernel)
  (by first|show .inl (by decide +kernel)|show .inr (by decide +kernel)) (by rw[gh];kernel_rfl)
def eL:entryFor table "set_iterator.__iter__"=some Builtin.«dict_keyiterator.__iter__»:=
 aK (id':="dict_keyiterator.__iter__") (by kernel_rfl) (by first|rfl|decide +kernel|(unfold String.splitOn;simp +decide [String.splitOnAux])) (by decide +kernel) (by kernel_rfl)
def fW (a:Value):argsOk "set_iterator.__iter__" #[[a],[]]:=by unfold argsOk;kernel_rfl
def eK:∀(l:List α) {i:Nat} (h:i<l.length),(l[i]::l.eraseIdx i).Perm l
 |x::l,0,_=>.refl _
 |x::l,i+1,h=>(List.Perm.swap _ _ _).trans ((eK l (Nat.lt_of_succ_lt_succ h)).cons x)
def x7 (next:Nat->Nat):∀(f k:Nat) (l:List α) (out:Array α),l.length=f->(pickOrder.go next f k l out).toList.Perm (out.toList++l)
 |0=>λk l out h=>by
  have rfl:=gJ.mp h;dsimp only[pickOrder.go];rw[cy]
 |f+1=>λk l out h=>by
  have Z:next k%l.length<l.length:=Nat.mod_lt _ (cg .D [[1,-1]] (.e .A .P) h)
  dsimp only[pickOrder.go];rw[cm Z];dsimp only;apply(x7 next f (k+1) _ _ (by rw[cJ Z];(show gr .G [[1,-1,-1],[1,1,1]] (.e .C .P) (.e .L .C) h (ae (cg .C .a (.l .B .A) Z))))).trans ?_;rw[Array.toList_push,jq];show(List.Perm.append_left _ (eK l Z))
def z9 (next:Nat->Nat)(xs:Array α):(pickOrder next xs).toList.Perm xs.toList:=by
 have:=x7 next xs.size 0 xs.toList #v[] (by simp)
 simpa[pickOrder] using this
section
variable {G:Stc}{A:Around}{E:QqV}{s:Shared}
abbrev bT (G:Stc)(a:Addr)(es:Array (Int×Value))(ep:Nat):Array (Int×Value):=if G.w.params.followText "set-order" then pickOrder (G.w.params.setOrder a ep) es else es
def aL (a:Addr)(es:Array (Int×Value))(ep:Nat):(bT G a es ep).toList.Perm es.toList:=by
 unfold bT;split
 ·show z9 _ _
 ·show .refl _
def uB (a:Addr)(es:Array (Int×Value))(ep:Nat):(bT G a es ep).size=es.size:=by
 rw[<- iy,(aL a es ep).length_eq,iy]
def bY {Q:Bool->Shared->Prop}(h:Q (G.w.params.followText "set-order") s):wpAny G.M A setsByText Q E s:=by
 unfold setsByText;show aa (rv (ab h))
def kA {a:Addr}{o:Obj}{es:Array (Int×Value)}{ep slot i:Nat}{t:SetTable}{Q:Option (Value×Nat)->Shared->Prop}(J:s.heap.get? a=some o)(hd:o.data=.set es ep t)(W:t.fits es.size=true)(I:Tbl G.led t)(O:G.led=true->(!t.plain&&decide (es.size>1))=false)
  (hs:G.led=true->SetTable.below t.place slot=i) (h:∀Z,(i<es.size->G.led=true->SetTable.below t.place Z=i+1)->Q (((bT G a es ep)[i]?).map λe=>(e.2,Z)) s):wpAny G.M A (setNext a slot i ep) Q E s:=by
 have hz:t.place.size=es.size:=by
  unfold SetTable.fits at W;show vp.mp (mK.mp W).1
 unfold setNext;apply aa (aG J hd W ?_);dsimp only;apply aa (bY ?_);cases hb:G.w.params.followText "set-order" with
 |true =>
  have Y:G.led=false:=by show(!_)=false;rw[hb];rfl
  simp -iota only[dQ,dn,↓reduceIte,pure_bind];unfold setWalk;apply aa (aa (aG J hd W ?_));dsimp only;apply aa (bY ?_);rw[hb];simp -iota only[↓reduceIte];apply aa (rv (ab (ab ?_)));have:=h slot (λ_ q=>by rw[Y]at q;cases q);unfold bT at this;rw[hb]at this;show this
 |false =>
  have Y:G.led=true:=by show(!_)=true;rw[hb];rfl
  have U:(!t.led&&!es.isEmpty)=false:=by rw[I.led,Y];rfl
  simp -iota only[dn,↓reduceIte];show wpAny _ _ (if (!t.plain&&decide (es.size>1))=true then _ else _) _ _ s;rw[O Y,az (by decide)];apply aa ?_;show wpAny _ _ (if (!t.led&&!es.isEmpty)=true then _ else _) _ _ s;rw[U,az (by decide)];apply ab ?_;have e0:bT G a es ep=es:=by unfold bT;rw[hb];rfl
  rw[hs Y];rw[e0]at h;rcases Nat.lt_or_ge i es.size with c|c
  ·have e1:es[i]?=some es[i]:=fu c;have c2:i<t.place.size:=by(show gr .B .k (.e .B .C) .H hz c)
   have z:t.place[i]?=some t.place[i]:=fu c2;have:=h (t.place[i]+1) λ_ _=>vU I.rise z;rw[e1]at this;rw[e1,z];show ab this
  ·have:=h slot λq=>by(show λq1=>(gr (.e .A .P) [[0,1,1],[0,1,1]] .F (.l .B .C) c q))
   rw[Array.getElem?_eq_none c]at this;rw[Array.getElem?_eq_none c];show ab this
abbrev iE (h:Heap)(it a:Addr)(f:Value)(i n ep:Nat):Prop:=
 ∃o,h.get? it=some o/\o.cls=.type "set_iterator"/\o.data=.fields #v[f,.int i 0,.ref a,.int n 0,.int ep 0]
def iE.typeIs {it a f i n ep}(x:iE s.heap it a f i n ep):s.TypeIs (.ref it) "set_iterator":=by
 have#[o,Z,Y,_]:=x;apply#[o,Z,Y]
def fE {it a:Addr}{f:Value}{i n ep:Nat}{Q:QqV}(hit:iE s.heap it a f i n ep)(h:Q (.ref it) s):wpAny G.M A (pyIter (.ref it)) Q E s:=by
 apply aH hit.typeIs ye (eh ye hit.typeIs eL ?_ (fW _));show wpAny _ _ (ret (.ref it)) _ _ s;show ab #[_,rfl,"set_iterator",_,hit.typeIs,gx.lookup,h]
def vE {Q:List α->Shared->Prop}:∀(n:Nat) (xs:List α) (s:Shared),xs.length=n->(∀ys Z,ys.Perm xs->Q ys {s with drawn:=Z})->wpAny G.M A (drawOrder n xs) Q E s:=by
 intro n;induction n generalizing Q with
 |zero=>intro xs s e h;have rfl:=gJ.mp e;show ab (h [] s.drawn (.refl _))
 |succ n Y =>
  intro xs s e h;have#[x,l,rfl]:=lq e;dsimp only[drawOrder];apply aa (λJ p W=>#[zd _,?_]);generalize O:G.M.w.draws Source.order (s.drawn.get Source.order)%(x::l).length=i;have lt:i<(x::l).length:=O▸Nat.mod_lt _ (Nat.succ_pos _);have:=Y ((x::l).eraseIdx i) {s with drawn:=s.drawn.bump .order} (by rw[cJ lt,e];rfl) (Q:=λys s'=>Q ((x::l)[i]::ys) s') λys Z U=>h _ Z ((U.cons _).trans (eK _ lt));show wpAny _ _ (match (x::l)[i]? with|some y=>_|none=>_) _ _ _;rw[cm lt];show aa (bt this (λys s' h=>ab h) λ_ _ x=>x)
public abbrev yr (ps:List Nat):Obj:={cls:=.type "tuple",data:=.seq (ps.map λi:Nat=>rawInt i).toArray}
def D9 {a:Addr}{o:Obj}{es:Array (Int×Value)}{ep:Nat}{t:SetTable}{Q:QqV}(Z:s.heap.get? a=some o)(J:o.cls=.type "set")(hd:o.data=.set es ep t)(W:t.fits es.size=true)(hb:es.size<scanBound)
  (h:(G.led=true->(!t.plain&&decide (es.size>1))=false)->Q (.ref s.heap.objs.size) {s with heap:=s.heap.push {cls:=.type "set_iterator",data:=.fields #v[.int (0:Nat) 0,.int (0:Nat) 0,.ref a,.int es.size 0,.int ep 0]}})
  (I:∀ps U,ps.Perm (List.range es.size)->Q (.ref (s.heap.push (yr ps)).objs.size) {s with heap:=(s.heap.push (yr ps)).push {cls:=.type "set_iterator",data:=.fields #v[.ref s.heap.objs.size,.int (0:Nat) 0,.ref a,.int es.size 0,.int ep 0]},drawn:=U}):wpAny G.M A (pyIter (.ref a)) Q E s:=by
 have Y:s.TypeIs (.ref a) "set":=#[o,Z,J];apply aH Y slot_set_iter (eh slot_set_iter Y lH ?_ (n0 _));unfold Builtin.«frozenset.__iter__»;apply aa (ab ?_);apply aa ?_;unfold Builtin.Frozenset.sizeOf;apply aa (jc Z hd W (ab ?_));apply aa ?_;unfold setDrawn;apply aa (aG Z hd W ?_);dsimp only;apply aa (bY ?_);apply ab ?_;show wpAny _ _ (if (!G.w.params.followText "set-order" && (!t.plain&&decide (es.size>1)))=true then _ else _) _ _ s;by_cases c:(!G.w.params.followText "set-order" && (!t.plain&&decide (es.size>1)))=true
 ·rw[br c];apply aa (vE _ _ _ oz λps U O=>?_);apply aa (wpAny_newTuple ?_ (by rw[ai,O.length_eq,oz];show fk (iz hb) (by rw[sizeLine_eq];decide)));apply aa (iU (ah _ Z) hd W ?_);show aa (iq (ab #[_,rfl,"set_iterator",_,#[_,bc _ rfl,rfl],gx.lookup,I ps U O]))
 ·rw[az c];apply aa (ab ?_);apply aa (iU Z hd W ?_);apply aa (iq (ab #[_,rfl,"set_iterator",_,#[_,bc _ rfl,rfl],gx.lookup,h λq=>?_]));cases e:(!t.plain&&decide (es.size>1)) with
  |false=>rfl
  |true=>show absurd (by rw[e,Bool.and_true];show q) c
def e8 {prog:Program}{w:World}{Q:α->Shared->Prop}(Z:A.handled=none)
  (h:∀h' e,(∀b o,s.heap.get? b=some o->h'.get? b=some o)->(∃o,h'.get? e=some o/\o.cls=.type "StopIteration")->E (.ref e) {s with heap:=h'}):wpAny (model prog w) A (newExc (.type "StopIteration") []>>=raiseNew) Q E s:=by
 apply aa ?_;unfold newExc newTuple;apply aa (iq ?_ (by size_fits));apply aa (m:=firstArgMember _ _) (di (a:=Value.none) (by first|rfl|(simp only[firstArgMember];rfl)) ?_);apply iq ?_ (by size_fits);unfold raiseNew;apply aa (wpAny_handled ?_);rw[Z];show aa (ab (wpAny_throw (h _ _ (λb o e=>ah _ (ah _ e)) #[_,bc _ rfl,rfl])))
section
variable {it a:Addr}{o:Obj}{es:Array (Int×Value)}{ep i:Nat}{t:SetTable}{Q:Option Value->Shared->Prop}
def mS {slot:Nat}{x:Int×Value}(hit:iE s.heap it a (.int slot 0) i es.size ep)(H:s.heap.get? a=some o)(hd:o.data=.set es ep t)(B:t.fits es.size=true)(hT:Tbl G.led t)(O:G.led=true->(!t.plain&&decide (es.size>1))=false)
  (z:G.led=true->SetTable.below t.place slot=i) (I:(bT G a es ep)[i]?=some x)
  (h:∀(Z:Nat) h',iE h' it a (.int Z 0) (i+1) es.size ep->(G.led=true->SetTable.below t.place Z=i+1)->Heap.SameBut it s.heap h'->Q (some x.2) {s with heap:=h'}):wpAny G.M A (pyNext (.ref it)) Q E s:=by
 have#[oi,W,hc,Y]:=id hit;have U:i<es.size:=by
  have#[q,_]:=nh.mp I;rw[uB]at q;show q
 unfold pyNext;apply aa (bI (je (name:=Str.ofString "__next__") hit.typeIs gx
  (eh gx hit.typeIs sh ?_ (te _))))
 unfold Builtin.«set_iterator.__next__»;apply aa (ab ?_);apply aa (wpAny_fieldsOf W Y ?_);dsimp only;apply aa (jc H hd B ?_);rw[az (by simp)];apply aa (m:=setNext a _ _ _) (kA (i:=i) (slot:=slot) H hd B hT O z λZ q=>?_);rw[I];dsimp only[Option.map_some];apply aa (ru W Y (by simp) ?_);have g1:=jx (Obj.mapFields (·.setIfInBounds 0 (rawInt Z))) W (tw (ji Y _));have J:=ji Y (·.setIfInBounds 0 (rawInt Z));apply aa (ru (s:={s with heap:=s.heap.update it (Obj.mapFields (·.setIfInBounds 0 (rawInt Z)))}) g1 J (by simp) (ab #[x.2,rfl,ab (h Z _ ?_ (q U) ((fx ..).trans (fx ..)))]));apply⟨_,jx _ g1 (tw (ji J _)),(iX ..).trans ((iX ..).trans hc),by
  rw[ji J];simp[rawInt]⟩
def pC {slot:Nat}(B:A.handled=none)(hit:iE s.heap it a (.int slot 0) i es.size ep)(O:s.heap.get? a=some o)(hd:o.data=.set es ep t)(J:t.fits es.size=true)(hT:Tbl G.led t)(U:G.led=true->(!t.plain&&decide (es.size>1))=false)
  (H:G.led=true->SetTable.below t.place slot=i) (I:(bT G a es ep)[i]?=none)
  (h:∀h',Heap.ExtBut it s.heap h'->Q none {s with heap:=h'}):wpAny G.M A (pyNext (.ref it)) Q E s:=by
 have#[oi,Z,hc,Y]:=id hit;unfold pyNext;apply aa (bI (je (name:=Str.ofString "__next__") hit.typeIs gx
  (eh gx hit.typeIs sh ?_ (te _))))
 unfold Builtin.«set_iterator.__next__»;apply aa (ab ?_);apply aa (wpAny_fieldsOf Z Y ?_);dsimp only;apply aa (jc O hd J ?_);rw[az (by simp)];apply aa (m:=setNext a _ _ _) (kA (i:=i) (slot:=slot) O hd J hT U H λW q=>?_);rw[I];dsimp only[Option.map_none];apply aa (ru Z Y (by simp) ?_);apply e8 B λh' e hk z=>?_;apply aa (vo (T:="StopIteration") (b:=true) z isSubtype_stop ?_);show ab (h _ λb o n e=>hk b o ((fx ..).extBut b o n e))
def o6 {W:Addr}(hit:iE s.heap it a (.ref W) i es.size ep)(I:s.heap.get? W=some (yr ps))(U:s.heap.get? a=some o)(hd:o.data=.set es ep t)(O:t.fits es.size=true)
  (h1:∀j,ps[i]?=some j->∃x,es[j]?=some x/\∀h',iE h' it a (.ref W) (i+1) es.size ep->Heap.SameBut it s.heap h'->Q (some x.2) {s with heap:=h'})
  (h2:ps[i]?=none->A.handled=none/\∀h',Heap.ExtBut it s.heap h'->Q none {s with heap:=h'}):wpAny G.M A (pyNext (.ref it)) Q E s:=by
 have#[oi,Y,z,Z]:=id hit;unfold pyNext;apply aa (bI (je (name:=Str.ofString "__next__") hit.typeIs gx
  (eh gx hit.typeIs sh ?_ (te _))))
 unfold Builtin.«set_iterator.__next__»;apply aa (ab ?_);apply aa (wpAny_fieldsOf Y Z ?_);dsimp only;apply aa (jc U hd O ?_);rw[az (by simp)];apply aa (mh I rfl ?_);dsimp only;rw[gw,show(ps.map λi:Nat=>rawInt i).toArray[i]?=ps[i]?.map λj:Nat=>rawInt j by simp];cases hj:ps[i]? with
 |some j =>
  have#[x,J,h]:=h1 j hj;show wpAny _ _ (setNextDrawn a _ _>>=_) _ _ _;unfold setNextDrawn;apply aa (aa (aG U hd O ?_));dsimp only;rw[az (by simp),gw,J];apply ab ?_;apply aa (ru Y Z (by simp) (ab #[x.2,rfl,ab (h _ ?_ (fx ..))]));apply⟨_,jx _ Y (tw (ji Z _)),(iX ..).trans z,by
   rw[ji Z];simp[rawInt]⟩
 |none =>
  have#[H,h]:=h2 hj;show wpAny _ _ (setField _ 0 _>>=_) _ _ _;apply aa (ru Y Z (by simp) ?_);apply aa (ru (s:={s with heap:=_}) (jx (Obj.mapFields (·.setIfInBounds 0 (rawInt 0))) Y (tw (ji Z _))) (ji Z _) (by simp) ?_);apply e8 H λh' e hk B=>?_;apply aa (vo (T:="StopIteration") (b:=true) B isSubtype_stop ?_);show ab (h _ λb o n e=>hk b o ((fx ..).extBut b o n ((fx ..).extBut b o n e)))
def uH {Z j:Nat}{x:Int×Value}(hit:iE s.heap it a (.ref Z) i es.size ep)(U:s.heap.get? Z=some (yr ps))(O:s.heap.get? a=some o)(hd:o.data=.set es ep t)(J:t.fits es.size=true)
  (Y:ps[i]?=some j) (W:es[j]?=some x)
  (h:∀h',iE h' it a (.ref Z) (i+1) es.size ep->Heap.SameBut it s.heap h'->Q (some x.2) {s with heap:=h'}):wpAny G.M A (pyNext (.ref it)) Q E s:=
 o6 hit U O hd J (λk e=>by have rfl:=af (Y.symm.trans e);apply#[x,W,h]) (λe=>by rw[Y]at e;cases e)
def zX {Z:Addr}(O:A.handled=none)(hit:iE s.heap it a (.ref Z) i es.size ep)(Y:s.heap.get? Z=some (yr ps))(W:s.heap.get? a=some o)(hd:o.data=.set es ep t)(J:t.fits es.size=true)
  (U:ps[i]?=none) (h:∀h',Heap.ExtBut it s.heap h'->Q none {s with heap:=h'}):wpAny G.M A (pyNext (.ref it)) Q E s:=
 o6 hit Y W hd J (λk e=>by rw[U]at e;cases e) (λ_=>#[O,h])
end
end
section
variable {G:Stc}{A:Around}{E:QqV}{s:Shared}{σ:St}
def kg {env:Env}{x:Str}{pos:Pos}{v:Value}{Q:QqV}(K:GOk G)(O:yo env)(R:Rel G σ s.heap)(I:env.scope.names.lookup x=some .globalImplicit)(J:jg x=true)(hv:G.gl x=some v)(h:Q v s):wpAny G.M A (eval (.Name x pos) env) Q E s:=by
 have W:(x==("__debug__":Str))=false:=by simp only[jg,dh,dp]at J;show J.1
 apply Calls.Name_function_global O.kind I ?_ W;have#[mg,mb,H,hb,e]:=K.names;rw[e]at hv;have Z:s.heap.Ns env.globals mg:=by rw[O.globals];show H.keeps R.base
 have U:s.heap.Ns env.builtins mb:=by rw[O.builtins];show hb.keeps R.base
 cases Y:mg x with
 |some u=>rw[Y]at hv;cases hv;show Calls.loadGlobal_global Z Y h
 |none=>rw[Y]at hv;show Calls.loadGlobal_builtin Z Y U hv h
end
variable {A:Around}{E:QqV}{σ:St}{x:Str}{p pos:Pos}{tupled:Bool}
abbrev D6 (G:Stc)(it:Addr)(a c:Int)(n:Nat)(xs:List V)(hl:xs.length=n)(hx:∀i,i<n->xs[i]?=some (.int (a+c*i))):Itr G where
 it:=it
 own:=[it]
 vs:=xs
 Gd:=λ_=>True
 tup:=false
 pos:=λi h=>i<=n/\IsRangeIter h it (a+c*i) (n-i) c
 keep:=λi h h' zz3 hk _=>by have#[hi,hp]:=zz3;apply#[hi,hk it (.head _) _ hp]
 obj:=λi h z b hb=>by have#[_,hp]:=z;have rfl:=ax.mp hb;apply#[_,hp,jd rfl rfl (by decide) (by decide)]
 self:=λA E s i Q hp q=>wpAny_pyIter_rangeiter hp.2 q
 next:=λA E s σ i v target Q hh R hg hp hv htup k=>by
  have#[hi,hp]:=hp;have hlt:i<n:=by rw[<- hl];show(cf.mp hv).1
  obtain rfl:v=.int (a+c*i):=af (hv.symm.trans (hx i hlt));apply wpAny_pyNext_range_item hp (cg (.il .O (.s (.t .A) (.t .B))) .a (.l .B .A) hlt) λh' hp' hs=>?_;have e:a+c*i+c=a+c*((i+1:Nat):Int):=by push_cast;rw[Int.mul_add];(show Ar.a0 [_,_,_] [] (.ie (.a (.a .A .B) .C) (.a .A (.a .B (.r .C 1)))) [[1],[1]])
  have e2:(n:Int)-i-1=n-((i+1:Nat):Int):=by(show n9 (.ie (.s (.s (.t .A) (.t .B)) .U) (.s (.t .A) (.t .P))) [[1],[1]])
  rw[e,e2]at hp';show mw hp' rfl (by decide) (k _ _ (zk hs .rfl) λ_=>#[.int _ _,hlt,hp'])
 stop:=λA E s σ i Q hh R hg hp hv k=>by
  have#[hi,hp]:=hp;have hge:n<=i:=by rw[<- hl];show jj.mp hv
  show wpAny_pyNext_range_end hh hp (cg (.ik (.s (.t .A) (.t .B)) .O) .a .A hge) λh' he=>k _ (yl he (.head _) .rfl)
def EW {x:Int}{n:Nat}(h:x.natAbs<n):-(n:Int)<=x/\x<=n:=by(show#[((Ar.nab _).elim (λZ=>(Ar.a1 [_] [_] (.ik (.g (.t .A)) .A) .a (.ik .O .A) Z.1)) λZ=>(Ar.a2 [_] [_,_] (.ik (.g (.t .A)) .A) .d (.l .B .A) (.ie (.t .B) (.g .A)) h Z.2)),((Ar.nab _).elim (λZ=>(Ar.a2 [_] [_,_] (.ik .A (.t .A)) .d (.l .B .A) (.ie (.t .B) .A) h Z.2)) λZ=>(Ar.a1 [_] [_] (.ik .A (.t .A)) .a (.ik .A .O) Z.1))])
def fG {x:Int}(Y:-(2^42)<=x)(Z:x<=2^42):Builtin.Range.rangeFitsLong x=true:=by
 unfold Builtin.Range.rangeFitsLong;rw[cj (ja (by decide) Y),cj (Int.lt_of_le_of_lt Z (by decide))];rfl
def qX {a b c:Int}(U:a.natAbs<2^40)(hb:b.natAbs<2^40)(Y:0<c)(Z:c<2^40):Builtin.Range.small a b c=true:=by
 have A:=EW U;have B:=EW hb;have W:0<=Builtin.Range.rangeSize a b c/\Builtin.Range.rangeSize a b c<=2^42:=by
  unfold Builtin.Range.rangeSize;rw[br Y];split
  ·rename_i h;have h0:0<=b-a-1:=Int.le_sub_one_of_lt (Int.sub_pos.mpr h);apply#[Int.add_nonneg (Int.ediv_nonneg h0 (Int.le_of_lt Y)) (by decide),ja (Int.add_le_add_right (Int.ediv_le_self c h0) 1) (by rw[Int.sub_add_cancel];show ja (Int.sub_le_sub B.2 A.1) (by decide))]
  ·apply#[Int.le_refl _,by decide]
 unfold Builtin.Range.small;rw[br Y,fG (ja (by decide) A.1) (ja A.2 (by decide)),fG (ja (by decide) B.1) (ja B.2 (by decide)),fG (ja (by decide) (Int.le_of_lt Y)) (ja (Int.le_of_lt Z) (by decide)),fG (ja (by decide) W.1) W.2,
  fG (x:=b+(c-1)) (ja (by decide) (Int.add_le_add B.1 (Int.le_sub_one_of_lt Y))) (ja (Int.add_le_add B.2 (ja (Int.sub_le_self c (by decide)) (Int.le_of_lt Z))) (by decide)),Bool.or_true]
 rfl
section
variable {G:Stc}{C:Cal}{sc:Scope}{d:Nat}
def sv {s:Shared}{env:Env}{ρ:Fr}{T:String}{es:Exs}{args:List Expr}{P:List V->St->Prop}{Q:QqV}(K:GOk G)(Y:noStar args=true)(Z:oq G C sc d es args)(W:sc.names.lookup x=some .globalImplicit)(O:jg x=true)(U:G.gl x=some (.type T))(c:Cx G sc d A env ρ σ s)(h:xy C es ρ σ P)
  (k:∀vs σ₁ s₁ ws,P vs σ₁->VRs G s₁.heap vs ws->Rel G σ₁ s₁.heap->Go [] σ s σ₁ s₁->wpAny G.M A (call (.type T) ws) Q E s₁) :
  wpAny G.M A (eval (.Call (.Name x p) args [] pos) env) Q E s:=
 Call_ (kg K c.eo c.R (by rw[c.es];show W) O U (cF (jb Y pos env) (nt (jb Y pos env) (kD (Z c h) k))))
def tW {s:Shared}{env:Env}{ρ:Fr}{id:String}{es:Exs}{args:List Expr}{P:List V->St->Prop}{Q:QqV}(K:GOk G)(U:noStar args=true)(Z:oq G C sc d es args)(Y:sc.names.lookup x=some .globalImplicit)(O:jg x=true)(W:G.gl x=some (.builtin id))(c:Cx G sc d A env ρ σ s)(h:xy C es ρ σ P)
  (k:∀vs σ₁ s₁ ws,P vs σ₁->VRs G s₁.heap vs ws->Rel G σ₁ s₁.heap->Go [] σ s σ₁ s₁->wpAny G.M A (call (.builtin id) ws) Q E s₁) :
  wpAny G.M A (eval (.Call (.Name x p) args [] pos) env) Q E s:=
 Call_ (kg K c.eo c.R (by rw[c.es];show Y) O W (og U Z c h k))
def kG {σ₀:St}{s₀:Shared}{a b c:Int}{t u v:Tok}{xs:List V}{n:Nat}{P:List V->(St->Prop)->St->Prop}{tk:Nat}{H:Drawn}{s₁:Shared}(R:Rel G σ s₁.heap)(x:Go [] σ₀ s₀ σ s₁)(U:Builtin.Range.small a b c=true)
  (W:Builtin.Range.rangeSize a b c=n) (I:xs.length=n) (J:∀i,i<n->xs[i]?=some (.int (a+c*i))) (q:P xs (λ_=>True) σ) :
  wpAny G.M A (pyIter (.ref s₁.heap.objs.size)) (oI G σ₀ s₀ tupled P) E #[s₁.heap.push {cls:=.type "range",data:=.fields #v[.int a t,.int b u,.int c v]},s₁.gens,H,tk,s₁.os]:=by
 apply wpAny_pyIter_range (IsRange.new ..) U ?_;have hk:∀z o,s₁.heap.get? z=some o->((s₁.heap.push {cls:=.type "range",data:=.fields #v[.int a t,.int b u,.int c v]}).push {cls:=.type "range_iterator",data:=.fields #v[rawInt a,rawInt (Builtin.Range.rangeSize a b c),rawInt c]}).get? z=some o:=λz o e=>ah _ (ah _ e);have Y:(s₁.heap.push {cls:=.type "range",data:=.fields #v[.int a t,.int b u,.int c v]}).objs.size=s₁.heap.objs.size+1:=fg ..;have Z:s₁.heap.get? (s₁.heap.objs.size+1)=none:=qq (oo (.k .A .L) .f);apply#[D6 G (s₁.heap.objs.size+1) a c n xs I J,σ,by rw[<- Y];rfl,λh=>(nomatch h),q,#[dj _,?_],R.keeps hk,x.to (Evo.keeps hk),λz hz=>?_,λz hz B=>?_]
 ·rw[<- Y];have:=bc (s₁.heap.push {cls:=.type "range",data:=.fields #v[.int a t,.int b u,.int c v]}) (o:={cls:=.type "range_iterator",data:=.fields #v[rawInt a,rawInt (Builtin.Range.rangeSize a b c),rawInt c]}) rfl;show IsRangeIter _ _ (a+c*((0:Nat):Int)) ((n:Int)-((0:Nat):Int)) c;rw[show a+c*((0:Nat):Int)=a by simp,show(n:Int)-((0:Nat):Int)=n by simp,<- W];show this
 ·have rfl:=ax.mp hz;show x.new Z
 ·have O:=ax.mp hz;clear hz
  try clear hz
  have rfl:=O;have#[o,e]:=R.lz B;rw[Z]at e;cases e
def kZ (a b:Int)(n:Nat)(Z:n=(b-a).toNat):(uj a b).length=n/\∀i,i<n->(uj a b)[i]?=some (.int (a+1*i)):=by
 subst Z;apply#[by simp[uj],λi Y=>?_];unfold uj;rw[bw,List.getElem?_range Y];simp
def HS {e:Ex}{y:Expr}(K:GOk G)(H:dk G C sc d e y)(Y:noStar [y]=true)(O:sc.names.lookup x=some .globalImplicit)(I:jg x=true)(J:G.gl x=some (.type "range")) :
  xq G C sc d tupled (.rng1 e) (.Call (.Name x p) [y] [] pos):=λA E env ρ σ P s c h=>by
 have W:oq G C sc d %[e|0] [y]:=jf H lu (fj Y).1;apply sv (P:=λvs σ=>on1 vs λv=>∃n:Int,v=.int n/\n.natAbs<2^40/\P (uj 0 n) (λ_=>True) σ) K Y W O I J c h λvs σ₁ s₁ ws q vr r Z=>?_;replace q:=bU (vs:=vs) q;have#[v,rfl,n,rfl,hb,q]:=q;have U:=vr.one
 try clear vr
 have#[w,rfl,t,rfl]:=U;have#[g1,g2]:=kZ 0 n _ rfl;show call_range_1 (kG r Z (qX (by decide) hb (by decide) (by decide)) (by rw[rangeSize_nat]) g1 g2 q)
def HR {e f:Ex}{y z:Expr}(K:GOk G)(B:dk G C sc d e y)(H:dk G C sc d f z)(Z:noStar [y,z]=true)(O:sc.names.lookup x=some .globalImplicit)(I:jg x=true)(J:G.gl x=some (.type "range")) :
  xq G C sc d tupled (.rng2 e f) (.Call (.Name x p) [y,z] [] pos):=λA E env ρ σ P s c h=>by
 have W:oq G C sc d %[e,f|0] [y,z]:=jf B (jf H lu (fj (fj Z).2).1) (fj Z).1;apply sv (P:=λvs σ=>on2 vs λv u=>∃m n:Int,v=.int m/\u=.int n/\m.natAbs<2^40/\n.natAbs<2^40/\P (uj m n) (λ_=>True) σ) K Z W O I J c h λvs σ₁ s₁ ws q vr r Y=>?_;replace q:=nJ (vs:=vs) q;have#[v,u,rfl,m,n,rfl,rfl,ha,hb,q]:=q;have U:=vr.two
 try clear vr
 have#[w,w',rfl,#[t,rfl],#[t',rfl]]:=U;have#[g1,g2]:=kZ m n _ rfl;show call_range_2 (kG r Y (qX ha hb (by decide) (by decide)) (by rw[rangeSize_nat]) g1 g2 q)
def VRs.three {h:Heap}{v u z:V}{ws:List Value}(x:VRs G h [v,u,z] ws):∃w w' Z,ws=[w,w',Z]/\VR G h v w/\VR G h u w'/\VR G h z Z:=by
 have#[w,us,e,a,r]:=x;have#[w',Z,Y,b,c]:=VRs.two r;apply#[w,w',Z,e.trans (bb (w::·) Y),a,b,c]
end
variable {l:List (Int×Value)}
def dB:entryFor table "dict_itemiterator.__iter__"=some Builtin.«dict_keyiterator.__iter__»:=
 aK (id':="dict_keyiterator.__iter__") (by kernel_rfl) (by first|rfl|decide +kernel|(unfold String.splitOn;simp +decide [String.splitOnAux])) (by decide +kernel) (by kernel_rfl)
section
variable {G:Stc}
def gX {k:Key}{v:Value}(h:G.kk.is k v=true):pH v=k:=zr h
def uP {h:Heap}{k:Key}{v:Value}(e:G.kk.is k v=true):VR G h k.v v:=by
 rcases pj e with ⟨i,t,rfl,rfl⟩|⟨x,t,rfl,rfl⟩
 ·show .int _ _
 ·show .str _ _
abbrev yz (l:List (Int×Value)):List Key:=l.map λe=>pH e.2
def kP {es:List (Int×Value)}{ks:List Key}(W:l.Perm es)(J:ElemsOf G.kk es)(O:∀k,decide (k∈ks)=true↔∃e∈es,G.kk.is k e.2=true)(k:Key):k∈yz l↔k∈ks:=by
 apply Iff.trans #[λh=>?_,λh=>?_] ((O k).symm.trans (by simp))
 ·have#[e,Y,Z]:=bg.mp h;have U:=W.mem_iff.mp Y;have#[#[k',q,_],_]:=J e U;rw[gX q]at Z;apply#[e,U,Z▸q]
 ·have#[e,Y,Z]:=h;show bg.mpr #[e,W.mem_iff.mpr Y,gX Z]
def nL {es:List (Int×Value)}{i:Nat}{v:V}(O:ElemsOf G.kk es)(U:l.Perm es)(hv:((yz l).map Key.v)[i]?=some v):∃x,l[i]?=some x/\∀h,VR G h v x.2:=by
 unfold yz at hv;rw[bw,bw]at hv;cases Z:l[i]? with
 |none=>rw[Z]at hv;cases hv
 |some x =>
  rw[Z]at hv;have Y:=af hv
  try clear hv
  have rfl:=Y;have#[#[k',q,_],_]:=O x (U.mem_iff.mp (cz Z));apply#[x,rfl,λh=>?_];have W:G.kk.is (pH x.2) x.2=true:=by rw[gX q];show q
  show uP W
def kQ {i:Nat}(Z:((yz l).map Key.v)[i]?=none):l[i]?=none:=by
 rw[jj,ai,yz,ai]at Z;show sq Z
def lL {es:Array (Int×Value)}{ps:List Nat}(Y:ps.Perm (List.range es.size)):(ps.map λj=>es.getD j (0,.none)).Perm es.toList:=by
 apply(Y.map _).trans (.of_eq (List.ext_getElem (by simp) λi W Z=>?_));simp at W Z;simp[Array.getD,Z]
abbrev LS (G:Stc)(it a:Addr)(hne:a≠it)(o:Obj)(es:Array (Int×Value))(ep:Nat)(t:SetTable)(hd:o.data=.set es ep t)(hf:t.fits es.size=true)(hT:Tbl G.led t)(hdr:G.led=true->(!t.plain&&decide (es.size>1))=false)(he:ElemsOf G.kk es.toList):Itr G where
 it:=it
 own:=[it]
 vs:=(yz (bT G a es ep).toList).map Key.v
 Gd:=λτ=>τ.Z a=some o
 tup:=false
 pos:=λi h=>∃slot:Nat,iE h it a (.int slot 0) i es.size ep/\(G.led=true->SetTable.below t.place slot=i)
 keep:=λi h h' zz3 hk _=>by have#[slot,#[o,ho,r],q]:=zz3;apply#[slot,#[o,hk it (.head _) o ho,r],q]
 obj:=λi h z b hb=>by have#[slot,#[o,ho,hc,hd],q]:=z;have rfl:=ax.mp hb;apply#[o,ho,jd hc hd (by decide) (by decide)]
 self:=λA E s i Q hp q=>by have#[slot,hp,_]:=hp;show fE hp q
 next:=λA E s σ i v target Q hh R hg hp hv htup k=>by
  have#[slot,hp,hs]:=hp;have#[ho,_]:=R.Z _ _ hg;have#[x,hx,vr]:=nL he (aL (G:=G) a es ep) hv;apply mS hp ho hd hf hT hdr hs (by simpa using hx) λslot' h' hp' hs' hsb=>?_;have#[oi,hoi,hc,hdi]:=id hp';show mw hoi hc (by decide) (k _ _ (zk hsb .rfl) λ_=>#[vr h',slot',hp',hs'])
 stop:=λA E s σ i Q hh R hg hp hv k=>by
  have#[slot,hp,hs]:=hp;have#[ho,_]:=R.Z _ _ hg;show pC hh hp ho hd hf hT hdr hs (by simpa using kQ hv) λh' he'=>k _ (yl he' (.head _) .rfl)
abbrev D8 (G:Stc)(it tp a:Addr)(hne:tp≠it)(o:Obj)(es:Array (Int×Value))(ep:Nat)(t:SetTable)(ps:List Nat)(hp:ps.Perm (List.range es.size))(hd:o.data=.set es ep t)(hf:t.fits es.size=true)(he:ElemsOf G.kk es.toList):Itr G where
 it:=it
 own:=[it]
 vs:=(yz (ps.map λj=>es.getD j (0,.none))).map Key.v
 Gd:=λτ=>τ.Z a=some o
 tup:=false
 pos:=λi h=>iE h it a (.ref tp) i es.size ep/\h.get? tp=some (yr ps)
 keep:=λi h h' z hk hf=>by have#[#[o,ho,r],ht]:=z;apply#[#[o,hk it (.head _) o ho,r],hf tp _ ht (.inl #[show Value.type "tuple" ≠ .type "list" by decide,_,_,rfl])]
 obj:=λi h z b hb=>by have#[#[o,ho,hc,hd],q]:=z;have rfl:=ax.mp hb;apply#[o,ho,jd hc hd (by decide) (by decide)]
 self:=λA E s i Q hp q=>fE hp.1 q
 next:=λA E s σ i v target Q hh R hg z hv htup k=>by
  have#[ho,_]:=R.Z _ _ hg;have#[x,hx,vr]:=nL he (lL hp) hv;rw[bw]at hx;cases hj:ps[i]? with
  |none=>rw[hj]at hx;cases hx
  |some j =>
   rw[hj]at hx;have lt:j<es.size:=cI.mp (hp.mem_iff.mp (cz hj));have zz:=af hx
   try clear hx
   have rfl:=zz;apply uH z.1 z.2 ho hd hf hj (show es[j]?=some (es.getD j (0,.none)) by simp[Array.getD,lt]) λh' hp' hsb=>?_;have#[oi,hoi,hc,hdi]:=id hp';show mw hoi hc (by decide) (k _ _ (zk hsb .rfl) λ_=>#[vr h',hp',by rw[hsb.2 _ hne];show z.2])
 stop:=λA E s σ i Q hh R hg z hv k=>by
  have#[ho,_]:=R.Z _ _ hg;show zX hh z.1 z.2 ho hd hf (by simpa using kQ hv) λh' he'=>k _ (yl he' (.head _) .rfl)
def pairs_at {G:Stc}{h:Heap}:∀{es:List (Key×V)} {ds:List (Key×Value)},DRs G h es ds->ds.map (·.1)=es.map (·.1)/\∀(i:Nat) (e:Key×V),es[i]?=some e->∃w,ds[i]?=some (e.1,w)/\VR G h e.2 w
 | [],ds=>λr=>by have rfl:=r;apply#[rfl,λi e q=>by simp at q]
 |e::es,ds=>λr=>by
  have#[w,us,rfl,a,r]:=r;have#[Y,Z]:=pairs_at r;apply#[by rw[gv,gv,Y],λi W q=>?_];cases i with
  |zero=>have rfl:=af q;apply#[w,rfl,a]
  |succ i=>show Z i W q
abbrev HP (G:Stc)(it d:Addr)(o:Obj)(es:List (Key×V))(ds:List (Key×Value))(ep:Nat)(hds:ds.map (·.1)=es.map (·.1))(hat:∀h:Heap,h.get? d=some o->h.DictAt G.kk d ds ep):Itr G where
 it:=it
 own:=[it]
 vs:=es.map λe=>e.1.v
 Gd:=λτ=>τ.Z d=some o
 tup:=false
 pos:=λi h=>h.IsKeyIter it d i ds.length ep
 keep:=λi h h' zz3 hk _=>by have#[o,ho,r]:=zz3;apply#[o,hk it (.head _) o ho,r]
 obj:=λi h z b hb=>by have#[o,ho,hc,hd]:=z;have rfl:=ax.mp hb;apply#[o,ho,jd hc hd (by decide) (by decide)]
 self:=λA E s i Q hp q=>by
  apply aH hp.typeIs F.slot_dict_keyiterator_iter (eh F.slot_dict_keyiterator_iter hp.typeIs F.entry_dict_keyiterator_iter ?_ (F.args_dict_keyiterator_iter_1 _));show wpAny _ _ (ret (.ref it)) _ _ s;show ab #[_,rfl,"dict_keyiterator",_,hp.typeIs,F.slot_dict_keyiterator_next.lookup,q]
 next:=λA E s σ i v target Q hh R hg hp hv htup k=>by
  have#[ho,_]:=R.Z _ _ hg;have hx:(ds.map (·.1))[i]?.map Key.v=some v:=by
   rw[hds,<- bw,lp];show hv
  rw[bw]at hx;cases hq:ds[i]? with
  |none=>rw[hq]at hx;cases hx
  |some e =>
   rw[hq]at hx;have rfl:=af hx;apply wpAny_pyNext_dict_item hp (hat _ ho) hq λkey h' hk hp' hsb=>?_;have#[oi,hoi,hc,hdi]:=id hp';show mw hoi hc (by decide) (k _ _ (zk hsb .rfl) λ_=>#[uP hk,hp'])
 stop:=λA E s σ i Q hh R hg hp hv k=>by
  have#[ho,_]:=R.Z _ _ hg;have hlen:ds.length=es.length:=by have:=bb List.length hds;simpa using this
  have hx:ds[i]?=none:=by
   rw[jj,ai]at hv;show sq (gr .A .b .F (.e .A .C) hv hlen)
  show wpAny_pyNext_dict_end hh hp (hat _ ho) hx λh' he=>k _ (yl he (.head _) .rfl)
abbrev D7 (G:Stc)(it d:Addr)(hne:d≠it)(o:Obj)(es:List (Key×V))(ds:List (Key×Value))(ep:Nat)(hat:∀h:Heap,h.get? d=some o->h.DictAt G.kk d ds ep):Itr G where
 it:=it
 own:=[it]
 vs:=es.map λe=>V.T [e.1.v,e.2]
 Gd:=λτ=>τ.Z d=some o
 tup:=true
 pos:=λi h=>(∃ok ov,IsItemIter h it d i ds.length ep ok ov)/\DRs G h es ds
 keep:=λi h h' zz3 hk hf=>by have#[#[ok,ov,ho],r]:=zz3;apply#[#[ok,ov,hk it (.head _) _ ho],r.mono hf]
 obj:=λi h z b hb=>by have#[#[ok,ov,ho],r]:=z;have rfl:=ax.mp hb;apply#[_,ho,jd rfl rfl (by decide) (by decide)]
 self:=λA E s i Q hp q=>by
  have#[#[ok,ov,ho],_]:=hp;have hT:s.TypeIs (.ref it) "dict_itemiterator":=#[_,ho,rfl];apply aH hT F.slot_dict_itemiterator_iter (eh F.slot_dict_itemiterator_iter hT dB ?_ (F.args_dict_itemiterator_iter_1 _));show wpAny _ _ (ret (.ref it)) _ _ s;show ab #[_,rfl,"dict_itemiterator",_,hT,F.slot_dict_itemiterator_next.lookup,q]
 next:=λA E s σ i v target Q hh R hg hp hv htup k=>by
  have#[#[ok,ov,hp],dr]:=hp;have#[ho,_]:=R.Z _ _ hg;rw[bw]at hv;cases hq:es[i]? with
  |none=>rw[hq]at hv;cases hv
  |some e =>
   rw[hq]at hv;have rfl:=af hv;have#[w,hw,vr]:=(pairs_at dr).2 i e hq;have zz:=htup rfl
   try clear htup
   have#[es',kk,p,rfl]:=zz;apply wpAny_pyNext_items_item hp (hat _ ho) hw λkey h' hk hp' ht hz hold=>?_;apply wpAny_letOwnedTupleGo_items (s:={s with heap:=h'}) hp' λh₂ hp₂ hsb=>?_;have old':∀b o,b∉[it]->s.heap.get? b=some o->h₂.get? b=some o:=λb o hb eb=>by
    have hbe:b≠it:=λq=>hb (q▸.head _);rw[hsb.2 b hbe];show hold b o hbe eb
   have hne:s.heap.objs.size≠it:=λq=>uz it (Nat.lt_of_lt_of_eq (fw hp) q);have htp2:IsT h₂ s.heap.objs.size [key,w].toArray 0:=by
    show h₂.get? _=_;rw[hsb.2 _ hne];show ht
   show k _ _ #[old',.rfl] λhf=>#[.T htp2 %[uP hk,vr.mono hf|0],#[_,_,hp₂],dr.mono hf]
 stop:=λA E s σ i Q hh R hg hp hv k=>by
  have#[#[ok,ov,hp],dr]:=hp;have#[ho,_]:=R.Z _ _ hg;have hlen:ds.length=es.length:=by have:=bb List.length (pairs_at dr).1;simpa using this
  have hx:ds[i]?=none:=by
   rw[jj,ai]at hv;show sq (gr .A .b .F (.e .A .C) hv hlen)
  show wpAny_pyNext_items_end hh hp (hat _ ho) hx λh' he=>k _ (yl he (.head _) .rfl)
end
abbrev LR (G:Stc)(it t:Addr)(xs:List V):Itr G where
 it:=it
 own:=[it]
 vs:=xs
 Gd:=λ_=>True
 tup:=false
 pos:=λi h=>IsTupIter h it t i/\t≠it/\∃ws n,IsT h t ws.toArray n/\VRs G h xs ws
 keep:=λi h h' zz3 hk hf=>by have#[#[o,ho,r],hne,ws,n,ht,vr]:=zz3;apply#[#[o,hk it (.head _) o ho,r],hne,ws,n,hf t _ (show h.get? t=some {cls:=.type "tuple",dict:=none,data:=.seq ws.toArray n,slots:=#v[]} from ht) (.inl #[show Value.type "tuple" ≠ .type "list" by decide,_,_,rfl]),vr.mono hf]
 obj:=λi h z b hb=>by have#[#[o,ho,hc,hd],_]:=z;have rfl:=ax.mp hb;apply#[o,ho,jd hc hd (by decide) (by decide)]
 self:=λA E s i Q hp q=>wpAny_pyIter_tupleiter hp.1 q
 next:=λA E s σ i v target Q hh R hg hp hv htup k=>by
  have#[hp,hne,ws,n,ht,vrs]:=hp;have#[w,hw,vr]:=vrs.get hv;apply next_tuple_item hp #[_,ht,rfl,n,rfl] (by simpa using hw) λh' hp' hs=>?_;have#[o,ho,hc,hd]:=id hp';show mw ho hc (by decide) (k w _ (zk hs .rfl) λhf=>#[vr.mono hf,hp',hne,ws,n,by rw[IsT,hs.2 _ hne];show ht,vrs.mono hf])
 stop:=λA E s σ i Q hh R hg hp hv k=>by
  have#[hp,hne,ws,n,ht,vrs]:=hp;have hlen:=vrs.length;show next_tuple_end hh hp #[_,ht,rfl,n,rfl] (by simpa[<- hlen] using hv) λh' he=>k _ (yl he (.head _) .rfl)
section
variable {G:Stc}{C:Cal}{sc:Scope}{d:Nat}
def LV {tupled:Bool}{e:Ex}{y:Expr}(he:dk G C sc d e y):xq G C sc d tupled (.seq e) y:=λA E env ρ σ P s c h=>by
 apply kq (he c h) λv σ₁ s₁ w q vr r x=>?_;have Z:s₁.heap.get? s₁.heap.objs.size=none:=none_at_size s₁.heap;have Y:s.heap.get? s₁.heap.objs.size=none:=x.new Z;have U:¬σ₁.dom s₁.heap.objs.size:=λH=>by have#[o,e]:=r.lz H;rw[Z]at e;cases e
 induction v using V.casesOn with
 |L a =>
  have rfl:=vr;have#[xs,e,q]:=q;have#[ws,n,hl,hv]:=r.L _ _ e;have W:=gb (fw hl);apply aJ hl.isList ?_;apply#[HO G s₁.heap.objs.size _ W xs,σ₁,rfl,λh=>(nomatch h),q,#[_,bc _ rfl,rfl,rfl],r.push _,x.to (Evo.push _ _ _ _),λz hz=>by have rfl:=ax.mp hz;show Y,λz hz=>by have rfl:=ax.mp hz;show U]
 |T xs =>
  have#[a,ws,n,rfl,g,ag]:=vr;have W:=gb (fw g);apply iter_tuple #[_,g,rfl,_,rfl] ?_;apply#[LR G s₁.heap.objs.size _ _,σ₁,rfl,λh=>(nomatch h),q,#[#[_,bc _ rfl,rfl,rfl],W,_,_,g.push _,ag.mono λ_ _ e _=>ah _ e],r.push _,x.to (Evo.push _ _ _ _),λz hz=>by have rfl:=ax.mp hz;show Y,λz hz=>by have rfl:=ax.mp hz;show U]
 |set a =>
  have rfl:=vr;have#[ks,e,q]:=q;have#[o,O,ep,t,ho,hc,hd,I,hm,ao,hf,hn,hT]:=r.S _ _ e;have W:=gb (fw ho);have H:(σ₁.D a).isSome\/(σ₁.S a).isSome:=.inr (by rw[e];rfl);apply D9 ho hc.1 hd hf ao (λar=>?_) λps dr hp=>?_
  ·apply#[LS G s₁.heap.objs.size a W o O ep t hd hf hT ar I,σ₁.bN a o,rfl,λh=>(nomatch h),q o (yz (bT G a O ep).toList) (kP (aL a O ep) I hm) (by rw[yz,ai,(aL a O ep).length_eq,iy,hn]),#[0,#[_,bc _ rfl,rfl,rfl],λ_=>vT hT.rise],(r.u4 ho H).push _,x.to ((Evo.u4 H).trans (Evo.push _ _ _ _)),λz hz=>by have rfl:=ax.mp hz;show Y,λz hz=>by have rfl:=ax.mp hz;show λdz=>U (lM (.inr (.inr (.inl (by rw[e];rfl)))) dz)]
  ·have B:=lL hp;have r2:=(r.u4 ho H).push (yr ps);have J:(s₁.heap.push (yr ps)).get? (s₁.heap.push (yr ps)).objs.size=none:=none_at_size _;apply⟨D8 G (s₁.heap.push (yr ps)).objs.size s₁.heap.objs.size a (by rw[fg];show gb (qi _)) o O ep t ps hp hd hf I,σ₁.bN a o,rfl,λh=>(nomatch h),q o _ (kP B I hm) (by rw[yz,ai,B.length_eq,iy,hn]),#[#[_,bc _ rfl,rfl,rfl],ah _ (bc _ rfl)],r2.push _,x.to (((Evo.u4 H).trans (Evo.push _ _ _ _)).trans (Evo.push _ _ _ _)),λz hz=>by
    have rfl:=ax.mp hz;show x.new (qq (by rw[fg];show rj _)),λz hz=>by
    have zz:=ax.mp hz;clear hz;have rfl:=zz;show λdz=>by have#[o',e']:=r2.lz dz;rw[J]at e';cases e'⟩
 |_=>show False.elim q
end
section
variable {prog:Program}{w:World}{A:Around}{E:QqV}{s:Shared}
def vN {c:Value}{Q:Bool->Shared->Prop}(h:∀b,Q b s):wpAny (model prog w) A (Builtin.SmallTypes.calledThroughType c) Q E s:=aa (wpAny_stack_any λ_=>ab (h _))
def kR {v:Value}{ob:Obj}{Pre:Heap->Prop}(hv:∀{prog:Program} {w:World} {A:Around} {E:QqV} {s:Shared} {Q:QqV},Pre s.heap->Q (.ref s.heap.objs.size) {s with heap:=s.heap.push ob}->wpAny (model prog w) A (pyIter v) Q E s) :
  Meets (Builtin.«enumerate.__new__» #[[.type "enumerate",v],[]]) (λ_ R s=>Pre s.heap /\
   R (.ok (.ret (.ref (s.heap.push ob).objs.size))) {s with heap:=(s.heap.push ob).push {cls:=.type "enumerate",data:=.fields #v[.none,.bool false,.ref s.heap.objs.size,rawInt 0,.none,.none]}}):=
 .of_wp λprog w A R s h=>by
  have#[Z,g,d,tk,os]:=s;have#[W,h]:=h;have Y:=sub_enumerate;have hI:∀{A:Around} {E:QqV} {Q:QqV},Q (.ref Z.objs.size) #[Z.push ob,g,d,tk,os]->wpAny (model prog w) A (pyIter v) Q E #[Z,g,d,tk,os]:=λq=>hv (s:=#[Z,g,d,tk,os]) W q
  wp_walk using vN
  intro b;cases b
  ·wp_walk using hI
   apply#[_,rfl,h]
  ·wp_walk using hI
   apply#[_,rfl,h]
def A5 {v:Value}{ob:Obj}{Pre:Heap->Prop}{Q:QqV}(U:ob.isFreed=false)(Y:∀{prog:Program} {w:World} {A:Around} {E:QqV} {s:Shared} {Q:QqV},Pre s.heap->Q (.ref s.heap.objs.size) {s with heap:=s.heap.push ob}->wpAny (model prog w) A (pyIter v) Q E s)
  (W:Pre s.heap) (h:∀h',IsEnum h' (s.heap.objs.size+1) s.heap.objs.size 0 .none->h'.get? s.heap.objs.size=some ob->(∀b o,s.heap.get? b=some o->h'.get? b=some o)->Q (.ref (s.heap.objs.size+1)) {s with heap:=h'}) :
  wpAny (model prog w) A (call (.type "enumerate") [v]) Q E s:=by
 apply callType_new PySem.F.called_enumerate (by decide) (PySem.F.typeCall_enumerate_1 _) (PySem.F.newCall_enumerate_1 _) (λobj=>PySem.F.args_object_init_2 obj _) PySem.F.entry_enumerate_new (kR Y) #[W,?_];have hz:(s.heap.push ob).objs.size=s.heap.objs.size+1:=fg ..;show _/\_;rw[hz];have Z:IsEnum ((s.heap.push ob).push {cls:=.type "enumerate",data:=.fields #v[.none,.bool false,.ref s.heap.objs.size,rawInt 0,.none,.none]}) (s.heap.objs.size+1) s.heap.objs.size 0 .none:=by
  have:=bc (s.heap.push ob) (o:={cls:=.type "enumerate",data:=.fields #v[.none,.bool false,.ref s.heap.objs.size,rawInt 0,.none,.none]}) rfl;rw[hz]at this;show this
 apply#[#[_,Z,rfl],h _ Z (ah _ (bc _ U)) λb o x=>ah _ (ah _ x)]
end
public abbrev wA (T:String)(x0:Value)(it:Addr)(i:Nat)(h:Heap):Prop:=∃o,h.get? it=some o/\o.cls=.type T/\o.data=.fields #v[x0,.int i 0]
abbrev MI (G:Stc)(v:V)(xs:List V)(it:Addr)(fp:List Addr)(T:String)(x0:Value)(okF:Heap->Prop):Prop:=
 ∀⦃σ:St⦄ ⦃h:Heap⦄ ⦃i:Nat⦄ ⦃A:Around⦄,A.handled=none->okF h->wA T x0 it i h->Rel G σ h->wd σ v=some xs ->
  ∃P St,Draws G.prog G.w A it fp xs.length P St/\St i h/\(∀j h',St j h'->wA T x0 it j h')/\∀u w h',gf h h'->P i w->xs[i]?=some u->VR G h' u w
abbrev HQ {G:Stc}{e it:Addr}{v:V}{xs:List V}{fp:List Addr}{T:String}{x0:Value}{okF:Heap->Prop}(hei:e≠it)(hef:e∉fp)(h1:T ≠ "builtin_function_or_method")(h2:T ≠ "method-wrapper")
  (okf:∀h h',okF h->gf h h'->okF h') (src:MI G v xs it fp T x0 okF):Itr G where
 it:=e
 own:=[e,it]
 vs:=xs.zipIdx.map λp=>V.T [.int p.2,p.1]
 Gd:=λτ=>wd τ v=some xs
 tup:=true
 pos:=λi h=>(∃old,IsEnum h e it i old)/\wA T x0 it i h/\okF h/\i<=xs.length
 keep:=λi h h' zz3 hk hf=>by have#[#[old,he],#[o,ho,r],hz]:=zz3;apply#[#[old,hk e (.head _) _ he],#[o,hk it (.tail _ (.head _)) o ho,r],okf _ _ hz.1 hf,hz.2]
 obj:=λi h z b hb=>by
  have#[#[old,he],#[o,ho,hc,hd],hz]:=z;rcases bz.mp hb with rfl|hb
  ·apply#[_,he,jd rfl rfl (by decide) (by decide)]
  ·have rfl:=ax.mp hb;apply#[o,ho,jd hc hd h1 h2]
 self:=λA E s i Q hp q=>by have#[#[old,he],_]:=hp;show wpAny_pyIter_enum he q
 next:=λA E s σ i u target Q hh R hg hp hv htup k=>by
  have#[#[old,he],hit,hok]:=hp;rw[bw,List.getElem?_zipIdx]at hv;cases hxi:xs[i]? with
  |none=>rw[hxi]at hv;cases hv
  |some u' =>
   rw[hxi]at hv;have hv:V.T [.int (0+i:Nat),u']=u:=af hv;rw[tx]at hv;subst hv;have#[es,kk,p,rfl]:=htup rfl;have#[P,St,D,hst,back,val]:=src (A:=A.in1) hh hok.1 hit R hg;have hlt:i<xs.length:=(cf.mp hxi).1;apply wpAny_pyNext_enum_itemD D he hst hlt hei hef λx h' tk hP heo hst' htp hz hk=>?_;apply wpAny_letOwnedTupleGo_enum heo λh₂ he₂ hs₂=>?_;have old':∀b o,b∉[e,it]->s.heap.get? b=some o->h₂.get? b=some o:=λb o hb eb=>by
    have hbe:b≠e:=λq=>hb (q▸.head _);rw[hs₂.2 b hbe];show hk b o hbe (λq=>hb (q▸.tail _ (.head _))) eb
   have hne:s.heap.objs.size≠e:=λq=>uz e (Nat.lt_of_lt_of_eq (fw he) q);have htp2:IsT h₂ s.heap.objs.size [Value.int i tk,x].toArray 0:=by
    show h₂.get? _=_;rw[hs₂.2 _ hne];show htp
   show k _ _ #[old',.rfl] λhf=>#[.T htp2 %[.int _ _,val u' x _ hf hP hxi|0],#[_,by exact_mod_cast he₂],back _ _ (D.frame _ _ _ hst' λb hb o eb=>by rw[hs₂.2 b λq=>hef (q▸hb)];show eb),okf _ _ hok.1 hf,hlt]
 stop:=λA E s σ i Q hh R hg hp hv k=>by
  have#[#[old,he],hit,hok]:=hp;have#[P,St,D,hst,back,val]:=src (A:=A.in1) hh hok.1 hit R hg;have hx:xs.length<=i:=by
   have:=jj.mp hv
   rwa [ai,List.length_zipIdx]at this
  try clear val
  try clear hb
  try clear hv
  try clear src
  try clear hv
  try clear hit
  have zz:=Nat.le_antisymm hok.2 hx
  try clear hok
  try clear hei
  try clear hef
  try clear hx
  have rfl:=zz;show wpAny_pyNext_enum_endD D he hst λh' hx'=>k _ (yl hx' (.tail _ (.head _)) .rfl)
section
variable {G:Stc}{C:Cal}{sc:Scope}{d:Nat}
def IC {A:Around}{E:QqV}{σ σ₁:St}{s s₁:Shared}{H:Bool}{P:List V->(St->Prop)->St->Prop}{v:V}{xs:List V}{w x0:Value}{T:String}{fp:List Addr}{Pre Z:Heap->Prop}(I:T ≠ "builtin_function_or_method"/\T ≠ "method-wrapper"/\({cls:=.type T,data:=.fields #v[x0,.int 0 0]}:Obj).isFreed=false)
  (hv:∀{prog:Program} {w':World} {A:Around} {E:QqV} {s:Shared} {Q:QqV},Pre s.heap->Q (.ref s.heap.objs.size) {s with heap:=s.heap.push {cls:=.type T,data:=.fields #v[x0,.int 0 0]}}->wpAny (model prog w') A (pyIter w) Q E s)
  (hp:Pre s₁.heap) (J:∀b∈fp,b<s₁.heap.objs.size+1) (O:H=true) (ok:Z s₁.heap) (W:∀h h',Z h->gf h h'->Z h') (U:MI G v xs s₁.heap.objs.size fp T x0 Z)
  (q:P (xs.zipIdx.map λp:V×Nat=>V.T [.int p.2,p.1]) (λτ=>wd τ v=some xs) σ₁) (r:Rel G σ₁ s₁.heap) (Y:Go [] σ s σ₁ s₁):wpAny G.M A (call (.type "enumerate") [w]) (λv s₂=>wpAny G.M A (pyIter v) (oI G σ s H P) E s₂) E s₁:=by
 apply A5 I.2.2 hv hp λh' B hI hk=>?_;apply wpAny_pyIter_enum B ?_;have fresh:∀z∈[s₁.heap.objs.size+1,s₁.heap.objs.size],s₁.heap.get? z=none:=λz hz=>qq (by
  rcases bz.mp hz with rfl|hz
  ·show rj _
  ·have rfl:=ax.mp hz;show av _)
 apply⟨HQ (G:=G) (e:=s₁.heap.objs.size+1) (Nat.succ_ne_self _) (λm=>uz _ (J _ m)) I.1 I.2.1 W U,σ₁,rfl,λ_=>O,q,#[#[_,B],#[_,hI,rfl,rfl],W _ _ ok λb o e _=>hk b o e,dj _],r.keeps hk,Y.to (Evo.keeps hk),λz hz=>Y.new (fresh z hz),λz hz dm=>by
  have#[o,e]:=r.lz dm;rw[fresh z hz]at e;cases e⟩
def NN {a b:Addr}(h:a<b):∀z∈[b,a],z<b+1:=λz hz=>by
 rcases bz.mp hz with rfl|hz
 ·show qi _
 ·have rfl:=ax.mp hz;show Nat.lt_succ_of_lt h
def FZ {a it:Addr}{xs:List V}(U:a≠it):MI G (.L a) xs it [it,a] "list_iterator" (.ref a) (λ_=>True):=λσ h i A I _ hit R H=>by
 have#[ws,n,J,Z]:=R.L a xs H;have D:=Draws.list (prog:=G.prog) (w:=G.w) I it a U ws.toArray;rw[show ws.toArray.size=xs.length from bq.trans Z.length.symm]at D;apply#[_,_,D,#[hit,J.isList],λ_ _ x=>x.1,λu w h' B Y O=>?_];have#[w',W,vr]:=Z.get O;have Y:ws[i]?=some w:=by rw[<- List.getElem?_toArray];show Y
 rw[W]at Y;show af Y▸vr.mono B
def HU {e:Ex}{x:Str}{y:Expr}{p pos:Pos}(K:GOk G)(he:dk G C sc d e y)(Y:noStar [y]=true)(H:sc.names.lookup x=some .globalImplicit)(z:jg x=true)(hv:G.gl x=some (.type "enumerate")) :
  xq G C sc d true (.enum e) (.Call (.Name x p) [y] [] pos):=λA E env ρ σ P s c h=>by
 have O:oq G C sc d %[e|0] [y]:=jf he lu (fj Y).1;apply sv (P:=λvs σ=>on1 vs λv=>∃xs:List V,wd σ v=some xs/\xs.length<=aw/\P (xs.zipIdx.map λp:V×Nat=>V.T [.int p.2,p.1]) (λτ=>wd τ v=some xs) σ) K Y O H z hv c h λvs σ₁ s₁ ws q vr r Z=>?_;replace q:=bU (vs:=vs) q;have#[v,rfl,xs,J,hz,q]:=q;have I:=vr.one;clear vr
 try clear hz
 have#[w,rfl,vw]:=I;cases v with
 |L a =>
  have rfl:=vw;have#[us,n,U,B]:=r.L _ _ J;have W:=fw U;show IC (Pre:=λh=>h.IsList a us.toArray) #[by decide,by decide,rfl] (λU q=>aJ U q) U.isList (NN W) rfl trivial (λ_ _ _ _=>trivial) (FZ (gb W)) q r Z
 |_=>cases J
end
variable {α:Type}{x:Str}
def gc:∀(names:List (Str×NameKind)) (n:Nat) (acc:List (Str×Addr)),cellsFrom n names acc=cellsFrom n names []++acc
 | []=>λ_ _=>by simp[cellsFrom]
 |(x,k)::r=>λn acc=>by
  unfold cellsFrom;split
  ·rw[gc r (n+1) ((x,n)::acc),gc r (n+1) [(x,n)]];simp
  ·show gc r n acc
def zc:∀(names:List (Str×NameKind)) (n:Nat) (x:Str) (c:Addr),(x,c)∈cellsFrom n names []->(x,NameKind.cell)∈names
 | []=>λ_ _ _ h=>by simp[cellsFrom]at h
 |(y,k)::r=>λn x c h=>by
  unfold cellsFrom at h;split at h
  ·rename_i hk;rw[gc]at h;rcases fh.mp h with h|h
   ·show .tail _ (zc r _ x c h)
   ·have#[rfl,rfl]:=rh (ax.mp h);rw[vp]at hk;subst hk;show .head _
  ·show .tail _ (zc r _ x c h)
def uv:∀(names:List (Str×NameKind)) (n:Nat) (x:Str),(x,NameKind.cell)∈names->∃c,(x,c)∈cellsFrom n names []
 | []=>λ_ _ h=>by cases h
 |(y,k)::r=>λn x h=>by
  unfold cellsFrom;split
  ·rw[gc];rcases bz.mp h with e|h
   ·have#[rfl,_]:=rh e;apply#[n,si _ (.head _)]
   ·have#[c,Z]:=uv r (n+1) x h;apply#[c,jy _ Z]
  ·rename_i hk;rcases bz.mp h with e|h
   ·have#[_,rfl]:=rh e;simp at hk
   ·show uv r n x h
def sg {l:List (Str×α)}{c:α}(h:(x,c)∈l):∃Z,l.lookup x=some Z:=by
 cases hq:l.lookup x with
 |some Z=>refine#[Z,rfl]
 |none=>rw[qo]at hq;have:=hq _ h;simp at this
def wu {l r:List (Str×α)}{c:α}(h:l.lookup x=some c):(l++r).lookup x=some c:=by
 rw[List.lookup_append,h];rfl
def dA {l r:List (Str×α)}(h:l.lookup x=none):(l++r).lookup x=r.lookup x:=by
 rw[List.lookup_append,h];rfl
def rW {names:List (Str×NameKind)}(nd:(names.map (·.1)).Nodup){k k':NameKind}(h:(x,k)∈names)(h':(x,k')∈names):k=k':=by
 have#[i,hi,e]:=gp.mp h;have#[j,U,W]:=gp.mp h';have Y:names[i]?=some (x,k):=by rw[cm hi,e]
 have Z:names[j]?=some (x,k'):=by rw[cm U,W]
 have:=fB nd Y Z
 try clear W
 try clear h'
 subst this;rw[Y]at Z;cases Z;rfl
structure F9 (G:Stc)(σ:St)(h:Heap)(names:List (Str×NameKind))(cl:List (Str×Addr))(ρf:Fr):Prop where
 free:∀(i:Nat) (x:Str),names[i]?=some (x,.free)->∃c w,cl.lookup x=some c/\h.IsCell c w/\OV G h (ρf i) w/\¬σ.dom c/\(G.cap x=false->G.hb.get? c=none)
 inj:∀(i j:Nat) (x y:Str) (c:Addr),names[i]?=some (x,.free)->names[j]?=some (y,.free)->cl.lookup x=some c->cl.lookup y=some c->i=j
 all:∀p∈cl,∃o,h.get? p.2=some o
 other:∀(i:Nat) (x:Str) (k:NameKind),names[i]?=some (x,k)->k≠.free->ρf i=none
def lB {G:Stc}{σ:St}{h:Heap}{names:List (Str×NameKind)}{cl:List (Str×Addr)}{ρf:Fr}{env:Env}{T:String}(R:Rel G σ h)(nd:(names.map (·.1)).Nodup)(K:F9 G σ h names cl ρf)
  (hl:env.locals=h.objs.size) (H:env.cells=cellsFrom (h.objs.size+1) names cl) (hk:∀(i:Nat) (x:Str) (k':NameKind),env.scope.names[i]?=some (x,k')->∃k,names[i]?=some (x,k)/\(k'=k\/(k=.free/\k'=.cell))) :
  FR G σ env ρf (pushCells (h.push {cls:=.type T,data:=.dict #v[]}) names)/\(∀b o,h.get? b=some o->(pushCells (h.push {cls:=.type T,data:=.dict #v[]}) names).get? b=some o):=by
 have keep:∀b o,h.get? b=some o->(pushCells (h.push {cls:=.type T,data:=.dict #v[]}) names).get? b=some o:=λb o e=>pushCells_keeps _ _ b o (ah _ e);have frz:gf h (pushCells (h.push {cls:=.type T,data:=.dict #v[]}) names):=λb o e _=>keep b o e;have ok:=cellsFrom_ok names (h.push {cls:=.type T,data:=.dict #v[]}) (h.objs.size+1) [] #[λ_ _ hm=>(nomatch hm),List.Pairwise.nil] (by rw[fg];show av _);rw[fg]at ok;have W:∀c,h.objs.size<=c->¬σ.dom c:=λc H d=>by have#[o,e]:=R.lz d;show absurd (fw e) (th.mpr H)
 have Y:∀c,h.objs.size<=c->G.hb.get? c=none:=λc H=>by
  cases hq:G.hb.get? c with
  |none=>rfl
  |some o=>show absurd (fw (R.base c o hq)) (th.mpr H)
 have U:(pushCells (h.push {cls:=.type T,data:=.dict #v[]}) names).get? h.objs.size=some {cls:=.type T,data:=.dict #v[]}:=pushCells_keeps _ _ _ _ (bc _ rfl);have cellAt:∀(i:Nat) (x:Str),names[i]?=some (x,.cell)->∃c,env.cells.lookup x=some c/\(x,c)∈cellsFrom (h.objs.size+1) names []:=λi x e=>by
  have#[c,hm]:=uv names (h.objs.size+1) x (cz e);have#[c',ag]:=sg hm;apply#[c',by rw[H,gc];show wu ag,mem_of_lookup ag]
 have Z:∀(i:Nat) (x:Str),names[i]?=some (x,.free)->env.cells.lookup x=cl.lookup x:=λi x e=>by
  rw[H,gc];apply dA ?_;cases hq:(cellsFrom (h.objs.size+1) names []).lookup x with
  |none=>rfl
  |some c=>have:=rW nd (zc _ _ _ _ (mem_of_lookup hq)) (cz e);cases this
 apply#[#[#[_,by rewrite [hl];show(Heap.Ns.new h (.type T)).keeps (pushCells_keeps _ _),λi x e=>?_],λi x k' e bu=>?_,λi j x y k k' c ei ej bn bl lx ly=>?_,by rw[hl];show W _ (av _),λo e=>?_,by rw[hl];show Y _ (av _),λp z=>?_],keep]
 ·have#[k,e',O]:=hk i x _ e;have:ρf i=none:=K.other i x k e' (by rcases O with h|⟨_,h⟩;show h▸(by decide);cases h);rw[this];trivial
 ·have#[k,e',O]:=hk i x _ e;have J:k=.cell\/k=.free:=by rcases O with h|⟨h,_⟩;show h▸bu;show .inr h
  rcases J with rfl|rfl
  ·have#[c,be,hm]:=cellAt i x e';have I:=ok.empty x c hm;apply#[c,none,be,I.1,by rewrite [K.other i x _ e' (by decide)];trivial,W c (xu I.2),by rewrite [hl];show Nat.ne_of_gt (Nat.lt_of_succ_le I.2),λ_=>Y c (xu I.2)]
  ·have#[c,w,h1,B,h3,h4,h5]:=K.free i x e';apply#[c,w,by rw[Z i x e'];show h1,B.keeps keep,h3.mono frz,h4,?_,h5];rw[hl];show gb B.lt
 ·have#[k1,e1,bd]:=hk i x _ ei;have#[k2,e2,J]:=hk j y _ ej;have ar:k1=.cell\/k1=.free:=by rcases bd with h|⟨h,_⟩;show h▸bn;show .inr h
  have ao:k2=.cell\/k2=.free:=by rcases J with h|⟨h,_⟩;show h▸bl;show .inr h
  have low:∀(i:Nat) (x:Str) (c:Addr),names[i]?=some (x,.free)->env.cells.lookup x=some c->c<h.objs.size:=λi x c e l=>by
   have#[c',w,h1,B,_]:=K.free i x e;rw[Z i x e,h1]at l;cases (l);show B.lt
  have high:∀(i:Nat) (x:Str) (c:Addr),names[i]?=some (x,.cell)->env.cells.lookup x=some c->h.objs.size<c/\(x,c)∈cellsFrom (h.objs.size+1) names []:=λi x c e l=>by
   have#[c',h1,B]:=cellAt i x e;rw[h1]at l;cases (l);apply#[(ok.empty x c B).2,B]
  rcases ar with rfl|rfl<;>rcases ao with rfl|rfl
  ·have#[_,m1]:=high i x c e1 lx;have#[_,m2]:=high j y c e2 ly;have:=name_of_addr ok.apart m1 m2
   try clear O
   try clear J
   try clear m2
   try clear ej
   try clear bd
   try clear h1
   try clear hq
   subst this;show fB nd e1 e2
  ·have:=(high i x c e1 lx).1;have:=low j y c e2 ly;show absurd ‹c<h.objs.size› (th.mpr (iz ‹h.objs.size<c›))
  ·have:=(high j y c e2 ly).1;have:=low i x c e1 lx;show absurd ‹c<h.objs.size› (th.mpr (iz ‹h.objs.size<c›))
  ·show K.inj i j x y c e1 e2 (by rw[<- Z i x e1];show lx) (by rw[<- Z j y e2];show ly)
 ·rw[hl,U]at e;cases e;show nu rfl
 ·rw[H,gc]at z;rcases fh.mp z with z|z
  ·have#[#[o,ho,_],_]:=ok.empty p.1 p.2 z;apply#[o,ho]
  ·have#[o,ho]:=K.all p z;apply#[o,keep _ _ ho]
section
variable {G:Stc}{A:Around}{E:QqV}
def oE {env:Env}{σ:St}{X:List Addr}(eo:yo env)(J:env.locals∈X)(hN:∀(i:Nat) x c,env.scope.names[i]?=some (x,.cell)->env.cells.lookup x=some c->c∈X/\G.hb.get? c=none)(f:Str×Value->PUnit->Sem (ForInStep PUnit))(hf:∀n v u,f (n,v) u=(do storeName env n v;pure (.yield #[]))) :
  ∀(j:Nat) (ns:List Str) (vs:List V) (ws:List Value) (ρ:Fr) (s:Shared) (Q:PUnit->Shared->Prop),ns.length=ws.length->(∀(i:Nat) (x:Str),ns[i]?=some x->∃k,env.scope.names[j+i]?=some (x,k)/\nR k=true) ->
   FR G σ env ρ s.heap->Rel G σ s.heap->VRs G s.heap vs ws ->
   (∀s' ρ',(∀i,ρ' i=if i<j then ρ i else if i<j+vs.length then vs[i-j]? else ρ i)->FR G σ env ρ' s'.heap->Rel G σ s'.heap->Go X σ s σ s'->Q #[] s') ->
   wpAny G.M A (forIn (ns.zip ws) #[] f) Q E s
 |j,[],vs,ws,ρ,s,Q,H,I,F,R,vr,q=>by
  cases ws with
  |cons _ _=>simp at H
  |nil =>
   cases vs with
   |cons _ _=>have#[_,_,e,_]:=vr;cases e
   |nil =>
    rw[List.zip_nil_left,mz];apply ab (q s ρ (λi=>?_) F R .refl);by_cases h:i<j
    ·simp[h]
    ·simp[h]
 |j,x::ns,vs,ws,ρ,s,Q,H,I,F,R,vr,q=>by
  cases vs with
  |nil=>have rfl:=vr;cases H
  |cons v vs =>
   have#[w,ws,rfl,va,vr]:=vr;rw[List.zip_cons_cons,oe,hf];have#[k,hi,hk]:=I 0 x rfl;apply aa (aa (dW eo F R hi hk (λc hc e=>(hN _ _ c (e▸hi) hc).2) va J (λc hc e=>(hN _ _ c (e▸hi) hc).1) λs' F' R' x'=>ab ?_));apply oE eo J hN f hf (j+1) ns vs ws _ s' Q (by simpa using H) (λi y e=>?_) F' R' (vr.mono x'.frz) λs2 ρ' W F2 R2 x2=>?_
   ·have#[k,hi,hk]:=I (i+1) y (by simpa using e);apply#[k,by rw[show j+1+i=j+(i+1) by(show n9 (.e (.a .L .B) (.a .A .P)) [[1],[1]])];show hi,hk]
   ·apply q s2 ρ' (λi=>?_) F2 R2 (x'.trans x2);rw[W i];simp only[jh,Nat.add_zero];by_cases Z:i<j
    ·rw[br (cg (.l .A .P) .a .B Z),br Z,bh (cg (.u .A .B) .j .B Z)]
    ·rw[az Z];by_cases h2:i=j
     ·clear q I W
      try clear q
      try clear hi
      try clear F'
      try clear vr
      subst h2;rw[br (oo (.l .A .L) .f),br (n9 (.l .A (.a .A .P)) .f),ay];simp
     ·rw[az ((cp h2).elim (λY=>(mn (.g .A .P) .c (.g .A .B) .B Z Y)) λY=>(cg (.g .A .P) .a (.l .B .A) Y))];by_cases z:i<j+1+vs.length
      ·rw[br z,br (gz (.l .A (.a .B .S)) .a (.l .A (.a .P .C)) z),show i-j=(i-(j+1))+1 by(show Ar.sub _ _ (λY p1=>(jm (.e .A .P) [[1,-1,1],[1,1,-1]] (.e (.a .A .C) .D) (.e (.a .B .S) .D) (ae (cg .A .a (.g .B .A) Z)) p1)) λY p1=>((cp h2).elim (λq2=>(i9 (.e .A .P) [[0,1,0,0,1],[1,0,1,1,0]] (.g .C .D) (.e (.a .A .D) .C) (.k .C (.a .D .U)) (.l .C .D) Z (ae (cg .A .a (.g .B .A) Z)) Y q2)) λq2=>(i9 (.e .A .P) [[1,-1,0,1,1],[1,1,1,0,0]] (.e (.a .A .C) .D) (.k .D .S) (.e .B .O) (.l .C .D) (ae (cg .A .a (.g .B .A) Z)) Y p1 q2)))];simp
      ·rw[az z,az (gz (.g .A (.a .B .S)) .a (.g .A (.a .P .C)) z),bh h2]
end
variable {d n:Nat}{a:Addr}{vs dflt:List V}{ws:List Value}{sc:Scope}{body:List Stmt}{Q:V->St->Prop}{C:Cal}
abbrev rn:List Str->List (Str×NameKind)->Bool
 | [],_=>true
 |x::xs,(y,k)::r=>x==y&&nR k&&rn xs r
 |_::_,[]=>false
def iL:∀{xs:List Str} {r:List (Str×NameKind)},rn xs r=true->∀(i:Nat) (x:Str),xs[i]?=some x->∃k,r[i]?=some (x,k)/\nR k=true
 | [],_,_,i,x,e=>by simp at e
 |_::_,[],h,_,_,_=>Bool.noConfusion (show false=true from h)
 |x::xs,(y,k)::r,h,0,z,e=>by
  dsimp only[rn]at h;simp only[dh,vp]at h;simp at e;subst e;apply#[k,by simp[h.1.1],h.1.2]
 |x::xs,(y,k)::r,h,i+1,z,e=>by
  dsimp only[rn]at h;simp only[dh]at h;simpa using iL h.2 i z (by simpa using e)
structure FnAt (G:Stc)(a:Addr)(n:Nat)(dflt:List V)(sc:Scope)(body:List Stmt):Prop where
 lim:G.hb.NoLimit
 kind:sc.kind=.function
 co:sc.isCoroutine=false
 gen:sc.isGenerator=false
 nd:(sc.names.map (·.1)).Nodup
 pB:∀(i:Nat) (x:Str),sc.names[i]?≠some (x,.free)
 here:∃o fd,G.hb.get? a=some o/\o.data=.func fd/\fd.scope=sc/\fd.body=.stmts body/\fd.closure=[]/\fd.globals=mainGlobals/\fd.builtins=builtinsNs/\G.hb.CodeRec fd.code fd.qualname /\
  ui fd.params=true/\rn (fd.params.args.map (·.arg)) sc.names=true/\fd.params.args.length=n /\
  ((fd.defaults=.none/\dflt=[])\/∃t ot ds m,fd.defaults=.ref t/\G.hb.get? t=some ot/\ot.data=.seq (ds.toArray) m/\VRs G G.hb dflt ds)/\dflt.length<=n
section
variable {G:Stc}{A:Around}{E:QqV}{s:Shared}{σ:St}
def AOk.deep (h:AOk A (d+1))(env:Env):AOk (A.deeper env) d:=
 #[h.handled,by have:=h.depth;show A.depth+1+3*d+20<_;(show gz (.l (.a (.a .L (.m 3 .B)) (.n 20)) .C) .a (.l (.a (.a .A (.m 3 .P)) (.n 20)) .C) this),by have:=h.units;show A.units+3+30*d+300<_;(show gz (.l (.a (.a (.a .A (.n 3)) (.m 30 .B)) (.n 300)) .C) .a (.l (.a (.a .A (.m 30 .P)) (.n 300)) .C) this)]
def lQ {fd:FuncData}{Pst:Env->Shared->Prop}{J:List (Str×Addr)}{ρf ρ':Fr}{dv:List V}{ds:List Value}{R':Result->Shared->Prop}{o:Obj}(ho:G.hb.get? a=some o)(hd:o.data=.func fd)
  (cb:G.hb.NoLimit) (kind:fd.scope.kind=.function) (nd:(fd.scope.names.map (·.1)).Nodup) (bu:fd.closure=J) (cd:fd.globals=mainGlobals) (cn:fd.builtins=builtinsNs) (cc:ui fd.params=true) (O:rn (fd.params.args.map (·.arg)) fd.scope.names=true) (hn:fd.params.args.length=n)
  (ch:∀(A:Around) (E:QqV) (Q:Option (Array Value)->Shared->Prop),(∀o,(o.getD #v[]).toList=ds->Q o s)->wpAny G.M A (seqItems? fd.defaults) Q E s) (be:VRs G s.heap dv ds) (ck:dv.length<=n)
  (bl:(wpAny G.M A.in1 (bindArgs fd #[ws,[]]) (λH s₁ =>
   wpAny G.M A.in1 (newFunctionEnv fd.scope fd.globals fd.closure H (fd.qualname ++ ".<locals>.") (some a) fd.code none fd.builtins)
    (λenv s₂=>s₂.heap.NoLimit/\Pst env s₂) (λe s'=>R' (.error e) s') s₁) (λe s'=>R' (.error e) s') s)->codeAny G.M A (.call (.ref a) #[ws,[]]) R' s)
  (clo:F9 G σ s.heap fd.scope.names J ρf) (R:Rel G σ s.heap) (vr:VRs G s.heap vs ws) (h1:vs.length<=n) (h2:n<=vs.length+dv.length)
  (bd:∀i,ρ' i=if i<n then (vs++dv.drop (dv.length-(n-vs.length)))[i]? else ρf i)
  (hb:∀env s' X,env.scope=fd.scope->env.code=fd.code->yo env->FR G σ env ρ' s'.heap->Rel G σ s'.heap->Go X σ s σ s'->(∀z∈X,s.heap.get? z=none)->(∀z∈X,z∈envX env)->(∀z∈envX env,z∈X\/∃p∈J,p.2=z)->Pst env s'):codeAny G.M A (.call (.ref a) #[ws,[]]) R' s:=by
 have Y:=vr.length;have Z:=be.length;have hnd:(fd.params.args.map (·.arg)).Nodup:=by
  have W:∀{xs:List Str} {r:List (Str×NameKind)},rn xs r=true->∃ys,r.map (·.1)=xs++ys:=by
   intro xs;induction xs with
   |nil=>intro r _;apply#[_,rfl]
   |cons x xs ih =>
    intro r h;cases r with
    |nil=>show Bool.noConfusion (show false=true from h)
    |cons p r =>
     dsimp only[rn]at h;simp only[dh,vp]at h;have#[ys,e]:=ih h.2;apply#[ys,by simp[e,h.1.1]]
  have#[ys,e]:=W O;rw[e]at nd;show(dT.mp nd).1
 apply bl ?_;apply vQ (ds:=ds) cc (ch _ _) hnd (by rw[hn,<- Y];show h1) (by rw[hn,<- Y,<- Z];show h2) (by rw[hn,<- Z];show ck) ?_;rw[hn,bu,cd,cn];simp only[newFunctionEnv,vq,dn,ju];apply aa (iV ?_);apply aa (wpAny_layCells _ (λname kind cells=>by cases hkc:kind==NameKind.cell<;>simp[hkc]) _ _ _ _ ?_);rw[show({s with heap:=s.heap.push {cls:=.type "frame",data:=.dict #v[]}}:Shared).heap.objs.size=s.heap.objs.size+1 from fg ..];have#[bR,U]:=lB (T:="frame") (env:=newEnv fd.scope s.heap.objs.size mainGlobals (cellsFrom (s.heap.objs.size+1) fd.scope.names J) (fd.qualname ++ ".<locals>.") (some a) fd.code none builtinsNs) R nd clo rfl rfl λi x k' e=>#[k',e,.inl rfl];have eo:yo (newEnv fd.scope s.heap.objs.size mainGlobals (cellsFrom (s.heap.objs.size+1) fd.scope.names J) (fd.qualname ++ ".<locals>.") (some a) fd.code none builtinsNs):=#[kind,nd,rfl,rfl];have ag:Go [] σ s σ {s with heap:=pushCells (s.heap.push {cls:=.type "frame",data:=.dict #v[]}) fd.scope.names}:=Go.refl.to (Evo.keeps U);have bv:VRs G s.heap (vs++dv.drop (dv.length-(n-vs.length))) (ws++ds.drop (ds.length-(n-ws.length))):=by
  rw[<- Z,<- Y];show vr.append (be.drop _)
 have ok:=cellsFrom_ok fd.scope.names (s.heap.push {cls:=.type "frame",data:=.dict #v[]}) (s.heap.objs.size+1) [] #[λ_ _ hm=>(nomatch hm),List.Pairwise.nil] (by rw[fg];show av _);rw[fg]at ok;have hX:∀z∈s.heap.objs.size::(cellsFrom (s.heap.objs.size+1) fd.scope.names []).map (·.2),s.heap.get? z=none:=λz hz=>by
  rcases bz.mp hz with rfl|hz
  ·show none_at_size _
  ·have#[p,W,rfl]:=bg.mp hz;show qq (xu (ok.empty p.1 p.2 W).2)
 have hN:∀(i:Nat) x c,fd.scope.names[i]?=some (x,.cell)->(cellsFrom (s.heap.objs.size+1) fd.scope.names J).lookup x=some c->c∈s.heap.objs.size::(cellsFrom (s.heap.objs.size+1) fd.scope.names []).map (·.2)/\G.hb.get? c=none:=λi x c e hc=>by
  have hm:c∈s.heap.objs.size::(cellsFrom (s.heap.objs.size+1) fd.scope.names []).map (·.2):=by
   have#[c1,hm]:=uv fd.scope.names (s.heap.objs.size+1) x (cz e);have#[c',bn]:=sg hm;rw[gc,wu bn]at hc;cases hc;show .tail _ (bg.mpr #[_,mem_of_lookup bn,rfl])
  apply#[hm,?_];cases hq:G.hb.get? c with
  |none=>rfl
  |some o=>have:=R.base c o hq;rw[hX c hm]at this;cases this
 have I:s.heap.objs.size∈s.heap.objs.size::(cellsFrom (s.heap.objs.size+1) fd.scope.names []).map (·.2):=.head _;have bL:∀p∈cellsFrom (s.heap.objs.size+1) fd.scope.names [],p.2∈s.heap.objs.size::(cellsFrom (s.heap.objs.size+1) fd.scope.names []).map (·.2):=λp W=>.tail _ (bg.mpr #[p,W,rfl]);have bM:∀z∈s.heap.objs.size::(cellsFrom (s.heap.objs.size+1) fd.scope.names []).map (·.2),z∈s.heap.objs.size::(cellsFrom (s.heap.objs.size+1) fd.scope.names J).map (·.2):=λz hz=>by
  rcases bz.mp hz with rfl|hz
  ·show .head _
  ·have#[p,W,rfl]:=bg.mp hz;show .tail _ (bg.mpr #[p,by rw[gc];show jy _ W,rfl])
 generalize s.heap.objs.size::(cellsFrom (s.heap.objs.size+1) fd.scope.names []).map (·.2)=X at hX hN I bL bM;apply aa (oE (X:=X) eo I hN _ (λ_ _ _=>rfl) 0 (fd.params.args.map (·.arg)) (vs++dv.drop (dv.length-(n-vs.length))) _ ρf {s with heap:=pushCells (s.heap.push {cls:=.type "frame",data:=.dict #v[]}) fd.scope.names} _ ?_ (λi x e=>?_) bR (R.keeps U) (bv.mono λb o e _=>U b o e) λs' ca ao F' R' x'=>?_)
 ·rw[ai,cv,ix,hn];show(fX (gr .A .d .F (.e .C .A) h1 Y) (tn (.k .A (.a .B .C)) .e (.k .A (.a .D .F)) (.e .D .B) (.e .F .C) h2 Y Z)).symm
 ·rw[tx];show iL O i x e
 ·apply ab #[cb.keeps R'.base,?_];have ar:ca=ρ':=by
   funext i
   rw[ao i,bd i,cv,ix];simp only[ku,ju,tx,Nat.sub_zero];rw[show vs.length+(dv.length-(dv.length-(n-vs.length)))=n from fX h1 h2]
  try clear bd
  subst ar;apply hb _ s' X rfl rfl eo F' R' ((ag.more (λ_ h=>nomatch h)).trans x') hX bM λz hz=>?_;rcases bz.mp hz with rfl|hz
  ·show .inl I
  ·have zz:=bg.mp hz;clear hz;clear hz
   try clear hz
   have#[p,W,rfl]:=zz;have W:p∈cellsFrom (s.heap.objs.size+1) fd.scope.names J:=W;rw[gc]at W;rcases fh.mp W with W|W
   ·show .inl (bL p W)
   ·show .inr #[p,W,rfl]
def sU {b:jo}{Q:QqV}(K:FnAt G a n dflt sc body)
  (hb:∀(A':Around) (E':QqV) (env:Env) (s':Shared),Cx G sc d A' env (frameOf #[n,dflt,b] vs) σ s'->(∀o fd,G.hb.get? a=some o->o.data=.func fd->env.code=fd.code)->Go (envX env) σ s σ s'->(∀z∈envX env,s.heap.get? z=none) ->
   wpAny G.M A' (execs body env) (λf s'=>Q (match f with|.ret v=>v|_=>.none) s') E' s')
  (ao:AOk A (d+1)) (R:Rel G σ s.heap) (vr:VRs G s.heap vs ws)
  (H:vs.length<=n) (O:n<=vs.length+dflt.length):codeAny G.M A (.call (.ref a) #[ws,[]]) (wants Q E) s:=by
 have#[o,fd,ho,hd,ar,Y,U,be,bL,Z,bd,W,hn,bu,bn]:=K.here;subst ar;have#[ds,bl,ag]:∃ds,(∀(A:Around) (E:QqV) (Q:Option (Array Value)->Shared->Prop),(∀o,(o.getD #v[]).toList=ds->Q o s)->wpAny G.M A (seqItems? fd.defaults) Q E s)/\VRs G s.heap dflt ds:=by
  rcases bu with ⟨I,J⟩|⟨t,ot,ds,m,I,J,e3,e4⟩
  ·apply#[[],λA E Q q=>?_,by subst J;show .nil];rw[I];show wpAny G.M A (do notAStandIn .none;pure none) Q E s;show di (by rfl) (q none rfl)
  ·apply#[ds,λA E Q q=>?_,e4.mono λb o e _=>R.base b o e];rw[I];show wpAny G.M A (do match (← load t).data with|.seq xs _=>pure (some xs)|_=>pure none) Q E s;apply aa (ya (R.base _ _ J) ?_);rw[e3];show ab (q _ (by simp))
 apply lQ (Pst:=λenv z=>codeAny G.M A (.func body env) (wants Q E) z) (ρf:=λ_=>none) (ρ':=frameOf #[n,dflt,b] vs) ho hd K.lim K.kind K.nd U be bL bd W hn bl ag bn (λh=>codeAny_call_function (by have:=ao.depth;(show gz .B .a (.l (.a (.a .A (.m 3 .S)) (.n 20)) .B) this)) (R.base _ _ ho) hd K.co K.gen Y (Z.keeps R.base) h)
  #[λi x e=>absurd e (K.pB i x),λi j x y c e=>absurd e (K.pB i x),λp hp=>(nomatch hp),λ_ _ _ _ _=>rfl] R vr H O (λi=>?_) λenv s' X I J eo F' R' x' hX bM bv=>?_
 ·split
  ·rfl
  ·unfold frameOf eQ;dsimp only;rw[sq];rw[cv,ix,fX H O];(rename_i z1;show cg .A .a (.g .B .A) z1)
 ·show codeAny_func (hb _ _ env s' #[ao.deep _,I,eo,F',R'] (λo' bR H O=>by have rfl:=af (ho.symm.trans H);rw[hd]at O;cases O;show J) (x'.more bM) λz hz=>(bv z hz).elim (hX z) λ⟨_,hp,_⟩=>nomatch hp)
def oA {b:jo}(K:FnAt G a n dflt sc body)
  (hb:∀(W:Around) (O:QqV) (env:Env) (s':Shared),Cx G sc d W env (frameOf #[n,dflt,b] vs) σ s'->wpAny G.M W (execs body env) (qd G env σ s' (mQ Q)) O s')
  (ao:AOk A (d+1)) (R:Rel G σ s.heap) (vr:VRs G s.heap vs ws)
  (h1:vs.length<=n) (h2:n<=vs.length+dflt.length):codeAny G.M A (.call (.ref a) #[ws,[]]) (wants (iv G [] σ s Q) E) s:=by
 apply sU (b:=b) K (λW O env s' c _ H B=>?_) ao R vr h1 h2;apply bt (hb W O env s' c) (λf s₂ l=>?_) λ_ _ x=>x;have#[fl,U,σ₂,J,q,I,Z,Y]:=l;have x3:Go [] σ s σ₂ s₂:=(H.trans Y).less λz hz=>.inr (B z hz);cases fl with
 |next=>have rfl:=J;apply#[.none,σ₂,q,.none,Z,x3]
 |ret v=>have#[w,rfl,v]:=J;apply#[_,σ₂,q,v,Z,x3]
 |brk=>show q.elim
 |cont=>show q.elim
def oC {b:jo}(K:FnAt G a n dflt sc body)
  (hb:∀(Z:Around) (O:QqV) (env:Env) (s':Shared),Cx G sc d Z env (frameOf #[n,dflt,b] vs) σ s'->wpAny G.M Z (execs body env) (qd G env σ s' (mQ Q)) O s')
  (U:AOk A (d+1)) (R:Rel G σ s.heap) (vr:VRs G s.heap vs ws)
  (W:vs.length<=n) (Y:n<=vs.length+dflt.length):wpAny G.M A (call (.ref a) ws) (iv G [] σ s Q) E s:=mq (oA K hb U R vr W Y)
def IV {b:jo}(K:FnAt G a n dflt sc body)(hb:dO G C sc d b body)(W:AOk A (d+1))(R:Rel G σ s.heap)(vr:VRs G s.heap vs ws)
  (Y:vs.length<=n) (Z:n<=vs.length+dflt.length) (h:dt C b (frameOf #[n,dflt,b] vs) σ (mQ Q)):wpAny G.M A (call (.ref a) ws) (iv G [] σ s Q) E s:=
 oC (b:=b) K (λO U env s' c=>hb c h) W R vr Y Z
abbrev dP (G:Stc)(fa:Nat->Option Addr)(C:Cal)(d:Nat):Prop:=∀(k:Nat) (a:Addr),fa k=some a->(∃o fd,G.hb.get? a=some o/\o.data=.func fd)/\∀{A E vs ws σ Q s},AOk A d->Rel G σ s.heap->VRs G s.heap vs ws ->
 C k vs σ Q->wpAny G.M A (call (.ref a) ws) (iv G [] σ s Q) E s
def bK {env:Env}{ρ:Fr}{f:Addr}{o:Obj}{fd:FuncData}{first:List Value}{es:Exs}{args:List Expr}{pos:Pos}{P:List V->St->Prop}{Q:QqV}(U:G.hb.get? f=some o)(Z:o.data=.func fd)(W:noStar args=true)(Y:oq G C sc d es args)
  (c:Cx G sc d A env ρ σ s) (h:xy C es ρ σ P)
  (k:∀vs σ₁ s₁ ws,P vs σ₁->VRs G s₁.heap vs ws->Rel G σ₁ s₁.heap->Go [] σ s σ₁ s₁->wpAny G.M A (call (.ref f) (first++ws)) Q E s₁) :
  wpAny G.M A (callWith pos (.ref f) first (backTo pos (starEach args env)) []) Q E s:=
 Calls.callWith_function (o:=o) (fd:=fd) (nt (jb W pos env) (kD (Y c h) λvs σ₁ s₁ ws q vr r x=>#[#[r.base _ _ U,Z],k vs σ₁ s₁ ws q vr r x]))
def BP {fa:Nat->Option Addr}{k:Nat}{f:Addr}{x:Str}{es:Exs}{args:List Expr}{p pos:Pos}(K:GOk G)(H:dP G fa C d)(hk:fa k=some f)(Z:oq G C sc d es args)(U:noStar args=true)(Y:sc.names.lookup x=some .globalImplicit)(J:jg x=true)(W:G.gl x=some (.ref f)) :
  dk G C sc d (.call k es) (.Call (.Name x p) args [] pos):=λ_ _ _ _ _ _ _ c h=>by
 have#[#[o,fd,O,hd],I]:=H k f hk;show Call_ (kg K c.eo c.R (by rw[c.es];show Y) J W (bK O hd U Z c h λvs σ₁ s₁ ws q vr r x=>x.back (I c.ao r vr q)))
structure mC (G:Stc)(a:Addr)(n:Nat)(cs:List V)(sc:Scope)(e:Expr):Prop where
 lim:G.hb.NoLimit
 kind:sc.kind=.function
 co:sc.isCoroutine=false
 gen:sc.isGenerator=false
 nd:(sc.names.map (·.1)).Nodup
 here:∃o fd,G.hb.get? a=some o/\o.data=.func fd/\fd.scope=sc/\fd.body=.expr e/\fd.globals=mainGlobals/\fd.builtins=builtinsNs/\G.hb.CodeRec fd.code fd.qualname /\
  ui fd.params=true/\rn (fd.params.args.map (·.arg)) sc.names=true/\fd.params.args.length=n/\fd.defaults=.none /\
  (∀(i:Nat) (x:Str),sc.names[i]?=some (x,.free)->n<=i/\G.cap x=true/\∃c w v,fd.closure.lookup x=some c/\G.hb.IsCell c (some w)/\cs[i-n]?=some v/\VR G G.hb v w) /\
  (∀(i j:Nat) (x y:Str) (c:Addr),sc.names[i]?=some (x,.free)->sc.names[j]?=some (y,.free)->fd.closure.lookup x=some c->fd.closure.lookup y=some c->i=j) /\
  (∀p∈fd.closure,∃o,G.hb.get? p.2=some o)/\(∀(i:Nat) (x:Str) (k:NameKind),sc.names[i]?=some (x,k)->k≠.free->i<n)
def EA {cs:List V}{e:Expr}{b:Ex}(K:mC G a n cs sc e)(hb:dk G C sc d b e)(ao:AOk A (d+1))(R:Rel G σ s.heap)(vr:VRs G s.heap vs ws)(h1:vs.length=n)
  (h:wpE C b (λi=>(vs++cs)[i]?) σ Q):wpAny G.M A (call (.ref a) ws) (iv G [] σ s Q) E s:=by
 have#[o,fd,ho,hd,bu,I,bL,ca,U,bv,ag,hn,bM,Y,bd,bl,ar]:=K.here;subst bu;apply mq ?_;apply lQ (Pst:=λenv z=>codeAny G.M A (.expr e env) (wants (iv G [] σ s Q) E) z) (dv:=[]) (ds:=[]) (ρf:=λi=>if i<n then none else cs[i-n]?) (ρ':=λi=>(vs++cs)[i]?) ho hd K.lim K.kind K.nd rfl bL ca bv ag hn (λA E Q q=>?_) .nil (dj _)
  (λh=>PySem.W.kla_callFunE (by have:=ao.depth;(show gz .B .a (.l (.a (.a .A (.m 3 .S)) (.n 20)) .B) this)) (R.base _ _ ho) hd K.co K.gen I (U.keeps R.base) h) #[λi x ex=>?_,bd,λp hp=>?_,λi x k ex hk=>br (ar i x k ex hk)] R vr (Nat.le_of_eq h1) (by rw[List.length_nil];(show cg (.k .A (.a .B .O)) [[1,-1]] (.e .B .A) h1)) (λi=>?_) λenv s' X e1 e2 eo F' R' x' hX cc cb=>?_
 ·rw[bM];show wpAny G.M A (do notAStandIn .none;pure none) Q E s;show di (by rfl) (q none rfl)
 ·have#[h2,be,c,w,v,hc,J,hv,vv]:=Y i x ex;have#[oc,Z,bR]:=J;apply#[c,some w,hc,#[oc,R.base _ _ Z,bR],?_,λdm=>(by rw[R.new c dm]at Z;cases Z),λq=>(by rw[be]at q;cases q)];rw[az (cg (.g .A .B) .a (.k .B .A) h2),hv];show VR.mono (λb o e _=>R.base b o e) vv
 ·have#[o,ho]:=bl p hp;apply#[o,R.base _ _ ho]
 ·rw[List.drop_nil,cy];by_cases c:i<n
  ·rw[br c,dE (gr .B .k (.e .B .C) .H h1 c)]
  ·rw[az c,az c,List.getElem?_append_right (gr .A .b (.e .A .C) (.g .B .C) h1 c),h1]
 ·apply PySem.W.kla_codeExpr (bt (hb #[ao.deep env,e1,eo,F',R'] h) (λv s₂ l=>?_) λ_ _ x=>x);have#[u,σ',q,bn,R2,x2]:=l;apply#[u,σ',q,bn,R2,(x'.trans (x2.more λ_ h=>nomatch h)).less λz hz=>.inr (hX z hz)]
abbrev mB (G:Stc)(C:Cal)(d:Nat):Prop:=∀(k:Nat) (cs:List V) (a:Addr),G.clo k cs a->(∃o fd,G.hb.get? a=some o/\o.data=.func fd)/\∀{A E vs ws σ Q s},AOk A d->Rel G σ s.heap->VRs G s.heap vs ws ->
 C (1000+k) (vs++cs) σ Q->wpAny G.M A (call (.ref a) ws) (iv G [] σ s Q) E s
end
variable {f:Addr}{d':Nat}
structure MethAt (G:Stc)(name:Str)(f:Addr):Prop where
 here:∃N mN of fd,ClsAt G.hb G.cS N mN/\mN "__getattribute__"=none/\mN "__getattr__"=none/\mN name=some (.ref f)/\G.hb.get? f=some of/\of.cls=.type "function"/\of.data=.func fd
 out:name∉G.attrs
 lk:∃y,typeLookup (.type "object") name=pure y
section
variable {G:Stc}{A:Around}{E:QqV}{s:Shared}{σ:St}{fa:Nat->Option Addr}{C:Cal}{sc:Scope}{d:Nat}
def qR {a:Addr}{name:Str}{pl:Sem Bool}{Q:Value×List Value->Shared->Prop}(M:MethAt G name f)(R:Rel G σ s.heap)(J:(σ.I a).isSome)(q:Q (.ref f,[.ref a]) s):wpAny G.M A (getMethod (.ref a) name pl) Q E s:=by
 have#[N,mN,of,fd,X,W,Y,B,U,O,_]:=M.here;have#[y,hB]:=M.lk;have#[#[dd,g],J]:=ba.mp J;have I:=R.I a dd g J;have#[m,H,hv,Z]:=I.ns;have#[hh,gg,dr,t,os]:=s;have#[nm,q',bs,sn,sub,ag,d2,k0,k1,k2,k3,k5,z]:=(X.keeps R.base).obj;show method_of z (X.keeps R.base).ns W Y B (R.base _ _ U) O hB (I.inst H) (Z name M.out) q
def BG {e:Ex}{k:Nat}{name:Str}{es:Exs}{o:Expr}{args:List Expr}{apos pos:Pos}(CO:dP G fa C d)(hk:fa k=some f)(M:MethAt G name f)(z:dk G C sc d e o)(J:oq G C sc d es args)(hb:lr o=true)(I:noStar args=true)(U:args.length<30)(Z:(apos.endLine==pos.line)=true) :
  dk G C sc d (.meth e k es) (.Call (.Attribute o name apos) args [] pos):=λ_ _ _ _ _ _ _ c h=>by
 apply oh hb I U Z (kq (z c h) λv σ₁ s₁ w q vr r x pl=>?_);have#[a,rfl,hI,q]:=q;have rfl:=vr;have#[#[of,fd,H,hd],B]:=CO k f hk;show qR M r hI (bK H hd I J (c.go r x) q λvs σ₂ s₂ ws W O r₂ Y=>(x.trans Y).back (B c.ao r₂ (.cons (.obj a) O) W))
structure mG (G:Stc)(f:Addr):Prop where
 here:∃N mN of,ClsAt G.hb G.cS N mN/\mN "__init__"=some (.ref f)/\G.hb.get? f=some of/\of.cls=.type "function"
def uJ (C:Addr)(ws:List Value):(Code.builtin "type.__call__" #[.ref C::ws,[]]).cUnits<=10:=by
 show 1+3*(Code.frames (.builtin "type.__call__" #[.ref C::ws,[]]))<=10;show aq rfl
def AOk.make (h:AOk A (d+1))(C:Addr)(ws:List Value):AOk (A.under (.builtin "type.__call__" #[.ref C::ws,[]])) d:=
 #[h.handled,by have:=h.depth;show A.depth+1+3*d+20<_;(show gz (.l (.a (.a .L (.m 3 .B)) (.n 20)) .C) .a (.l (.a (.a .A (.m 3 .P)) (.n 20)) .C) this),by have:=h.units;have:=uJ C ws;show A.units+(Code.cUnits _)+30*d+300<_;(rename_i Z;show jm (.l (.a (.a .M (.m 30 .C)) (.n 300)) .D) .b (.l (.a (.a .A (.m 30 .S)) (.n 300)) .D) (.k .B (.n 10)) Z this)]
def AOk.less (h:AOk A d)(hd:d'<=d):AOk A d':=#[h.handled,by have:=h.depth;(show jm (.l (.a (.a .A (.m 3 .B)) (.n 20)) .C) [[1,3,1]] (.k .B .D) (.l (.a (.a .A (.m 3 .D)) (.n 20)) .C) hd this),by have:=h.units;(show jm (.l (.a (.a .A (.m 30 .B)) (.n 300)) .C) [[1,30,1]] (.k .B .D) (.l (.a (.a .A (.m 30 .D)) (.n 300)) .C) hd this)]
def oB {Q:V->St->Prop}{vs:List V}{ws:List Value}(CO:dP G fa C (d-1))(hd:1<=d)(hk:fa 0=some f)(M:mG G f)(ao:AOk A d)(q:∀a dd,σ.I a=none->C 0 (.obj a::vs) (σ.ir a dd λ_=>none) λv σ=>v=.none/\Q (.obj a) σ)(vr:VRs G s.heap vs ws)(r:Rel G σ s.heap):wpAny G.M A (call (.ref G.cS) ws) (iv G [] σ s Q) E s:=by
 have#[N,mN,of,X,hi,be,bl]:=M.here;have#[_,hc]:=CO 0 f hk;have bn:AOk A (d-1+1):=by rw[ae hd];show ao
 have#[nm,q',bs,sn,sub,bu,d2,k0,k1,k2,k3,k5,hC]:=(X.keeps r.base).obj;apply wpAny_call_obj_init PySem.F.objNew hC (X.keeps r.base).ns hi (r.base _ _ be) bl λh' Z dx made=>?_;have J:σ.I Z=none:=by
  cases hq:σ.I Z with
  |none=>rfl
  |some y=>have#[o,e]:=r.lz (.inr (.inr (.inr (.inl (by rw[hq];rfl)))));rw[made.newX]at e;cases e
 have hI:c9 G h' Z dx λ_=>none:=by
  have#[o,ho,z,bd,hd]:=made.inst;have W:=made.dict o ho;rcases hd with ⟨H,_⟩|⟨d',B,ar,ag⟩
  ·rw[W]at H;cases H
  ·rw[W]at B;cases B;apply#[#[o,ho,z,W,bd],#[_,ag,λ_ _ _=>trivial,λ_ _=>rfl],ar]
 have r':=r.L6 made.newX made.newD hI.ne made.keeps hI;have x':Go [] σ s (σ.ir Z dx λ_=>none) {s with heap:=h'}:=Go.refl.to (Evo.L6 _ made.newX made.newD made.keeps);apply bt (hc (s:={s with heap:=h'}) (bn.make _ _) r' (.cons (.obj Z) (vr.mono x'.frz)) (q Z dx J)) (λw s' l=>?_) λ_ _ x=>x;have#[v,σ₂,#[rfl,O],Y,r₂,U]:=l;cases Y;apply#[rfl,.obj Z,σ₂,O,.obj Z,r₂,x'.trans U]
def BE {x:Str}{es:Exs}{args:List Expr}{p pos:Pos}(K:GOk G)(I:dP G fa C (d-1))(hd:1<=d)(hk:fa 0=some f)(M:mG G f)(Y:oq G C sc d es args)(W:noStar args=true)(Z:args≠[])(U:sc.names.lookup x=some .globalImplicit)(J:jg x=true)(O:G.gl x=some (.ref G.cS)) :
  dk G C sc d (.n es) (.Call (.Name x p) args [] pos):=λ_ _ _ _ _ _ _ c h=>by
 have#[N,mN,of,X,_]:=id M.here;apply Call_ (kg K c.eo c.R (by rw[c.es];show U) J O ?_);cases args with
 |nil=>show absurd rfl Z
 |cons e rest =>
  show callWith_cls X (kD (Y c h) λvs σ₁ s₁ ws q vr r x=>#[r.base,x.back (oB I hd hk M c.ao q vr r)]) ((fj W).1 _) (jb (fj W).2 pos _)
def dP.more (h:dP G fa C d)(hd:d<=d'):dP G fa C d':=λk a hk=>#[(h k a hk).1,λZ=>(h k a hk).2 (Z.less hd)]
def mB.more {C:Cal}{d:Nat}(h:mB G C d)(hd:d<=d'):mB G C d':=λk cs a hk=>#[(h k cs a hk).1,λZ=>(h k cs a hk).2 (Z.less hd)]
end
end MP
end
section
set_option tactic.hygienic true
namespace MP
open PySem PyProof.Rows
variable {T id nm:String}{name:Str}{o:Obj}{a:Addr}{Q:QqV}{expr:Bool}{x:Value}
def k8:Slot "method_descriptor" "__get__" "method_descriptor.__get__":=
 .of (owner:="method_descriptor") (n:="__get__") (by rw[ec,cq];kernel_rfl) (by decide +kernel) (by decide +kernel) (by decide +kernel)
  (by first|show .inl (by decide +kernel)|show .inr (by decide +kernel)) (by rw[gh];kernel_rfl)
def sL:entryFor table "method_descriptor.__get__"=some Builtin.«method_descriptor.__get__»:=bD (by kernel_rfl)
def vW (a b c:Value):argsOk "method_descriptor.__get__" #[[a,b,c],[]]:=by unfold argsOk;kernel_rfl
def CR:typeLookup (.type "method_descriptor") "__set__"=pure none:=by rw[ec,cq];kernel_rfl
def CS:typeLookup (.type "method_descriptor") "__delete__"=pure none:=by rw[ec,cq];kernel_rfl
structure mJ (T:String)(name:Str)(id nm:String):Prop where
 lk:typeLookup (.type T) name=pure (some (.builtin id))
 ty:typeOf (.builtin id)=pure (.type "method_descriptor")
 own:(kfb_private% "ownerAndName") id=(T,nm)
 told:Manifest.toldItsClass.contains id=false
 sub:isSubtype (.type T) (.type T)=pure true
 nm1:(["__module__","__name__","__qualname__","__doc__","__annotations__"]:List Str).contains name=false
 tp1:(Value.type T==Value.type "module")=false
def EI:mJ "dict" "get" "dict.get" "get" where
 lk:=PySem.F.slot_dict_get.lookup
 ty:=PySem.F.type_dict_get
 own:=by first|decide +kernel|kernel_rfl
 told:=by first|decide +kernel|kernel_rfl
 sub:=by rw[gh];kernel_rfl
 nm1:=by decide +kernel
 tp1:=by decide +kernel
def EG:mJ "set" "__contains__" "set.__contains__" "__contains__" where
 lk:=by rw[ec,cq];kernel_rfl
 ty:=by show builtinType _=_;rw[builtinType_eq_fast];kernel_rfl
 own:=by first|decide +kernel|kernel_rfl
 told:=by first|decide +kernel|kernel_rfl
 sub:=by rw[gh];kernel_rfl
 nm1:=by decide +kernel
 tp1:=by decide +kernel
def EH:mJ "dict" "__contains__" "dict.__contains__" "__contains__" where
 lk:=PySem.F.slot_dict_contains.lookup
 ty:=PySem.F.type_dict_contains
 own:=by first|decide +kernel|kernel_rfl
 told:=by first|decide +kernel|kernel_rfl
 sub:=by rw[gh];kernel_rfl
 nm1:=by decide +kernel
 tp1:=by decide +kernel
abbrev eP (id:String)(a:Addr):Obj:={cls:=.type "builtin_function_or_method",data:=.fields #v[.builtin id,.ref a]}
section
variable {prog:Program}{w:World}{A:Around}{E:QqV}{s:Shared}
def z8 {a:Addr}{P:Fin->Shared->Prop}(B:mJ T name id nm)(Y:s.heap.get? a=some o)(W:o.cls=.type T)(h:P (.done (.ret (.ref s.heap.objs.size))) {s with heap:=s.heap.push (eP id a)}) :
  wpAny (model prog w) A (Builtin.«method_descriptor.__get__» #[[.builtin id,.ref a,.type T],[]]) P E s:=by
 have U:s.TypeIs (.ref a) T:=#[_,Y,W];unfold Builtin.«method_descriptor.__get__»;apply aa (di (a:=(.builtin id,some (.ref a),some (.type T))) (by first|rfl|kernel_rfl) ?_);simp only[B.told];show wpAny _ _ (do
  (do
   let (owner,name):=(kfb_private% "ownerAndName") id
   if !(← isInstance (.ref a) (.type owner)) then
    rule "descr.get.wrong-instance"
    raiseError "TypeError" s!"descriptor '{(Str.ofString name).toString}' for '{← typeName (.type owner)}' objects doesn't apply to a '{← typeNameOf (.ref a)}' object":Sem Unit)
  ret (← newFields "builtin_function_or_method" [.builtin id,.ref a])) _ _ _
 rw[B.own];dsimp only;unfold isInstance;have Z:=B.sub;apply aa (aa ?_);apply aa (aF U ?_);apply di B.sub ?_;apply ab ?_;apply aa ?_;unfold newFields;show iq (ab h)
def vO (B:mJ T name id nm)(Z:s.heap.get? a=some o)(Y:o.cls=.type T)(h:Q (.ref s.heap.objs.size) {s with heap:=s.heap.push (eP id a)}) :
  wpAny (model prog w) A (call (.builtin "method_descriptor.__get__") [.builtin id,.ref a,.type T]) Q E s:=
 eh k8 B.ty sL (z8 B Z Y #[_,rfl,h]) (vW _ _ _)
def C6 {tk:Tok}{P:Fin->Shared->Prop}(B:mJ T name id nm)(Z:s.heap.get? a=some o)(U:o.cls=.type T)(hd:o.dict=none)(W:∀c,o.data≠.cls c)(h:P (.done (.ret (.ref s.heap.objs.size))) {s with heap:=s.heap.push (eP id a)}) :
  wpAny (model prog w) A (Builtin.«object.__getattribute__» #[[.ref a,.str name tk],[]]) P E s:=by
 have#[O,g,d,t,os]:=s;have I:(#[O,g,d,t,os]:Shared).TypeIs (.ref a) T:=#[_,Z,U];have J:(#[O,g,d,t,os]:Shared).TypeIs (.builtin id) "method_descriptor":=B.ty;have f4:=B.lk;have f5:=B.ty;have f6:=k8.lookup;have z:=CR;have H:=CS;have Y:=B.nm1;unfold Builtin.«object.__getattribute__»
 repeat (any_goals (first|assumption|wp_step))
 split
 ·rename_i c e;show absurd e (W c)
 ·unfold instanceDict
  repeat (any_goals (first|assumption|(with_reducible refine qg Z ?_;rw[U])|with_reducible refine wpAny_loadHead Z ?_|wp_step))
  rw[hd]
  repeat (any_goals (first|assumption|wp_step))
  rw[az (by rw[Y];decide)];apply ab ?_
  repeat (any_goals (first|assumption|((with_reducible show wpAny _ _ (call (Value.builtin "method_descriptor.__get__") _ _) _ _ _);apply vO B Z U ?_)|wp_step))
def bV {Y:String}(B:mJ T name id nm)(W:Slot T "__getattribute__" Y)(z:entryFor table Y=some Builtin.«object.__getattribute__»)(ar:∀x y,argsOk Y #[[x,y],[]])
  (O:s.heap.get? a=some o) (H:o.cls=.type T) (hd:o.dict=none) (Z:∀c,o.data≠.cls c) (h:Q (.ref s.heap.objs.size) {s with heap:=s.heap.push (eP id a),toks:=s.toks+1}) :
  wpAny (model prog w) A (getAttr (.ref a) name expr) Q E s:=by
 have#[J,g,d,t,os]:=s;have#[c,dct,ao,ag]:=o;simp only at H hd Z;subst H;subst hd;have I:∀U,(#[J,g,d,U,os]:Shared).TypeIs (.ref a) T:=λ_=>#[_,O,rfl];have f3:=W.lookup;have f4:=W.bind (.ref a);unfold getAttr getAttrBy
 repeat (any_goals (first|assumption|show I _|((with_reducible show wpAny _ _ (call (Value.builtin Y) _ _) _ _ _);apply eh W (I _) z (C6 B (s:=⟨J,g,d,t+1,os⟩) O rfl rfl Z ⟨_,rfl,?_⟩) (ar _ _))|wp_step))
 have e:(expr&&onTheHeap (Value.builtin Y))=false:=by cases expr<;>rfl
 rw[az (by rw[e];decide)];unfold boundAndCalled;apply aa (di f4 ?_);apply eh W (I _) z (C6 B (s:=#[J,g,d,t+1,os]) O rfl rfl Z #[_,rfl,?_]) (ar _ _);show ab h
def pR (Y:s.heap.get? a=some o)(W:o.cls=.type "dict")(hd:o.dict=none)(Z:∀c,o.data≠.cls c)(h:Q (.ref s.heap.objs.size) {s with heap:=s.heap.push (eP "dict.get" a),toks:=s.toks+1}) :
  wpAny (model prog w) A (getAttr (.ref a) "get" expr) Q E s:=
 bV EI PySem.F.slot_dict_getattribute am_entry_dict_getattribute tG Y W hd Z h
def pQ (Y:s.heap.get? a=some o)(W:o.cls=.type "dict")(hd:o.dict=none)(Z:∀c,o.data≠.cls c)(h:Q (.ref s.heap.objs.size) {s with heap:=s.heap.push (eP "dict.__contains__" a),toks:=s.toks+1}) :
  wpAny (model prog w) A (getAttr (.ref a) "__contains__" expr) Q E s:=
 bV EH PySem.F.slot_dict_getattribute am_entry_dict_getattribute tG Y W hd Z h
def entry_set_ga:entryFor table "set.__getattribute__"=some Builtin.«object.__getattribute__»:=
 aK (id':="object.__getattribute__") (by kernel_rfl) (by first|rfl|decide +kernel) (by decide +kernel) (by kernel_rfl)
def pP (Y:s.heap.get? a=some o)(W:o.cls=.type "set")(hd:o.dict=none)(Z:∀c,o.data≠.cls c)(h:Q (.ref s.heap.objs.size) {s with heap:=s.heap.push (eP "set.__contains__" a),toks:=s.toks+1}) :
  wpAny (model prog w) A (getAttr (.ref a) "__contains__" expr) Q E s:=
 bV EG PySem.F.slot_set_getattribute entry_set_ga PySem.F.args_set_getattribute_2 Y W hd Z h
def q7 {pos:Pos}{u:Addr}{first:List Value}{args:List (Bool×Sem Value)}(Z:args.any (·.1)=false)(U:o.cls=.type "builtin_function_or_method")(W:o.data=.fields #v[.builtin id,.ref a])
  (h:wpAny (model prog w) A (evalArgs (.ref u) true args []) (λx s₁=>s₁.heap.get? u=some o/\wpAny (model prog w) A (call (.ref u) (first++x.pos) x.kw) Q E s₁) E s):wpAny (model prog w) A (callWith pos (.ref u) first args []) Q E s:=by
 unfold callWith;apply aa (bp (bt h (λx s₁ h₁=>aa (er ?_)) λ_ _ x=>x));have#[J,Y]:=h₁;simp -iota only[Z,List.any_nil,zf];apply aa (m:=keeperOf (.ref u)) ?_;unfold keeperOf;apply aa (ya J ?_);simp -iota only[U,W,show(Value.type "builtin_function_or_method" != Value.type "method")=true by decide,show(Value.type "builtin_function_or_method" == Value.type "builtin_function_or_method" ||Value.type "builtin_function_or_method" == Value.type "method-wrapper")=true by decide,tu];apply ab ?_;show aa (bt Y (λr s₂ O=>aa (bp (wpAny_point (ab O)))) λ_ _ x=>x)
def EB {u:Addr}{b:Builtin}{args:List Value}(J:s.heap.get? u=some o)(Y:o.cls=.type "builtin_function_or_method")(Z:o.data=.fields #v[.builtin id,.ref a])
  (W:∀(A:Around) (E:QqV) (Q:Unit->Shared->Prop),Q () s->wpAny (model prog w) A (checkBoundCall id #[.ref a::args,[]]) Q E s) (O:id.startsWith "lifetime."=false) (I:entryFor table id=some b)
  (h:∀H:Around,wpAny (model prog w) H (b #[.ref a::args,[]]) (λfin s'=>∃v,fin=.done (.ret v)/\Q v s') E s):wpAny (model prog w) A (call (.ref u) args) Q E s:=by
 apply mq (mr ?_);show wpAny _ A.in1 (callAny (.ref u) #[args,[]]) _ _ s;simp -iota only[callAny];apply aa (ya J ?_);simp -iota only[Y,Z,show(Value.type "builtin_function_or_method" == Value.type "method" ||Value.type "builtin_function_or_method" == Value.type "builtin_function_or_method" ||Value.type "builtin_function_or_method" == Value.type "method-wrapper")=true by decide,tu];show wpAny _ _ (do checkBoundCall id #[.ref a::args,[]];again (.builtin id #[.ref a::args,[]])) _ _ s;apply aa (W _ _ _ (ab #[yb _ O,ll I ?_]));apply bt (h _) (λfin s' h'=>?_) λ_ _ x=>x;have#[v,rfl,U]:=h';show U
def E7 (a b c:Value):(match Manifest.signature? "dict.get" with|some Z=>Bind.checkArgs "dict.get" {Z with full:=s!"{Bind.lastOf "dict"}.{Bind.lastOf "dict.get"}" } #[[a,b,c],[]]|none=>pure ())=pure ():=by
 rw[bJ (id:="dict.get") (n:=['t','e','g']) (o:=['t','c','i','d']) (by kernel_rfl) PySem.F.owner_dict];kernel_rfl
def E6 (a b:Value):(match Manifest.signature? "dict.__contains__" with|some Z=>Bind.checkArgs "dict.__contains__" {Z with full:=s!"{Bind.lastOf "dict"}.{Bind.lastOf "dict.__contains__"}" } #[[a,b],[]]|none=>pure ())=pure ():=by
 rw[bJ (id:="dict.__contains__") (n:=['_','_','s','n','i','a','t','n','o','c','_','_']) (o:=['t','c','i','d']) (by kernel_rfl) PySem.F.owner_dict];kernel_rfl
def E5 (a b:Value):(match Manifest.signature? "set.__contains__" with|some Z=>Bind.checkArgs "set.__contains__" {Z with full:=s!"{Bind.lastOf "set"}.{Bind.lastOf "set.__contains__"}" } #[[a,b],[]]|none=>pure ())=pure ():=by
 rw[bJ (id:="set.__contains__") (n:=['_','_','s','n','i','a','t','n','o','c','_','_']) (o:=['t','e','s']) (by kernel_rfl) PySem.F.owner_set];kernel_rfl
def lS {rest:List Value}{Q:Unit->Shared->Prop}(J:s.heap.get? a=some o)(z:o.cls=.type T)(W:∀c,o.data≠.cls c)(hk:builtinKind id=some .method)(B:isSubtype (.type T) (.type "module")=pure false)(H:Manifest.varargsMethods.contains id=false)
  (U:(match Manifest.signature? id with|some Z=>Bind.checkArgs id {Z with full:=s!"{Bind.lastOf T}.{Bind.lastOf id}" } #[.ref a::rest,[]]|none=>pure ())=pure ()) (h:Q () s):wpAny (model prog w) A (checkBoundCall id #[.ref a::rest,[]]) Q E s:=by
 have I:s.TypeIs (.ref a) T:=#[_,J,z];unfold checkBoundCall;cases hsig:Manifest.signature? id with
 |none=>show ab h
 |some Z =>
  rw[hsig]at U;dsimp only at U ⊢;rw[hk];dsimp only;rw[az (by decide)];unfold isInstance;apply aa (aa (aF I ?_));apply di B ?_;rw[H,az (by decide)];have Y:∀O:Bool->Shared->Prop,O false s->wpAny (model prog w) A (isType (.ref a)) O E s:=λO q=>by
   unfold isType loadHead;apply aa (gC J (ab ?_));split
   ·rename_i c e;show absurd e (W c)
   ·show q
  apply aa (Y _ ?_);rw[az (by decide)];apply aa (aF I ?_);show di U h
def zP:builtinKind "dict.get"=some .method:=by kernel_rfl
def zN:builtinKind "set.__contains__"=some .method:=by kernel_rfl
def B4:isSubtype (.type "dict") (.type "module")=pure false:=by rw[gh];kernel_rfl
def KD:isSubtype (.type "set") (.type "module")=pure false:=by rw[gh];kernel_rfl
def FL:Manifest.varargsMethods.contains "dict.get"=false:=by decide +kernel
def FJ:Manifest.varargsMethods.contains "set.__contains__"=false:=by decide +kernel
def IS {y:Value}{Q:Unit->Shared->Prop}(Y:s.heap.get? a=some o)(W:o.cls=.type "dict")(Z:∀c,o.data≠.cls c)(h:Q () s):wpAny (model prog w) A (checkBoundCall "dict.get" #[[.ref a,x,y],[]]) Q E s:=
 lS Y W Z zP B4 FL (E7 _ _ _) h
def zO:builtinKind "dict.__contains__"=some .method:=by kernel_rfl
def FK:Manifest.varargsMethods.contains "dict.__contains__"=false:=by decide +kernel
def IQ {Q:Unit->Shared->Prop}(Y:s.heap.get? a=some o)(W:o.cls=.type "dict")(Z:∀c,o.data≠.cls c)(h:Q () s):wpAny (model prog w) A (checkBoundCall "dict.__contains__" #[[.ref a,x],[]]) Q E s:=
 lS (T:="dict") (id:="dict.__contains__") (rest:=[x]) Y W Z zO B4 FK (E6 (.ref a) x) h
def IM {Q:Unit->Shared->Prop}(Y:s.heap.get? a=some o)(W:o.cls=.type "set")(Z:∀c,o.data≠.cls c)(h:Q () s):wpAny (model prog w) A (checkBoundCall "set.__contains__" #[[.ref a,x],[]]) Q E s:=
 lS (T:="set") (id:="set.__contains__") (rest:=[x]) Y W Z zN KD FJ (E5 (.ref a) x) h
end
end MP
end
section
namespace MP
open PySem PyProof.Rows
def u9:plainId "dict.get"=true:=PySem.F.slot_dict_get.plain
def u7:plainId "dict.__contains__"=true:=PySem.F.slot_dict_contains.plain
def zI:("dict.__contains__":String).startsWith "lifetime."=false:=by decide +kernel
def zJ:("dict.get":String).startsWith "lifetime."=false:=by decide +kernel
def zH:("set.__contains__":String).startsWith "lifetime."=false:=by decide +kernel
section
variable {prog:Program}{w:World}{A:Around}{E:QqV}{s:Shared}
def oD {u a:Addr}{id:String}{o:Obj}{b:Builtin}{args:List Value}{S:PySem.Spec}{Q:QqV}(J:s.heap.get? u=some o)(Y:o.cls=.type "builtin_function_or_method")(Z:o.data=.fields #v[.builtin id,.ref a])
  (W:∀(A:Around) (E:QqV) (Q:Unit->Shared->Prop),Q () s->wpAny (model prog w) A (checkBoundCall id #[.ref a::args,[]]) Q E s) (U:id.startsWith "lifetime."=false) (I:entryFor table id=some b) (O:plainId id=true)
  (g:MeetsIn prog w (b #[.ref a::args,[]]) S) (h:S A (wants Q E) s):wpAny (model prog w) A (call (.ref u) args) Q E s:=by
 apply mq (mr ?_);show wpAny _ A.in1 (callAny (.ref u) #[args,[]]) _ _ s;simp -iota only[callAny];apply aa (ya J ?_);simp -iota only[Y,Z,show(Value.type "builtin_function_or_method" == Value.type "method" ||Value.type "builtin_function_or_method" == Value.type "builtin_function_or_method" ||Value.type "builtin_function_or_method" == Value.type "method-wrapper")=true by decide,tu];show wpAny _ _ (do checkBoundCall id #[.ref a::args,[]];again (.builtin id #[.ref a::args,[]])) _ _ s;apply aa (W _ _ _ (ab #[yb _ U,ll I ?_]));rw[mi O];show g A (wants Q E) s h
def mL {K:Type}[DecidableEq K]{knd:KeyKind prog w K}{a:Addr}{k:K}{key:Value}{S:K->Bool}{n:Nat}{Q:QqV}(Z:knd.is k key=true)(Y:key.scannable=true)(U:s.heap.SetOf knd a S n)
  (h:Q (.bool (S k)) {s with toks:=s.toks+1}):wpAny (model prog w) A (Builtin.«frozenset.__contains__» #[[.ref a,key],[]]) (λfin s'=>∃v,fin=.done (.ret v)/\Q v s') E s:=by
 unfold Builtin.«frozenset.__contains__» Builtin.Frozenset.oneOther;simp only[List.isEmpty_nil,bind_assoc];unfold Builtin.Frozenset.addrOf Builtin.Frozenset.withSetAsKey setContains;apply aa (ab ?_)
 try dsimp only
 apply aa (ab ?_)
 try dsimp only
 apply aa (wpAny_tryCatch ?_);apply bp ?_;apply aa (knd.pyHash Z ?_);apply aa (wpAny_setFind_of (s:={s with toks:=s.toks+1}) Z Y U λr W=>?_);apply ab ?_;show wpAny _ _ (ret (Value.bool r.isSome)) _ _ _;rw[W];show ab #[_,rfl,h]
end
section
variable {e:Ex}{x:Expr}{pos:Pos}
variable {G:Stc}{C:Cal}{sc:Scope}{d:Nat}
def tT (J:dk G C sc d e x)(hb:lr x=true):dk G C sc d (.g e) (.Attribute x "get" pos):=λ_ _ _ _ _ _ _ c h =>
 Attribute_any_ (kq (J c h) λv σ₁ s₁ w q vr r x=>by
  have#[a,rfl,H,q]:=q;have rfl:=vr;have#[B,e]:=ba.mp H;have#[ds,hd,_]:=r.D _ _ e;have hnd:=hd.mapOf.noDict a rfl;have#[o,z,ep,U,I,Y,_]:=id hd;have#[o',Z,W]:=hnd;have O:=af (U.symm.trans Z)
  try clear Z
  have rfl:=O;apply pR U I.1 W (λc q=>by rw[Y]at q;cases q) ?_;apply#[.eM a,σ₁,q,.eM (bc _ rfl) rfl rfl,r.push _,x.to (Evo.push _ _ _ _)]) (by rw[gG,xi hb])
def tS (J:dk G C sc d e x)(hb:lr x=true):dk G C sc d (.dhasOf e) (.Attribute x "__contains__" pos):=λ_ _ _ _ _ _ _ c h =>
 Attribute_any_ (kq (J c h) λv σ₁ s₁ w q vr r x=>by
  have#[a,rfl,H,q]:=q;have rfl:=vr;have#[B,e]:=ba.mp H;have#[ds,hd,_]:=r.D _ _ e;have hnd:=hd.mapOf.noDict a rfl;have#[o,z,ep,U,I,Y,_]:=id hd;have#[o',Z,W]:=hnd;have O:=af (U.symm.trans Z)
  try clear Z
  have rfl:=O;apply pQ U I.1 W (λc q=>by rw[Y]at q;cases q) ?_;apply#[.dhas a,σ₁,q,#[_,_,rfl,bc _ rfl,rfl,rfl],r.push _,x.to (Evo.push _ _ _ _)]) (by rw[gG,xi hb])
def tR (J:dk G C sc d e x)(hb:lr x=true):dk G C sc d (.h e) (.Attribute x "__contains__" pos):=λ_ _ _ _ _ _ _ c h =>
 Attribute_any_ (kq (J c h) λv σ₁ s₁ w q vr r x=>by
  have#[a,rfl,H,q]:=q;have rfl:=vr;have#[B,e]:=ba.mp H;have hd:=r.S _ _ e;have#[o',Z,W]:=hd.of.noDict a rfl;have#[o,z,ep,t,U,I,Y,_]:=id hd;have O:=af (U.symm.trans Z)
  try clear Z
  have rfl:=O;apply pP U I.1 W (λc q=>by rw[Y]at q;cases q) ?_;apply#[.dY a,σ₁,q,.dY (bc _ rfl) rfl rfl,r.push _,x.to (Evo.push _ _ _ _)]) (by rw[gG,xi hb])
def i5 {A:Around}{E:QqV}{s:Shared}{σ:St}{env:Env}{ρ:Fr}{u a:Addr}{id:String}{o:Obj}{es:Exs}{args:List Expr}{P:List V->St->Prop}{Q:QqV}(J:s.heap.get? u=some o)(Y:o.cls=.type "builtin_function_or_method")(Z:o.data=.fields #v[.builtin id,.ref a])(O:noStar args=true)(W:oq G C sc d es args)
  (c:Cx G sc d A env ρ σ s) (h:xy C es ρ σ P)
  (k:∀vs σ₁ s₁ ws,P vs σ₁->VRs G s₁.heap vs ws->Rel G σ₁ s₁.heap->Go [] σ s σ₁ s₁->s₁.heap.get? u=some o->wpAny G.M A (call (.ref u) ws) Q E s₁) :
  wpAny G.M A (callWith pos (.ref u) [] (backTo pos (starEach args env)) []) Q E s:=
 q7 (o:=o) (jb O pos env) Y Z (nt (jb O pos env) (kD (W c h) λvs σ₁ s₁ ws q vr r x=>by
  have U:=x.frz _ _ J (.inr (.inl #[.inl Y,_,Z]));apply#[U,k vs σ₁ s₁ ws q vr r x U]))
def nF {f:Nat}{es:Exs}{x:Str}{kd:NameKind}{args:List Expr}{p:Pos}(K:GOk G)(LO:mB G C d)(hi:sc.names[f]?=some (x,kd))(hk:isVar kd=true)(hx:jg x=true)(H:oq G C sc d es args)(hs:noStar args=true):dk G C sc d (.w f es) (.Call (.Name x p) args [] pos):=λA E env ρ σ Q s c h=>by
 have#[v,hv,h]:=h;have bd:(x==("__debug__":Str))=false:=by simp only[jg,dh,dp]at hx;show hx.1
 apply Call_ (wpAny_Name (eX c.eo c.F (by rw[c.es];show hi) hk hx hv λw vr=>?_) bd);have no:(∀vs σ,¬MF v vs C 1000 σ Q)->wpAny G.M A (callWith pos w [] (backTo pos (starEach args env)) []) (iv G [] σ s Q) E s:=λbe=>by
  unfold callWith;show aa (bp (nt (jb hs pos env) (kD (H c h) λvs σ₁ s₁ ws q vr r x=>(be _ _ q).elim)))
 cases v with
 |eM a =>
  try clear hv
  have#[q,o,rfl,ho,O,U]:=vr;apply i5 ho O U hs H c h λvs σ₁ s₁ ws Z J r W hu=>?_;replace Z:=nJ (vs:=vs) Z;have#[k,dd,rfl,ag,kk,e,Y,Z]:=Z;have#[wa,wb,rfl,va,vb]:=J.two;have#[ds,hd,z]:=r.D _ _ e;have#[od,ar,ep,I,hcd,B,_]:=id hd;have hl:=z.look kk;apply oD hu O U (λA E Q q=>IS I hcd.1 (λc q=>by rw[B]at q;cases q) q) zJ PySem.F.entry_dict_get u9 (meets_dict_get_default G.kk _ (key_is Y va) (tc K r (.inr (.inl (by rw[e];rfl)))) _) #[_,hd.mapOf,?_];apply#[_,σ₁,Z,hl.getD vb,r,W.tok]
 |dY a =>
  have#[q,o,rfl,ho,O,U]:=vr;apply i5 ho O U hs H c h λvs σ₁ s₁ ws Z J r W hu=>?_;replace Z:=bU (vs:=vs) Z;have#[k,rfl,ks,kk,e,Y,Z]:=Z;have zz:=J.one
  try clear J
  have#[wa,rfl,va]:=zz;have hS:=r.S _ _ e;have#[od,ar,ep,t,I,hcd,B,_]:=id hS;apply EB hu O U (λA E Q q=>IM I hcd.1 (λc q=>by rw[B]at q;cases q) q) zH PySem.entry_set_contains λA'=>?_;apply mL (key_is Y va) (rZ Y va) hS.of ?_;apply#[_,σ₁,Z,.bool _,r,W.tok]
 |dhas a =>
  try clear hv
  have#[q,o,rfl,ho,O,U]:=vr;apply i5 ho O U hs H c h λvs σ₁ s₁ ws Z J r W hu=>?_;replace Z:=bU (vs:=vs) Z;have#[k,rfl,ag,kk,e,Y,Z]:=Z;have zz:=J.one
  try clear J
  have#[wa,rfl,va]:=zz;have#[ds,hd,z]:=r.D _ _ e;have#[od,ar,ep,I,hcd,B,_]:=id hd;have hl:=z.look kk;apply oD hu O U (λA E Q q=>IQ I hcd.1 (λc q=>by rw[B]at q;cases q) q) zI PySem.F.entry_dict_contains u7 (meets_dict_contains G.kk _ (key_is Y va) (tc K r (.inr (.inl (by rw[e];rfl))))) #[_,hd.mapOf,?_];have e2:(valueAt ds kk).isSome=(ag.lookup kk).isSome:=by
   cases h1:ag.lookup kk<;>cases h2:valueAt ds kk<;>rw[h1,h2]at hl<;>first|rfl|show hl.elim
  apply#[_,σ₁,e2▸Z,.bool _,r,W.tok]
 |clo k cs =>
  try clear Z
  have#[a,_,rfl,hk,_]:=vr;have#[#[o,fd,ho,hd],hc]:=LO k cs a hk;show bK ho hd hs H c h λvs σ₁ s₁ ws q vr r x=>x.back (hc c.ao r vr q)
 |_=>show no λ_ _ q=>q
end
end MP
end
section
namespace MP
open PySem PyProof.Rows
def At.grow {h h':Heap}{a:Addr}{o:Obj}(Z:h.get? a=none)(hk:∀b o,h.get? b=some o->h'.get? b=some o)(Y:h'.get? a=some o):At a h h':=
 #[λb o _ e=>hk b o e,#[_,Y],λo e=>by rw[Z]at e;cases e]
section
variable {G:Stc}{C:Cal}{sc:Scope}{d:Nat}
def GC {e:Ex}{x:Str}{y:Expr}{p pos:Pos}(K:GOk G)(he:dk G C sc d e y)(U:noStar [y]=true)(z:sc.names.lookup x=some .globalImplicit)(hn:jg x=true)(hv:G.gl x=some (.builtin "len")) :
  dk G C sc d (.bf .len %[e|0]) (.Call (.Name x p) [y] [] pos):=λ_ _ _ _ _ _ _ c h=>by
 apply tW K U (jf he lu (fj U).1) z hn hv c h λvs σ₁ s₁ ws q vr r Z=>?_;replace q:=bU (vs:=vs) q;have#[v,rfl,q]:=q;have H:=vr.one;clear vr;have#[w,rfl,O]:=H;induction v using V.casesOn with
 |L a =>
  have rfl:=O;have#[xs,e,q]:=q;have#[us,n,hl,W]:=r.L _ _ e;rw[W.length]at q;show PySem.Calls.call_len_list hl.isList (zK (mF r e W)) #[_,σ₁,q,.int _ _,r,Z.tok]
 |T xs =>
  have#[a,us,n,rfl,g,J]:=O;have#[hz,q]:=q;rw[J.length]at q hz;show PyProof.Rows.len_tuple #[_,g,rfl,_,rfl] (zK hz) #[_,σ₁,q,.int _ _,r,Z.tok]
 |ro ns =>
  have#[a,us,n,rfl,g,J]:=O;have#[hz,q]:=q;rw[<- J.length]at q hz;show PySem.Calls.call_len_list (IsL.isList (r.base _ _ g)) (zK hz) #[_,σ₁,q,.int _ _,r,Z.tok]
 |dct a =>
  have rfl:=O;have#[ag,e,q]:=q;have#[ds,hd,I]:=r.D _ _ e;have Y:=I.length;have hz:=r.Dl _ _ e;unfold aw at hz;apply call_len_dict (tc K r (.inr (.inl (by rw[e];rfl)))) hd (mn (.il (.t .A) .L) .k (.e .B .A) (.k .B .Q) Y hz) ?_;rw[Y]at q;apply#[_,σ₁,q,.int _ _,r,Z.tok]
 |_=>show False.elim q
def BA {x:Str}{p pos:Pos}(K:GOk G)(W:sc.names.lookup x=some .globalImplicit)(O:jg x=true)(U:G.gl x=some (.type "set")) :
  dk G C sc d (.bf .set .nil) (.Call (.Name x p) [] [] pos):=λA E env ρ σ Q s c h=>by
 apply sv (P:=λvs σ=>FG .set vs σ Q) K rfl lu W O U c h λvs σ₁ s₁ ws q vr r Z=>?_;have#[rfl,q]:=xA (vs:=vs) q;have rfl:=vr;have Y:At s₁.heap.objs.size s₁.heap (s₁.heap.push (cY G)):=At.push s₁.heap;show q6 #[.set _,_,q _ r.DH r.freshD,.set _,r.u5 Y (λ_=>none_at_size _) (nG s₁.heap),Z.to (Evo.u5 Y (λ_=>none_at_size _) _)]
end
end MP
end
section
namespace MP
open PySem PyProof.Rows
variable {σ:St}{env:Env}{e:Expr}{depth:Nat}{acc:Value}{gens:List Comprehension}
abbrev Tg.vars:Tg->List Nat
 |.v x=>[x]
 |.T xs=>xs
abbrev Gens.vars:Gens->List Nat
 |.elt _=>[]
 |.eltP _ _=>[]
 |.cons _ t _ more=>t.vars++more.vars
def kC:∀(xs:List Nat) (vs:List V) (ρ:Fr) (i:Nat),i∉xs->gj xs vs ρ i=ρ i
 | [],_,_,_,_=>rfl
 |_::_,[],_,_,_=>rfl
 |x::xs,v::vs,ρ,i,h=>by
  have h:=oM h;show(kC xs vs _ i h.2).trans (bh h.1)
def vR {t:Tg}{v:V}{ρ:Fr}{K:Fr->Prop}(h:pz t v σ ρ K):pz t v σ ρ λρ'=>K ρ'/\∀i,i∉t.vars->ρ' i=ρ i:=by
 cases t with
 |v x=>refine#[h,λi Z=>bh (by simpa[Tg.vars] using Z)]
 |T xs =>
  have#[vs,e,Y,h]:=h;apply#[vs,e,Y,h,λi Z=>kC _ _ _ _ Z]
def Rel.MG {G:Stc}{h:Heap}{a:Addr}{xs:List V}{ws:List Value}{n:Nat}(R:Rel G σ h)(hd:¬σ.dom a)(hb:G.hb.get? a=none)(W:IsL h a ws.toArray n)(U:VRs G h xs ws)(hz:xs.length<=aw):Rel G (σ.cu a xs) h:=by
 apply#[λb ys e=>?_,R.D,R.S,R.I,R.Z,λb ys e=>?_,R.Dl,R.inj,R.apart,R.sep,λb d=>?_,R.base]
 ·by_cases Y:b=a
  ·try clear hd
   subst Y;simp only[St.cu,ay,ek]at e;subst e;apply#[ws,n,W,U]
  ·simp only[St.cu,bh Y]at e;show R.L b ys e
 ·by_cases Y:b=a
  ·try clear W
   subst Y;simp only[St.cu,ay,ek]at e;show e▸hz
  ·simp only[St.cu,bh Y]at e;show R.Ll b ys e
 ·rcases aA d with d|rfl
  ·show R.new b d
  ·show hb
structure Acc (G:Stc) where
 B:Heap->Addr->List V->Prop
 keep:∀h h' D acc,B h D acc->(∀o,h.get? D=some o->h'.get? D=some o)->gf h h'->B h' D acc
 there:∀h D acc,B h D acc->∃o,h.get? D=some o
abbrev A9 (G:Stc):Acc G where
 B:=λh D acc=>acc.length<=aw/\∃ws n,IsL h D ws.toArray n/\VRs G h acc ws
 keep:=λh h' D acc b hk hf=>by have#[z,ws,n,hl,hv]:=b;apply#[z,ws,n,hk _ hl,hv.mono hf]
 there:=λh D acc b=>by have#[z,ws,n,hl,hv]:=b;apply#[_,hl]
inductive y9 (G:Stc)(B:Acc G)(env:Env)(D:Addr)(X:List Addr)(tv:List Nat)(ρ:Fr)(σ:St)(s:Shared)(K:Fr->List V->St->Prop)(s':Shared):Prop
 |mk (ρ':Fr) (acc':List V) (σ':St):K ρ' acc' σ'->FR G σ' env ρ' s'.heap->Rel G σ' s'.heap->B.B s'.heap D acc'->¬σ'.dom D->Go (D::X) σ s σ' s'->(∀i,i∉tv->ρ' i=ρ i)->y9 G B env D X tv ρ σ s K s'
structure bA (G:Stc)(B:Acc G)(env:Env)(D:Addr)(σ:St)(h:Heap)(acc:List V):Prop where
 here:B.B h D acc
 out:¬σ.dom D
 off:D∉envX env
 base:G.hb.get? D=none
def bA.evo {G:Stc}{B:Acc G}{D:Addr}{σ':St}{h h':Heap}{acc:List V}{X:List Addr}(a:bA G B env D σ h acc)(x:Evo X σ h σ' h')(Y:D∉X):bA G B env D σ' h' acc:=by
 have#[o,Z]:=B.there _ _ _ a.here;apply#[B.keep _ _ _ _ a.here (λo e=>x.keep _ _ e a.out Y) x.frz,λd=>(x.dom D d).elim a.out λq=>(by rw[Z]at q;cases q),a.off,a.base]
abbrev qx (e:Expr)(gens:List Comprehension)(fin:Value->Env->Sem Unit)(depth:Nat)(acc:Value)(env:Env):Sem Unit:=
 match gens[depth+1]? with
 |some g'=>eval g'.iter env>>=λx=>standAt g'.iter.pos>>=λ_=>foldedSetIterable g'.iter env x>>=λx=>holding [x] (pyIter x)>>=λi =>
  runOwn (.compStart e (depth+1) i acc env) env>>=λ_=>pure ()
 |none=>fin acc env
abbrev uV (elt:Expr)(acc:Value)(env:Env):Sem Unit:=eval elt env>>=λx=>call (.builtin "list.append") [acc,x]>>=λ_=>pure ()
abbrev I4 (k v:Expr)(acc:Value)(env:Env):Sem Unit:=eval k env>>=λkv=>holding [kv] (eval v env)>>=λvv=>match acc with
 |.ref d=>standAt {k.pos with endLine:=v.pos.endLine,endCol:=v.pos.endCol}>>=λ_=>holding [kv,vv] (dictSet d kv vv)
 |_=>unsupported "internal:dictcomp"
abbrev tests (ifs:List Expr)(env:Env):Sem Bool:=forIn ifs true λc r=>if r=true then do let ok←isTrue c env (eval c env);pure (ForInStep.yield ok) else pure (ForInStep.yield r)
structure iS (e:Expr)(gens:List Comprehension)(fin:Value->Env->Sem Unit):Prop where
 cl:clausesOf e=gens
 turn:∀{depth:Nat} {it acc:Value} {env:Env} {target iter:Expr} {ifs:List Expr},gens[depth]?=some #[target,iter,ifs,0]->(∀g',gens[depth+1]?=some g'->g'.is_async=0) ->
  compTurn e depth it acc env=(standAt iter.pos>>=λ_=>pyNext it>>=λr=>match r with
   |none=>pure (.done .next)
   |some v=>letOwnedTupleGo target it v>>=λ_=>assign target env v>>=λ_=>tests ifs env>>=λok =>
    if ok=true then qx e gens fin depth acc env>>=λ_=>again (.compLoop e depth it acc env) else again (.compLoop e depth it acc env))
 us:∀(A:Around) (depth:Nat) (it acc:Value) (env:Env),A.under (.compStart e depth it acc env)=A
 ul:∀(A:Around) (depth:Nat) (it acc:Value) (env:Env),A.under (.compLoop e depth it acc env)=A
 ds:∀(prog:Program) (w:World) (depth:Nat) (it acc:Value) (env:Env),(model prog w).den (.compStart e depth it acc env)=(compStart e depth it acc env).onRaise (λx=>do noteFrame x env;standAt theWindowsPlace)
 dl:∀(prog:Program) (w:World) (depth:Nat) (it acc:Value) (env:Env),(model prog w).den (.compLoop e depth it acc env)=(compTurn e depth it acc env).onRaise (λx=>do noteFrame x env;theTreesLotGoes x)
def lY {b:Expr}{k:Sem Fin}:((eval b env>>=λx=>standAt b.pos>>=λ_=>foldedSetIterable b env x>>=λx=>holding [x] (pyIter x)>>=λi=>runOwn (.compStart e (depth+1) i acc env) env>>=λ_=>(pure ():Sem Unit))>>=λ_=>k) =
  (eval b env>>=λx=>standAt b.pos>>=λ_=>foldedSetIterable b env x>>=λx=>holding [x] (pyIter x)>>=λi=>runOwn (.compStart e (depth+1) i acc env) env>>=λ_=>k):=by simp only[bind_assoc,pure_bind]
def pZ {elt:Expr}{scope:Scope}{pos:Pos}:iS (.ListComp elt gens scope pos) gens (uV elt):=⟨rfl,λ{depth it acc env target iter ifs} W Z=>by
 delta compTurn
 dsimp only;rw[W];apply bb (standAt iter.pos>>=·) (funext λ_=>bb (pyNext it>>=·) (funext λr=>?_));cases r with
 |none=>rfl
 |some v =>
  apply bb (letOwnedTupleGo target it v>>=·) (funext λ_=>bb (assign target env v>>=·) (funext λ_=>bb (tests ifs env>>=·) (funext λok=>?_)));cases ok with
  |false=>rfl
  |true =>
   delta qx
   cases hq:gens[depth+1]? with
   |none=>rfl
   |some U =>
    have#[a,b,c,d]:=U;have Y:=Z _ hq
    try clear hq
    obtain rfl:d=0:=Y;show lY.symm,λ_ _ _ _ _=>rfl,λ_ _ _ _ _=>rfl,λ_ _ _ _ _ _=>rfl,λ_ _ _ _ _ _=>rfl⟩
def IP {k v:Expr}{scope:Scope}{pos:Pos}:iS (.DictComp k v gens scope pos) gens (I4 k v):=⟨rfl,λ{depth it acc env target iter ifs} Y Z=>by
 delta compTurn
 dsimp only;rw[Y];apply bb (standAt iter.pos>>=·) (funext λ_=>bb (pyNext it>>=·) (funext λr=>?_));cases r with
 |none=>rfl
 |some v =>
  apply bb (letOwnedTupleGo target it v>>=·) (funext λ_=>bb (assign target env v>>=·) (funext λ_=>bb (tests ifs env>>=·) (funext λok=>?_)));cases ok with
  |false=>rfl
  |true =>
   delta qx
   cases hq:gens[depth+1]? with
   |none=>rfl
   |some W =>
    have#[a,b,c,d]:=W;obtain rfl:d=0:=Z _ hq;show lY.symm,λ_ _ _ _ _=>rfl,λ_ _ _ _ _=>rfl,λ_ _ _ _ _ _=>rfl,λ_ _ _ _ _ _=>rfl⟩
section
variable {prog:Program}{w:World}{A:Around}{R:Result->Shared->Prop}{s:Shared}
def fR {fin:Value->Env->Sem Unit}{it:Value}{target iter:Expr}{ifs:List Expr}(Y:iS e gens fin)(W:gens[depth]?=some #[target,iter,ifs,0])
  (h0:codeAny (model prog w) A (.compLoop e depth it acc env) R s)
  (h:wpAny (model prog w) A (pyIter it) (λZ s'=>codeAny (model prog w) A (.compLoop e depth Z acc env) R s') (notedBy (model prog w) A env λx s'=>R (.error x) s') s) :
  codeAny (model prog w) A (.compStart e depth it acc env) R s:=by
 apply mr ?_;rw[Y.us,Y.ds];apply wpAny_notedAt ?_;unfold compStart;simp only[Y.cl,W];show wpAny _ A (ask>>=_) _ _ s;apply aa (rv (wpAny_ite ?_));split
 ·first
   |show aa (ab (ab (And.intro rfl h0)))
   |show ab (And.intro rfl h0)
 ·show aa (su (aa (er (aa (bt h (λZ s' h'=>ab (And.intro rfl h')) λ_ _ x=>x)))))
def sT {fin:Value->Env->Sem Unit}{it:Value}{target iter:Expr}{ifs:List Expr}(z:iS e gens fin)(hg:gens[depth]?=some #[target,iter,ifs,0])(B:∀g',gens[depth+1]?=some g'->g'.is_async=0)(I:Nat->Shared->Prop)
  (turn:∀n s,I n s->wpAny (model prog w) A (pyNext it) (λr s₁=>match r with
   |none=>R (.ok .next) s₁
   |some v=>wpAny (model prog w) A (letOwnedTupleGo target it v) (λ_ Y=>wpAny (model prog w) A (assign target env v) (λ_ s₂ =>
     wpAny (model prog w) A (tests ifs env) (λok Z=>if ok=true then wpAny (model prog w) A (qx e gens fin depth acc env) (λ_ W=>∃m,m<n/\I m W) (notedBy (model prog w) A env λe s'=>R (.error e) s') Z else ∃m,m<n/\I m Z)
      (notedBy (model prog w) A env λe s'=>R (.error e) s') s₂) (notedBy (model prog w) A env λe s'=>R (.error e) s') Y) (notedBy (model prog w) A env λe s'=>R (.error e) s') s₁) (notedBy (model prog w) A env λe s'=>R (.error e) s') s)
  (n:Nat) (h:I n s):codeAny (model prog w) A (.compLoop e depth it acc env) R s:=by
 apply codeAny_loop rfl I (λn s hI=>?_) n h;rw[z.ul,z.dl];apply wpAny_noted ?_;rw[z.turn hg B];apply aa (er (aa (bt (turn n s hI) (λr s₁ h₁=>?_) λ_ _ h'=>h')));cases r with
 |none=>show ab h₁
 |some v =>
  apply aa (bt h₁ (λ_ Y O=>aa (bt O (λ_ s₂ H=>aa (bt H (λok Z U=>?_) λ_ _ h'=>h')) λ_ _ h'=>h')) λ_ _ h'=>h');cases ok with
  |false=>show ab #[rfl,U]
  |true=>show aa (bt U (λ_ W J=>ab #[rfl,J]) λ_ _ h'=>h')
end
section
variable {A:Around}{s s₀:Shared}{cs:Exs}{gens:List Comprehension}{depth:Nat}{env:Env}{σ₀ σ:St}{D:Addr}{X:List Addr}{ρ:Fr}{K:Fr->List V->St->Prop}{acc:List V}{t:Tg}{more:Gens}{e target:Expr}{fin:Value->Env->Sem Unit}{ifs:List Expr}
variable {G:Stc}{C:Cal}{sc:Scope}{d:Nat}
abbrev qa (G:Stc)(C:Cal)(sc:Scope)(d:Nat)(cs:Exs)(ifs:List Expr):Prop:=
 ∀⦃A E env ρ σ Q s⦄,Cx G sc d A env ρ σ s->cN C cs ρ σ Q->wpAny G.M A (tests ifs env) (kj G [] σ s Q) E s
def iH {E:QqV}{env:Env}{Q:Bool->Shared->Prop}(f:Expr->Bool->Sem (ForInStep Bool))(Z:∀c,f c false=pure (.yield false))(h:Q false s):∀ifs:List Expr,wpAny G.M A (forIn ifs false f) Q E s
 | []=>by rw[mz];show ab h
 |c::r=>by
  rw[oe,Z];show aa (ab (iH (env:=env) f Z h r))
def o8:qa G C sc d .nil []:=λ_ _ _ _ _ _ _ c h=>by
 unfold tests;rw[mz];show ab (kj.here h c.R)
def vK {c:Ex}{x:Expr}{xs:List Expr}(Y:rt G C sc d c x)(Z:qa G C sc d cs xs):qa G C sc d (.cons c cs) (x::xs):=λA E env ρ σ Q s c h=>by
 unfold tests;rw[oe];rw[br rfl];apply aa (aa (kE (Y c h) λb σ₁ s₁ q r x=>ab ?_));cases b with
 |true=>show x.t4 (Z (c.go r x) q)
 |false=>show iH (env:=env) _ (λc=>by simp) (kj.back x (kj.here q r)) xs
structure XOk (env:Env)(X:List Addr)(gens:List Comprehension):Prop where
 loc:env.locals∈X
 cells:∀g∈gens,∀y∈eU g.target,∀c,env.cells.lookup y=some c->c∈X
 sub:∀b∈X,b∈envX env
abbrev qb (G:Stc)(B:Acc G)(C:Cal)(sc:Scope)(d:Nat)(more:Gens)(e:Expr)(gens:List Comprehension)(fin:Value->Env->Sem Unit)(depth:Nat):Prop:=
 ∀⦃A E env ρ σ acc K s D X⦄,XOk env X gens->Cx G sc d A env ρ σ s->bA G B env D σ s.heap acc ->
  jM C more ρ acc σ K->wpAny G.M A (qx e gens fin depth (.ref D) env) (λ_ s'=>y9 G B env D X more.vars ρ σ s K s') E s
def A8 {e:Ex}{elt ce:Expr}(he:dk G C sc d e elt)(z:gens[depth+1]?=none):qb G (A9 G) C sc d (.elt e) ce gens (uV elt) depth:=λA E env ρ σ acc K s D X xo c a h=>by
 unfold qx;rw[z];apply aa (kq (he c h) λv σ₁ s₁ w q vr r x=>?_);have Z:=a.evo x.e (by simp);have#[_,ws,n,O,H]:=Z.here;have Y:=H.length;have hz:=q.1;apply aa (gF eT #[_,O,rfl] PySem.F.entry_list_append (PySem.F.args_list_append_2 _ _) (list_append _ _ _ _ (by simp only[bq];rw[<- Y];show md (cg .A .a .B q.1))) #[O,ab ?_]);have J:=O.update (λx=>x.push w);have e2:ws.toArray.push w=(ws++[w]).toArray:=by simp
 rw[e2]at J;have U:Heap.SameBut D s₁.heap (s₁.heap.update D (Obj.mapSeq λx=>x.push w)):=fx ..;have W:gf s₁.heap (s₁.heap.update D (Obj.mapSeq λx=>x.push w)):=pq U λo eo=>by
  have rfl:=af (eo.symm.trans O);show yh rfl rfl
 have hk:∀b o,b∉[D]->s₁.heap.get? b=some o->(s₁.heap.update D (Obj.mapSeq λx=>x.push w)).get? b=some o:=λb o hb e=>by rw[U.2 b (λq=>hb (q▸.head _))];show e
 apply#[ρ,acc++[v],σ₁,q.2,(c.F.evo x.e).but hk W (λb hb=>by have rfl:=ax.mp hb;show a.off),r.frame (o':=default) U Z.out a.base W,#[by simp;(show cg .I .a .B q.1),ws++[w],_,J,(H.mono W).append %[vr.mono W|0]],Z.out,?_,λ_ _=>rfl];show(x.more λ_ h=>nomatch h).to (Evo.frame U J (.head _) W)
abbrev jS (C:Cal)(t:Tg)(cs:Exs)(more:Gens)(v:V)(ρ:Fr)(acc:List V)(σ:St)(K:Fr->List V->St->Prop):Prop:=pz t v σ ρ λρ'=>cN C cs ρ' σ λok σ=>if ok then jM C more ρ' acc σ K else K ρ' acc σ
inductive iR (B:Acc G)(I:Itr G)(env:Env)(σ₀:St)(s₀:Shared)(D:Addr)(X:List Addr)(vs:List Nat)(ρ:Fr)(T:V->Fr->List V->St->(Fr->List V->St->Prop)->Prop)(K:Fr->List V->St->Prop)(n:Nat)(s':Shared):Prop
 |mk (i:Nat) (σ':St) (ρ':Fr) (acc':List V):n=I.vs.length-i->I.pos i s'.heap->FR G σ' env ρ' s'.heap->Rel G σ' s'.heap->bA G B env D σ' s'.heap acc'->Go (D::X) σ₀ s₀ σ' s'->(∀b∈I.own,¬σ'.dom b)->(∀j,j∉vs->ρ' j=ρ j)->lC (I.vs.drop i) I.Gd T ρ' acc' σ' K->iR B I env σ₀ s₀ D X vs ρ T K n s'
def iR.next {B:Acc G}{I:Itr G}{s':Shared}{vs:List Nat}{T:V->Fr->List V->St->(Fr->List V->St->Prop)->Prop}{i:Nat}{σ':St}{ρ':Fr}{Z:List V}{n:Nat}(lt:I.vs.length-(i+1)<n)(Y:I.pos (i+1) s'.heap)(F:FR G σ' env ρ' s'.heap)(R:Rel G σ' s'.heap)(a:bA G B env D σ' s'.heap Z)(x:Go (D::X) σ₀ s₀ σ' s')(hd:∀b∈I.own,¬σ'.dom b)(W:∀j,j∉vs->ρ' j=ρ j)(q:lC (I.vs.drop (i+1)) I.Gd T ρ' Z σ' K) :
  ∃m,m<n/\iR B I env σ₀ s₀ D X vs ρ T K m s':=#[_,lt,i+1,σ',ρ',Z,rfl,Y,F,R,a,x,hd,W,q]
def bA.kept {B:Acc G}{h h':Heap}{own:List Addr}(a:bA G B env D σ h acc)(Z:D∉own)(hk:∀b o,b∉own->h.get? b=some o->h'.get? b=some o)(Y:gf h h'):bA G B env D σ h' acc:=by
 apply#[B.keep _ _ _ _ a.here (λo e=>hk _ _ Z e) Y,a.out,a.off,a.base]
def KA {B:Acc G}(ht:tf G C sc d t target)(cS:qa G C sc d cs ifs)(da:qb G B C sc d more e gens fin depth)
  {E:QqV} {Z:Fr} {i:Nat} {I:Itr G} {v:V} {w:Value} (xo:XOk env X gens) (bL:∀y∈eU target,∀c,env.cells.lookup y=some c->c∈X) (c:Cx G sc d A env ρ σ s)
  (hX:∀b∈I.own,b∉envX env) (hD:D∉I.own) {n:Nat} (lt:I.vs.length-(i+1)<n) (a:bA G B env D σ s.heap acc) (x0:Go (D::X) σ₀ s₀ σ s) (hp:I.pos (i+1) s.heap) (hd:∀b∈I.own,¬σ.dom b) (ag:∀j,j∉t.vars++more.vars->ρ j=Z j) (vr:VR G s.heap v w)
  (hf:jS C t cs more v ρ acc σ λρ acc σ=>lC (I.vs.drop (i+1)) I.Gd (jS C t cs more) ρ acc σ K) :
  wpAny G.M A (assign target env w) (λ_ s₂=>wpAny G.M A (tests ifs env) (λok O=>if ok=true then wpAny G.M A (qx e gens fin depth (.ref D) env) (λ_ U=>∃m,m<n/\iR B I env σ₀ s₀ D X (t.vars++more.vars) Z (jS C t cs more) K m U) E O
   else ∃m,m<n/\iR B I env σ₀ s₀ D X (t.vars++more.vars) Z (jS C t cs more) K m O) E s₂) E s:=by
 have ar:∀c∈I.own,c∉X:=λc hc q=>hX c hc (xo.sub c q);apply bt (ht xo.loc bL c vr (vR hf)) (λ_ O l=>?_) λ_ _ x=>x;have#[bu,#[ca,H],bl,cl,W]:=l;have#[cM,cd]:=I.B5 ar hp hd W.e;have a3:=a.evo W.e λq=>a.off (xo.sub D q);apply kE (cS (c.at bl cl) ca) λok bn U ao be Y=>?_;have#[cb,bd]:=I.B5 (λc _=>mu) cM cd Y.e;have a4:=a3.evo Y.e mu;have F4:=bl.evo Y.e;have x5:Go (D::X) σ₀ s₀ bn U:=(x0.trans (W.more λb hb=>.tail _ hb)).trans (Y.more λ_ h=>nomatch h);have ch:∀j,j∉t.vars++more.vars->bu j=Z j:=λj hj=>(H j (λq=>hj (jy _ q))).trans (ag j hj);cases ok with
 |false =>
  rw[az jw];show iR.next lt cb F4 be a4 x5 bd ch ao
 |true =>
  rw[br rfl];apply bt (da xo (c.at F4 be) a4 ao) (λ_ dc l=>?_) λ_ _ x=>x;have#[cA,ct,cx,bR,cn,ck,bM,bv,z,J]:=l;have#[cB,cc]:=I.B5 (λc hc q=>(bz.mp q).elim (λe=>by rw[e]at hc;show hD hc) (ar c hc)) cb bd z.e;show iR.next lt cB cn ck #[bM,bv,a.off,a.base] (x5.trans z) cc (λj hj=>(J j (λq=>hj (si _ q))).trans (ch j hj)) bR
def JM {B:Acc G}{iter:Expr}(ck:iS e gens fin)(ht:tf G C sc d t target)(bv:qa G C sc d cs ifs)(bL:qb G B C sc d more e gens fin depth)(hg:gens[depth]?=some #[target,iter,ifs,0])(bu:∀g',gens[depth+1]?=some g'->g'.is_async=0)
  {R:Result->Shared->Prop} (I:Itr G) (hI:I.tup=true->isTup target=true) (xo:XOk env X gens) (c:Cx G sc d A env ρ σ s) (a:bA G B env D σ s.heap acc)
  (hp:I.pos 0 s.heap) (ag:Go (D::X) σ₀ s₀ σ s) (J:∀b∈I.own,s₀.heap.get? b=none) (hX:∀b∈I.own,b∉envX env) (bl:∀b∈I.own,¬σ.dom b) (hD:D∉I.own) (O:∀b∈I.own,G.hb.get? b=none)
  (hf:lC I.vs I.Gd (jS C t cs more) ρ acc σ K)
  (hR:∀s',y9 G B env D X (t.vars++more.vars) ρ σ₀ s₀ K s'->R (.ok .next) s') :
  codeAny G.M A (.compLoop e depth (.ref I.it) (.ref D) env) R s:=by
 apply sT ck hg bu (iR B I env σ₀ s₀ D X (t.vars++more.vars) ρ (jS C t cs more) K) ?_ (I.vs.length-0)
  #[0,σ,ρ,acc,rfl,hp,c.F,c.R,a,ag,bl,λ_ _=>rfl,hf]
 intro n s' zz;have#[i,σ',ρ',bd,en,Y,F',R',a',x',U,ar,W]:=zz;cases hq:I.vs[i]? with
 |none =>
  rw[List.drop_eq_nil_of_le (jj.mp hq)]at W;apply I.stop A _ s' σ' i _ c.ao.handled R' W.1 Y hq λs2 g=>?_;have#[Z,g2]:=g;have fz:=I.frz Y Z;show hR _ #[ρ',bd,σ',W.2,F'.but Z fz hX,I.rel Y R' U O Z,(a'.kept hD Z fz).here,a'.out,x'.but Z g2 J,ar]
 |some v =>
  have#[bn,H]:=xW hq;rw[H]at W;apply bt (I.next A _ s' σ' i v target ?Q c.ao.handled R' W.1 Y hq (λq=>s9 (hI q)) ?k) (λr s₁ hr=>?m) λ_ _ x=>x
  case m =>
   cases r with
   |none=>show hr.elim
   |some w=>show hr
  case k =>
   intro w s2 g z;have#[Z,g2]:=g;have fz:=I.frz Y Z;have#[vr,be]:=z fz;show KA ht bv bL xo (xo.cells _ (cz hg)) (c.at (F'.but Z fz hX) (I.rel Y R' U O Z)) hX hD (en▸Nat.sub_succ_lt_self _ _ bn) (a'.kept hD Z fz) (x'.but Z g2 J) be U ar vr W.2
def vY {B:Acc G}{it:It}{iter:Expr}(ck:iS e gens fin)(hit:xq G C sc d (isTup target) it iter)(ht:tf G C sc d t target)(H:qa G C sc d cs ifs)(z:qb G B C sc d more e gens fin (depth+1))
  (J:gens[depth+1]?=some #[target,iter,ifs,0]) (O:∀g',gens[depth+1+1]?=some g'->g'.is_async=0) (hs:∀env v,foldedSetIterable iter env v=pure v):qb G B C sc d (.cons it t cs more) e gens fin depth:=λA E env ρ σ acc K s D X xo c a h=>by
 unfold qx;rw[J];apply aa (bt (hit c h) (λv s₁ h₁=>?_) λ_ _ x=>x);apply aa (er (aa (di (hs env v) (aa (bp (bt h₁ (λitv s₂ l=>?_) λ_ _ x=>x))))));have#[I,σ₁,rfl,U,hf,hp,r,Y,Z,hnd]:=l;have hD:D∉I.own:=λq=>by
  have#[o,hl]:=B.there _ _ _ a.here;have:=Z D q;rw[hl]at this;cases this
 have W:Go (D::X) σ s σ₁ s₂:=Y.more λ_ h=>nomatch h;have loop:∀{R':Result->Shared->Prop},(∀s',y9 G B env D X (t.vars++more.vars) ρ σ s K s'->R' (.ok .next) s')->codeAny G.M A (.compLoop e (depth+1) (.ref I.it) (.ref D) env) R' s₂:=λhR =>
  JM ck ht H z J O I U xo (c.go r Y) (a.evo Y.e (by simp)) hp W Z (jE c.F Z) hnd hD (zm c.R Z) hf hR
 apply aa (wpAny_runOwn (fR ck J (loop λs' l=>ab l) (I.self _ _ _ _ _ hp (loop λs' l=>ab l))))
end
end MP
end
section
set_option tactic.hygienic true
namespace MP
open PySem PyProof.Rows
variable {env:Env}{scope:Scope}{fv:List (Nat×Nat)}{σ:St}{ρ:Fr}{it:It}{t:Tg}{cs:Exs}{more:Gens}{target iter elt:Expr}{ifs:List Expr}{rest:List Comprehension}{pos:Pos}
abbrev oj (cells:List (Str×Addr)):List (Str×NameKind)->List (Str×Addr)->List (Str×Addr)
 | [],acc=>acc
 |(n,k)::r,acc=>if k==.free then oj cells r ((n,(cells.lookup n).getD 0)::acc) else oj cells r acc
def bX (f:Str×NameKind->List (Str×Addr)->Sem (ForInStep (List (Str×Addr))))
  (Y:∀n k cs,f (n,k) cs=if k==.free then (do let c←cellOf env n;pure (.yield ((n,c)::cs))) else pure (.yield cs)) :
  ∀(names:List (Str×NameKind)) (acc:List (Str×Addr)),(∀n,(n,NameKind.free)∈names->(env.cells.lookup n).isSome=true)->forIn names acc f=pure (oj env.cells names acc)
 | []=>λacc _=>by rw[mz];rfl
 |(n,k)::r=>λacc h=>by
  have Z:=λacc=>bX f Y r acc λm U=>h m (.tail _ U);rw[oe,Y];dsimp only[oj];split
  ·rename_i hk;rw[vp]at hk;subst hk;have#[c,W]:=ba.mp (h n (.head _));have e:cellOf env n=pure c:=by unfold cellOf;rw[W]
   rw[e,W];show Z _
  ·show Z acc
def dN (h:∀n,(n,NameKind.free)∈scope.names->(env.cells.lookup n).isSome=true):closureFor scope env=pure (oj env.cells scope.names []):=by
 have e:closureFor scope env=(forIn scope.names [] (λ(x:Str×NameKind) (cs:List (Str×Addr))=>if x.2==.free then (do let c←cellOf env x.1;pure (ForInStep.yield ((x.1,c)::cs))) else pure (ForInStep.yield cs))>>=λcs=>pure cs):=by
  unfold closureFor
  first|rfl|simp
 rw[e,bX _ (λn k cs=>rfl) scope.names [] h];rfl
def aD (cells:List (Str×Addr)):∀(names:List (Str×NameKind)) (acc:List (Str×Addr)),oj cells names acc=oj cells names []++acc
 | []=>λ_=>rfl
 |(n,k)::r=>λacc=>by
  dsimp only[oj];split
  ·rw[aD cells r ((n,(cells.lookup n).getD 0)::acc),aD cells r [(n,(cells.lookup n).getD 0)]];simp
  ·show aD cells r acc
def qy (cells:List (Str×Addr)):∀(names:List (Str×NameKind)) (x:Str) (c:Addr),(x,c)∈oj cells names []->(x,NameKind.free)∈names/\c=(cells.lookup x).getD 0
 | []=>λ_ _ h=>nomatch h
 |(n,k)::r=>λx c h=>by
  dsimp only[oj]at h;split at h
  ·rename_i hk;rw[aD]at h;rcases fh.mp h with h|h
   ·apply#[.tail _ (qy cells r x c h).1,(qy cells r x c h).2]
   ·have#[rfl,rfl]:=rh (ax.mp h);rw[vp]at hk;subst hk;apply#[.head _,rfl]
  ·apply#[.tail _ (qy cells r x c h).1,(qy cells r x c h).2]
def i4 (cells:List (Str×Addr)):∀(names:List (Str×NameKind)) (x:Str),(x,NameKind.free)∈names->(x,(cells.lookup x).getD 0)∈oj cells names []
 | []=>λ_ h=>by cases h
 |(n,k)::r=>λx h=>by
  dsimp only[oj];split
  ·rw[aD];rcases bz.mp h with e|h
   ·have#[rfl,_]:=rh e;show si _ (.head _)
   ·show jy _ (i4 cells r x h)
  ·rename_i hk;rcases bz.mp h with e|h
   ·have#[_,rfl]:=rh e;simp at hk
   ·show i4 cells r x h
def aT {cells:List (Str×Addr)}{names:List (Str×NameKind)}{x:Str}(h:(x,NameKind.free)∈names):(oj cells names []).lookup x=some ((cells.lookup x).getD 0):=by
 have#[c,Z]:=sg (i4 cells names x h);rw[Z];rw[(qy cells names x c (mem_of_lookup Z)).2]
abbrev kf (scope sc:Scope):Scope:=
 {scope with names:=scope.names.map λ(n,k)=>if (k==.free&&sc.kind==.function&&sc.names.lookup n==some .cell) then (n,.cell) else (n,k)}
def C8:relabel scope env=kf scope env.scope:=rfl
abbrev pA (sc:Scope)(fv:List (Nat×Nat))(i:Nat):Str×NameKind->Bool
 |(x,.free)=>match fv.lookup i with
  |some j=>match sc.names[j]? with
   |some (y,k)=>x==y&&(k==.cell||k==.free)
   |none=>false
  |none=>false
 |(_,_)=>(fv.lookup i).isNone
abbrev j5 (sc:Scope)(fv:List (Nat×Nat)):Nat->List (Str×NameKind)->Bool
 |_,[]=>true
 |i,p::r=>pA sc fv i p&&j5 sc fv (i+1) r
def oZ {sc:Scope}:∀{names:List (Str×NameKind)} {i:Nat},j5 sc fv i names=true->∀(j:Nat) (p:Str×NameKind),names[j]?=some p->pA sc fv (i+j) p=true
 | [],_,_,j,p,e=>by simp at e
 |q::r,i,h,0,p,e=>by
  dsimp only[j5]at h;simp only[dh]at h;simp at e;subst e;show h.1
 |q::r,i,h,j+1,p,e=>by
  dsimp only[j5]at h;simp only[dh]at h;have:=oZ h.2 j p (by simpa using e);rw[show i+(j+1)=i+1+j by(show n9 (.e (.a .A .P) (.a .L .B)) [[1],[1]])];show this
abbrev ownIn (scope:Scope)(y:Str):Bool:=match scope.names.lookup y with
 |some .local=>true
 |some .cell=>true
 |_=>false
abbrev eE (scope:Scope)(gens:List Comprehension):Bool:=gens.all λg=>(eU g.target).all (ownIn scope)
def Evo.adopt {X:List Addr}{σ':St}{h h':Heap}{D:Addr}(xs:List V)(x:Evo X σ h σ' h')(Z:h.get? D=none):Evo X σ h (σ'.cu D xs) h':=
 #[x.keep,x.frz,λb d=>(aA d).elim (x.dom b) λe=>.inr (e▸Z),x.there]
section
variable {G:Stc}{C:Cal}{sc:Scope}{d:Nat}
def E0 {h:Heap}(F:FR G σ env ρ h)(es:env.scope=sc)(nd:(scope.names.map (·.1)).Nodup)(Z:j5 sc fv 0 scope.names=true) :
  (∀n,(n,NameKind.free)∈scope.names->(env.cells.lookup n).isSome=true)/\F9 G σ h scope.names (oj env.cells scope.names []) (hY fv ρ):=by
 have ag:∀(i:Nat) (x:Str),scope.names[i]?=some (x,.free)->∃j k,fv.lookup i=some j/\env.scope.names[j]?=some (x,k)/\(k=.cell\/k=.free):=λi x e=>by
  have:=oZ Z i _ e;rw[tx]at this;simp only[pA]at this;split at this
  ·rename_i j hj;split at this
   ·rename_i y k hy;simp only[dh,vp,vd]at this;apply#[j,k,hj,by rw[es,hy,this.1],this.2]
   ·cases this
  ·cases this
 have cellAt:∀(i:Nat) (x:Str),scope.names[i]?=some (x,.free)->∃j k c w,fv.lookup i=some j/\env.scope.names[j]?=some (x,k)/\(k=.cell\/k=.free)/\env.cells.lookup x=some c/\h.IsCell c w/\OV G h (ρ j) w/\¬σ.dom c/\c≠env.locals/\(G.cap x=false->G.hb.get? c=none):=λi x e=>by
  have#[j,k,z,B,H]:=ag i x e;have#[c,w,g1,g2,g3,g4,g5,g6]:=F.cells j x k B H;apply#[j,k,c,w,z,B,H,g1,g2,g3,g4,g5,g6]
 have idx:∀n,(n,NameKind.free)∈scope.names->∃i:Nat,scope.names[i]?=some (n,NameKind.free):=λn J=>List.getElem?_of_mem J;apply#[λn J=>?_,#[λi x e=>?_,λi j x y c ei ej lx ly=>?_,λp hp=>?_,λi x k e hk=>?_]]
 ·have#[i,e]:=idx n J;have#[j,k,c,w,_,_,_,Y,_]:=cellAt i n e;rw[Y];rfl
 ·have#[j,k,c,w,z,B,H,g1,g2,g3,g4,g5,g6]:=cellAt i x e;apply#[c,w,by rw[aT (cz e),g1];rfl,g2,?_,g4,g6];unfold hY;rw[z];show g3
 ·have#[a,ka,ca,wa,a1,a2,a3,a4,_]:=cellAt i x ei;have#[b,kb,cb,wb,b1,W,b3,b4,_]:=cellAt j y ej;rw[aT (cz ei),a4]at lx;rw[aT (cz ej),b4]at ly;have O:ca=c:=by simpa using lx
  have U:cb=c:=by simpa using ly
  have I:=F.inj a b x y ka kb c a2 W a3 b3 (O▸a4) (U▸b4)
  try clear b4
  try clear b1
  subst I;rw[a2]at W;have zz:=rh (af W)
  try clear W
  have#[rfl,_]:=zz;show fB nd ei ej
 ·have#[hm,Y]:=qy _ _ p.1 p.2 hp;have#[i,e]:=idx _ hm;have#[j,k,c,w,_,_,_,g1,#[o,ho,_],_]:=cellAt i _ e;rw[g1]at Y;apply#[o,by rw[Y];show ho]
 ·have:=oZ Z i _ e;rw[tx]at this;unfold hY;cases k<;>first|show absurd rfl hk|(simp only[pA,uf]at this;rw[this];rfl)
abbrev um (scope:Scope)(env:Env)(cells:List (Str×Addr))(L:Addr):Env:=
 {scope:=relabel scope env,locals:=L,globals:=env.globals,cells:=cells,qual:=env.qual,func:=none,code:=env.code,frame:=env.frame,builtins:=env.builtins}
def sS {B:Acc G}{e:Expr}{fin:Value->Env->Sem Unit}{J:Sem Value}{o0:Obj}{p0:Pos}{use:Option (Value->Sem Unit)}(ck:iS e (#[target,iter,ifs,0]::rest) fin)
  (dx:∀{A:Around} {E Q:QqV} {s:Shared},Q (.ref s.heap.objs.size) {s with heap:=s.heap.push o0}->wpAny G.M A J Q E s) (dL:o0.isFreed=false) (ei:∀(h:Heap) (D:Addr),h.get? D=some o0->B.B h D []) (hit:xq G C sc d (isTup target) it iter) (ht:tf G C (kf scope sc) d t target) (dV:qa G C (kf scope sc) d cs ifs)
  (ea:qb G B C (kf scope sc) d more e (#[target,iter,ifs,0]::rest) fin 0) (hs:∀env v,foldedSetIterable iter env v=pure v) (bv:scope.kind=.function) (nd:(scope.names.map (·.1)).Nodup) (cM:j5 sc fv 0 scope.names=true) (dy:eE scope (#[target,iter,ifs,0]::rest)=true) (da:∀g'∈rest,g'.is_async=0)
  {A:Around} {E:QqV} {env:Env} {Kf:List V->St->Prop} {s:Shared} {P:QqV} (cx:Cx G sc d A env ρ σ s) (h:qM C it ρ σ λvs Gd σ=>lC vs Gd (jS C t cs more) (hY fv ρ) [] σ λ_ acc σ=>Kf acc σ)
  (hP:∀(acc:List V) (σ':St) (s':Shared) (D L:Addr),Kf acc σ'->B.B s'.heap D acc->¬σ'.dom D->G.hb.get? D=none->s.heap.get? D=none->Rel G σ' s'.heap->Go [] σ s σ' s'->s.heap.get? L=none->L≠D->¬σ'.dom L->(∃m,s'.heap.Ns L m)->compPost G.M A E use P (.ref D) L (.ok .next) s') :
  wpAny G.M A (comprehension e scope env p0 J false (eval iter env) use) P E s:=by
 have#[U,_]:=E0 cx.F cx.es nd cM;apply wpAny_comprehension_free ck.cl (hs env) (dN U) bv (λx hx hl=>?_) (bt (hit cx h) (λv s₁ h₁=>bt h₁ (λitv s₂ l=>?_) λ_ _ x=>x) λ_ _ x=>x)
 ·have#[i,e]:=List.getElem?_of_mem hx;have#[y,k]:=x;simp only at hl
  try clear hx
  subst hl;show rp nd e
 have#[I,σ₁,rfl,ct,hf,hp,r,ar,bn,hnd]:=l;have dv:=cx.F.evo ar.e;apply dx ?_;have dr:FR G σ₁ env ρ (s₂.heap.push o0):=dv.evo (Evo.push [] σ₁ s₂.heap o0);have r₂:=r.push o0;have cb:(s₂.heap.push o0).get? s₂.heap.objs.size=some o0:=bc _ dL;have ch:Go [] σ s σ₁ {s₂ with heap:=s₂.heap.push o0}:=ar.to (Evo.push _ _ _ _);have dc:I.pos 0 (s₂.heap.push o0):=I.keep _ _ _ hp (λb _ o e=>ah _ e) λb o e _=>ah _ e;generalize ed:s₂.heap.push o0=H at *;have W:H.objs.size=s₂.heap.objs.size+1:=by rw[<- ed];show fg ..
 have#[_,clo]:=E0 dr cx.es nd cM;have cA:∀(i:Nat) (x:Str) (k':NameKind),(relabel scope env).names[i]?=some (x,k')->∃k,scope.names[i]?=some (x,k)/\(k'=k\/(k=.free/\k'=.cell)):=λi x k' e=>by
  simp only[relabel,bw]at e;cases hq:scope.names[i]? with
  |none=>rw[hq]at e;cases e
  |some p =>
   have#[y,k]:=p;rw[hq]at e;simp only[Option.map_some,ek]at e;split at e
   ·rename_i hc;have#[rfl,rfl]:=rh e;simp only[dh,vp]at hc;apply#[k,rfl,.inr #[hc.1.1,rfl]]
   ·have#[rfl,rfl]:=rh e;apply#[k,rfl,.inl rfl]
 have#[df,keep]:=lB (T:="dict") (env:=um scope env (cellsFrom (H.objs.size+1) scope.names (oj env.cells scope.names [])) H.objs.size) r₂ nd clo rfl rfl cA;have cc:yo (um scope env (cellsFrom (H.objs.size+1) scope.names (oj env.cells scope.names [])) H.objs.size):=by
  apply#[bv,?_,cx.eo.globals,cx.eo.builtins];have e:(relabel scope env).names.map (·.1)=scope.names.map (·.1):=by
   simp only[relabel,lp];apply ur λp _=>?_;have#[y,k]:=p;simp only[Function.comp];split<;>rfl
  show((relabel scope env).names.map (·.1)).Nodup;rw[e];show nd
 have ok:=cellsFrom_ok scope.names (H.push {cls:=.type "dict",data:=.dict #v[]}) (H.objs.size+1) [] #[λ_ _ hm=>(nomatch hm),List.Pairwise.nil] (by rw[fg];show av _);rw[fg]at ok;simp only[newFunctionEnv,Option.isSome_some,tu];apply aa (iV ?_);apply aa (wpAny_layCells _ (λname kind cells=>by cases hkc:kind==NameKind.cell<;>simp[hkc]) _ _ _ _ ?_);rw[show(H.push {cls:=.type "dict",data:=.dict #v[]}).objs.size=H.objs.size+1 from fg ..];rw[mz];apply aa (ab (ab ?_));generalize ej:pushCells (H.push {cls:=.type "dict",data:=.dict #v[]}) scope.names=H3 at *;have cn:=r₂.keeps keep;have fz:gf H H3:=λb o e _=>keep b o e;have cd:Go [] σ s σ₁ {s₂ with heap:=H3}:=ch.to (Evo.keeps keep);have ca:I.pos 0 H3:=I.keep _ _ _ dc (λb _ o e=>keep b o e) fz;have Z:∀b,s₂.heap.objs.size<=b->s.heap.get? b=none:=λb hb=>ar.new (qq hb);have bd:∀b∈I.own,b<s₂.heap.objs.size:=λb hb=>by have#[o,e]:=I.there hp hb;show fw e
 have eb:∀b∈I.own,b∉envX (um scope env (cellsFrom (H.objs.size+1) scope.names (oj env.cells scope.names [])) H.objs.size):=λb hb hm=>by
  have cB:=bd b hb;rcases bz.mp hm with rfl|hm
  ·show absurd cB (th.mpr (by show s₂.heap.objs.size<=H.objs.size;(show cg .A [[1,-1]] (.e .B .L) W)))
  ·try clear hkc
   have#[p,O,rfl]:=bg.mp hm;have be:p∈cellsFrom (H.objs.size+1) scope.names (oj env.cells scope.names []):=O;rw[gc]at be;rcases fh.mp be with h1|h1
   ·have:=(ok.empty p.1 p.2 h1).2;show uz _ (fy cB (by(show gr .A .k (.e .C .L) (.k .S .B) W this):s₂.heap.objs.size<=p.2))
   ·have#[bu,ag]:=qy _ _ p.1 p.2 h1;have#[c,hc]:=ba.mp (U _ bu);rw[hc]at ag;simp only[Option.getD_some]at ag;have#[o,ho]:=cx.F.allc (p.1,c) (mem_of_lookup hc);have:=bn p.2 hb;rw[ag]at this;rw[show s.heap.get? c=some o from ho]at this;cases this
 have eg:s₂.heap.objs.size∉envX (um scope env (cellsFrom (H.objs.size+1) scope.names (oj env.cells scope.names [])) H.objs.size):=λhm=>by
  rcases bz.mp hm with e|hm
  ·have:s₂.heap.objs.size=H.objs.size:=e
   (show mn .ff [[0,-1,-1]] (.e .A .P) (.e .B .A) W this)
  ·have#[p,O,e]:=bg.mp hm;have be:p∈cellsFrom (H.objs.size+1) scope.names (oj env.cells scope.names []):=O;rw[gc]at be;rcases fh.mp be with h1|h1
   ·have:=(ok.empty p.1 p.2 h1).2;(show tq .ff [[0,-1,1,1]] (.e .A .P) (.e .C .B) (.k .L .C) W e this)
   ·have#[bu,ag]:=qy _ _ p.1 p.2 h1;have#[c,hc]:=ba.mp (U _ bu);rw[hc]at ag;have#[o,ho]:=cx.F.allc (p.1,c) (mem_of_lookup hc);have:=Z c (by rw[<- show p.2=c from ag,e];show av _);rw[show s.heap.get? c=some o from ho]at this;cases this
 have Y:∀b,s₂.heap.objs.size<=b->G.hb.get? b=none:=λb hb=>by
  cases hq:G.hb.get? b with
  |none=>rfl
  |some o=>show absurd (fw (r.base b o hq)) (th.mpr hb)
 have bL:∀b,s₂.heap.objs.size<=b->¬σ₁.dom b:=λb hb dm=>by have#[o,e]:=r.lz dm;show absurd (fw e) (th.mpr hb)
 have bR:bA G B (um scope env (cellsFrom (H.objs.size+1) scope.names (oj env.cells scope.names [])) H.objs.size) s₂.heap.objs.size σ₁ H3 []:=
  #[ei _ _ (keep _ _ cb),bL _ (av _),eg,Y _ (av _)]
 have xo:XOk (um scope env (cellsFrom (H.objs.size+1) scope.names (oj env.cells scope.names [])) H.objs.size) (H.objs.size::(cellsFrom (H.objs.size+1) scope.names []).map (·.2)) (#[target,iter,ifs,0]::rest):=by
  apply#[.head _,λg hg y hy c hc=>?_,λb hb=>?_]
  ·have bl:=kc.mp (kc.mp dy g hg) y hy;have cS:(cellsFrom (H.objs.size+1) scope.names (oj env.cells scope.names [])).lookup y=some c:=hc;rw[gc]at cS;rcases fh.mp (mem_of_lookup cS) with h1|h1
   ·show .tail _ (bg.mpr #[_,h1,rfl])
   ·have#[bu,_]:=qy _ _ y c h1;have#[i,e]:=List.getElem?_of_mem bu;have:=rp nd e;unfold ownIn at bl;rw[this]at bl;cases bl
  ·rcases bz.mp hb with rfl|hb
   ·show .head _
   ·have zz:=bg.mp hb;clear hb;have#[p,O,rfl]:=zz;apply .tail _ (bg.mpr #[p,?_,rfl]);show p∈cellsFrom (H.objs.size+1) scope.names (oj env.cells scope.names []);rw[gc];show jy _ O
 have dz:∀g',(#[target,iter,ifs,0]::rest:List Comprehension)[0+1]?=some g'->g'.is_async=0:=λg' e=>da g' (cz (by simpa using e));have loop:codeAny G.M A (.compLoop e 0 (.ref I.it) (.ref s₂.heap.objs.size) (um scope env (cellsFrom (H.objs.size+1) scope.names (oj env.cells scope.names [])) H.objs.size)) (compPost G.M A E use P (.ref s₂.heap.objs.size) H.objs.size) {s₂ with heap:=H3}:=by
  apply JM (s₀:=s) (σ₀:=σ) ck ht dV ea rfl dz I ct xo #[cx.ao,by show relabel scope env=_;rw[C8,cx.es],cc,df,cn] bR ca (cd.more λ_ h=>nomatch h) bn eb hnd (λq=>absurd (bd _ q) (uz _)) (zm cx.R bn) hf λs' l=>?_
  ·have#[ρ',acc',σ',q,F',R',hb,hd,x',_]:=l;have bM:∀z∈(s₂.heap.objs.size::H.objs.size::(cellsFrom (H.objs.size+1) scope.names []).map (·.2)),s.heap.get? z=none:=λz hz=>by
    rcases bz.mp hz with rfl|hz
    ·show Z _ (av _)
    rcases bz.mp hz with rfl|hz
    ·show Z _ (cg .A [[1,-1]] (.e .B .L) W)
    ·try clear e
     have#[p,O,rfl]:=bg.mp hz;have:=(ok.empty p.1 p.2 O).2;show Z _ (gr .A .k (.e .C .L) (.k .S .B) W this)
   have#[m,hm,_]:=F'.ns;show hP acc' σ' s' s₂.heap.objs.size H.objs.size q hb hd (Y _ (av _)) (Z _ (av _)) R' (x'.less λz hz=>.inr (bM z hz)) (Z _ (cg .A [[1,-1]] (.e .B .L) W)) (cg (.u .A .B) [[1,-1]] (.e .A .P) W) F'.loc #[m,hm]
 show fR ck rfl loop (I.self _ _ _ _ _ ca loop)
def o9 {p0:Pos}{use:Option (Value->Sem Unit)}(hit:xq G C sc d (isTup target) it iter)(ht:tf G C (kf scope sc) d t target)(I:qa G C (kf scope sc) d cs ifs)
  (H:qb G (A9 G) C (kf scope sc) d more (.ListComp elt (#[target,iter,ifs,0]::rest) scope pos) (#[target,iter,ifs,0]::rest) (uV elt) 0) (hs:∀env v,foldedSetIterable iter env v=pure v) (Z:scope.kind=.function) (nd:(scope.names.map (·.1)).Nodup) (O:j5 sc fv 0 scope.names=true) (U:eE scope (#[target,iter,ifs,0]::rest)=true) (Y:∀g'∈rest,g'.is_async=0)
  {A:Around} {E:QqV} {Q:V->St->Prop} {s:Shared} {P:QqV} (cx:Cx G sc d A env ρ σ s) (h:wpE C (.K fv it t cs more) ρ σ Q)
  (hP:∀(v:V) (σ':St) (s':Shared) (w:Value) (L:Addr),Q v σ'->VR G s'.heap v w->Rel G σ' s'.heap->Go [] σ s σ' s'->s.heap.get? L=none->¬σ'.dom L->(∃m,s'.heap.Ns L m)->compPost G.M A E use P w L (.ok .next) s') :
  wpAny G.M A (comprehension (.ListComp elt (#[target,iter,ifs,0]::rest) scope pos) scope env p0 (newList []) false (eval iter env) use) P E s:=by
 apply sS (B:=A9 G) (o0:={cls:=.type "list",data:=.seq ([]:List Value).toArray}) (Kf:=λacc σ=>∀c,σ.L c=none->Q (.L c) (σ.cu c acc)) pZ (λq=>iq q (by show([]:List Value).toArray.size<=sizeLine;simp)) rfl (λh D e=>#[dj _,[],0,e,.nil]) hit ht I H hs Z nd O U Y cx h λacc σ' s' D L q b hd hb0 ag R' x hL W J hm=>?_;have#[hz,ws,n,hl,hv]:=b;have z:σ'.L D=none:=by
  cases hq:σ'.L D with
  |none=>rfl
  |some y=>show absurd (.inl (by rw[hq];rfl)) hd
 show hP (.L D) _ s' _ L (q _ z) (.L _) (R'.MG hd hb0 hl hv hz) #[x.e.adopt acc ag,x.g,x.o] hL (λdm=>(aA dm).elim J λe=>W e) hm
def qT (hit:xq G C sc d (isTup target) it iter)(ht:tf G C (kf scope sc) d t target)(H:qa G C (kf scope sc) d cs ifs)
  (B:qb G (A9 G) C (kf scope sc) d more (.ListComp elt (#[target,iter,ifs,0]::rest) scope pos) (#[target,iter,ifs,0]::rest) (uV elt) 0) (hs:∀env v,foldedSetIterable iter env v=pure v) (Y:scope.kind=.function) (nd:(scope.names.map (·.1)).Nodup) (J:j5 sc fv 0 scope.names=true) (O:eE scope (#[target,iter,ifs,0]::rest)=true) (W:∀g'∈rest,g'.is_async=0) :
  dk G C sc d (.K fv it t cs more) (.ListComp elt (#[target,iter,ifs,0]::rest) scope pos):=λA E env ρ σ Q s c h=>by
 rw[eval_ListComp];apply o9 (use:=none) hit ht H B hs Y nd J O W c h λv σ' s' w L q vr R' x hL hd U=>?_;have#[m,U]:=U;apply#[m,U,λh2 Z=>?_];have#[o,ag,ep,ho,I,_]:=id U;have hf:gf s'.heap h2:=pq Z λo' e=>by have rfl:=af (ho.symm.trans e);show nu I
 have z:∀b∈[L],s.heap.get? b=none:=λb hb=>by have rfl:=ax.mp hb;show hL
 apply#[v,σ',q,vr.mono hf,R'.frame (o':=default) Z hd (zm c.R z L (.head _)) hf,x.but (own:=[L]) (λb o hb e=>by rw[Z.2 b (λq=>hb (q▸.head _))];show e) .rfl z]
def k7 {i:Nat}{x:Str}{kd:NameKind}{U Z:Pos}(hi:sc.names[i]?=some (x,kd))(hk:Own G x kd)(hit:xq G C sc d (isTup target) it iter)(ht:tf G C (kf scope sc) d t target)(bd:qa G C (kf scope sc) d cs ifs)
  (be:qb G (A9 G) C (kf scope sc) d more (.ListComp elt (#[target,iter,ifs,0]::rest) scope pos) (#[target,iter,ifs,0]::rest) (uV elt) 0) (hs:∀env v,foldedSetIterable iter env v=pure v) (W:scope.kind=.function) (nd:(scope.names.map (·.1)).Nodup) (ao:j5 sc fv 0 scope.names=true) (ag:eE scope (#[target,iter,ifs,0]::rest)=true) (O:∀g'∈rest,g'.is_async=0) :
  vm G C sc d (.a [.v i] (.K fv it t cs more)) (.Assign [.Name x U] (.ListComp elt (#[target,iter,ifs,0]::rest) scope pos) Z):=λA E env ρ σ K s c h=>by
 have plain:dk G C sc d (.K fv it t cs more) (.ListComp elt (#[target,iter,ifs,0]::rest) scope pos):=qT hit ht bd be hs W nd ao ag O;by_cases H:(env.blockKind==.function&&env.kindOf x==some .local&&U.line==pos.line&&!(scope.names.any λ(n,k)=>n==x&&(k==.local||k==.cell)))=true
 ·have Y:swapsWith (.ListComp elt (#[target,iter,ifs,0]::rest) scope pos) (some (.Name x U)) Z.line env=pure true:=by
   show(pure _:Sem Bool)=_;show bb pure H
  rw[exec_Assign_Name_used _ _ _ _ Y];apply aa (er (aa ?_));show wpAny G.M A (comprehension _ scope env _ (newList []) false (eval iter env) (some (assign (.Name x U) env))>>=λ_=>pure ()) _ E s;apply aa ?_;apply o9 (use:=some (assign (.Name x U) env)) (Q:=λv σ=>jJ C [.v i] v ρ σ λρ σ=>K .next ρ σ) hit ht bd be hs W nd ao ag O c h λv σ' s' w L q vr R' x' hL hd hm=>?_;have#[m,hm]:=hm;show wpAny G.M A (assign (.Name x U) env w) _ E _;apply assign_Name (ug c.eo (c.F.evo x'.e) R' (by rw[c.es];show hi) hk vr λs2 F2 R2 x2=>?_);have hn:∀b∈[L],s.heap.get? b=none:=λb hb=>by have rfl:=ax.mp hb;show hL
  have hX:=jE c.F hn;have#[o,bl,ep,ho,ar,I]:=id hm;have B:=x2.keep _ _ ho hd (hX L (.head _));apply#[m,#[o,bl,ep,B,ar,I],λh3 J=>ab (ab ?_)];have hf:gf s2.heap h3:=pq J λo' e=>by have rfl:=af (B.symm.trans e);show nu ar
  have z:∀b o,b∉[L]->s2.heap.get? b=some o->h3.get? b=some o:=λb o hb e=>by rw[J.2 b (λq=>hb (q▸.head _))];show e
  apply#[.next,_,σ',.next,q,F2.but z hf hX,R2.frame (o':=default) J hd (zm c.R hn L (.head _)) hf,(x'.wide.trans x2).but z .rfl hn]
 ·have Y:swapsWith (.ListComp elt (#[target,iter,ifs,0]::rest) scope pos) (some (.Name x U)) Z.line env=pure false:=by
   show(pure _:Sem Bool)=_;show bb pure (Bool.eq_false_iff.mpr H)
  rw[exec_Assign];apply aa (er ?_);have e1:swapsWithSole [.Name x U] (.ListComp elt (#[target,iter,ifs,0]::rest) scope pos) Z.line env=pure false:=Y;rw[e1];apply aa (ab ?_);rw[az (by decide)];apply aa (kq (plain (Q:=λv σ=>jJ C [.v i] v ρ σ λρ σ=>K .next ρ σ) c h) λv σ₁ s₁ w q vr r x=>?_);rw[jW (sc:=sc) (r:=none) rfl c.es (by unfold Env.blockKind;rw[c.eo.kind];rfl)];apply aa (ab ?_);show wpAny G.M A (do assignAll w _;pure Flow.next) _ _ _;apply aa (bt (wN (.cons (wI hi hk) (λ_=>rfl) .nil) (c.go r x) vr q) (λ_ s' l=>ab ?_) λ_ _ x=>x);have#[ρ',σ',q',F',R',x']:=l;apply#[.next,ρ',σ',.next,q',F',R',x.wide.trans x']
end
section
variable {G:Stc}
end
end MP
end
section
namespace MP
open PySem PyProof.Rows
variable {Q:Option Value->Shared->Prop}{it x:Addr}{ox:Obj}{xs:Array Value}{n:Nat}{ws:List Value}
abbrev cZ (C N:Addr)(nm q:Str)(k0 k2 k3:Option Value):Obj:=
 {cls:=.type "type",dict:=none,data:=.cls {name:=nm,bases:=[.type "tuple"],mro:=[.ref C,.type "tuple",.type "object"],ns:=N,qualname:=q,hasDict:=false,slotNames:=[],subclasses:=[],abstract:=false,collection:=none,hasDel:=false},slots:=#v[k0,none,k2,k3,some .none,some (.bool false)]}
abbrev zq (C:Addr)(dd:Option Addr)(ws:List Value)(n:Nat):Obj:={cls:=.ref C,dict:=dd,data:=.seq ws.toArray n,slots:=#v[]}
def mro_tuple:mroOf (.type "tuple")=pure [.type "tuple",.type "object"]:=by kernel_rfl
section
variable {prog:Program}{w:World}{M:Model}{A:Around}{E:QqV}{h:Heap}{g:Array GenState}{d:Drawn}{t:Nat}{os:OsState}{C N:Addr}{nm q:Str}{k0 k2 k3:Option Value}{mN:Str->Option Value}{dd:Option Addr}
def iM {base:Value}{Q:Bool->Shared->Prop}(Z:h.get? C=some (cZ C N nm q k0 k2 k3))(Y:Q ([Value.ref C,.type "tuple",.type "object"].contains base) #[h,g,d,t,os]):wpAny M A (isSubtype (.ref C) base) Q E #[h,g,d,t,os]:=by
 unfold cZ at Z;unfold isSubtype
 repeat (any_goals (first|assumption|wp_step))
def HF {Q:List Value->Shared->Prop}(Z:h.get? C=some (cZ C N nm q k0 k2 k3))(Y:Q [.ref C,.type "tuple",.type "object"] #[h,g,d,t,os]):wpAny M A (mroOf (.ref C)) Q E #[h,g,d,t,os]:=by
 unfold cZ at Z;unfold mroOf
 repeat (any_goals (first|assumption|wp_step))
def uL {name:Str}(W:h.get? C=some (cZ C N nm q k0 k2 k3))(Y:h.Ns N mN)(Z:Q (mN name) #[h,g,d,t,os]):wpAny M A (classOwn (.ref C) name) Q E #[h,g,d,t,os]:=by
 unfold classOwn;apply aa ?_;unfold classData;apply aa (ya W (ab (wpAny_nsGet Y Z)))
def wh {name:Str}{y:Option Value}(U:h.get? C=some (cZ C N nm q k0 k2 k3))(J:h.Ns N mN)(O:typeLookup (.type "tuple") name=pure y)(Y:Q ((mN name).or y) #[h,g,d,t,os]):wpAny M A (typeLookup (.ref C) name) Q E #[h,g,d,t,os]:=by
 have Z:lookupAlong [.type "tuple",.type "object"] name=pure y:=by rw[typeLookup_eq,mro_tuple]at O;show O
 rw[typeLookup_eq];apply aa (HF U ?_);rw[lookupAlong_cons];apply aa (uL U J ?_);cases W:mN name with
 |some v=>rw[W]at Y;show ab Y
 |none=>rw[W]at Y;show di Z Y
def C5 {x:Addr}{i:Nat}{v:Value}{s:Shared}(hit:IsTupIter s.heap it x i)(W:s.heap.get? x=some ox)(hd:ox.data=.seq xs n)(U:xs[i]?=some v)
  (J:∀h',IsTupIter h' it x (i+1)->Heap.SameBut it s.heap h'->Q (some v) {s with heap:=h'}):wpAny (model prog w) A (pyNext (.ref it)) Q E s:=by
 have#[o,Y,O,Z]:=id hit;unfold pyNext;apply aa (bI (je (name:=Str.ofString "__next__") hit.typeIs ou (eh ou hit.typeIs qL ?_ (qK _))));show wpAny _ _ (field (.ref it) 0>>=_) _ _ s;apply aa (ux Y Z (x:=.ref x) rfl ?_);show wpAny _ _ (if (Value.ref x==Value.none)=true then _ else _) _ _ s;rw[az (show ¬((Value.ref x==Value.none)=true) from jw)];show wpAny _ _ (field (.ref it) 1>>=_) _ _ s;apply aa (ux Y Z (x:=.int i 0) rfl ?_);show wpAny _ _ (seqItems? (.ref x)>>=_) _ _ s;apply aa (mh W hd ?_);dsimp only;rw[gw,U];show wpAny _ _ (setField (.ref it) 1 (rawInt (i+1))>>=_) _ _ _;apply aa (ru Y Z (by simp) ?_);apply(ab #[v,rfl,ab (J _ #[_,jx _ Y (tw (ji Z _)),(iX ..).trans O,?_] (fx ..))]);rw[ji Z];simp[rawInt]
def GY {x:Addr}{i:Nat}{s:Shared}(O:A.handled=none)(hit:IsTupIter s.heap it x i)(W:s.heap.get? x=some ox)(hd:ox.data=.seq xs n)(U:xs[i]?=none)
  (I:∀h',Heap.ExtBut it s.heap h'->Q none {s with heap:=h'}):wpAny (model prog w) A (pyNext (.ref it)) Q E s:=by
 have#[o,Y,H,Z]:=id hit;unfold pyNext;apply aa (bI (je (name:=Str.ofString "__next__") hit.typeIs ou (eh ou hit.typeIs qL ?_ (qK _))));show wpAny _ _ (field (.ref it) 0>>=_) _ _ s;apply aa (ux Y Z (x:=.ref x) rfl ?_);show wpAny _ _ (if (Value.ref x==Value.none)=true then _ else _) _ _ s;rw[az (show ¬((Value.ref x==Value.none)=true) from jw)];show wpAny _ _ (field (.ref it) 1>>=_) _ _ s;apply aa (ux Y Z (x:=.int i 0) rfl ?_);show wpAny _ _ (seqItems? (.ref x)>>=_) _ _ s;apply aa (mh W hd ?_);dsimp only;rw[gw,U];show wpAny _ _ (rule _>>=λ_=>setField (.ref it) 0 .none>>=_) _ _ _;apply aa (su (aa (ru Y Z (by simp) ?_)));apply e8 O λh' e hk J=>?_;apply aa (vo (T:="StopIteration") (b:=true) J isSubtype_stop ?_);show ab (I _ λb o n e=>hk b o ((fx ..).extBut b o n e))
def HH {id O:String}{rest:List Value}{Q:Unit->Shared->Prop}(H:h.get? C=some (cZ C N nm q k0 k2 k3))(Y:h.get? x=some (zq C dd ws n))(J:splitId id=some ("tuple",O))(hk:builtinKind id=some .slot\/builtinKind id=some .method)(W:argsOk id #[.ref x::rest,[]])(U:Q () #[h,g,d,t,os]) :
  wpAny M A (checkBuiltinCall id #[.ref x::rest,[]]) Q E #[h,g,d,t,os]:=by
 have inst:∀{R:Bool->Shared->Prop},R true #[h,g,d,t,os]->wpAny M A (isInstance (.ref x) (.type "tuple")) R E #[h,g,d,t,os]:=λ{R} I=>by
  unfold isInstance;unfold zq at Y
  repeat (first|(with_reducible refine qg Y ?_)|(with_reducible refine iM H ?_)|wp_step)
  show I
 rcases hk with hk|hk <;>
 ·simp only[checkBuiltinCall,hk,J];apply aa (inst ?_);simp only[zg,dn,ju];cases hsig:Manifest.signature? id with
  |none=>show ab U
  |some Z =>
   simp only[argsOk,hsig]at W;have B:Bind.checkArgs id Z #[.ref x::rest,[]]=pure ():=W;show wpAny M A (Bind.checkArgs id Z #[.ref x::rest,[]]) Q E _;rw[B];show ab U
def uM {id Z:String}{b:Builtin}{rest:List Value}{Q:QqV}(B:h.get? C=some (cZ C N nm q k0 k2 k3))(Y:h.get? x=some (zq C dd ws n))(U:splitId id=some ("tuple",Z))(hk:builtinKind id=some .slot\/builtinKind id=some .method)(O:plainId id=true)(J:entryFor table id=some b)(H:argsOk id #[.ref x::rest,[]])
  (I:wpAny (model prog w) A.in1 (b #[.ref x::rest,[]]) (λfin s'=>∃v,fin=.done (.ret v)/\Q v s') E #[h,g,d,t,os]):wpAny (model prog w) A (call (.builtin id) (.ref x::rest)) Q E #[h,g,d,t,os]:=by
 apply mq (uy O J (HH B Y U hk H (bt I (λfin s' h'=>?_) λ_ _ e=>e)));have#[v,rfl,W]:=h';show W
def qP:splitId "tuple.__iter__"=some ("tuple","__iter__"):=by kernel_rfl
def uO:builtinKind "tuple.__iter__"=some .slot:=by kernel_rfl
def LJ {Q:QqV}(U:h.get? C=some (cZ C N nm q k0 k2 k3))(O:h.Ns N mN)(I:mN "__iter__"=none)(Y:h.get? x=some (zq C dd ws n))
  (H:Q (.ref h.objs.size) #[h.push {cls:=.type "tuple_iterator",data:=.fields #v[.ref x,.int 0 0]},g,d,t,os]):wpAny (model prog w) A (pyIter (.ref x)) Q E #[h,g,d,t,os]:=by
 have J:=PySem.F.slot_tuple_iter.lookup;have hb:=PySem.F.slot_tuple_iter.bind (.ref x);have Z:=Y;unfold pyIter specialOf;unfold zq at Y
 repeat (first|(with_reducible refine qg Y ?_)|(with_reducible refine wh U O J ?_;rw[I])|wp_step)
 have go:∀(E:QqV) (R:Option (Value×List Value)->Shared->Prop),R (some (.builtin "tuple.__iter__",[.ref x])) #[h,g,d,t,os]->wpAny (model prog w) A (do let r←bindSpecial (Value.builtin "tuple.__iter__") (Value.ref x);pure (some r)) R E #[h,g,d,t,os]:=λE R W=>aa (di hb (ab W));have fin:wpAny (model prog w) A (call (.builtin "tuple.__iter__") [.ref x]) (λr s'=>∃y,r=.ref y/\y=h.objs.size/\s'=#[h.push {cls:=.type "tuple_iterator",data:=.fields #v[.ref x,.int 0 0]},g,d,t,os]) E #[h,g,d,t,os]:=by
  apply uM U Z qP (.inl uO) PySem.F.slot_tuple_iter.plain PySem.F.entry_tuple_iter (PySem.F.args_tuple_iter_1 _) ?_;show wpAny _ _ (do ret (← newFields "tuple_iterator" [.ref x,rawInt 0])) _ _ _;show aa (iq (ab #[_,rfl,_,rfl,rfl,rfl]))
 have tail:wpAny (model prog w) A (match (some (Value.builtin "tuple.__iter__",[Value.ref x]):Option (Value×List Value)) with
    |some (g,first)=>if (g==Value.none)=true then (do let r←(do rule "iter.none";raiseError "TypeError" s!"'{← typeNameOf (.ref x)}' object is not iterable":Sem Value);pure (some r)) else (do let r←call g first;pure (some r))
    |_=>pure none:Sem (Option Value)) (λa s'=>wpAny (model prog w) A (match a with
     |some it=>(do match←(do typeLookup (← typeOf it) "__next__":Sem (Option Value)) with
       |none=>(do rule "iter.non-iterator";raiseError "TypeError" s!"iter() returned non-iterator of type '{← typeNameOf it}'":Sem Value)
       |some _=>pure it)
     |none=>(do match←bindSpecialIfBound? (.ref x) "__getitem__" with
       |none=>(do rule "iter.not-iterable";raiseError "TypeError" s!"'{← typeNameOf (.ref x)}' object is not iterable":Sem Value)
       |some _=>(do rule "iter.getitem-fallback";newFields "iterator" [.ref x,<- mkInt 0]))) Q E s') E #[h,g,d,t,os]:=by
  dsimp only;rw[az (show ¬((Value.builtin "tuple.__iter__" == Value.none)=true) from jw)];apply aa (bt fin (λr s' W=>?_) λ_ _ e=>e);have#[y,rfl,rfl,rfl]:=W;apply ab ?_;dsimp only;apply aa (aa (aF (T:="tuple_iterator") #[_,bc _ rfl,rfl] (di ou.lookup ?_)));show ab H
 apply rv ?_;split
 ·show go _ _ tail
 ·show wpAny_tryCatch (go _ _ tail)
def rD {k:Nat}(J:x≠it)(hd:ox.data=.seq xs k):∀(n i:Nat) (s:Shared) (Q:List Value->Shared->Prop),IsTupIter s.heap it x i->s.heap.get? x=some ox->i+n<=xs.size ->
  (∀h',IsTupIter h' it x (i+n)->Heap.SameBut it s.heap h'->Q ((xs.toList.drop i).take n) {s with heap:=h'})->wpAny (model prog w) A (draw (.ref it) n) Q E s
 |0=>λi s Q hit H I hQ=>by
  dsimp only[draw];show ab (by simpa using hQ s.heap hit (.refl ..))
 |n+1=>λi s Q hit H I hQ=>by
  dsimp only[draw];have hv:xs[i]?=some xs[i]:=fu (gz .B .a (.k (.a .A .S) .B) I);apply aa (C5 hit H hd hv λh₁ W Z=>?_);apply aa (bp (rD J hd n (i+1) _ _ W (by rw[Z.2 x J];show H) (gz (.k (.a .L .B) .C) .a (.k (.a .A .P) .C) I) λO Y U=>ab ?_));have z:xs.toList.drop i=xs[i]::xs.toList.drop (i+1):=by
   rw[nz (by simpa using (by(show gz .B .a (.k (.a .A .S) .B) I):i<xs.size))];simp
  have:=hQ O (by rw[show i+(n+1)=i+1+n by(show n9 (.e (.a .A .P) (.a .L .B)) [[1],[1]])];show Y) (Z.trans U);rw[z,List.take_succ_cons]at this;show this
end
structure sd (G:Stc):Prop where
 here:∃N mN nm q k0 k2 k3,G.hb.get? G.cM=some (cZ G.cM N nm q k0 k2 k3)/\G.hb.Ns N mN/\mN "__iter__"=none/\mN "__lt__"=none/\mN "__len__"=none/\mN "__init__"=none
def PF {G:Stc}(K:sd G):AA G:=λA E s x ws n dd Q hh Y hx hQ=>by
 have#[N,mN,nm,q,k0,k2,k3,hC,hN,hi,_]:=K.here;have H:x≠s.heap.objs.size:=gb (fw hx);have#[h,g,d,t,os]:=s;have ag:=Y _ _ hC;have z:=hN.keeps Y;have hl:=PySem.F.slot_tuple_iter.lookup;have ao:h.get? x=some (zq G.cM dd ws n):=hx;have I:h.get? x=some {cls:=.ref G.cM,dict:=dd,data:=.seq ws.toArray n,slots:=#v[]}:=hx;have ni:∀R:Bool->Shared->Prop,R false #[h,g,d,t,os]->wpAny G.M A (notIterableAtAll (.ref x)) R E #[h,g,d,t,os]:=λR hr=>by
  unfold notIterableAtAll specialOf
  repeat (first|(with_reducible refine qg I ?_)|(with_reducible refine wh ag z hl ?_;rw[hi])|wp_step)
  show hr
 unfold unpackItems;apply aa (ni _ ?_);simp only[dn,ju];have hp:(h.push {cls:=.type "tuple_iterator",data:=.fields #v[.ref x,.int 0 0]}).get? x=some {cls:=.ref G.cM,dict:=dd,data:=.seq ws.toArray n,slots:=#v[]}:=ah _ I;apply aa (bp (LJ ag z hi ao ?_));apply aa (bp (rD (xs:=ws.toArray) (k:=n) H rfl ws.length 0 _ _ #[_,bc _ rfl,rfl,rfl] hp (by simp) λh₁ W Z=>?_));have B:List.take ws.length (List.drop 0 ws.toArray.toList)=ws:=by simp
 rw[B,az (by simp)];have U:h₁.get? x=some {cls:=.ref G.cM,dict:=dd,data:=.seq ws.toArray n,slots:=#v[]}:=by rw[Z.2 x H];show hp
 apply aa (bp (GY (xs:=ws.toArray) (n:=n) hh W U rfl (by simp) λJ O=>?_));simp only[vq,dn,ju];show ab (hQ J λb o hb e=>O b o hb (Z.extBut b o hb (ah _ e)))
variable {x y:Addr}{ns ms:List Int}{n:Nat}
abbrev eH (ns ms:List Int):Option Fin×Unit:=if ns=ms then (none,()) else (some (.done (.ret (.bool (rf ns ms)))),())
def kT:∀ns:List Int,rf ns ns=false
 | []=>rfl
 |a::as=>(br rfl).trans (kT as)
section
variable {prog:Program}{w:World}{M:Model}{A:Around}{E:QqV}{h:Heap}{g:Array GenState}{d:Drawn}{t:Nat}{os:OsState}{C N:Addr}{nm q:Str}{k0 k2 k3:Option Value}{mN:Str->Option Value}{dd de:Option Addr}
def HJ {s:Shared}(f:Value×Value->Option Fin×Unit->Sem (ForInStep (Option Fin×Unit)))
  (hf:∀a b st,f (a,b) st=(do let r←eqBool a b;if (!r)=true then (do rule "tuple.compare.by-the-first-pair-that-differs";let v←richCompare .Lt a b;let z←ret v;pure (.done (some z,()))) else pure (.yield (none,())))) :
  ∀{ws us:List Value} {ns ms:List Int} {Q:Option Fin×Unit->Shared->Prop},IntsAre ws ns->IntsAre us ms->ns.length=ms.length->Q (eH ns ms) s->wpAny (model prog w) A (forIn (ws.zip us) (none,()) f) Q E s:=by
 intro ws us ns ms Q I;induction I generalizing us ms Q with
 |nil =>
  intro W U Y;cases W with
  |nil=>rw[List.zip_nil_left,mz];show ab Y
  |cons=>simp at U
 | @cons a H ws ns I B =>
  intro W U Y;cases W with
  |nil=>simp at U
  | @cons b tb us ms W =>
   rw[List.zip_cons_cons,oe,hf];apply aa (aa (wpAny_eqBool_int ?_));by_cases Z:a=b
   ·subst Z;simp -iota only[dg,zg,dn,ju];apply ab (B W (by simpa using U) ?_);have e:eH (a::ns) (a::ms)=eH ns ms:=by unfold eH;rw[show rf (a::ns) (a::ms)=rf ns ms from br rfl];simp
    rw[e]at Y;show Y
   ·have O:(a==b)=false:=by simpa using Z
    rw[O];simp -iota only[Bool.not_false,tu];have e:eH (a::ns) (b::ms)=(some (.done (.ret (.bool (decide (a<b))))),()):=by unfold eH;rw[show rf (a::ns) (b::ms)=decide (a<b) from az Z,az λq=>Z (List.cons.inj q).1]
    rw[e]at Y;apply aa (su (aa ?_));have J:∀R:Value->Shared->Prop,R (.bool (decide (a<b))) s->wpAny (model prog w) A (richCompare .Lt (.int a H) (.int b tb)) R E s:=λR hr=>lt_int hr;show J _ (aa (ab (ab (ab Y))))
def HI {ox W:Obj}{ws us:List Value}{m:Nat}{P:Fin->Shared->Prop}(I:h.get? x=some ox)(dx:ox.data=.seq ws.toArray n)(J:h.get? y=some W)(z:W.data=.seq us.toArray m)(O:IntsAre ws ns)(U:IntsAre us ms)(H:ns.length=ms.length)
  (inst:∀R:Bool->Shared->Prop,R true #[h,g,d,t,os]->wpAny (model prog w) A (isInstance (.ref y) (.type "tuple")) R E #[h,g,d,t,os]) (Y:P (.done (.ret (.bool (rf ns ms)))) #[h,g,d,t,os]):wpAny (model prog w) A (Builtin.«tuple.__lt__» #[[.ref x,.ref y],[]]) P E #[h,g,d,t,os]:=by
 unfold Builtin.«tuple.__lt__»;apply aa (di (a:=(.ref x,[.ref y])) (by rfl) ?_);dsimp only;apply aa (inst _ ?_);simp -iota only[zg,dn,ju];apply aa (m:=Builtin.Tuple.tupleItemsOf (.ref x)) (aa (mh I dx (ab ?_)));apply aa (m:=Builtin.Tuple.tupleItemsOf (.ref y)) (aa (mh J z (ab ?_)));apply aa (HJ _ (λa b st=>by rfl) (ws:=ws) (us:=us) O U H ?_);unfold eH;by_cases e:ns=ms
 ·rw[br e];subst e;rw[kT]at Y;have Z:ws.toArray.size=us.toArray.size:=by simp[O.length,U.length]
  have B:Builtin.Tuple.tupleCompareSizes .Lt ws.toArray.size us.toArray.size=.bool false:=by unfold Builtin.Tuple.tupleCompareSizes;rw[Z];simp
  show wpAny _ _ (ret (Builtin.Tuple.tupleCompareSizes .Lt ws.toArray.size us.toArray.size)) _ _ _;rw[B];show ab Y
 ·rw[az e];show ab Y
def zG {ws us:List Value}{m:Nat}{P:Fin->Shared->Prop}(J:h.get? C=some (cZ C N nm q k0 k2 k3))(Y:h.get? x=some (zq C dd ws n))(Z:h.get? y=some (zq C de us m))(H:IntsAre ws ns)(I:IntsAre us ms)(U:ns.length=ms.length)
  (O:P (.done (.ret (.bool (rf ns ms)))) #[h,g,d,t,os]):wpAny (model prog w) A (Builtin.«tuple.__lt__» #[[.ref x,.ref y],[]]) P E #[h,g,d,t,os]:=HI Y rfl Z rfl H I U (λR W=>by
  unfold isInstance;unfold zq at Z
  repeat (first|(with_reducible refine qg Z ?_)|(with_reducible refine iM J ?_)|wp_step)
  show W) O
def yK:splitId "tuple.__lt__"=some ("tuple","__lt__"):=by kernel_rfl
def D0:builtinKind "tuple.__lt__"=some .slot:=by kernel_rfl
def HG {ws us:List Value}{m:Nat}{Q:Bool->Shared->Prop}(B:A.units<cLine)(I:h.get? C=some (cZ C N nm q k0 k2 k3))(z:h.Ns N mN)(O:mN "__lt__"=none)(W:h.get? x=some (zq C dd ws n))(H:h.get? y=some (zq C de us m))(h1:IntsAre ws ns)(h2:IntsAre us ms)(hl:ns.length=ms.length)
  (hQ:Q (rf ns ms) #[h,g,d,t,os]):wpAny (model prog w) A (keyLt' oneType' (.ref x) (.ref y)) Q E #[h,g,d,t,os]:=by
 rw[keyLt'_oneType,oneLt'_eq];simp -iota only[tu];apply aa (wpAny_cRoomFor B ?_);have J:=PySem.F.slot_tuple_lt.lookup;have Z:typeLookup (.type "tuple") "__lt__"=pure (some (.builtin "tuple.__lt__")):=J;have hb:=PySem.F.slot_tuple_lt.bind (.ref x);have Y:h.get? x=some {cls:=.ref C,dict:=dd,data:=.seq ws.toArray n,slots:=#v[]}:=W;have fin:∀(E:QqV) (R:QqV),R (.bool (rf ns ms)) #[h,g,d,t,os]->wpAny (model prog w) A (call (.builtin "tuple.__lt__") [.ref x,.ref y]) R E #[h,g,d,t,os]:=λE R U =>
  uM I W yK (.inl D0) PySem.F.slot_tuple_lt.plain PySem.F.entry_tuple_lt (PySem.F.args_tuple_lt_2 _ _) (zG I W H h1 h2 hl #[_,rfl,U])
 have sp:∀(R:Option (Value×List Value)->Shared->Prop),R (some (.builtin "tuple.__lt__",[.ref x])) #[h,g,d,t,os]->wpAny (model prog w) A (bindSpecialIfBound? (.ref x) "__lt__") R E #[h,g,d,t,os]:=λR U=>by
  have go:∀(E:QqV),wpAny (model prog w) A (do let r←bindSpecial (Value.builtin "tuple.__lt__") (Value.ref x);pure (some r)) R E #[h,g,d,t,os]:=λE=>aa (di hb (ab U));unfold bindSpecialIfBound? specialOf
  repeat (first|(with_reducible refine qg Y ?_)|(with_reducible refine wh I z Z ?_;rw[O])|wp_step)
  apply rv ?_;split
  ·show go _
  ·show wpAny_tryCatch (go _)
 unfold callSpecialIfBound?;apply aa (bp (aa (sp _ ?_)));apply aa (fin _ _ (ab ?_));show qe hQ
end
end MP
end
section
namespace MP
open PySem PyProof.Rows PySem.W
variable {α:Type}{p:Array Nat}{k i j m nrem:Nat}
abbrev ends {α:Type}(n:Nat)(lt:Nat->Nat->Bool):KasT α->(α->Prop)->Prop
 |.ret a,Q=>Q a
 |.ask i j k,Q=>i<n/\j<n/\ends n lt (k (lt i j)) Q
def jv {n:Nat}{lt:Nat->Nat->Bool}{Q Y:α->Prop}(Z:∀a,Q a->Y a):∀{t:KasT α},ends n lt t Q->ends n lt t Y
 |.ret a=>λh=>Z a h
 |.ask i j k=>λh=>#[h.1,h.2.1,jv Z (t:=k (lt i j)) h.2.2]
def wk {Z:Type}{n:Nat}{lt:Nat->Nat->Bool}{f:α->KasT Z}{Q:Z->Prop}:∀{t:KasT α},ends n lt t (λa=>ends n lt (f a) Q)->ends n lt (t.bind f) Q
 |.ret a=>λh=>h
 |.ask i j k=>λh=>#[h.1,h.2.1,wk (t:=k (lt i j)) h.2.2]
def xV {n:Nat}{lt:Nat->Nat->Bool}{cmp:Nat->Nat->(Bool->Shared->Prop)->Shared->Prop}{s:Shared}(Z:∀i j (C:Bool->Shared->Prop),i<n->j<n->C (lt i j) s->cmp i j C s){Q:α->Shared->Prop}:∀{t:KasT α},ends n lt t (λa=>Q a s)->t.kasWp cmp Q s
 |.ret a=>λh=>h
 |.ask i j k=>λh=>Z i j _ h.1 h.2.1 (xV Z (t:=k (lt i j)) h.2.2)
structure eS (lt:Nat->Nat->Bool):Prop where
 asym:∀a b,lt a b=true->lt b a=false
 tr:∀a b c,lt b a=false->lt c b=false->lt c a=false
section
variable {n:Nat}{lt:Nat->Nat->Bool}
public abbrev at0 (p:Array Nat)(i:Nat):Nat:=p.getD i 0
abbrev gA (lt:Nat->Nat->Bool)(p:Array Nat)(k:Nat):Prop:=∀i j,i<j->j<k->lt (at0 p j) (at0 p i)=false
abbrev nA (lt:Nat->Nat->Bool)(p:Array Nat)(k:Nat):Prop:=∀i j,i<j->j<k->lt (at0 p i) (at0 p j)=false
structure vn (n:Nat)(p:Array Nat):Prop where
 perm:p.Perm (List.toArray (List.range n))
def vn.size (h:vn n p):p.size=n:=by have:=h.perm.size_eq;simpa using this
def vn.low (h:vn n p)(Y:0<n)(i:Nat):at0 p i<n:=by
 unfold at0;by_cases Z:i<p.size
 ·have e:p.getD i 0=p[i]:=by simp[Array.getD,Z]
  rw[e];have W:p[i]∈p.toList:=by simp
  have:=(Array.perm_iff_toList_perm.mp h.perm).mem_iff.mp W;simpa using this
 ·have e:p.getD i 0=0:=by simp[Array.getD,Z]
  rw[e];show Y
def vn.step {q:Array Nat}(h:vn n p)(Z:q.Perm p):vn n q:=#[Z.trans h.perm]
def fV (i:Nat):at0 p i=(p[i]?).getD 0:=by
 unfold at0;by_cases Z:i<p.size<;>simp[Array.getD,Z]
def gA.le (L:eS lt)(h:gA lt p k)(Z:i<=j)(Y:j<k):lt (at0 p j) (at0 p i)=false:=by
 rcases mx Z with W|rfl
 ·show h i j W Y
 ·cases hq:lt (at0 p i) (at0 p i) with
  |false=>rfl
  |true=>have:=L.asym _ _ hq;rw[hq]at this;cases this
def eS.irr (L:eS lt)(a:Nat):lt a a=false:=by
 cases hq:lt a a with
 |false=>rfl
 |true=>have:=L.asym _ _ hq;rw[hq]at this;cases this
def lW (L:eS lt)(J:0<n)(W:vn n p):∀(f m:Nat),1<=m->ends n lt (kas_asc p f m) λr=>m<=r/\r<=m+f/\(gA lt p m->gA lt p r)
 |0=>λm z=>#[av _,by show oo (.k .A (.a .A .O)) .f,λh=>h]
 |f+1=>λm z=>by
  apply#[W.low J _,W.low J _,?_];cases hc:lt (at0 p m) (at0 p (m-1)) with
  |true=>refine#[av _,by show n9 (.k .A (.a .A .P)) .f,λh=>h]
  |false =>
   show ends n lt (kas_asc p f (m+1)) _;apply jv (λr Y=>#[by show cg .A .a .I Y.1,by show gz (.k .A (.a .B .S)) .a (.k .A (.a .P .C)) Y.2.1,λhu=>Y.2.2 λi j Z hj=>?_]) (lW L J W f (m+1) (oo (.k .U .L) .f));rcases mx (dR hj) with h|rfl
   ·show hu i j Z h
   ·show L.tr _ (at0 p (j-1)) _ (hu.le L (gr .A .d .H (.e .P .C) Z (ae (fb .C .a .C z))) (cg .B .a (.e .L .B) (ae (fb .C .a .C z)))) hc
def bP (Z:j<=p.size)(k:Nat):at0 (kas_rev p i j) k=if i<=k/\k<j then at0 p (i+j-1-k) else at0 p k:=by
 unfold kas_rev;rw[fV,getElem?_mirror_all Z];split<;>rw[fV]
def nA.le (L:eS lt)(h:nA lt p k)(Z:i<=j)(Y:j<k):lt (at0 p i) (at0 p j)=false:=by
 rcases mx Z with W|rfl
 ·show h i j W Y
 ·show L.irr _
abbrev Flat (lt:Nat->Nat->Bool)(p:Array Nat)(m q:Nat):Prop:=q+1<=m/\∀i j,m-(q+1)<=i->i<m->m-(q+1)<=j->j<m->lt (at0 p i) (at0 p j)=false
def DN (L:eS lt){q:Nat}(hm:m<=p.size)(h:nA lt p m)(hq:Flat lt p m q):nA lt (kas_rev p (m-(q+1)) m) m:=λi j z I=>by
 rw[bP hm,bP hm];have#[h1,h2]:=hq;split<;>split
 ·show h2 _ _ (Ar.sub _ _ (λY Z=>(Ar.sub _ _ (λJ W=>(lX .A [[1,1,1,-1,-1]] (.l .C .D) (.l .D .F) (.e (.a .G .U) (.a .A .F)) (.e (.a .B .C) .G) z I Z W)) λJ W=>(lX .A [[1,1,1,-1,1]] (.l .C .D) (.l .D .F) (.e (.a .G .U) (.a .A .F)) (.k .G .C) z I Z J))) λY Z=>(jm .A .b (.l .C .D) (.k (.a .A .D) .U) I Y)) (by(rename_i z2 z1;show Ar.sub _ _ (λY Z=>(Ar.sub _ _ (λJ W=>(tn .B .e (.k .C .D) (.e (.a .A .D) .F) (.e (.a .F .U) (.a .C .B)) z2.1 Z W)) λJ W=>(tn .B .e (.l .C .B) (.e (.a .A .D) .F) (.e .F .O) I Z W))) λY Z=>(gr .B .b (.l .C .B) (.e .A .O) I Z))) (Ar.sub _ _ (λY Z=>(Ar.sub _ _ (λJ W=>(tn .A [[1,1,-1,-1]] (.l .C .D) (.e (.a .F .U) (.a .A .D)) (.e (.a .B .C) .F) I Z W)) λJ W=>(tn .A [[1,1,-1,1]] (.l .C .D) (.e (.a .F .U) (.a .A .D)) (.k .F .C) I Z J))) λY Z=>(jm .A .b (.l .C .D) (.k (.a .A .D) .U) I Y)) (by(rename_i z2 z1;show Ar.sub _ _ (λY Z=>(Ar.sub _ _ (λJ W=>(lX .B [[1,1,1,1,1]] (.l .C .D) (.k .F .C) (.e (.a .A .D) .G) (.e (.a .G .U) (.a .F .B)) z z2.1 Z W)) λJ W=>(tn .B .e (.l .C .B) (.e (.a .A .D) .F) (.e .F .O) z2.2 Z W))) λY Z=>(gr .B .b (.l .C .B) (.e .A .O) I Z)))
 ·(rename_i z2 z1;show False.elim ((gq.mp z1).elim (λY=>(tq .ff .h .B (.k .C .A) (.j .C .B) z z2.1 Y)) λY=>(mn .ff .c .B (.g .A .B) I Y)))
 ·show h _ _ (by(rename_i z2 z1;show Ar.sub _ _ (λY Z=>((gq.mp z2).elim (λJ=>(Ar.sub _ _ (λq3 p3=>(lX .B [[1,1,-1,1,-1]] (.l .C .D) (.e (.a .F .U) (.a .G .D)) (.j .G .A) (.e (.a .B .C) .F) I Z J p3)) λq3 p3=>(lX .B [[0,1,-1,1,1]] (.l .C .D) (.e (.a .F .U) (.a .G .D)) (.j .G .A) (.k .F .C) I Z J q3))) λJ=>(rq .B .h .H (.l .C .D) (.g .A .D) z I J))) λY Z=>(tn .B .h .H (.l .C .D) (.k (.a .F .D) .U) z I Y))) (by(rename_i z1;show Ar.sub _ _ (λY Z=>(Ar.sub _ _ (λJ W=>(tn .B .e (.k .C .D) (.e (.a .A .D) .F) (.e (.a .F .U) (.a .C .B)) z1.1 Z W)) λJ W=>(tn .B .e (.k .S .B) (.e (.a .A .D) .F) (.e .F .O) h1 Z W))) λY Z=>(gr .B .b (.l .C .B) (.e .A .O) I Z)))
 ·show h _ _ z I
def cU (L:eS lt)(hn:0<n):∀(f:Nat) (p:Array Nat) (m q:Nat),vn n p->1<=m->m+f<=n->nA lt p m->Flat lt p m q ->
  ends n lt (kas_desc f p m q) λr=>vn n r.1/\m<=r.2.1/\r.2.1<=m+f/\nA lt r.1 r.2.1/\Flat lt r.1 r.2.1 r.2.2
 |0=>λp m q W J hf hd hq=>#[W,av _,by simp,hd,hq]
 |f+1=>λp m q W J hf hd hq=>by
  apply#[W.low hn _,W.low hn _,?_];have ag:=W.size;have grow:∀{p:Array Nat},nA lt p m->lt (at0 p (m-1)) (at0 p m)=false->nA lt p (m+1):=λ{p} hd hc i j ao hj=>by
   rcases mx (dR hj) with h|h
   ·show hd i j ao h
   ·rw[h];have:=hd.le L (i:=i) (j:=m-1) (rq .A [[1,1,1,-1]] .H (.e .C .D) (.e .P .D) ao h (ae (fb .C .a .C J))) (cg .B .a (.e .L .B) (ae (fb .C .a .C J)));show L.tr _ (at0 p (m-1)) _ hc this
  cases hc:lt (at0 p m) (at0 p (m-1)) with
  |true =>
   have ha:=L.asym _ _ hc;show ends n lt (if q>0 then kas_desc f (kas_rev p (m-(q+1)) m) (m+1) 0 else kas_desc f p (m+1) 0) _;split
   ·have ar:vn n (kas_rev p (m-(q+1)) m):=W.step (mirror_perm _ _ _ _);have bd:=DN L (jm .A .d (.k (.a .A .S) .D) (.e .B .D) hf ag) hd hq;have e1:at0 (kas_rev p (m-(q+1)) m) m=at0 p m:=by rw[bP (jm .A .d (.k (.a .A .S) .D) (.e .B .D) hf ag),az (λZ=>(fb .ff .i (.l .A .A) Z.2))]
    have e2:lt (at0 (kas_rev p (m-(q+1)) m) (m-1)) (at0 p m)=false:=by
     have#[g1,g2]:=hq;rw[bP (jm .A .d (.k (.a .A .S) .D) (.e .B .D) hf ag),br (#[(jm .A .d (.e (.a .A .S) .D) (.e .P .D) (ae (cg .I .a .I g1)) (ae (fb .C .a .C J))),(cg .B .a (.e .L .B) (ae (fb .C .a .C J)))])];show L.tr _ (at0 p (m-1)) _ ha (g2 _ _ (Ar.sub _ _ (λZ z=>(Ar.sub _ _ (λq2 p2=>(Ar.sub _ _ (λq3 p3=>(tn .A [[1,-1,1,-1]] (.e .S (.a .A .D)) (.e (.a .F .U) .D) (.e (.a .B .F) .C) z p2 p3)) λq3 p3=>(tn .A [[1,-1,1,1]] (.e .S (.a .A .D)) (.e (.a .F .U) .D) (.k .C .F) z p2 q3))) λq2 p2=>(jm .A .b (.e (.a .A .S) .D) (.k .D .U) (ae (cg .I .a .I g1)) q2))) λZ z=>(gr .A .b (.k .U .C) (.k (.a .A .C) .U) J Z)) (by(rename_i z1;show Ar.sub _ _ (λZ z=>(Ar.sub _ _ (λq2 p2=>(Ar.sub _ _ (λq3 p3=>(Ar.sub _ _ (λq4 p4=>(lX .B [[1,1,1,-1,1]] (.e (.a .A .C) .D) (.e (.a .D .U) (.a .F .B)) (.e .S .B) (.e (.a .F (.a .G .U)) .B) z p2 p3 p4)) λq4 p4=>(tn .B .e (.e (.a .A .C) .D) (.e (.a .D .U) (.a .F .B)) (.e .F .O) z p2 p4))) λq3 p3=>(tq .B .h (.l .O .C) (.k .S .B) (.k .B .U) z1 g1 q3))) λq2 p2=>(tn .B .e (.k .S .B) (.e (.a .A .D) .F) (.e .F .O) g1 z p2))) λZ z=>(gr .B .b (.k .S .B) (.e .A .O) g1 z))) (jm .A .d (.e (.a .A .S) .D) (.e .P .D) (ae (cg .I .a .I g1)) (ae (fb .C .a .C J))) (cg .B .a (.e .L .B) (ae (cg .C .a (.k .P .A) g1))))
    apply jv (λr Y=>#[Y.1,by show cg .A .a .I Y.2.1,by show gz (.k .A (.a .B .S)) .a (.k .A (.a .P .C)) Y.2.2.1,Y.2.2.2]) (cU L hn f _ (m+1) 0 ar (oo (.k .U .L) .f) (gz (.k (.a .L .B) .C) .a (.k (.a .A .P) .C) hf) (grow bd (by rw[e1];show e2)) #[by show oo (.k (.a .O .U) .L) .f,λi j a b c d=>?_]);rw[(by(show tq .G [[1,1,0,-1],[1,0,1,0]] (.k .C .A) (.l .A .P) (.e (.a .C (.a .O .U)) .P) a b (ae (oo (.k (.a .O .U) .L) .f))):i=m),(by(show tq .G [[1,1,0,-1],[1,0,1,0]] (.k .C .A) (.l .A .P) (.e (.a .C (.a .O .U)) .P) c d (ae (oo (.k (.a .O .U) .L) .f))):j=m)];show L.irr _
   ·apply jv (λr Y=>#[Y.1,by show cg .A .a .I Y.2.1,by show gz (.k .A (.a .B .S)) .a (.k .A (.a .P .C)) Y.2.2.1,Y.2.2.2]) (cU L hn f _ (m+1) 0 W (oo (.k .U .L) .f) (gz (.k (.a .L .B) .C) .a (.k (.a .A .P) .C) hf) (grow hd ha) #[by show oo (.k (.a .O .U) .L) .f,λi j a b c d=>?_]);rw[(by(show tq .G [[1,1,0,-1],[1,0,1,0]] (.k .C .A) (.l .A .P) (.e (.a .C (.a .O .U)) .P) a b (ae (oo (.k (.a .O .U) .L) .f))):i=m),(by(show tq .G [[1,1,0,-1],[1,0,1,0]] (.k .C .A) (.l .A .P) (.e (.a .C (.a .O .U)) .P) c d (ae (oo (.k (.a .O .U) .L) .f))):j=m)];show L.irr _
  |false =>
   apply#[W.low hn _,W.low hn _,?_];cases hd2:lt (at0 p (m-1)) (at0 p m) with
   |true=>refine#[W,av _,by simp,hd,hq]
   |false =>
    show ends n lt (kas_desc f p (m+1) (q+1)) _;apply jv (λr Y=>#[Y.1,by show cg .A .a .I Y.2.1,by show gz (.k .A (.a .B .S)) .a (.k .A (.a .P .C)) Y.2.2.1,Y.2.2.2]) (cU L hn f p (m+1) (q+1) W (oo (.k .U .L) .f) (gz (.k (.a .L .B) .C) .a (.k (.a .A .P) .C) hf) (grow hd hd2) ?_);have#[g1,g2]:=hq;apply#[by show cg (.k (.a .L .U) .P) .a .I g1,λi j a b c d=>?_];by_cases hi:i=m
    ·by_cases hj:j=m
     ·rw[hi,hj];show L.irr _
     ·rw[hi];show L.tr _ (at0 p (m-1)) _ (g2 _ _ (jm .A .d (.e (.a .A .S) .D) (.e .P .D) (ae (cg .I .a .I g1)) (ae (fb .C .a .C J))) (cg .B .a (.e .L .B) (ae (fb .C .a .C J))) (tn .A [[1,1,-1,1]] .F (.e (.a .C (.a (.a .D .U) .U)) (.a .F .U)) (.e (.a .A (.a .D .U)) .F) c (ae (cg (.k (.a .L .U) .P) .a .I g1)) (ae (cg .I .a .I g1))) ((cp hj).elim (λZ=>(cg .B .a .B Z)) λZ=>(mn .B .c (.l .A .P) (.l .B .A) d Z))) hc
    ·by_cases hj:j=m
     ·rw[hj];show L.tr _ (at0 p (m-1)) _ hd2 (g2 _ _ (tn .A [[1,1,-1,1]] .F (.e (.a .C (.a (.a .D .U) .U)) (.a .F .U)) (.e (.a .A (.a .D .U)) .F) a (ae (cg (.k (.a .L .U) .P) .a .I g1)) (ae (cg .I .a .I g1))) ((cp hi).elim (λZ=>(cg .B .a .B Z)) λZ=>(mn .B .c (.l .A .P) (.l .B .A) b Z)) (jm .A .d (.e (.a .A .S) .D) (.e .P .D) (ae (cg .I .a .I g1)) (ae (fb .C .a .C J))) (cg .B .a (.e .L .B) (ae (fb .C .a .C J))))
     ·show g2 _ _ (tn .A [[1,1,-1,1]] .F (.e (.a .C (.a (.a .D .U) .U)) (.a .F .U)) (.e (.a .A (.a .D .U)) .F) a (ae (cg (.k (.a .L .U) .P) .a .I g1)) (ae (cg .I .a .I g1))) ((cp hi).elim (λZ=>(cg .B .a .B Z)) λZ=>(mn .B .c (.l .A .P) (.l .B .A) b Z)) (tn .A [[1,1,-1,1]] .F (.e (.a .C (.a (.a .D .U) .U)) (.a .F .U)) (.e (.a .A (.a .D .U)) .F) c (ae (cg (.k (.a .L .U) .P) .a .I g1)) (ae (cg .I .a .I g1))) ((cp hi).elim (λZ=>((cp hj).elim (λq2=>(cg .B .a .B q2)) λq2=>(mn .B .c (.l .A .P) (.l .B .A) d q2))) λZ=>(gr .B .c (.l .C .P) (.l .B .C) b Z))
def jV (L:eS lt)(hn:0<n)(hp:vn n p)(h1:1<=m)(hm:m<=nrem)(hr:nrem<=n)(hd:nA lt p m) :
  ends n lt (kas_tail3 m nrem p) λr=>vn n r.2/\m<=r.1/\r.1<=nrem/\gA lt r.2 r.1:=by
 unfold kas_tail3;have I:=hp.size;have z:vn n (kas_rev p 0 m):=hp.step (mirror_perm _ _ _ _);apply wk (jv (λr hr=>#[z,hr.1,by show jm .A .b (.k .A (.a .C .D)) (.e (.a .D .C) .B) hr.2.1 (ae (cg .A .a .A hm)),hr.2.2 λi j Z J=>?_]) (lW L hn z (nrem-m) m h1));rw[bP (by(rename_i z1;show rq .A [[1,1,1,-1]] (.k .A .C) (.k .C .D) (.e .B .D) hm z1 I)),bP (by(rename_i z1;show rq .A [[1,1,1,-1]] (.k .A .C) (.k .C .D) (.e .B .D) hm z1 I)),br (#[(oo (.k .O .A) .f),(cg .B .a .B J)]),br (#[(oo (.k .O .A) .f),(gr .B .b .H (.l .C .B) Z J)])];show hd _ _ (Ar.sub _ _ (λq1 Y=>(Ar.sub _ _ (λq2 W=>(Ar.sub _ _ (λq3 p3=>(tn .B [[1,1,-1,1]] (.l .C .D) (.e (.a .B .C) .F) (.e (.a .A .D) .F) Z W p3)) λq3 p3=>(Ar.a5 [] [_,_,_,_,_,_] .B [[1,1,1,-1,-1,1]] (.l .C .D) (.l .D .F) (.e (.a .G .U) (.a .O .F)) (.e (.a .B .C) .G) (.e .A .O) Z J Y W p3))) λq2 W=>(lX .B [[0,1,1,-1,1]] (.l .C .D) (.l .D .F) (.e (.a .G .U) (.a .O .F)) (.k .G .C) Z J Y q2))) λq1 Y=>(tn .B .h (.l .C .D) (.l .D .F) (.k (.a .O .F) .U) Z J q1)) (Ar.sub _ _ (λq1 Y=>(Ar.sub _ _ (λq2 W=>(jm .B .b (.e (.a .A .C) .D) (.e (.a .D .U) (.a .O .B)) Y W)) λq2 W=>(tn .B .e (.l .C .B) (.e (.a .A .D) .F) (.e .F .O) J Y W))) λq1 Y=>(gr .B .b (.l .C .B) (.e .A .O) J Y))
def dK (L:eS lt)(J:0<n)(z:vn n p)(Y:m+1<=nrem)(Z:nrem<=n)(hd:nA lt p (m+1))(h1:1<=m) :
  ends n lt (kas_descPart m nrem p) λr=>vn n r.2/\1<=r.1/\r.1<=nrem/\gA lt r.2 r.1:=by
 unfold kas_descPart;apply wk (jv (λr Z=>?_) (cU L J (nrem-(m+1)) p (m+1) 0 z (oo (.k .U .L) .f) (jm (.k (.a .L .B) .C) .b (.k .D .C) (.e (.a .B .L) .D) Z (ae (cg .I .a .I Y))) hd #[by show oo (.k (.a .O .U) .L) .f,λi j a b c d=>?_]))
 ·have#[g1,g2,g3,H,g5]:=Z;have W:=g1.size;split
  ·show jv (λr Z=>#[Z.1,by show gr .C .b (.k .P .C) (.k .C .A) g2 Z.2.1,Z.2.2]) (jV L J (g1.step (mirror_perm _ _ _ _)) (cg .C .a (.k .P .A) g2) (jm .A .b (.k .A (.a .S .D)) (.e (.a .D .S) .B) g3 (ae (cg .I .a .I Y))) (cg .A .a .A Z) (DN L (lX .A [[1,1,1,-1,1]] (.k .C .D) (.k .A (.a (.a .F .U) .G)) (.e .B .D) (.e (.a .G (.a .F .U)) .C) Z g3 W (ae (cg .I .a .I Y))) H g5))
  ·show jv (λr Z=>#[Z.1,by show gr .C .b (.k .P .C) (.k .C .A) g2 Z.2.1,Z.2.2]) (jV L J g1 (cg .C .a (.k .P .A) g2) (jm .A .b (.k .A (.a .S .D)) (.e (.a .D .S) .B) g3 (ae (cg .I .a .I Y))) (cg .A .a .A Z) H)
 ·have:i=m:=by(show tq .G [[1,1,0,-1],[1,0,1,0]] (.k .C .A) (.l .A .P) (.e (.a .C (.a .O .U)) .P) a b (ae (oo (.k (.a .O .U) .L) .f)))
  have:j=m:=by(show tq .G [[1,1,0,-1],[1,0,1,0]] (.k .C .A) (.l .A .P) (.e (.a .C (.a .O .U)) .P) c d (ae (oo (.k (.a .O .U) .L) .f)))
  try clear a
  try clear c
  try clear hd
  try clear b
  try clear d
  try clear Y
  subst_vars
  show L.irr _
def t5 (W:0<n)(Y:vn n p){Q:Nat->Prop}:∀(f m:Nat),ends n lt (kas_asc p f m) Q->ends n lt (kas_asc p f m) λr=>Q r/\(r<m+f->lt (at0 p r) (at0 p (r-1))=true)
 |0=>λm h=>#[h,λq=>absurd q (oo (.g .A (.a .A .O)) .f)]
 |f+1=>λm h=>by
  have#[J,U,h]:=h;apply#[J,U,?_];cases hc:lt (at0 p m) (at0 p (m-1)) with
  |true =>
   have e:lt (p.getD m 0) (p.getD (m-1) 0)=true:=hc;rw[e]at h;apply#[h,λ_=>hc]
  |false =>
   have e:lt (p.getD m 0) (p.getD (m-1) 0)=false:=hc;rw[e]at h;show ends n lt (kas_asc p f (m+1)) _;show jv (λr Z=>#[Z.1,λq=>Z.2 (gz (.l .A (.a .P .C)) .a (.l .A (.a .B .S)) q)]) (t5 W Y f (m+1) h)
def vH (L:eS lt)(hn:0<n)(hp:vn n p)(h1:1<=nrem)(hr:nrem<=n):ends n lt (kas_count nrem p) λr=>vn n r.2/\1<=r.1/\r.1<=nrem/\gA lt r.2 r.1:=by
 unfold kas_count;have ao:=hp.size;apply wk (jv (λm hm=>?_) (t5 hn hp _ _ (lW L hn hp (nrem-1) 1 (av _))));have#[#[g1,g2,g3],g4]:=hm;have hu:gA lt p m:=g3 λi j W hj=>absurd hj (cg (.g .A .U) .a (.l .B .A) W);by_cases he:m=nrem
 ·rw[br (by simp[he])];apply#[hp,g1,by show cg .A .a .G he,hu]
 ·rw[az (by simp[he])];have J:=g4 ((cp he).elim (λZ=>(gr (.l .A (.a .U .B)) .k (.e .P .C) .H (ae (fb .C .a .C h1)) Z)) λZ=>(tq (.l .A (.a .U .B)) .h (.k .A (.a .U .B)) (.e .P .C) (.l .C .A) g2 (ae (fb .C .a .C h1)) Z));split
  ·apply#[hp.low hn _,hp.low hn _,?_];cases hc:lt (at0 p 0) (at0 p (m-1)) with
   |true=>refine#[hp,g1,by show gr .A .b (.k .A (.a .U .C)) (.e .S .B) g2 (ae (fb .C .a .C h1)),hu]
   |false =>
    show ends n lt (kas_descPart m nrem (kas_rev p 0 m)) _;have ag:∀a b,a<m->b<m->lt (at0 p a) (at0 p b)=false:=λa b ha hb=>by
     have e1:=hu.le L (i:=b) (j:=m-1) (gr .A .d .H (.e .P .C) hb (ae (fb .C .a .C g1))) (cg .B .a (.e .L .B) (ae (fb .C .a .C g1)));have e2:=hu.le L (i:=0) (j:=a) (oo (.k .O .A) .f) (cg .B .a .B ha);show L.tr _ _ _ (L.tr _ _ _ e1 hc) e2
    apply dK L hn (hp.step (mirror_perm _ _ _ _)) ((cp he).elim (λZ=>(cg .I .a .B Z)) λZ=>(tq .I .h (.k .A (.a .U .C)) (.e .S .B) (.l .B .A) g2 (ae (fb .C .a .C h1)) Z)) hr (λi j W hj=>?_) (fb .C .a .C g1);rw[bP (Ar.a4 [] [_,_,_,_,_] .A [[1,1,-1,1,1]] (.k .C .D) (.e .B .D) (.k .A (.a .U .F)) (.e (.a .F .U) .C) hr ao g2 (ae (fb .C .a .C h1))),bP (Ar.a4 [] [_,_,_,_,_] .A [[1,1,-1,1,1]] (.k .C .D) (.e .B .D) (.k .A (.a .U .F)) (.e (.a .F .U) .C) hr ao g2 (ae (fb .C .a .C h1))),br (#[(oo (.k .O .A) .f),(gr .B .b .H (.l .C .P) W hj)])];split
    ·show ag _ _ (by(rename_i z1;show Ar.sub _ _ (λZ Y=>(Ar.sub _ _ (λq2 p2=>(jm .B .b (.e (.a .A .C) .D) (.e (.a .D .U) (.a .O .B)) Y p2)) λq2 p2=>(tn .B .e (.l .C .B) (.e (.a .A .D) .F) (.e .F .O) z1.2 Y p2))) λZ Y=>(gr .B .b (.l .C .B) (.e .A .O) z1.2 Y))) (by(rename_i z2 z1;show Ar.sub _ _ (λZ Y=>(Ar.sub _ _ (λq2 p2=>(jm .B .b (.e (.a .A .C) .D) (.e (.a .D .U) (.a .O .B)) Y p2)) λq2 p2=>(mn .B .c (.l .U .B) (.k (.a .O .B) .U) z2 q2))) λZ Y=>(gr .B .b (.l .C .B) (.e .A .O) z1.2 Y)))
    ·rw[(by(rename_i z1;show(cp he).elim (λZ=>((Ar.imp g4).elim (λq2=>(i9 .G [[0,0,-1,1,1],[1,1,0,0,0]] (.l .A .P) (.e .S .D) (.l .B .D) (.g .B (.a .U .C)) hj (ae (fb .C .a .C h1)) Z q2)) λq2=>((gq.mp z1).elim (λq3=>(mn .G [[0,0,1],[1,1,0]] (.l .A .P) (.j .O .A) hj q3)) λq3=>(mn .G .g (.l .A .P) (.g .A .B) hj q3)))) λZ=>(i9 .G [[0,1,0,1,1],[1,0,1,0,0]] (.k .B (.a .U .C)) (.l .A .P) (.e .S .D) (.l .D .B) g2 hj (ae (fb .C .a .C h1)) Z)):j=m)];show L.tr _ _ _ (L.asym _ _ J) (ag _ _ (Ar.sub _ _ (λZ Y=>(Ar.sub _ _ (λq2 p2=>(jm .B .b (.e (.a .A .C) .D) (.e (.a .D .U) (.a .O .B)) Y p2)) λq2 p2=>(rq .B .e (.k .U .B) (.e (.a .A .C) .D) (.e .D .O) g1 Y p2))) λZ Y=>(mn .B .b (.k .U .B) (.e .A .O) g1 Y)) (cg .B .a (.e .L .B) (ae (fb .C .a .C g1))))
  ·have z:m=1:=by(rename_i z1;show Ar.a2 [] [_] (.e .A .U) [[1,1,0],[1,0,1]] .C (.g .U .A) g1 z1)
   apply dK L hn hp ((cp he).elim (λZ=>(cg .I .a .B Z)) λZ=>(Ar.a3 [] [_,_] .I .h (.k .U .B) (.e .A .U) (.l .B .A) h1 z Z)) hr (λi j W hj=>?_) (fb .C [[1,-1]] (.e .A .U) z);rw[(by(show i9 .G [[1,1,0,0,1],[1,0,1,1,-1]] (.e .C .U) (.l .A .D) (.l .D .S) (.e .P .C) z W hj (ae (fb .C [[1,-1]] (.e .A .U) z))):i=m-1),(by(show tq .G [[1,1,1,0],[1,0,0,1]] (.e .B .U) (.l .C .A) (.l .A .P) z W hj):j=m)];show L.asym _ _ J
def eC (L:eS lt)(hn:0<n)(hp:vn n p)(hu:gA lt p k):∀(f l r:Nat),l<=r->r<=k->r-l<=f->(∀i,i<l->lt (at0 p k) (at0 p i)=false)->(∀i,r<=i->i<k->lt (at0 p i) (at0 p k)=false) ->
  ends n lt (kas_place p k f l r) λm=>m<=k/\(∀i,i<m->lt (at0 p k) (at0 p i)=false)/\∀i,m<=i->i<k->lt (at0 p i) (at0 p k)=false
 |0=>λl r z J h3 ha hb=>#[by show gr .A .b (.k .A .C) .F z J,ha,λi Y=>hb i (rq .A [[1,1,1,-1]] (.k .C .O) (.k .D .B) (.e (.a .C .D) .A) h3 Y (ae (cg .A .a .A z)))]
 |f+1=>λl r z J h3 ha hb=>by
  unfold kas_place;split
  ·apply#[by show gr .A .b (.k .A .C) .F z J,ha,λi Y=>hb i (by(rename_i Z;show gr .A .b (.k .A .C) .F Z Y))]
  ·apply#[hp.low hn _,hp.low hn _,?_];cases hc:lt (at0 p k) (at0 p ((l+r)/2)) with
   |true =>
    show ends n lt (kas_place p k f l ((l+r)/2)) _;apply eC L hn hp hu f l _ (by(rename_i Z;show rq .A [[2,1,1,-1]] (.j .C .A) (.l .D .W) (.e (.a (.m 2 .B) .D) (.a .A .C)) Z (Ar.wg _ 2 (by decide)).1 (Ar.wg _ 2 (by decide)).2)) (by(rename_i Z;show tn .A [[2,2,1,1]] .F (.j .C .D) (.e (.a (.m 2 .A) .F) (.a .D .C)) J Z (Ar.wg _ 2 (by decide)).2)) (by(rename_i Z;show Ar.a4 [] [_,_,_,_,_,_,_] .A [[2,1,1,-1,2]] (.k .C .P) (.e (.a (.m 2 .D) .F) (.a .G .H)) (.e (.a .C .G) .H) (.e (.a .A .G) .D) h3 (Ar.wg _ 2 (by decide)).2 (ae (cg .A .a .A z)) (ae (rq .A [[2,1,1,-1]] (.j .C .A) (.l .D .W) (.e (.a (.m 2 .B) .D) (.a .A .C)) Z (Ar.wg _ 2 (by decide)).1 (Ar.wg _ 2 (by decide)).2)))) ha λi Y hk=>?_;show L.tr _ _ _ (L.asym _ _ hc) (hu.le L Y hk)
   |false =>
    show ends n lt (kas_place p k f ((l+r)/2+1) r) _;apply eC L hn hp hu f _ r (by(rename_i Z;show jm .I [[2,1,1]] (.j .B .C) (.e (.a (.m 2 .A) .D) (.a .C .B)) Z (Ar.wg _ 2 (by decide)).2)) J (by(rename_i Z;show Ar.a5 [] [_,_,_,_,_,_,_] .A [[2,1,1,-1,-1,2]] (.k .C .P) (.l .D .W) (.e (.a (.m 2 .F) .D) (.a .G .H)) (.e (.a .C .G) .H) (.e (.a .A (.a .F .U)) .H) h3 (Ar.wg _ 2 (by decide)).1 (Ar.wg _ 2 (by decide)).2 (ae (cg .A .a .A z)) (ae (jm .I [[2,1,1]] (.j .B .C) (.e (.a (.m 2 .A) .D) (.a .C .B)) Z (Ar.wg _ 2 (by decide)).2)))) (λi Y=>?_) hb;show L.tr _ _ _ (hu.le L (i:=i) (j:=(l+r)/2) (cg .A .a (.l .A .P) Y) (by(rename_i Z;show tn .B [[2,2,1,1]] .F (.j .C .D) (.e (.a (.m 2 .A) .F) (.a .D .C)) J Z (Ar.wg _ 2 (by decide)).2))) hc
def ED {p:Array Nat}{Z d:Nat}(Y:Z<p.size)(hd:d<=Z)(k:Nat):at0 (bubble p Z d) k=if k=Z-d then at0 p Z else if Z-d<k/\k<=Z then at0 p (k-1) else at0 p k:=by
 have e:=λi=>fV (p:=p) i;rw[fV,getElem?_bubble Y d hd,e Z,e (k-1),e k];split
 ·rfl
 ·split<;>rfl
def sZ (L:eS lt)(hn:0<n):∀(f:Nat) (p:Array Nat) (k:Nat),vn n p->k+f<=n->gA lt p k->ends n lt (kas_bin f p k) λq=>vn n q/\gA lt q (k+f)
 |0=>λp k hp hk hu=>#[hp,hu]
 |f+1=>λp k hp hk hu=>by
  dsimp only[kas_bin];have ao:=hp.size;apply wk (jv (λl hl=>?_) (eC L hn hp hu k 0 k (dj _) (av _) (cg .A .a (.e (.a .A .O) .B) (ae (oo (.k .O .A) .f))) (λi hi=>absurd hi (oo (.g .A .O) .f)) λi hi hk=>absurd hk (cg (.g .A .B) .a (.k .B .A) hi)));have#[g1,g2,g3]:=hl;apply jv (λq hq=>#[hq.1,by rw[show k+(f+1)=k+1+f by(show n9 (.e (.a .A .P) (.a .L .B)) [[1],[1]])];show hq.2]) (sZ L hn f (bubble p k (k-l)) (k+1) (hp.step (bubble_perm _ _ _)) (gz (.k (.a .L .B) .C) .a (.k (.a .A .P) .C) hk) λi j Z hj=>?_);have e:k-(k-l)=l:=by(show Ar.sub _ _ (λY p1=>(Ar.sub _ _ (λI p2=>(jm .G [[1,-1,1],[1,1,-1]] (.e (.a .A .C) .D) (.e (.a .C .B) .D) p1 p2)) λI p2=>(i9 .G [[1,1,-1,0,1],[1,0,1,1,0]] (.k .B .C) (.e (.a .A .D) .C) .F (.e .D .O) g1 p1 I p2))) λY p1=>(Ar.sub _ _ (λI p2=>(rq .G [[1,1,0,1],[1,0,1,0]] (.k .C .D) (.e .A .O) (.e (.a .D .B) .C) Y p1 p2)) λI p2=>(lX .G [[0,1,1,1,1],[0,1,1,1,1]] (.l .C .D) (.l .D (.a .F .U)) (.k .F .G) (.e .G .O) Z hj Y p2)))
  rw[ED (jm .B .d (.k (.a .A .S) .D) (.e .B .D) hk ao) (gz .A .a (.e (.a .A .C) .B) (ae (cg .A .a .A g1))),ED (jm .B .d (.k (.a .A .S) .D) (.e .B .D) hk ao) (gz .A .a (.e (.a .A .C) .B) (ae (cg .A .a .A g1))),e];by_cases W:j=l
  ·rw[br W,az (gr (.u .A .B) [[-1,1,1]] .H (.e .C .B) Z W),az (λY=>(tq .ff .h .B (.e .B .C) (.l .C .A) Z W Y.1))];show g2 i (gr .B .b .H (.e .C .B) Z W)
  ·rw[az W];by_cases J:l<j/\j<=k
   ·rw[br J];by_cases ag:i=l
    ·rw[br ag];show g3 _ (rq .A [[1,1,-1,-1]] (.l .C .D) (.e .C .A) (.e .P .D) Z ag (ae (cg .C .a (.l .B .A) Z))) (gr .B .b (.l .C .P) (.e .L .C) hj (ae (cg .C .a (.l .B .A) Z)))
    ·rw[az ag];split
     ·show hu _ _ (by(rename_i z1;show rq .B [[1,1,1,-1]] (.l .C .D) (.e .L .C) (.e .P .D) Z (ae (cg .C .a (.l .B .A) z1.1)) (ae (cg .C .a (.l .B .A) Z)))) (gr .B .b (.l .C .P) (.e .L .C) hj (ae (cg .C .a (.l .B .A) Z)))
     ·show hu _ _ (by(rename_i z1;show Ar.sub _ _ (λY p1=>((cp W).elim (λI=>(jm .B .c (.l .C .D) (.l .D .C) J.1 I)) λI=>((cp ag).elim (λz=>(rq .B [[1,1,-1,1]] (.l .C .D) (.e .P .D) .H J.1 (ae (cg .C .a (.l .B .A) Z)) z)) λz=>((gq.mp z1).elim (λq4=>(gr .B .c (.l .C .A) (.g .C .A) z q4)) λq4=>(rq .B .h .H (.l .C (.a .D .U)) (.j .A .D) Z hj q4))))) λY p1=>(tn .B .h (.l .C (.a .D .U)) (.l .F .C) (.k .D .F) hj J.1 Y))) (gr .B .b (.l .C .P) (.e .L .C) hj (ae (cg .C .a (.l .B .A) Z)))
   ·rw[az J,az (Ar.sub _ _ (λY p1=>((cp W).elim (λI=>(gr (.u .A .B) [[-1,1,1]] .H (.l .C .B) Z I)) λI=>((gq.mp J).elim (λz=>(gr (.u .A .B) [[-1,1,1]] .H (.g .B .C) Z z)) λz=>(jm (.u .A .B) .c (.l .C (.a .D .U)) (.j .C .D) hj z)))) λY p1=>(rq (.u .A .B) [[-1,1,1,1]] .H (.l .C (.a .D .U)) (.k .D .B) Z hj Y)),az (λY=>(Ar.sub _ _ (λI p2=>((cp W).elim (λz=>(tq .ff .h .B (.l .C .A) (.l .B .C) Z Y.1 z)) λz=>((gq.mp J).elim (λq4=>(tq .ff .h .B (.l .C .A) (.g .C .B) Z Y.1 q4)) λq4=>(mn .ff .c (.l .A .P) (.j .A .B) hj q4)))) λI p2=>(i9 .ff [[0,1,1,1,1]] .B (.l .B .S) (.l .D .A) (.k .C .D) Z hj Y.1 I)))];show hu _ _ Z ((cp W).elim (λY=>(gr .B .b .F .H g1 Y)) λY=>(Ar.sub _ _ (λI p2=>((gq.mp J).elim (λz=>(gr .B .c (.l .C .A) (.g .C .A) Y z)) λz=>(mn .B .c (.l .A .P) (.j .A .B) hj z))) λI p2=>(tq .B .h (.l .A .P) (.l .C .A) (.k .B .C) hj Y I)))
def yL (L:eS lt)(Y:0<n):ends n lt (kas_sort n) λq=>vn n q/\gA lt q n:=by
 unfold kas_sort;apply wk (jv (λr I=>?_) (vH L Y (p:=List.toArray (List.range n)) #[Array.Perm.refl _] (fb .C .a .D Y) (av _)));have#[g1,g2,g3,O]:=I;split
 ·have e:max r.1 1=r.1:=by(show(Ar.L2 _ _).2.2.elim (λZ=>(mn .G [[1,1,0],[1,0,1]] (.k .B .A) .A (Ar.L2 _ _).1 Z)) λZ=>(Ar.a3 [] [_,_] .G [[1,0,1,0],[1,1,0,1]] (.k .U .B) (.k .B .A) (.k .A .U) g2 (Ar.L2 _ _).1 Z))
  rw[e];show jv (λq W=>#[W.1,by have:=W.2;rwa [show r.1+(n-r.1)=n by(show gz (.e .M .C) [[1,-1],[1,1]] (.e (.a .B .A) .C) (ae (cg .A .a .A g3)))]at this]) (sZ L Y (n-r.1) r.2 r.1 g1 (gz (.k .M .C) .a (.e (.a .B .A) .C) (ae (cg .A .a .A g3))) O)
 ·have e:r.1=n:=by(rename_i J;show mn .G .g .A (.g .A .B) g3 J)
  apply#[g1,e▸O]
end
section
variable {prog:Program}{w:World}{A:Around}{E:QqV}{s:Shared}{kd:SortKind}{lt:Nat->Nat->Bool}
def rS {a:Addr}{vs:List Value}{n:Nat}{P:Fin->Shared->Prop}(T:eS lt)(ho:s.heap.get? a=some (seqObj "list" vs.toArray n))(z:vs.length<64)
  (hk:∀H:Heap,(∀b o,b≠a->s.heap.get? b=some o->H.get? b=some o)->2<=vs.length->∀Q:SortKind->Shared->Prop,Q kd {s with heap:=H}->wpAny (model prog w) A (keyKind' vs.toArray) Q E {s with heap:=H})
  (hO:∀H:Heap,(∀b o,b≠a->s.heap.get? b=some o->H.get? b=some o)->∀(i j:Nat) (C:Bool->Shared->Prop),i<vs.length->j<vs.length->C (lt i j) {s with heap:=H}->wpAny (model prog w) A (keyLt' kd (vs.getD i Value.none) (vs.getD j Value.none)) C (λ_ _=>False) {s with heap:=H})
  (h:∀(os:List Nat) (h':Heap) (k:Nat),os.Perm (List.range vs.length)->os.Pairwise (λi j=>lt j i=false)->(∀b o,b≠a->s.heap.get? b=some o->h'.get? b=some o)->h'.get? a=some (seqObj "list" (os.map λi=>vs.getD i Value.none).toArray k)->P (.done (.ret .none)) {s with heap:=h'}) :
  wpAny (model prog w) A (Builtin.«list.sort» #[[.ref a],[]]) P E s:=by
 have s1:=fx s.heap a (Obj.mapSeq λ_=>(#v[]:Array Value));have#[e1,ao]:∃e1,(s.heap.update a (Obj.mapSeq λ_=>(#v[]:Array Value))).get? a=some (seqObj "list" #v[] e1):=#[_,get?_update_seq ho λ_=>#v[]];rw[list_sort_plain];apply aa (listItems_at ho rfl ?_);apply aa (listUpdate_at ho rfl ?_ (by rw[bq,sizeLine_eq];(show fb (.k .A (.n 16777216)) .a (.l .A (.n 64)) z)) (dj _));apply aa (seqEpoch_at ao rfl ?_);apply aa (wpAny_newTuple ?_ (by show vs.length<=_;rw[sizeLine_eq];(show fb (.k .A (.n 16777216)) .a (.l .A (.n 64)) z)));apply aa (wpAny_newList ?_ (dj _));apply bp ?_;show wpAny _ A _ P E {s with heap:=((s.heap.update a (Obj.mapSeq λ_=>(#v[]:Array Value))).push (seqObj "tuple" vs.toArray 0)).push (seqObj "list" #v[] 0)};dsimp only;have other:∀b o,b≠a->s.heap.get? b=some o->(((s.heap.update a (Obj.mapSeq λ_=>(#v[]:Array Value))).push (seqObj "tuple" vs.toArray 0)).push (seqObj "list" #v[] 0)).get? b=some o:=λb o hb e =>
  ah _ (ah _ (by rw[s1.2 b hb];show e))
 have I:(((s.heap.update a (Obj.mapSeq λ_=>(#v[]:Array Value))).push (seqObj "tuple" vs.toArray 0)).push (seqObj "list" #v[] 0)).get? a=some (seqObj "list" #v[] e1):=ah _ (ah _ ao);generalize ((s.heap.update a (Obj.mapSeq λ_=>(#v[]:Array Value))).push (seqObj "tuple" vs.toArray 0)).push (seqObj "list" #v[] 0)=H at other I;have hl:vs.toArray.size=vs.length:=bq;have fin:∀os:List Nat,os.Perm (List.range vs.length)->os.Pairwise (λi j=>lt j i=false)->P (.done (.ret .none)) {s with heap:=H.update a (Obj.mapSeq λ_=>(os.map λi=>vs.getD i Value.none).toArray)}:=λos hp so=>by
  have#[c2,be]:∃c2,(H.update a (Obj.mapSeq λ_=>(os.map λi=>vs.getD i Value.none).toArray)).get? a=some (seqObj "list" (os.map λi=>vs.getD i Value.none).toArray c2):=#[_,get?_update_seq I λ_=>(os.map λi=>vs.getD i Value.none).toArray];have s2:=fx H a (Obj.mapSeq λ_=>(os.map λi=>vs.getD i Value.none).toArray);show h os _ c2 hp so (λb o hb e=>by rw[s2.2 b hb];show other b o hb e) be
 have last:∀(Z:SortSt) (os:List Nat),(arrOf Z).map (·.2)=(os.map λi=>vs.getD i Value.none).toArray->failedOf Z=none->os.Perm (List.range vs.length)->os.Pairwise (λi j=>lt j i=false) ->
   wpAny (model prog w) A (do
    let sorted:=(arrOf Z).map (·.2)
    let Y:=(← seqEpoch a) != e1
    Builtin.List.listUpdate (.ref a) λ_=>sorted
    if let some e:=failedOf Z then rule "list.sort.comparison-raised";throw e
    if Y then rule "list.sort.modified";raiseError "ValueError" "list modified during sort"
    ret .none) P E {s with heap:=H}:=λZ os ha hf hp so=>by
  rw[ha];apply aa (seqEpoch_at I rfl ?_);apply aa (listUpdate_at I rfl ?_ (dj _) (by rw[bq,ai,hp.length_eq,oz,sizeLine_eq];(show fb (.k .A (.a (.n 16777216) .U)) .a (.l .A (.n 64)) z)));rw[hf];simp only[dQ,dn,ju];show ab (fin os hp so)
 by_cases J:vs.toArray.size<2
 ·rw[br J,br J];apply aa (ab ?_);rw[StateT.run_pure];apply aa (ab ?_);rw[hl]at J;have e:(arrOf (SortSt.mk' general' (vs.toArray.zip vs.toArray) #v[] 7 none)).map (·.2)=((List.range vs.length).map λi=>vs.getD i Value.none).toArray:=by
   show(vs.toArray.zip vs.toArray).map (·.2)=_;have e0:vs.toArray.zip vs.toArray=(vs.zip vs).toArray:=by simp
   rw[e0,List.map_toArray,List.map_snd_zip (av _)];apply bb List.toArray (List.ext_getElem (by simp) λi h1 J=>?_);simp[List.getD,h1]
  apply last _ (List.range vs.length) e rfl (.refl _) ?_;obtain h3|h3:vs.length=0\/vs.length=1:=by(show Classical.byContradiction λq1=>((cp (not_or.mp q1).1).elim (λq2=>(fb .ff .i (.l .A .O) q2)) λq2=>((cp (not_or.mp q1).2).elim (λq3=>(Ar.a2 [] [_] .ff .c .D (.l .A .U) q2 q3)) λq3=>(Ar.a2 [] [_] .ff .c (.l .A .W) (.l .U .A) J q3))))
  ·rw[h3];show .nil
  ·rw[h3];show List.pairwise_singleton _ _
 ·rw[az J,az J];rw[hl]at J;apply aa (hk H other (fb (.k .W .A) .a (.g .A .W) J) _ ?_);have run:=xV (n:=vs.length) (lt:=lt) (cmp:=kas_ask prog w A kd vs) (s:={s with heap:=H}) (Q:=λp s'=>s'={s with heap:=H}/\vn vs.length p/\gA lt p vs.length) (t:=kas_sort vs.length) (λi j C hi hj hc=>hO H other i j C hi hj hc) (jv (λq hq=>#[rfl,hq.1,hq.2]) (yL T (fb .D .a (.g .A .W) J)));apply aa (bt (kat_run (ks:=vs) (vs:=vs) (Q:=λZ s'=>s'={s with heap:=H}/\∃p:Array Nat,arrOf Z=p.map (kas_item (vs.toArray.zip vs.toArray))/\failedOf Z=none/\vn vs.length p/\gA lt p vs.length)
   rfl (fb (.k .W .A) .a (.g .A .W) J) (fb (.l .A (.n 64)) .a (.l .A (.n 64)) z) (λp Z s' a1 a2 a3 a4=>#[a4.1,p,a2,a3,a4.2.1,a4.2.2]) run) ?_ λ_ _ e=>e)
  rintro ⟨⟨⟩,Z⟩ s' ⟨rfl,p,bl,hf,ag,ar⟩;apply last Z p.toList (kat_snds rfl bl) hf (Array.perm_iff_toList_perm.mp ag.perm) (List.pairwise_iff_getElem.mpr λi j hi hj bd=>?_);rw[iy]at hi hj;have hs:=ag.size;have:=ar i j bd (gr .B .b .H (.e .C .B) hj hs);simp only[at0,Array.getD,hi,hj,dite_true]at this;simpa using this
end
variable {ts:List (Int×Int×Int)}{C:Addr}{h:Heap}{vs:List Value}
abbrev tl (t:Int×Int×Int):List Int:=[t.1,t.2.1,t.2.2]
def xI (s t:Int×Int×Int):leT s t=!(rf (tl t) (tl s)):=rfl
abbrev LeT (s t:Int×Int×Int):Prop:=s.1<t.1\/(s.1=t.1/\(s.2.1<t.2.1\/(s.2.1=t.2.1/\s.2.2<=t.2.2)))
def xd (s t:Int×Int×Int):leT s t=true↔LeT s t:=by
 rw[xI,dp];unfold LeT;by_cases U:t.1=s.1
 ·rw[show rf (tl t) (tl s)=rf [t.2.1,t.2.2] [s.2.1,s.2.2] from br U];by_cases J:t.2.1=s.2.1
  ·rw[show rf [t.2.1,t.2.2] [s.2.1,s.2.2]=rf [t.2.2] [s.2.2] from br J];by_cases I:t.2.2=s.2.2
   ·rw[show rf [t.2.2] [s.2.2]=false from br I];apply#[λ_=>.inr #[U.symm,.inr #[J.symm,bH I.symm]],λ_=>rfl]
   ·rw[show rf [t.2.2] [s.2.2]=decide (t.2.2<s.2.2) from az I,gE]
    (show#[λW=>(.inr #[(ud (.ie .A .B) [[1,1],[1,-1]] (.ie .B .A) U),(.inr #[(ud (.ie .A .B) [[1,1],[1,-1]] (.ie .B .A) J),(ud (.ik .A .B) .a (.ig .B .A) W)])]),λW=>((lh I).elim (λZ=>(W.elim (λY=>(fY (.ig .A .B) .c (.ie .C .D) (.il .D .C) U Y)) λY=>(Y.2.elim (λO=>(fY (.ig .A .B) .c (.ie .C .D) (.il .D .C) J O)) λO=>(ud (.ig .A .B) .a (.ik .B .A) O.2)))) λZ=>(ud (.ig .A .B) .a (.il .B .A) Z))])
  ·rw[show rf [t.2.1,t.2.2] [s.2.1,s.2.2]=decide (t.2.1<s.2.1) from az J,gE]
   (show#[λW=>(.inr #[(ud (.ie .A .B) [[1,1],[1,-1]] (.ie .B .A) U),(.inl ((lh J).elim (λZ=>(Ar.a2 [_,_] [] (.il .A .B) .c (.ig .B .A) (.il .B .A) W Z)) λZ=>(ud (.il .A .B) .a (.il .A .B) Z)))]),λW=>((lh J).elim (λZ=>(W.elim (λY=>(fY (.ig .A .B) .c (.ie .C .D) (.il .D .C) U Y)) λY=>(Y.2.elim (λO=>(ud (.ig .A .B) .a (.il .B .A) O)) λO=>(ud (.ig .A .B) .a (.ie .B .A) O.1)))) λZ=>(ud (.ig .A .B) .a (.il .B .A) Z))])
 ·rw[show rf (tl t) (tl s)=decide (t.1<s.1) from az U,gE]
  (show#[λW=>(.inl ((lh U).elim (λZ=>(Ar.a2 [_,_] [] (.il .A .B) .c (.ig .B .A) (.il .B .A) W Z)) λZ=>(ud (.il .A .B) .a (.il .A .B) Z))),λW=>((lh U).elim (λZ=>(W.elim (λY=>(ud (.ig .A .B) .a (.il .B .A) Y)) λY=>(ud (.ig .A .B) .a (.ie .B .A) Y.1))) λZ=>(ud (.ig .A .B) .a (.il .B .A) Z))])
def LeT.trans {a b c:Int×Int×Int}(U:LeT a b)(W:LeT b c):LeT a c:=by
 unfold LeT at *;rcases U with p|⟨p,Y⟩
 ·show .inl (W.elim (λZ=>(Ar.a2 [_,_,_] [] (.il .A .B) .b (.il .A .C) (.il .C .B) p Z)) λZ=>(Ar.a2 [_,_,_] [] (.il .A .B) .b (.il .A .C) (.ie .C .B) p Z.1))
 ·rcases W with q|⟨q,Z⟩
  ·show .inl (Ar.a2 [_,_,_] [] (.il .A .B) .b (.ie .A .C) (.il .C .B) p q)
  ·apply .inr #[p.trans q,?_];rcases Y with p|⟨p,Y⟩
   ·show .inl (Z.elim (λZ=>(Ar.a2 [_,_,_] [] (.il .A .B) .b (.il .A .C) (.il .C .B) p Z)) λZ=>(Ar.a2 [_,_,_] [] (.il .A .B) .b (.il .A .C) (.ie .C .B) p Z.1))
   ·rcases Z with q|⟨q,Z⟩
    ·show .inl (Ar.a2 [_,_,_] [] (.il .A .B) .b (.ie .A .C) (.il .C .B) p q)
    ·show .inr #[p.trans q,ja Y Z]
def LeT.total (a b:Int×Int×Int):LeT a b\/LeT b a:=by
 rcases Int.lt_trichotomy a.1 b.1 with h|h|h
 ·show .inl (.inl h)
 ·rcases Int.lt_trichotomy a.2.1 b.2.1 with g|g|g
  ·show .inl (.inr #[h,.inl g])
  ·show(bG a.2.2 b.2.2).imp (λk=>.inr #[h,.inr #[g,k]]) λk=>.inr #[h.symm,.inr #[g.symm,k]]
  ·show .inr (.inr #[h.symm,.inl g])
 ·show .inr (.inl h)
def LeT.OT {a b:Int×Int×Int}(I:LeT a b)(J:LeT b a):a=b:=by
 unfold LeT at *;have O:a.1=b.1:=by(show I.elim (λY=>(J.elim (λZ=>(Ar.a2 [_,_] [] (.ie .A .B) .g (.il .A .B) (.il .B .A) Y Z)) λZ=>(ud (.ie .A .B) [[1,1],[1,-1]] (.ie .B .A) Z.1))) λY=>(ud (.ie .A .B) [[1,-1],[1,1]] (.ie .A .B) Y.1))
 have H:a.2.1=b.2.1:=by(show I.elim (λY=>(fY (.ie .A .B) [[0,-1,1],[0,-1,1]] (.ie .C .D) (.il .C .D) O Y)) λY=>(J.elim (λZ=>(fY (.ie .A .B) [[0,1,1],[0,1,1]] (.ie .C .D) (.il .D .C) O Z)) λZ=>(Y.2.elim (λU=>(Z.2.elim (λW=>(Ar.a2 [_,_] [] (.ie .A .B) .g (.il .A .B) (.il .B .A) U W)) λW=>(ud (.ie .A .B) [[1,1],[1,-1]] (.ie .B .A) W.1))) λU=>(ud (.ie .A .B) [[1,-1],[1,1]] (.ie .A .B) U.1))))
 have z:a.2.2=b.2.2:=by(show I.elim (λY=>(fY (.ie .A .B) [[0,-1,1],[0,-1,1]] (.ie .C .D) (.il .C .D) O Y)) λY=>(J.elim (λZ=>(fY (.ie .A .B) [[0,1,1],[0,1,1]] (.ie .C .D) (.il .D .C) O Z)) λZ=>(Y.2.elim (λU=>(fY (.ie .A .B) [[0,-1,1],[0,-1,1]] (.ie .C .D) (.il .C .D) H U)) λU=>(Z.2.elim (λW=>(fY (.ie .A .B) [[0,1,1],[0,1,1]] (.ie .C .D) (.il .D .C) H W)) λW=>(Ar.a2 [_,_] [] (.ie .A .B) .g (.ik .A .B) (.ik .B .A) U.2 W.2)))))
 show Prod.ext O (Prod.ext H z)
def dF:∀{a b:List (Int×Int×Int)},a.Perm b->a.Pairwise LeT->b.Pairwise LeT->a=b
 | [],b,Z,_,_=>by simpa using Z.nil_eq
 |x::a,[],Z,_,_=>by have:=Z.length_eq;simp at this
 |x::a,y::b,Z,O,hb=>by
  have U:=cH.mp O;have W:=cH.mp hb;have Y:x=y:=by
   have I:LeT y x:=by
    have:x∈y::b:=Z.mem_iff.mp (.head _);rcases bz.mp this with rfl|h
    ·unfold LeT;(show .inr #[(fZ (.ie .A .A) [[1],[1]]),(.inr #[(fZ (.ie .A .A) [[1],[1]]),(fZ (.ik .A .A) .f)])])
    ·show W.1 x h
   have J:LeT x y:=by
    have:y∈x::a:=Z.mem_iff.mpr (.head _);rcases bz.mp this with rfl|h
    ·unfold LeT;(show .inr #[(fZ (.ie .A .A) [[1],[1]]),(.inr #[(fZ (.ie .A .A) [[1],[1]]),(fZ (.ik .A .A) .f)])])
    ·show U.1 y h
   show J.OT I
  try clear this
  try clear hb
  subst Y;rw[dF (Z.cons_inv) U.2 W.2]
def dJ (ts:List (Int×Int×Int)):(ts.mergeSort leT).Pairwise LeT:=by
 have h:=List.pairwise_mergeSort (le:=leT) (λa b c W Y=>(xd a c).mpr (((xd a b).mp W).trans ((xd b c).mp Y))) (λa b=>by
  rcases LeT.total a b with h|h
  ·rw[(xd a b).mpr h];rfl
  ·rw[(xd b a).mpr h];simp) ts
 show h.imp λZ=>(xd _ _).mp Z
abbrev xF (ts:List (Int×Int×Int))(i j:Nat):Bool:=rf (tl (ts.getD i (0,0,0))) (tl (ts.getD j (0,0,0)))
def aN {i j:Nat}:xF ts j i=false↔LeT (ts.getD i (0,0,0)) (ts.getD j (0,0,0)):=by
 rw[<- xd,xI];unfold xF;cases rf (tl (ts.getD j (0,0,0))) (tl (ts.getD i (0,0,0)))<;>simp
def HK (ts:List (Int×Int×Int)):eS (xF ts) where
 asym:=λa b h=>by
  rw[aN];have W:¬LeT (ts.getD b (0,0,0)) (ts.getD a (0,0,0)):=λY=>by rw[<- aN]at Y;rw[h]at Y;cases Y
  rcases LeT.total (ts.getD a (0,0,0)) (ts.getD b (0,0,0)) with Z|Z
  ·show Z
  ·show absurd Z W
 tr:=λa b c W Z=>by
  rw[aN]at *;show W.trans Z
def qZ {os:List Nat}(U:os.Perm (List.range ts.length))(W:os.Pairwise λi j=>xF ts j i=false):os.map (λi=>ts.getD i (0,0,0))=ts.mergeSort leT:=by
 apply dF ?_ ?_ (dJ ts)
 ·have Z:=U.map λi=>ts.getD i (0,0,0);have Y:((List.range ts.length).map λi=>ts.getD i (0,0,0))=ts:=by
   apply List.ext_getElem ?_ ?_
   ·simp
   ·intro i Z Y;simp at Z;simp[List.getD,Z]
  rw[Y]at Z;show Z.trans (List.mergeSort_perm ts leT).symm
 ·show tH.mpr (W.imp λh=>aN.mp h)
abbrev Mts (C:Addr)(h:Heap):List (Int×Int×Int)->List Value->Prop
 | []=>λvs=>vs=[]
 |t::ts=>λvs=>∃x dd ws n us,vs=.ref x::us/\h.get? x=some (zq C dd ws n)/\IntsAre ws (tl t)/\Mts C h ts us
def Mts.length:{ts:List (Int×Int×Int)}->{vs:List Value}->Mts C h ts vs->ts.length=vs.length
 | []=>λe=>e▸rfl
 |_::_=>λZ=>by have#[_,_,_,_,_,e,_,_,r]:=Z;show e▸bb (·+1) r.length
def Mts.at (m:Mts C h ts vs)(i:Nat)(Z:i<ts.length):∃x dd ws n,vs.getD i Value.none=.ref x/\h.get? x=some (zq C dd ws n)/\IntsAre ws (tl (ts.getD i (0,0,0))):=by
 induction ts generalizing vs i with
 |nil=>show absurd Z (ku i)
 |cons t ts Y =>
  have#[x,dd,ws,n,us,e,g,q,r]:=m;subst e;cases i with
  |zero=>refine#[x,dd,ws,n,rfl,g,q]
  |succ i=>show Y r i (Nat.lt_of_succ_lt_succ Z)
def Mts.mono {h':Heap}(hk:gf h h'):{ts:List (Int×Int×Int)}->{vs:List Value}->Mts C h ts vs->Mts C h' ts vs
 | []=>λe=>e
 |_::_=>λZ=>by have#[x,dd,ws,n,us,e,g,q,r]:=Z;apply#[x,dd,ws,n,us,e,hk _ _ g (.inl #[λq=>(nomatch q),_,_,rfl]),q,r.mono hk]
def Mts.of {G:Stc}:{ts:List (Int×Int×Int)}->{vs:List Value}->VRs G h (ts.map mtV) vs->Mts G.cM h ts vs
 | []=>λe=>e
 |t::_=>λZ=>by have#[_,us,e,#[a,ws,n,dd,Y,g,r],rest]:=Z;apply#[a,dd,ws,n,us,Y▸e,g,sr (ns:=tl t) r,Mts.of rest]
def Mts.vr {G:Stc}:{ts:List (Int×Int×Int)}->{vs:List Value}->Mts G.cM h ts vs->VRs G h (ts.map mtV) vs
 | []=>λe=>e
 |t::_=>λZ=>by have#[x,_,_,_,us,e,g,q,r]:=Z;apply#[.ref x,us,e,.mt g (VRs.ints (ns:=tl t) q),r.vr]
def Mts.pick (m:Mts C h ts vs):(l:List Nat)->(∀i∈l,i<ts.length)->Mts C h (l.map λi=>ts.getD i (0,0,0)) (l.map λi=>vs.getD i Value.none)
 | []=>λ_=>rfl
 |i::l=>λZ=>by
  have#[x,dd,ws,n,e,g,W]:=m.at i (Z i (.head _));apply#[x,dd,ws,n,l.map λi=>vs.getD i Value.none,bb (·::_) e,g,W,m.pick l λj Y=>Z j (.tail _ Y)]
section
variable {G:Stc}{A:Around}{E:QqV}{s:Shared}{σ:St}
def rT (K:sd G){a:Addr}{n:Nat}{P:Fin->Shared->Prop}(hu:A.units<cLine)(Y:∀b o,G.hb.get? b=some o->s.heap.get? b=some o)(J:G.hb.get? a=none)(ho:IsL s.heap a vs.toArray n)(m:Mts G.cM s.heap ts vs)(bd:ts.length<64)
  (h:∀h' U k,At a s.heap h'->IsL h' a U.toArray k->Mts G.cM s.heap (ts.mergeSort leT) U->P (.done (.ret .none)) {s with heap:=h'}):wpAny G.M A (Builtin.«list.sort» #[[.ref a],[]]) P E s:=by
 have#[N,mN,nm,q,k0,k2,k3,hC,hN,hi,ag,_]:=K.here;have Z:=m.length;have frz:∀{H:Heap},(∀b o,b≠a->s.heap.get? b=some o->H.get? b=some o)->gf s.heap H:=λ{H} other b o e f=>other b o (λq=>by subst q;rw[show s.heap.get? b=_ from ho]at e;cases e;show yh rfl rfl f) e;apply rS (kd:=oneType') (HK ts) ho (mn (.l .A (.n 64)) .d (.l .B (.n 64)) (.e .B .A) bd Z) (λH other h2 Q' z=>?_) (λH other i j C hi hj hc=>?_) λos h' k hp so keep O=>?_
 ·have I:=m.mono (frz other);apply kas_kind (T:=.ref G.cM) h2 (λv hv=>?_) (by rfl) (by simp) z;have zz:=gp.mp hv
  try clear hv
  have#[i,hi,rfl]:=zz;have#[x,dd,ws,k,e,g,_]:=I.at i (gr .B .k (.e .B .C) .H Z hi);have e':vs[i]=.ref x:=by rw[<- e];simp[List.getD,hi]
  rw[e'];intro A Q E s' hk z;unfold typeOf;apply aa (gC (hk _ _ g) ?_);show ab z
 ·have I:=m.mono (frz other);have ar:H.get? G.cM=some (cZ G.cM N nm q k0 k2 k3):=other _ _ (λq=>by subst q;rw[J]at hC;cases hC) (Y _ _ hC);have ao:H.Ns N mN:=by
   have#[o,es,ep,W,r]:=hN;apply#[o,es,ep,other _ _ (λq=>by subst q;rw[J]at W;cases W) (Y _ _ W),r]
  have#[x,dd,ws,k,e,g,hx]:=I.at i (gr .B .k (.e .B .C) .H Z hi);have#[y,de,us,k',e',g',hy]:=I.at j (gr .B .k (.e .B .C) .H Z hj);show wpAny _ _ (keyLt' oneType' (vs.getD i Value.none) (vs.getD j Value.none)) _ _ _;rw[e,e'];show HG hu ar ao ag g g' hx hy rfl hc
 ·apply h h' _ k #[keep,#[_,O],λo e=>by have rfl:=af (e.symm.trans ho);show yh rfl rfl] O ?_;rw[<- qZ (by rw[Z];show hp) so];apply m.pick os λi hi=>?_;have:=cI.mp (hp.mem_iff.mp hi)
  (show gr .B .k (.e .B .C) .H Z this)
def B7 {C:Cal}{sc:Scope}{d:Nat}{a:Ex}{o:Expr}{apos pos:Pos}(K:sd G)(ha:dk G C sc d a o)(hb:lr o=true)(O:(apos.endLine==pos.line)=true) :
  dk G C sc d (.bm .sort a .nil) (.Call (.Attribute o "sort" apos) [] [] pos):=λA E env ρ σ Q s c h =>
 oh hb rfl (by decide) O (kq (ha c h) λv σ₁ s₁ w q vr r x pl =>
  nE (k:=.sort) r vr q.1 (og rfl lu (c.go r x) q.2 λvs σ₂ s₂ ws W H r₂ Y=>by
   have U:=vr.mono Y.frz;have zz:=pf (v:=v) W
   try clear W
   try clear vr
   have#[b,rfl,Z]:=zz;replace Z:=xA (vs:=vs) Z;have#[rfl,ts,e,J,Z]:=Z;have rfl:=H;have rfl:=U;have#[us,n,hl,hv]:=r₂.L _ _ e;have z:=r₂.new b (.inl (by rw[e];rfl));apply eh PySem.F.slot_list_sort #[_,hl,rfl] PyProof.Rows.entry_list_sort (rT K (by have:=c.ao.units;show A.units+1<_;(show gz (.l .L .B) .a (.l (.a (.a .A (.m 30 .C)) (.n 300)) .B) this)) r₂.base z hl (Mts.of hv) J λh' ar k I ag m'=>#[_,rfl,?_]) (PyProof.Rows.args_list_sort _);have hz:((ts.mergeSort leT).map mtV).length<=aw:=by
    have:=(List.mergeSort_perm ts leT).length_eq;rw[ai,this];unfold aw;(show fb (.k .A .Q) .a (.l .A (.n 64)) J)
   have R':=r₂.putL I (λq=>by rw[e]at q;cases q) ag m'.vr hz;apply#[.none,_,Z,.none,R',x.trans (Y.to (Evo.putL I (λq=>by rw[e]at q;cases q) _))]))
end
structure pe (G:Stc)(fN fM:Addr):Prop where
 made:Looks G.M G.hb (Bind.madeBy (.ref G.cM)) none
 here:Looks G.M G.hb (Bind.madeHere "tuple.__new__" (.ref G.cM)) ()
 chk:∀x,Looks G.M G.hb (checkBuiltinCall "tuple.__new__" #[[.ref G.cM,x],[]]) ()
 mro:Looks G.M G.hb (mroOf (.ref G.cM)) [.ref G.cM,.type "tuple",.type "object"]
 self:Looks G.M G.hb (isSubtype (.ref G.cM) (.ref G.cM)) true
 tup:Looks G.M G.hb (isSubtype (.ref G.cM) (.type "tuple")) true
 init:Looks G.M G.hb (typeLookup (.ref G.cM) "__init__") (some (.builtin "object.__init__"))
 call:Looks G.M G.hb (specialOf (.ref G.cM) "__call__") (some (.builtin "type.__call__"))
 typ:Looks G.M G.hb (isInstance (.ref G.cM) (.type "type")) true
 isT:Looks G.M G.hb (isType (.ref G.cM)) true
 del:Looks G.M G.hb (classHasDel G.cM) false
 new:∀(A:Around) (E:QqV) (s:Shared) (Q:QqV),(∀b o,G.hb.get? b=some o->s.heap.get? b=some o)->Q (.ref fN) {s with toks:=s.toks+1}->wpAny G.M A (getAttr (.ref G.cM) "__new__") Q E s
 make:∀(A:Around) (E:QqV) (s:Shared) (expr:Bool) (Q:QqV),(∀b o,G.hb.get? b=some o->s.heap.get? b=some o)->Q (.ref s.heap.objs.size) {s with heap:=s.heap.push {cls:=.type "method",data:=.fields #v[.ref fM,.ref G.cM]},toks:=s.toks+1}->wpAny G.M A (getAttr (.ref G.cM) "_make" expr) Q E s
 typNew:∀(A:Around) (E:QqV) (s:Shared) (expr:Bool) (Q:QqV),Q (.builtin "tuple.__new__") {s with toks:=s.toks+1}->wpAny G.M A (getAttr (.type "tuple") "__new__" expr) Q E s
def u6:plainId "tuple.__new__"=true:=by decide +kernel
def vA:entryFor table "tuple.__new__"=some Builtin.«tuple.__new__»:=bD (by kernel_rfl)
section
variable {G:Stc}{A:Around}{E:QqV}{s:Shared}{fN fM:Addr}
public abbrev aV (G:Stc)(h:Heap):Prop:=∀b o,G.hb.get? b=some o->h.get? b=some o
def yJ (K:pe G fN fM){x:Addr}{ws:List Value}{n:Nat}{Q:QqV}(hb:aV G s.heap)(W:IsT s.heap x ws.toArray n)(hz:ws.length<=aw)
  (h:∀h' y dd,(∀b o,s.heap.get? b=some o->h'.get? b=some o)->s.heap.get? y=none->h'.get? y=some (zq G.cM dd ws 0)->Q (.ref y) {s with heap:=h'}) :
  wpAny G.M A (call (.builtin "tuple.__new__") [.ref G.cM,.ref x]) Q E s:=by
 apply mq (uy u6 vA ((K.chk (.ref x)) _ _ _ _ hb ?_));unfold Builtin.«tuple.__new__»;dsimp only;apply aa (K.isT _ _ _ _ hb ?_);simp -iota only[zg,dn,ju];apply aa (K.tup _ _ _ _ hb ?_);simp -iota only[zg,dn,ju];apply aa (K.here _ _ _ _ hb ?_);apply aa (K.init _ _ _ _ hb ?_);rw[br (by decide)];have Y:ws.toArray.size<=sizeLine:=by rw[bq];show md hz
 apply aa (di (a:=()) rfl ?_);apply aa (di (a:=()) rfl ?_);apply aa ?_;apply wpAny_collect_seq x (.inr rfl) W rfl rfl (λh₁ Z=>aa (ab ?_)) Y;apply aa (iV ?_);unfold newObj newObjAsIs;dsimp only;rw[az (by simp only[bq]at Y ⊢;(show cg (.g .A .B) .a (.k .B .A) Y))];apply aa (aa (iV ?_));have hk:∀b o,s.heap.get? b=some o->((h₁.push {cls:=.type "dict",data:=.dict #v[]}).push (zq G.cM (some h₁.objs.size) ws 0)).get? b=some o:=λb o e=>ah _ (ah _ (Z b o e));have e:ws.toArray.toList.toArray=ws.toArray:=by simp
 apply aa (K.del _ _ _ _ (λb o e=>hk b o (hb b o e)) ?_);simp -iota only[dn,ju];apply ab (ab ?_);have U:(h₁.push {cls:=.type "dict",data:=.dict #v[]}).objs.size=h₁.objs.size+1:=fg ..;show Q (.ref (h₁.push {cls:=.type "dict",data:=.dict #v[]}).objs.size) _;apply h _ _ (some h₁.objs.size) hk ?_ (bc _ rfl);rw[U];cases hq:s.heap.get? (h₁.objs.size+1) with
 |none=>rfl
 |some o=>show absurd (fw (Z _ _ hq)) (th.mpr (rj _))
abbrev pD (p0 p1 p2 p3 p4 p5 p6 p7 p8 p9 p10:Pos)(doc:Str)(c0 c1:Nat):List Stmt:=
 [.Expr (.Constant (.str doc) c0 p0) p1,.Return (some (.Call (.Attribute (.Name "tuple" p2) "__new__" p3) [.Name "_cls" p4,.Tuple [.Name "a" p5,.Name "b" p6,.Name "size" p7] c1 p8] [] p9)) p10]
abbrev zp (more:List (Str×Const)):Scope:=
 {kind:=.function,names:=[("_cls",.local),("a",.local),("b",.local),("size",.local),("tuple",.globalImplicit)],isGenerator:=false,isCoroutine:=false,more:=more}
def oT {C:Cal}{sc:Scope}{d:Nat}{x:Str}{k:Nat}{p pos:Pos}:vm G C sc d .pass (.Expr (.Constant (.str x) k p) pos):=λA E env ρ σ K s c h =>
 wpAny_Expr (by
  show wpAny _ _ (mkText x) _ _ s;apply wpAny_mkText ?_;show qd.here .next h c.F c.R) (by unfold interactive;rw[c.eo.kind];rfl) (yc rfl _ _ _)
def zS (K:pe G fN fM){pl:Sem Bool}{Q:Value×List Value->Shared->Prop}(h:Q (.builtin "tuple.__new__",[]) {s with toks:=s.toks+1}):wpAny G.M A (getMethod (.type "tuple") "__new__" pl) Q E s:=by
 unfold getMethod specialOf;have Z:typeOf (.type "tuple")=pure (.type "type"):=by first|rfl|kernel_rfl
 apply aa (aa (di Z (di KF.slot_tga.lookup ?_)));dsimp only;rw[br canon_tga];show aa (K.typNew _ _ _ _ _ (ab h))
variable {σ:St}
def nY {C:Cal}{sc:Scope}{d:Nat}{env:Env}{ρ:Fr}{c e:Ex}{J O:Expr}{p apos pos:Pos}{vs:List V}{τ:St->Prop}{Q:QqV}(Kg:GOk G)(K:pe G fN fM)(hc:dk G C sc d c J)(he:dk G C sc d e O)(Z:noStar [J,O]=true)(Y:(apos.endLine==pos.line)=true)
  (hx:sc.names.lookup ("tuple":Str)=some .globalImplicit) (hg:G.gl "tuple"=some (.type "tuple")) (z:Cx G sc d A env ρ σ s)
  (hw:wpE C c ρ σ λv σ'=>wpE C e ρ σ' λu W=>v=.obj G.cM/\u=.T vs/\vs.length<=aw/\τ W)
  (k:∀σ₁ s₁ y,τ σ₁->VR G s₁.heap (.mt vs) (.ref y)->Rel G σ₁ s₁.heap->Go [] σ s σ₁ s₁->Q (.ref y) s₁) :
  wpAny G.M A (eval (.Call (.Attribute (.Name "tuple" p) "__new__" apos) [J,O] [] pos) env) Q E s:=by
 apply oh rfl Z (by simp) Y (kg Kg z.eo z.R (by rw[z.es];show hx) (by decide) hg λpl=>?_);apply zS K ?_;have I:oq G C sc d %[c,e|0] [J,O]:=jf hc (jf he lu (fj (fj Z).2).1) (fj Z).1;apply og (P:=λus σ=>on2 us λv u=>v=.obj G.cM/\u=.T vs/\vs.length<=aw/\τ σ) Z I (z.at (s₁:={s with toks:=s.toks+1}) z.F z.R) hw λus σ₁ s₁ ws q vr r U=>?_;replace q:=nJ (vs:=us) q;have#[v,u,rfl,rfl,rfl,hz,q]:=q;have B:=vr.two
 try clear vr
 have#[w1,w2,rfl,rfl,a,us,n,rfl,g,H]:=B;apply yJ K r.base g (by rw[<- H.length];show hz) λh' y dd hk hy hm=>?_;show k σ₁ _ y q (.mt hm (H.mono λb o e _=>hk b o e)) (r.keeps hk) ((Go.refl.tok.trans U).to (Evo.keeps hk))
def zw {n:Nat}{dflt:List V}{b:jo}{vs:List V}{i:Nat}{v:V}(h:vs[i]?=some v):frameOf #[n,dflt,b] vs i=some v:=by
 unfold frameOf eQ;rw[dE (cf.mp h).1];show h
def mY {d:Nat}{p0 p1 p2 p3 p4 p5 p6 p7 p8 p9 W:Pos}{doc:Str}{c0 c1:Nat}{more:List (Str×Const)}{x y z:V}{B H I:Value}{Q:V->St->Prop}(Kg:GOk G)(K:pe G fN fM)(Kf:FnAt G fN 4 [] (zp more) (pD p0 p1 p2 p3 p4 p5 p6 p7 p8 p9 W doc c0 c1))(Y:(p3.endLine==p9.line)=true)(hg:G.gl "tuple"=some (.type "tuple"))
  (ao:AOk A (d+1)) (R:Rel G σ s.heap) (vx:VR G s.heap x B) (vy:VR G s.heap y H) (vz:VR G s.heap z I) (h:Q (.mt [x,y,z]) σ):wpAny G.M A (call (.ref fN) [.ref G.cM,B,H,I]) (iv G [] σ s Q) E s:=by
 apply oC (b:=.nil) (vs:=[.obj G.cM,x,y,z]) (d:=d) Kf (λA' E' env s' c=>?_) ao R %[.obj _,vx,vy,vz|0] (by simp) (by simp);have J:Cal:=λ_ _ _ _=>False;have l:∀(i:Nat) (nm:Str) (p:Pos),(zp more).names[i]?=some (nm,.local)->jg nm=true->dk G J (zp more) d (.l i) (.Name nm p):=λi nm p hi hn=>jC hi rfl hn;apply nv (bt (oT (C:=J) (K:=λfl ρ' σ'=>fl=.next/\ρ'=frameOf #[4,[],.nil] [.obj G.cM,x,y,z]/\σ'=σ) c #[rfl,rfl,rfl]) (λf ag lf=>?_) λ_ _ x=>x);have#[fl,ρ',σ',fr,#[rfl,rfl,U],O,R2,x2]:=lf;rw[U]at O R2 x2;obtain rfl:f=.next:=fr
 apply nv (wpAny_Return_some ?_);have ht:dk G J (zp more) d (.T %[.l 1,.l 2,.l 3|0]) (.Tuple [.Name "a" p5,.Name "b" p6,.Name "size" p7] c1 p8):=
  wK (jf (l 1 _ _ rfl (by decide)) (jf (l 2 _ _ rfl (by decide)) (jf (l 3 _ _ rfl (by decide)) lu λ_=>rfl) λ_=>rfl) λ_=>rfl)
 apply nY (vs:=[x,y,z]) (τ:=λσ'=>σ'=σ) Kg K (l 0 _ _ rfl (by decide)) ht rfl Y rfl hg (c.at O R2) ?_ λσ₁ s₁ yy q vr r Z=>?_
 ·apply#[.obj G.cM,zw rfl,x,zw rfl,y,zw rfl,z,zw rfl,aq rfl,rfl,rfl,aq rfl,rfl]
 ·rw[q]at r Z;apply#[.ret (.mt [x,y,z]),_,σ,.ret vr,h,O.evo Z.e,r,x2.trans Z.wide]
end
variable {y:Addr}{dd:Option Addr}{ws:List Value}{n:Nat}
def kM:Slot "object" "__init__" "object.__init__":=
 Slot.of (owner:="object") (n:="__init__") (by rw[ec,cq];kernel_rfl) (by decide +kernel) (by decide +kernel) (by decide +kernel) (.inl (by decide +kernel)) (by rw[gh];kernel_rfl)
def rM:entryFor table "object.__init__"=some Builtin.«object.__init__»:=bD (by kernel_rfl)
def uC:builtinKind "object.__init__"=some .slot:=by kernel_rfl
def rL:splitId "object.__init__"=some ("object","__init__"):=by kernel_rfl
def uD (a:Value)(rest:List Value):argsOk "object.__init__" #[a::rest,[]]:=by unfold argsOk;kernel_rfl
section
variable {G:Stc}{A:Around}{E:QqV}{s:Shared}{fN fM:Addr}{σ:St}
def kW (K:pe G fN fM){h:Heap}{base:Value}{r:Bool}(hb:aV G h)(Z:h.get? y=some (zq G.cM dd ws n))(Y:Looks G.M G.hb (isSubtype (.ref G.cM) base) r):Looks G.M h (isInstance (.ref y) base) r:=λA Q E s hk W=>by
 unfold isInstance typeOf;apply aa (aa (gC (hk _ _ Z) (ab ?_)));show Y _ _ _ _ (λb o e=>hk _ _ (hb _ _ e)) W
def zQ (K:pe G fN fM){rest:List Value}{P:Fin->Shared->Prop}(hb:aV G s.heap)(U:s.heap.get? y=some (zq G.cM dd ws n))(W:P (.done (.ret .none)) s) :
  wpAny G.M A (Builtin.«object.__init__» #[.ref y::rest,[]]) P E s:=by
 have Y:∀{R:QqV},R (.ref G.cM) s->wpAny G.M A (typeOf (.ref y)) R E s:=λ{R} Z=>by
  unfold typeOf;show aa (gC U (ab Z))
 unfold Builtin.«object.__init__»;dsimp only;by_cases Z:(!rest.isEmpty||!([]:List (Str×Value)).isEmpty)=true
 ·rw[br Z];apply aa (Y (aa (K.init _ _ _ _ hb (aa (K.made _ _ _ _ hb ?_)))));have J:(some (Value.builtin "object.__init__") != some (Value.builtin "object.__init__"))=false:=dQ _;have O:((none:Option String) != some "object.__new__")=true:=rfl;rw[J,O];show ab W
 ·rw[az Z];show ab W
def zR (K:pe G fN fM)(Z:Looks G.M G.hb (isSubtype (.ref G.cM) (.type "object")) true){n:Nat}{rest:List Value}{Q:QqV}(hb:aV G s.heap)(Y:s.heap.get? y=some (zq G.cM dd ws n))(U:Q .none s) :
  wpAny G.M A (call (.builtin "object.__init__") (.ref y::rest)) Q E s:=by
 have O:∀(A:Around) (E:QqV) (R:Unit->Shared->Prop),R () s->wpAny G.M A (checkBuiltinCall "object.__init__" #[.ref y::rest,[]]) R E s:=λA E R W =>
  check_slot (M:=G.M) (i:="object.__init__") (owner:="object") (n:="__init__") (self:=.ref y) (rest:=rest) (kw:=[]) uC rL (kW K hb Y Z) (uD (.ref y) rest) W
 apply mq ?_;apply uy (id:="object.__init__") (b:=Builtin.«object.__init__») kM.plain rM ?_;apply O _ _ _ ?_;show zQ K hb Y U
def oR (K:pe G fN fM)(Z:Looks G.M G.hb (isSubtype (.ref G.cM) (.type "object")) true){rest:List Value}{Q:Option Value->Shared->Prop}(hb:aV G s.heap)(O:s.heap.get? y=some (zq G.cM dd ws n))(J:Q (some .none) s) :
  wpAny G.M A (callSpecial? (.ref y) "__init__" rest []) Q E s:=by
 have Y:∀{R:QqV},R (.ref G.cM) s->wpAny G.M A (typeOf (.ref y)) R E s:=λ{R} U=>by
  unfold typeOf;show aa (gC O (ab U))
 have W:∀{R:Option Value->Shared->Prop},R (some (.builtin "object.__init__")) s->wpAny G.M A (specialOf (.ref y) "__init__") R E s:=λ{R} U=>by
  unfold specialOf;show aa (Y (K.init _ _ _ _ hb U))
 unfold callSpecial?;apply aa (W ?_);dsimp only;apply bp ?_;apply aa (di (kM.bind (.ref y)) ?_);apply aa ?_;show zR K Z hb O (ab J)
structure oG (G:Stc)(fN:Addr):Prop where
 fn:∃p0 p1 p2 p3 p4 p5 p6 p7 p8 p9 p10 doc c0 c1 more,FnAt G fN 4 [] (zp more) (pD p0 p1 p2 p3 p4 p5 p6 p7 p8 p9 p10 doc c0 c1)/\(p3.endLine==p9.line)=true
 tup:G.gl "tuple"=some (.type "tuple")
 obj:Looks G.M G.hb (isSubtype (.ref G.cM) (.type "object")) true
def jR {d:Nat}{x y z:V}{H I J:Value}{Q:V->St->Prop}{P:Fin->Shared->Prop}(Kg:GOk G)(K:pe G fN fM)(U:oG G fN)(ao:AOk A (d+1))(R:Rel G σ s.heap)(vx:VR G s.heap x H)(vy:VR G s.heap y I)(B:VR G s.heap z J)(h:Q (.mt [x,y,z]) σ)
  (hP:∀w s',iv G [] σ s Q w s'->P (.done (.ret w)) s'):wpAny G.M A (Builtin.«type.__call__» #[[.ref G.cM,H,I,J],[]]) P E s:=by
 have#[p0,p1,p2,p3,p4,p5,p6,p7,p8,p9,ag,doc,c0,c1,more,Kf,Z]:=U.fn;have hb:aV G s.heap:=R.base;unfold Builtin.«type.__call__»;dsimp only;rw[az (show ¬((Value.ref G.cM==Value.type "type")=true) from jw)];apply aa (K.mro _ _ _ _ hb ?_);rw[az (by simp)];apply aa (K.made _ _ _ _ hb ?_);dsimp only;apply aa (K.new _ _ _ _ hb ?_);apply aa (bp ?_);apply bt (mY (Q:=λv σ'=>v=.mt [x,y,z]/\σ'=σ) Kg K Kf Z U.tup ao R vx vy B #[rfl,rfl]) (λw s' l=>?_) λ_ _ e=>e;have#[v,σ',#[rfl,W],vr,r,O]:=l;rw[W]at r O;have#[yy,ws,n,dd,rfl,g,rr]:=vr;have Y:aV G s'.heap:=r.base;apply aa ((kW K Y g K.self) _ _ _ s' (λ_ _ e=>e) ?_);simp only[zg,dn,ju];apply aa (bp (oR K U.obj Y g ?_));simp only[dQ,dn,ju];show ab (hP _ _ #[_,σ,h,.mt g rr,r,Go.refl.tok.trans O])
def vP {d:Nat}{x y z:V}{W Y Z:Value}{Q:V->St->Prop}(Kg:GOk G)(K:pe G fN fM)(Kn:oG G fN)(Km:sd G)(B:AOk A (d+2))(R:Rel G σ s.heap)(I:VR G s.heap x W)(J:VR G s.heap y Y)(O:VR G s.heap z Z)(h:Q (.mt [x,y,z]) σ) :
  wpAny G.M A (call (.ref G.cM) [W,Y,Z]) (iv G [] σ s Q) E s:=by
 have#[N,mN,nm,q,k0,k2,k3,H,hN,_]:=Km.here;have U:=R.base _ _ H;apply mq (mr ?_);show wpAny _ A.in1 (callAny (.ref G.cM) #[[W,Y,Z],[]]) _ _ s;unfold callAny;apply aa (ya U ?_);show wpAny _ _ (callAny.viaDunder (.ref G.cM) #[[W,Y,Z],[]]) _ _ s;unfold callAny.viaDunder;apply aa (K.call _ _ _ _ R.base ?_);dsimp only;apply aa (di (tc_bind (.ref G.cM)) ?_);dsimp only;apply aa (di (a:=true) (by rfl) ?_);rw[br rfl];apply ab #[rfl,?_];apply codeAny_call_builtin_at (yb _ (by decide +kernel)) entry_typeCall ?_;apply check_slot (M:=G.M) (i:="type.__call__") (owner:="type") (n:="__call__") tc_kind tc_split (K.typ.keeps R.base) (tc_args _ _ _) ?_;apply jR (d:=d) Kg K Kn (B.make _ _) R I J O h λw s' l=>?_;show l
end
end MP
end
section
namespace MP
open PySem PyProof.Rows PySem.W
section
variable {G:Stc}{A:Around}{E:QqV}{s:Shared}{fN fM:Addr}{σ:St}
def lT (K:pe G fN fM)(O:sd G){pos:Pos}{args:List (Bool×Sem Value)}{Q:QqV}(Z:args.any (·.1)=false)
  (h:wpAny G.M A (evalArgs (.ref G.cM) true args []) (λx s₁=>aV G s₁.heap/\wpAny G.M A (call (.ref G.cM) x.pos x.kw) Q E s₁) E s):wpAny G.M A (callWith pos (.ref G.cM) [] args []) Q E s:=by
 have#[N,mN,nm,q,k0,k2,k3,U,J,_]:=O.here;unfold callWith;apply aa (bp (bt h (λx s₁ h₁=>aa (er ?_)) λ_ _ x=>x));have#[hb,Y]:=h₁;simp -iota only[Z,List.any_nil,zf];apply aa (m:=keeperOf (.ref G.cM)) ?_;unfold keeperOf;apply aa (ya (hb _ _ U) ?_);apply aa (K.call _ _ _ _ hb ?_);rw[br (by decide)];apply ab ?_;show aa (bt Y (λr s₂ W=>aa (bp (wpAny_point (ab W)))) λ_ _ x=>x)
def oS {C:Cal}{sc:Scope}{d:Nat}{a b c:Ex}{x:Str}{O U W:Expr}{p pos:Pos}(B:GOk G)(K:pe G fN fM)(Kn:oG G fN)(H:sd G)(hd:2<=d)(ha:dk G C sc d a O)(hb:dk G C sc d b U)(hc:dk G C sc d c W)(Z:noStar [O,U,W]=true)
  (hx:sc.names.lookup x=some .globalImplicit) (hn:jg x=true) (hv:G.gl x=some (.ref G.cM)):dk G C sc d (.N a b c) (.Call (.Name x p) [O,U,W] [] pos):=λA E env ρ σ Q s z h=>by
 have J:oq G C sc d %[a,b,c|0] [O,U,W]:=jf ha (jf hb (jf hc lu (fj (fj (fj Z).2).2).1) (fj (fj Z).2).1) (fj Z).1;have I:AOk A (d-2+2):=by rw[ae hd];show z.ao
 apply Call_ (kg B z.eo z.R (by rw[z.es];show hx) hn hv (lT K H (jb Z pos env) (nt (jb Z pos env) (kD (P:=λvs σ=>on3 vs λx y z=>Q (.mt [x,y,z]) σ) (J z h) λvs σ₁ s₁ ws q vr r Y=>#[r.base,?_]))));replace q:=ND q;have#[u1,u2,u3,rfl,q]:=q;have zz:=vr.three
 try clear vr
 have#[w1,w2,w3,rfl,va,vb,vc]:=zz;show Y.back (vP B K Kn H I r va vb vc q)
def tQ:splitId "tuple.__len__"=some ("tuple","__len__"):=by kernel_rfl
def zM:builtinKind "tuple.__len__"=some .slot:=by kernel_rfl
end
section
variable {prog:Program}{w:World}{A:Around}{E:QqV}{h:Heap}{g:Array GenState}{d:Drawn}{t:Nat}{os:OsState}{C N:Addr}{nm q:Str}{k0 k2 k3:Option Value}{mN:Str->Option Value}{dd:Option Addr}
def NM {x:Addr}{ws:List Value}{n:Nat}{Q:QqV}(U:h.get? C=some (cZ C N nm q k0 k2 k3))(O:h.Ns N mN)(J:mN "__len__"=none)(W:h.get? x=some (zq C dd ws n))(hz:ws.length<=aw)
  (I:∀u tk,Q (.int ws.length u) #[h,g,d,tk,os]):wpAny (model prog w) A (call (.builtin "len") [.ref x]) Q E #[h,g,d,t,os]:=by
 apply Calls.call_function_entry kind_len plain_len entry_len (args_len1 _) ?_;unfold Builtin.«len»;have Y:=PySem.F.slot_tuple_len.lookup;have Z:h.get? x=some {cls:=.ref C,dict:=dd,data:=.seq ws.toArray n,slots:=#v[]}:=W;unfold aw at hz
 repeat (first|(with_reducible refine qg Z ?_)|(with_reducible refine wh U O Y ?_;rw[J])|wp_step)
 apply di (PySem.F.slot_tuple_len.bind (.ref x)) ?_;dsimp only;apply aa (uM U W tQ (.inl zM) PySem.F.slot_tuple_len.plain PySem.F.entry_tuple_len (PySem.F.args_tuple_len_1 _) ?_);unfold Builtin.«tuple.__len__»;apply aa (di (a:=(.ref x,[])) (by rfl) ?_);dsimp only;apply aa (m:=Builtin.Tuple.tupleItemsOf (.ref x)) (aa (mh Z rfl (ab ?_)));apply aa (wpAny_mkInt (ab #[_,rfl,ab ?_]));dsimp only;apply aa (bp ?_);apply di (a:=((ws.toArray.size:Nat):Int)) (by rfl) ?_;apply aa (wpAny_letGo ?_);rw[az (by simp),az (by simp only[bq];(show fb (.ij .L (.t .A)) .a (.k .A .Q) hz))];apply aa (wpAny_mkInt (ab #[_,rfl,?_]));simpa using I _ _
end
section
variable {G:Stc}{A:Around}{E:QqV}{s:Shared}{fN fM:Addr}{σ:St}
abbrev kS (p:Fin 20->Pos)(doc:Str)(c0 c1:Nat)(rest:List Stmt):List Stmt:=
 [.Expr (.Constant (.str doc) c0 (p 0)) (p 1),.Assign [.Name "result" (p 2)] (.Call (.Attribute (.Name "tuple" (p 3)) "__new__" (p 4)) [.Name "cls" (p 5),.Name "iterable" (p 6)] [] (p 7)) (p 8),
  .If (.Compare (.Call (.Name "len" (p 9)) [.Name "result" (p 10)] [] (p 11)) [.NotEq] [.Constant (.int 3) c1 (p 12)] (p 13)) rest [] (p 14),.Return (some (.Name "result" (p 15))) (p 16)]
abbrev pb (ns:List (Str×NameKind))(more:List (Str×Const)):Scope:=
 {kind:=.function,names:=("cls",.local)::("iterable",.local)::("result",.local)::ns,isGenerator:=false,isCoroutine:=false,more:=more}
def A2 {d:Nat}{p:Fin 20->Pos}{doc:Str}{c0 c1:Nat}{rest:List Stmt}{ns:List (Str×NameKind)}{more:List (Str×Const)}{x y z:V}{w:Value}{Q:V->St->Prop}(Kg:GOk G)(K:pe G fN fM)(Km:sd G)(Kf:FnAt G fM 2 [] (pb ns more) (kS p doc c0 c1 rest))(U:((p 4).endLine==(p 7).line)=true)(hg:G.gl "tuple"=some (.type "tuple"))(I:G.gl "len"=some (.builtin "len"))
  (ht:(pb ns more).names.lookup ("tuple":Str)=some .globalImplicit) (hl:(pb ns more).names.lookup ("len":Str)=some .globalImplicit)
  (ao:AOk A (d+1)) (R:Rel G σ s.heap) (vx:VR G s.heap (.T [x,y,z]) w) (h:Q (.mt [x,y,z]) σ):codeAny G.M A (.call (.ref fM) #[[.ref G.cM,w],[]]) (wants (iv G [] σ s Q) E) s:=by
 have#[N,mN,nm,q,k0,k2,k3,hC,hN,_,_,bl,_]:=Km.here;apply oA (b:=.nil) (vs:=[.obj G.cM,.T [x,y,z]]) (d:=d) Kf (λA' E' env s' c=>?_) ao R %[.obj _,vx|0] (by simp) (by simp);have C0:Cal:=λ_ _ _ _=>False;have l:∀(i:Nat) (nm:Str) (p:Pos),(pb ns more).names[i]?=some (nm,.local)->jg nm=true->dk G C0 (pb ns more) d (.l i) (.Name nm p):=λi nm p hi hn=>jC hi rfl hn;apply nv (bt (oT (C:=C0) (K:=λfl ρ' σ'=>fl=.next/\ρ'=frameOf #[2,[],.nil] [.obj G.cM,.T [x,y,z]]/\σ'=σ) c #[rfl,rfl,rfl]) (λf bL lf=>?_) λ_ _ x=>x);have#[fl,ρ',σ',fr,#[rfl,rfl,be],F2,R2,x2]:=lf;rw[be]at F2 R2 x2;obtain rfl:f=.next:=fr
 apply nv ?_;rw[exec_Assign];apply aa (er ?_);rw[ry rfl];apply aa (ab ?_);rw[az (by decide)];apply aa (nY (vs:=[x,y,z]) (τ:=λσ'=>σ'=σ) Kg K (l 0 _ _ rfl (by decide)) (l 1 _ _ rfl (by decide)) rfl U ht hg (c.at F2 R2) #[.obj G.cM,zw rfl,.T [x,y,z],zw rfl,rfl,rfl,aq rfl,rfl] λσ₁ s₁ yy O vr r Y=>?_);rw[O]at r Y;rw[jW (sc:=pb ns more) (r:=none) rfl c.es (by unfold Env.blockKind;rw[c.eo.kind];rfl)];apply aa (ab ?_);show wpAny G.M A' (do assignAll (.ref yy) [assign (.Name "result" (p 2)) env];pure Flow.next) _ _ _;apply aa ?_;show wpAny G.M A' (assign (.Name "result" (p 2)) env (.ref yy)) _ _ _;apply assign_Name (dW (X:=envX env) (i:=2) (k:=.local) c.eo (F2.evo Y.e) r (by rw[c.es];rfl) rfl (λ_ _ e=>nomatch e) vr (.head _) (λ_ _ e=>nomatch e) λZ F3 R3 x3=>ab ?_);dsimp only;have#[_,ws,n,dd,ey,g,rr]:=vr.mono x3.frz
 try clear g
 cases ey;have bM:=rr.length;have J:upd (frameOf #[2,[],.nil] [.obj G.cM,.T [x,y,z]]) 2 (V.mt [x,y,z]) 2=some (.mt [x,y,z]):=ay _ _ _;apply nv (wpAny_If ?_);apply vl ?_ rfl;have B:aV G Z.heap:=R3.base;have H:∀(E:QqV) (Q:QqV) (tk:Nat) (pp:Pos),(∀w,VR G Z.heap (.mt [x,y,z]) w->Q w {Z with toks:=tk})->wpAny G.M A' (eval (.Name "result" pp) env) Q E {Z with toks:=tk}:=λE Q tk pp hq =>
  wpAny_Name (eX (s:={Z with toks:=tk}) (i:=2) (k:=.local) c.eo F3 (by rw[c.es];rfl) rfl (by decide) J hq) (by decide)
 apply Call_ (kg Kg c.eo R3 (by rw[c.es];show hl) (by decide) I ?_);apply Calls.callWith_builtin rfl (Calls.evalArgs_plain (Calls.spliced_cons (H _ _ _ _ λw ag=>iY ?_)));have#[bn,bu,n',bR,rfl,g',bd]:=ag;have W:=bd.length;apply NM (B _ _ hC) (hN.keeps B) bl g' (by rw[<- W];simp[aw]) λu bv=>?_;apply wpAny_Constant_int ?_;rw[<- W];apply ne_int (qe ?_);have e:((([x,y,z]:List V).length:Int) != 3)=false:=rfl;rw[e];apply wpAny_execs_nil ?_;dsimp only;apply nv (wpAny_Return_some (H _ _ _ _ λw2 ar=>?_));apply#[.ret (.mt [x,y,z]),_,σ,.ret ar,h,F3,R3,x2.trans (Y.wide.trans x3.tok)]
end
end MP
end
section
namespace MP
open PySem PyProof.Rows PySem.W
def nH:Manifest.owners.lookup (String.ofList ['p','a','m'].reverse)=some Manifest.sig_map:=by kernel_rfl
def yv:Slot "map" "__next__" "map.__next__":=
 .of (owner:="map") (n:="__next__") (by rw[ec,cq];kernel_rfl) (by decide +kernel) (by decide +kernel) (by decide +kernel)
  (by first|show .inl (by decide +kernel)|show .inr (by decide +kernel)) (by rw[gh];kernel_rfl)
def dH:Slot "map" "__iter__" "map.__iter__":=
 .of (owner:="map") (n:="__iter__") (by rw[ec,cq];kernel_rfl) (by decide +kernel) (by decide +kernel) (by decide +kernel)
  (by first|show .inl (by decide +kernel)|show .inr (by decide +kernel)) (by rw[gh];kernel_rfl)
def mP:Slot "map" "__init__" "object.__init__":=
 .of (owner:="object") (n:="__init__") (by rw[ec,cq];kernel_rfl) (by decide +kernel) (by decide +kernel) (by decide +kernel)
  (by first|show .inl (by decide +kernel)|show .inr (by decide +kernel)) (by rw[gh];kernel_rfl)
def lI:entryFor table "map.__next__"=some Builtin.«map.__next__»:=bD (by kernel_rfl)
def mX:entryFor table "map.__new__"=some Builtin.«map.__new__»:=bD (by kernel_rfl)
def lJ:entryFor table "map.__iter__"=some Builtin.«dict_keyiterator.__iter__»:=
 aK (id':="dict_keyiterator.__iter__") (by kernel_rfl) (by first|rfl|decide +kernel|(unfold String.splitOn;simp +decide [String.splitOnAux])) (by decide +kernel) (by kernel_rfl)
def n6 (a:Value):argsOk "map.__next__" #[[a],[]]:=by
 unfold argsOk;rw[bJ (id:="map.__next__") (n:=['_','_','t','x','e','n','_','_']) (o:=['p','a','m']) (by kernel_rfl) nH];kernel_rfl
def n7 (a:Value):argsOk "map.__iter__" #[[a],[]]:=by
 unfold argsOk;rw[bJ (id:="map.__iter__") (n:=['_','_','r','e','t','i','_','_']) (o:=['p','a','m']) (by kernel_rfl) nH];kernel_rfl
def t6 (a b c:Value):argsOk "object.__init__" #[[a,b,c],[]]:=by
 unfold argsOk;rw[bJ (id:="object.__init__") (n:=['_','_','t','i','n','i','_','_']) (o:=['t','c','e','j','b','o']) (by kernel_rfl) F.owner_object];kernel_rfl
def xD:mroOf (.type "map")=pure [.type "map",.type "object"]:=by rw[mroOf_type];kernel_rfl
def kU:typeLookup (.type "map") "__new__"=pure (some (.builtin "map.__new__")):=by rw[ec,cq];kernel_rfl
def vM:TypeCalled "map" "map.__new__" "object.__init__":=
 #[by decide +kernel,by decide +kernel,#[_,_,xD],madeBy_type xD kU (by decide +kernel),by decide +kernel,by rw[gh];kernel_rfl,mP]
def oP (a b:Value):checkTypeCall "map" #[[a,b],[]]=pure ():=by kernel_rfl
def rQ (a b:Value):checkBuiltinCall "map.__new__" #[[.type "map",a,b],[]]=pure ():=by kernel_rfl
def uI:typeLookup (.type "map") "__len__"=pure none:=by rw[ec,cq];kernel_rfl
def rR:typeLookup (.type "map") "__length_hint__"=pure none:=by rw[ec,cq];kernel_rfl
def FY:isSubtype (.type "map") (.type "map")=pure true:=by rw[gh];kernel_rfl
variable {f:Value}
public abbrev iQ (h:Heap)(m t it:Addr)(f:Value):Prop:=h.get? m=some {cls:=.type "map",data:=.fields #v[.ref t,f]}/\h.get? t=some {cls:=.type "tuple",data:=.seq #v[.ref it]}
section
variable {prog:Program}{w:World}{A:Around}{E:QqV}{s:Shared}
def HE (f:Value)(l:Addr)(items:Array Value) :
  Meets (Builtin.«map.__new__» #[[.type "map",f,.ref l],[]]) (λ_ R s=>s.heap.IsList l items /\
   R (.ok (.ret (.ref (s.heap.objs.size+2)))) {s with heap:=((s.heap.push {cls:=.type "list_iterator",data:=.fields #v[.ref l,.int 0 0]}).push {cls:=.type "tuple",data:=.seq #v[.ref s.heap.objs.size]}).push {cls:=.type "map",data:=.fields #v[.ref (s.heap.objs.size+1),f]}}):=
 .of_wp λprog w A R s h=>by
  have#[Y,h]:=h;have Z:(s.heap.push {cls:=.type "list_iterator",data:=.fields #v[.ref l,.int 0 0]}).objs.size=s.heap.objs.size+1:=fg ..;unfold Builtin.«map.__new__» Builtin.SmallTypes.newClass;apply aa ?_;dsimp only;apply aa (di (a:=true) (by rfl) ?_);rw[az (by decide)];apply aa (di (a:=true) FY ?_);rw[az (by decide)];apply ab ?_;dsimp only;apply aa (di (a:=()) (by rfl) ?_);rw[az (by simp)];unfold Builtin.SmallTypes.iterAll;apply aa ?_;simp only[List.drop_succ_cons,cK,oe,mz];apply aa (aa (aa (bp (aJ Y (ab ?_)))));dsimp only;apply ab (ab ?_);show wpAny _ _ (newTuple [Value.ref s.heap.objs.size]>>=_) _ _ _;apply aa (m:=newTuple _) (iq ?_ (by first|size_fits|rfl));apply aa ?_;show wpAny _ _ (newObj (.type "map") (.fields [_,_].toArray)) _ _ _;apply iq ?_ (by first|size_fits|rfl);apply ab #[_,rfl,?_];have W:((s.heap.push {cls:=.type "list_iterator",data:=.fields #v[.ref l,.int 0 0]}).push {cls:=.type "tuple",data:=.seq #v[.ref s.heap.objs.size]}).objs.size=s.heap.objs.size+2:=by rw[fg,Z]
  simp only[Array.toList_push,List.nil_append,Z,W,List.headD];show h
def E9 {l:Addr}{items:Array Value}{Q:QqV}(O:s.heap.IsList l items)
  (h:∀h',iQ h' (s.heap.objs.size+2) (s.heap.objs.size+1) s.heap.objs.size f->h'.IsListIter s.heap.objs.size l 0->h'.objs.size=s.heap.objs.size+3->(∀b o,s.heap.get? b=some o->h'.get? b=some o)->Q (.ref (s.heap.objs.size+2)) {s with heap:=h'}) :
  wpAny (model prog w) A (call (.type "map") [f,.ref l]) Q E s:=by
 apply callType_new vM (by decide) (oP _ _) (rQ _ _) (λobj=>t6 obj _ _) mX (HE f l items) #[O,?_];have U:(s.heap.push {cls:=.type "list_iterator",data:=.fields #v[.ref l,.int 0 0]}).objs.size=s.heap.objs.size+1:=fg ..;have W:((s.heap.push {cls:=.type "list_iterator",data:=.fields #v[.ref l,.int 0 0]}).push {cls:=.type "tuple",data:=.seq #v[.ref s.heap.objs.size]}).objs.size=s.heap.objs.size+2:=by rw[fg,U]
 have Z:=bc ((s.heap.push {cls:=.type "list_iterator",data:=.fields #v[.ref l,.int 0 0]}).push {cls:=.type "tuple",data:=.seq #v[.ref s.heap.objs.size]}) (o:={cls:=.type "map",data:=.fields #v[.ref (s.heap.objs.size+1),f]}) rfl;have Y:=bc (s.heap.push {cls:=.type "list_iterator",data:=.fields #v[.ref l,.int 0 0]}) (o:={cls:=.type "tuple",data:=.seq #v[.ref s.heap.objs.size]}) rfl;rw[W]at Z;rw[U]at Y;apply#[#[_,Z,rfl],h _ #[Z,ah _ Y] #[_,ah _ (ah _ (bc _ rfl)),rfl,rfl] (by rw[fg,W]) λb o x=>ah _ (ah _ (ah _ x))]
def sV {Z f:Addr}{v:Value}{args:List Value}{R:Result->Shared->Prop}(Y:s.heap.get? Z=some {cls:=.type "method",data:=.fields #v[.ref f,v]})(h:codeAny (model prog w) A (.call (.ref f) #[v::args,[]]) R s):codeAny (model prog w) A (.call (.ref Z) #[args,[]]) R s:=by
 apply mr ?_;show wpAny _ _ (callAny (.ref Z) #[args,[]]) _ _ _;unfold callAny;apply aa (ya Y ?_);dsimp only;rw[br (by decide)];show ab #[rfl,h]
def u0 {m t it:Addr}{Q:QqV}(Y:iQ s.heap m t it f)(h:Q (.ref m) s):wpAny (model prog w) A (pyIter (.ref m)) Q E s:=by
 have Z:s.TypeIs (.ref m) "map":=#[_,Y.1,rfl];apply aH Z dH (eh dH Z lJ ?_ (n7 _));show wpAny _ _ (ret (.ref m)) _ _ s;show ab #[_,rfl,"map",_,Z,yv.lookup,h]
def kJ {m t it:Addr}{Q:Option Value->Shared->Prop}(W:iQ s.heap m t it f)
  (h:wpAny (model prog w) A.in1 (Builtin.SmallTypes.nextOf (.ref it)) (λx s₁=>iQ s₁.heap m t it f/\wpAny (model prog w) A.in1 (call f [x]) (λv s'=>Q (some v) s') (λ_ _=>False) s₁) (λe s'=>s'.TypeIs e "StopIteration"/\Q none s') s):wpAny (model prog w) A (pyNext (.ref m)) Q E s:=by
 have U:s.TypeIs (.ref m) "map":=#[_,W.1,rfl];unfold pyNext;apply aa (bI (je (name:=Str.ofString "__next__") U yv (eh yv U lI ?_ (n6 _))));show wpAny _ _ (field (.ref m) 0>>=_) _ _ s;apply aa (ux W.1 rfl (x:=.ref t) rfl ?_);apply aa (mh W.2 rfl ?_);dsimp only;apply aa ?_;simp only[List.forIn_toArray,oe,mz];apply aa (aa (bp (bt h (λx s₁ h₁=>ab ?_) λe s₁ h₁=>?_)))
 ·dsimp only;apply ab ?_;have#[Z,h₁]:=h₁;apply aa (ux Z.1 rfl (x:=f) rfl ?_);apply aa (bp (bt h₁ (λv s₂ Y=>?_) λ_ _ x=>x.elim));show aa (wpAny_letGo (ab #[_,rfl,ab Y]))
 ·show aa (vo (T:="StopIteration") (b:=true) h₁.1 isSubtype_stop (ab h₁.2))
end
end MP
end
section
namespace MP
open PySem PyProof.Rows PySem.W
structure mA (G:Stc)(fM:Addr):Prop where
 here:∃(p:Fin 20->Pos) (doc:Str) (c0 c1:Nat) (rest:List Stmt) (ns:List (Str×NameKind)) (more:List (Str×Const)),FnAt G fM 2 [] (pb ns more) (kS p doc c0 c1 rest)/\((p 4).endLine==(p 7).line)=true /\
  (pb ns more).names.lookup ("tuple":Str)=some .globalImplicit/\(pb ns more).names.lookup ("len":Str)=some .globalImplicit
 tup:G.gl "tuple"=some (.type "tuple")
 len:G.gl "len"=some (.builtin "len")
def gO (σ:St)(a:Addr)(xs ys:List V):(σ.cu a xs).cu a ys=σ.cu a ys:=by
 unfold St.cu
 congr 1
 funext j
 simp only[upd];split<;>rfl
def AOk.ins {A:Around}{d k:Nat}(h:AOk A (d+1))(hk:k<=30):AOk {A with units:=A.units+k} d:=#[h.handled,by have:=h.depth;dsimp only;(show gz (.l (.a (.a .A (.m 3 .B)) (.n 20)) .C) .a (.l (.a (.a .A (.m 3 .P)) (.n 20)) .C) this),by have:=h.units;dsimp only;(show jm (.l (.a (.a .M (.m 30 .C)) (.n 300)) .D) .b (.k .B (.n 30)) (.l (.a (.a .A (.m 30 .S)) (.n 300)) .D) hk this)]
def wU {G:Stc}{σ:St}{h h':Heap}{it:Addr}(R:Rel G σ h)(hd:¬σ.dom it)(hb:G.hb.get? it=none)(Z:∀o,h.get? it=some o->¬Frz o)(hk:∀b o,b≠it->h.get? b=some o->h'.get? b=some o):Rel G σ h':=
 R.same (λb o e Y=>hk b o (λq=>hd (q▸Y)) e) (λb o e f=>hk b o (λq=>Z o (q▸e) f) e) λb o e=>hk b o (λq=>by rw[q,hb]at e;cases e) (R.base b o e)
section
variable {G:Stc}{A:Around}{E:QqV}{s:Shared}{fN fM:Addr}{σ₀ σ:St}
def K9 {α:Type}{l:List α}(h:l.length=2):∃a b,l=[a,b]:=by
 have#[a,r,rfl]:=lq h;have#[b,r,rfl]:=lq (ua h);have Z:=gJ.mp (ua (ua h))
 try clear h
 have rfl:=Z;apply#[a,b,rfl]
def AU {α:Type}{l:List α}(h:l.length=3):∃a b c,l=[a,b,c]:=by
 have#[a,r,rfl]:=lq h;have Z:=K9 (ua h)
 try clear h
 have#[b,c,rfl]:=Z;apply#[a,b,c,rfl]
def zF {d:Nat}{l S it m t q:Addr}{ts:List (List V)}{res:Value}{R:Result->Shared->Prop}(Kg:GOk G)(K:pe G fN fM)(Km:sd G)(Mk:mA G fM)(ao:AOk A (d+2))(df:∀t∈ts,t.length=3)(ea:l≠S)(da:σ.L l=some (ts.map V.T))(hz:ts.length<=aw)
  (own:∀b∈[it,m,t,q],s.heap.get? b=none/\¬σ.dom b/\b≠S/\G.hb.get? b=none) (dL:m≠it) (dv:t≠it) (dx:q≠it)
  (hR:∀s',Rel G (σ.cu S (ts.map V.mt)) s'.heap->Go [] σ₀ s (σ.cu S (ts.map V.mt)) s'->R (.ok (.ret res)) s') :
  ∀(k i:Nat) (s':Shared),ts.length-i=k->i<=ts.length->Rel G (σ.cu S ((ts.take i).map V.mt)) s'.heap->Go [] σ₀ s (σ.cu S ((ts.take i).map V.mt)) s'->iQ s'.heap m t it (.ref q)->s'.heap.get? q=some {cls:=.type "method",data:=.fields #v[.ref fM,.ref G.cM]}->s'.heap.IsListIter it l i ->
   codeAny G.M A (.builtin "list.extend.loop" #[[.ref S,.ref m,res],[]]) R s':=by
 have#[p,doc,c0,c1,rest,ns,more,Kf,cl,cA,dV]:=Mk.here;have nd:∀(xs:List V),∀b∈[it,m,t,q],¬(σ.cu S xs).dom b:=λxs b hb dm=>(aA dm).elim (own b hb).2.1 (own b hb).2.2.1;have ag:it∈[it,m,t,q]:=.head _;have mm:m∈[it,m,t,q]:=.tail _ (.head _);have tm:t∈[it,m,t,q]:=.tail _ (.tail _ (.head _));have qm:q∈[it,m,t,q]:=.tail _ (.tail _ (.tail _ (.head _)));have nf:∀{h:Heap} {i:Nat},h.IsListIter it l i->∀o,h.get? it=some o->¬Frz o:=λ{h i} cS o e=>by
  have#[o',dz,ei,eg]:=cS;have rfl:=af (dz.symm.trans e);show jd ei eg (by decide) (by decide)
 have hL:∀(xs:List V),(σ.cu S xs).L l=some (ts.map V.T):=λxs=>by simp only[St.cu,bh ea];show da
 have cx:∀b∈[it],s.heap.get? b=none:=λb hb=>by have rfl:=ax.mp hb;show(own _ ag).1
 intro k;induction k with
 |zero =>
  intro i s' hk hi Rr x hm hq hit;have eb:i=ts.length:=by(show gr .G [[1,1,-1],[1,0,1]] (.e .C .O) (.e (.a .C .A) .B) hk (ae (cg .A .a .A hi)))
  subst eb;apply ll F.entry_extend_loop ?_;rw[mi F.plain_extend_loop _];show wpAny _ A.in1 (pyNext (.ref m)>>=_) _ _ _;have#[ws,n,hl,ch]:=Rr.L l _ (hL _);have bR:=ch.length;apply aa (kJ hm (wpAny_nextOf_list_end (A:=A.in1.in1) ao.handled hit hl.isList (by rw[List.getElem?_toArray,<- jj.symm];simp at bR;(show cg .A [[1,-1]] (.e .B .A) bR)) λh' e he dc=>#[dc,?_]));have J:∀b o,b≠it->s'.heap.get? b=some o->h'.get? b=some o:=he;have R':=wU Rr (nd _ _ ag) (own _ ag).2.2.2 (nf hit) J;have x':=x.but (s':={s' with heap:=h'}) (λb o hb e=>J b o (λq=>hb (q▸.head _)) e) .rfl cx;rw[qj]at R' x';show ab (hR _ R' x')
 |succ k ih =>
  intro i s' hk hi Rr x hm hq hit;have bd:i<ts.length:=by(show jm .B .k (.e .C (.a .D .U)) (.e (.a .C .A) .B) hk (ae (cg .A .a .A hi)))
  apply ll F.entry_extend_loop ?_;rw[mi F.plain_extend_loop _];show wpAny _ A.in1 (pyNext (.ref m)>>=_) _ _ _;have#[ws,n,hl,ch]:=Rr.L l _ (hL _);have#[w,hw,vr]:=ch.get (i:=i) (v:=.T ts[i]) (by simp[bd]);apply aa (kJ hm (wpAny_nextOf_list_item hit hl.isList (by simpa using hw) λh₁ bv ck=>?_));have J:∀b o,b≠it->s'.heap.get? b=some o->h₁.get? b=some o:=λb o hb e=>by rw[ck.2 b hb];show e
  have cB:=wU Rr (nd _ _ ag) (own _ ag).2.2.2 (nf hit) J;have cn:=x.but (s':={s' with heap:=h₁}) (λb o hb e=>J b o (λq=>hb (q▸.head _)) e) .rfl cx;have ar:iQ h₁ m t it (.ref q):=#[J _ _ dL hm.1,J _ _ dv hm.2];have bl:=J _ _ dx hq;apply#[ar,mq (sV bl ?_)];have hf:gf s'.heap h₁:=λb o e f=>J b o (λq=>nf hit o (q▸e) f) e;have h3:=df ts[i] (ze bd);have#[a,b,c,ca]:=AU h3;rw[ca]at vr;apply codeAny_mono (A2 (s:={s' with heap:=h₁}) (A:=A.in1.in1) (d:=d) (Q:=λv σ'=>v=.mt [a,b,c]/\σ'=σ.cu S ((ts.take i).map V.mt)) (E:=λ_ _=>False) Kg K Km Kf cl Mk.tup Mk.len cA dV (ao.ins (k:=2) (EO (.k .W (.n 30)) .f)) cB (vr.mono hf) #[rfl,rfl]) λr s₂ hr=>?_;cases r with
  |error e=>show hr.elim
  |ok fl =>
   cases fl with
   |ret w' =>
    have#[v,σ',#[rfl,rfl],cd,cc,bM]:=hr;have Y:∀b∈[it,m,t,q],∀o,h₁.get? b=some o->s₂.heap.get? b=some o:=λb hb o e=>bM.keep b o e (nd _ b hb) (λh=>nomatch h);have hS:(σ.cu S ((ts.take i).map V.mt)).L S=some ((ts.take i).map V.mt):=ay _ _ _;have#[us,n',bn,be]:=cc.L S _ hS;have bu:=be.length;have ed:us.length=i:=by rw[<- bu];simp;(show(Ar.nr _ _).2.2.elim (λq1=>(mn .G .g .A (.k .B .A) (Ar.nr _ _).1 q1)) λq1=>(tq .G [[1,1,0,1],[1,0,1,0]] (.k .B .C) .A (.k .C .A) hi (Ar.nr _ _).1 q1))
    have dr:(ts.take (i+1)).map V.mt=(ts.take i).map V.mt++[.mt [a,b,c]]:=by rw[ow bd,ca];simp
    have ct:us.length+1<=sizeLine:=by rw[ed];show md (gr .I .b .F .H hz bd)
    have#[cb,bL]:=tM (f:=λx=>x.push w') cc hS bn (be.append %[cd|0]) (by simp;(show rq .I .e .F (.l .D .C) (.k .A .D) hz bd (Ar.nr _ _).1)) (by simp);rw[gO,<- dr]at cb bL;show wpAny _ A.in1 (updateSeq S (·.push w')>>=_) _ _ _;have ne:∀z∈[it,m,t,q],S≠z:=λz hz e=>(own z hz).2.2.1 e.symm;have Z:∀z∈[it,m,t,q],∀o,s₂.heap.get? z=some o->(s₂.heap.update S (Obj.mapSeq (·.push w'))).get? z=some o:=λz hz o e=>(lg _ _ (ne z hz)).trans e;apply aa (dC bn rfl (ab #[j7 F.plain_extend_loop _,?_]) (by simp only[bq];(show cg .A .a .I ct)) (by simp only[Array.size_push,bq];(show cg (.k .L .P) .a .I ct)));have#[o1,dy,r1]:=bv;show ih (i+1) _ (tn .G [[1,-1,1,-1],[1,1,-1,1]] (.e .C .P) (.e (.a .C .D) .F) (.e (.a .A (.a .D .U)) .F) hk (ae (cg .A .a .A hi)) (ae (cg .I .a .B bd))) (cg .I .a .B bd) cb ((cn.trans bM).to bL) #[Z _ mm _ (Y _ mm _ ar.1),Z _ tm _ (Y _ tm _ ar.2)] (Z _ qm _ (Y _ qm _ bl)) #[o1,Z _ ag _ (Y _ ag _ dy),r1]
   |_=>show hr.elim
end
section
variable {prog:Program}{w:World}{A:Around}{E:QqV}{s:Shared}
def mZ {m t it:Addr}{f:Value}{Q:QqV}(H:iQ s.heap m t it f)
  (h:∀h' z,(∀b o,s.heap.get? b=some o->h'.get? b=some o)->IsL h' s.heap.objs.size #v[] z->codeAny (model prog w) A.in1 (.builtin "list.extend.loop" #[[.ref s.heap.objs.size,.ref m,.none],[]]) (wants (λr s₂=>r=.none/\Q (.ref s.heap.objs.size) s₂) E) {s with heap:=h'}) :
  wpAny (model prog w) A (call (.type "list") [.ref m]) Q E s:=by
 apply callType_codes (Q₁:=λobj s₁=>obj=.ref s.heap.objs.size/\s₁={s with heap:=s.heap.push {cls:=.type "list",data:=.seq #v[]}}) F.called_list (F.typeCall_list_1 _) F.entry_list_init
  (code_list_new _ #[rfl,rfl]) λobj s₁ h₁=>?_
 have#[rfl,rfl]:=h₁;have J:(s.heap.push {cls:=.type "list",data:=.seq #v[]}).get? s.heap.objs.size=some {cls:=.type "list",data:=.seq #v[]}:=bc _ rfl;apply#[#[_,J,rfl],F.args_list_init_2 _ _,?_];generalize B:s.heap.objs.size=S at J h;have lt:∀{b:Addr} {o:Obj},s.heap.get? b=some o->S≠b:=λ{b o} e q=>by have:=fw e;rw[B,q]at this;show uz _ this
 have I:S≠m:=lt H.1;show wpAny _ _ (do let old←Builtin.List.listItems (.ref S);Builtin.List.listUpdate (.ref S) (λ_=>#v[]);letGo old.toList.reverse;Builtin.List.listExtendWith (.ref S) (.ref m) .none) _ _ _;apply aa ?_;unfold Builtin.List.listItems;apply aa (mh J rfl (ab ?_));show wpAny _ _ (updateSeq S (λ_=>#v[])>>=λ_=>letGo (#v[]:Array Value).toList.reverse>>=λ_=>Builtin.List.listExtendWith (.ref S) (.ref m) .none) _ _ _;apply aa (dC J rfl ?_);have W:=jx (Obj.mapSeq (λ_=>(#v[]:Array Value))) J rfl;apply aa (wpAny_letGo ?_);have U:∀b o,s.heap.get? b=some o->((s.heap.push {cls:=.type "list",data:=.seq #v[]}).update S (Obj.mapSeq (λ_=>(#v[]:Array Value)))).get? b=some o:=
  λb o e=>(lg _ _ (lt e)).trans (ah _ e)
 have Z:iQ ((s.heap.push {cls:=.type "list",data:=.seq #v[]}).update S (Obj.mapSeq (λ_=>(#v[]:Array Value)))) m t it f:=#[U _ _ H.1,U _ _ H.2];unfold Builtin.List.listExtendWith;apply aa (aF (T:="map") #[_,Z.1,rfl] ?_);have h1:Builtin.List.listSameRef (.ref S) (.ref m)=false:=by simp[Builtin.List.listSameRef,I]
 have h2:(Value.type "map" == Value.type "list")=false:=by decide
 have h3:(Value.type "map" == Value.type "tuple")=false:=by decide
 simp only[h1,h2,h3,zf,dn,ju];apply aa (u0 Z ?_);apply aa (bp ?_);unfold Builtin.List.listLengthHint;apply aa (xw (T:="map") #[_,Z.1,rfl] uI ?_);show wpAny _ _ (specialOf (Value.ref m) (Str.ofString "__length_hint__")>>=_) _ _ _;apply aa (xw (T:="map") #[_,Z.1,rfl] rR ?_);apply ab ?_;show wpAny _ _ (rule "list.extend.makes-room" >>= λ_=>Builtin.List.listTouch (.ref S)>>=λ_=>again (.builtin "list.extend.loop" #[[.ref S,.ref m,.none],[]])) _ _ _;apply aa (su ?_);apply aa ?_;show wpAny _ _ (updateSeq S (·.push .none)>>=λ_=>updateSeq S (·.pop)) _ _ _;apply aa (dC W rfl ?_);have Y:=jx (Obj.mapSeq (·.push Value.none)) W rfl;apply dC (hz:=by seq_fits) Y rfl ?_;have O:=jx (Obj.mapSeq (·.pop)) Y rfl;apply ab #[j7 F.plain_extend_loop _,h _ _ (λb o e=>?_) O];have hb:S≠b:=lt e;show(lg _ _ hb).trans ((lg _ _ hb).trans (U b o e))
end
end MP
end
section
namespace MP
open PySem PyProof.Rows PySem.W
section
variable {G:Stc}{fN fM:Addr}{C:Cal}{sc:Scope}{d:Nat}
def mO {e:Ex}{xl xm xM:Str}{y:Expr}{p p' bl ap pos J:Pos}(Kg:GOk G)(K:pe G fN fM)(Km:sd G)(Mk:mA G fM)(hd:3<=d)(he:dk G C sc d e y)(bR:noStar [y]=true)
  (hl:sc.names.lookup xl=some .globalImplicit) (df:jg xl=true) (dc:G.gl xl=some (.type "list"))
  (hm:sc.names.lookup xm=some .globalImplicit) (da:jg xm=true) (cS:G.gl xm=some (.type "map"))
  (hM:sc.names.lookup xM=some .globalImplicit) (dx:jg xM=true) (dv:G.gl xM=some (.ref G.cM)) :
  dk G C sc d (.M e) (.Call (.Name xl p) [.Call (.Name xm p') [.Attribute (.Name xM bl) "_make" ap,y] [] J] [] pos):=λA E env ρ σ Q s c h=>by
 have R:=c.R;have bu:noStar [.Attribute (.Name xM bl) "_make" ap,y]=true:=bR;apply Call_ (kg Kg c.eo R (by rw[c.es];show hl) df dc (cF (jb (args:=[.Call (.Name xm p') [.Attribute (.Name xM bl) "_make" ap,y] [] J]) rfl pos env) (nt (jb (args:=[.Call (.Name xm p') [.Attribute (.Name xM bl) "_make" ap,y] [] J]) rfl pos env) (spliced_more ?_ rfl))));apply Call_ (kg Kg c.eo R (by rw[c.es];show hm) da cS (cF (jb bu J env) (nt (jb bu J env) (spliced_more ?_ rfl))));apply Attribute_name (kg Kg c.eo R (by rw[c.es];show hM) dx dv (K.make _ _ _ _ _ R.base ?_));have R0:=R.push {cls:=.type "method",data:=.fields #v[.ref fM,.ref G.cM]};have x0:Go [] σ s σ {s with heap:=s.heap.push {cls:=.type "method",data:=.fields #v[.ref fM,.ref G.cM]},toks:=s.toks+1}:=Go.refl.to (Evo.push _ _ _ _);apply spliced_more (kq (he (c.go R0 x0) h) λv σ₁ s₁ w q vr r z=>?_) ((fj bR).1 env);have#[l,ts,rfl,ag,h3,q]:=q;have rfl:=vr;apply iY ?_;have#[us,n,hL,dy]:=r.L _ _ ag;have hz:=r.Ll _ _ ag;simp only[ai]at hz;have ar:s.heap.get? s.heap.objs.size=none:=none_at_size _;have cb:¬σ.dom s.heap.objs.size:=λdm=>by have#[o,e]:=R.lz dm;rw[ar]at e;cases e
 have cd:(s.heap.push {cls:=.type "method",data:=.fields #v[.ref fM,.ref G.cM]}).get? s.heap.objs.size=some {cls:=.type "method",data:=.fields #v[.ref fM,.ref G.cM]}:=bc _ rfl;have cc:=z.keep _ _ cd cb (λh=>nomatch h);have ca:¬σ₁.dom s.heap.objs.size:=λdm=>(z.dom _ dm).elim cb λe=>by rw[cd]at e;cases e
 apply E9 hL.isList λZ bd hit I hk=>?_;have r₂:=r.keeps hk;have bM:Go [] σ s σ₁ {s₁ with heap:=Z}:=(x0.trans z).to (Evo.keeps hk);apply iY ?_;apply mZ bd λbn n' Y be=>?_;have hS:Z.get? Z.objs.size=none:=none_at_size _;have cl:At Z.objs.size Z bn:=At.grow hS Y be;have ck:σ₁.L Z.objs.size=none:=by
  cases hq:σ₁.L Z.objs.size with
  |none=>rfl
  |some ys=>have#[o,ho,_]:=r₂.sW hq;rw[hS]at ho;cases ho
 have cn:=r₂.putL (ws:=[]) (xs:=[]) cl (λ_=>hS) be .nil (aq rfl);have bL:Evo [] σ₁ Z (σ₁.cu Z.objs.size []) bn:=Evo.putL cl (λ_=>hS) [];have old:∀b,s₁.heap.objs.size<=b->s.heap.get? b=none/\¬σ₁.dom b/\G.hb.get? b=none:=λb hb=>by
  have e1:s₁.heap.get? b=none:=qq hb;apply#[(x0.trans z).new e1,λdm=>?_,?_]
  ·have#[o,e]:=r.lz dm;rw[e1]at e;cases e
  ·cases hq:G.hb.get? b with
   |none=>rfl
   |some o=>have:=r.base _ _ hq;rw[e1]at this;cases this
 have bv:s.heap.objs.size<s₁.heap.objs.size:=fw cc;have own:∀b∈[s₁.heap.objs.size,s₁.heap.objs.size+2,s₁.heap.objs.size+1,s.heap.objs.size],s.heap.get? b=none/\¬σ₁.dom b/\b≠Z.objs.size/\G.hb.get? b=none:=λb hb=>by
  have ch:b<Z.objs.size:=by
   simp only[bz,mu,or_false]at hb;rcases hb with rfl|rfl|rfl|rfl<;>(first|show cg .B [[1,-1]] (.e .B (.a .A (.n 3))) I Ar.y|show cg (.l (.a .A .W) .B) [[1,-1]] (.e .B (.a .A (.n 3))) I Ar.y|show cg (.l .L .B) [[1,-1]] (.e .B (.a .A (.n 3))) I Ar.y|show gr .B .k (.e .B (.a .C (.n 3))) .H I bv Ar.y|omega)
  by_cases O:s₁.heap.objs.size<=b
  ·have#[o1,o2,o3]:=old b O;apply#[o1,o2,gb ch,o3]
  ·simp only[bz,mu,or_false]at hb;rcases hb with rfl|rfl|rfl|rfl
   ·(show#[(False.elim (fb .ff .i (.j .A .A) O)),#[(λq1=>(fb .ff .i (.j .A .A) O)),#[(cg (.u .A .B) [[-1,-1]] (.e .B (.a .A (.n 3))) I),(False.elim (fb .ff .i (.j .A .A) O))]]])
   ·(show#[(False.elim (fb .ff .i (.j .A (.a .A .W)) O)),#[(λq1=>(fb .ff .i (.j .A (.a .A .W)) O)),#[(cg (.u (.a .A .W) .B) [[-1,-1]] (.e .B (.a .A (.n 3))) I),(False.elim (fb .ff .i (.j .A (.a .A .W)) O))]]])
   ·(show#[(False.elim (fb .ff .i (.j .A .L) O)),#[(λq1=>(fb .ff .i (.j .A .L) O)),#[(cg (.u .L .B) [[-1,-1]] (.e .B (.a .A (.n 3))) I),(False.elim (fb .ff .i (.j .A .L) O))]]])
   ·apply#[ar,ca,gb ch,?_];cases hq:G.hb.get? s.heap.objs.size with
    |none=>rfl
    |some o=>have:=R.base _ _ hq;rw[ar]at this;cases this
 have dr:l≠Z.objs.size:=λe=>by rw[e,ck]at ag;cases ag
 have#[oi,cB,ri]:=hit;have cA:(s₁.heap.objs.size+2:Nat)≠s₁.heap.objs.size:=by(show oo (.u (.a .A .W) .A) .f)
 have cx:(s₁.heap.objs.size+1:Nat)≠s₁.heap.objs.size:=by(show oo (.u .L .A) .f)
 have ct:(s.heap.objs.size:Nat)≠s₁.heap.objs.size:=by(show cg (.u .A .B) .j .B bv)
 apply zF (it:=s₁.heap.objs.size) (m:=s₁.heap.objs.size+2) (t:=s₁.heap.objs.size+1) (q:=s.heap.objs.size) (S:=Z.objs.size) (l:=l) (σ₀:=σ) (σ:=σ₁) (s:=s) (d:=d-3) (A:=A.in1) Kg K Km Mk ((AOk.less c.ao (d':=d-3+2+1) (cg (.k (.a (.a .A .W) .U) .B) .a (.e (.a .A (.n 3)) .B) (ae (fb (.k (.n 3) .A) .a (.k (.n 3) .A) hd)))).ins (k:=1) (EO (.k .U (.n 30)) .f)) h3 dr ag hz own cA cx ct
  (λs' R' x'=>#[rfl,_,_,q _ ck,.L _,R',x']) ts.length 0 _ rfl (dj _) (by simpa using cn) (by simpa using bM.to bL) #[Y _ _ bd.1,Y _ _ bd.2] (Y _ _ (hk _ _ cc)) #[oi,Y _ _ cB,ri]
end
end MP
end
section
namespace MP
open PySem PyProof.Rows
section
variable {G:Stc}{C:Cal}{sc:Scope}{d:Nat}
end
section
variable {tupled:Bool}{e:Ex}{o:Expr}{apos pos:Pos}
variable {G:Stc}{C:Cal}{sc:Scope}{d:Nat}
def xK {name:Str}{id:String}{it:It}{W:V->St->(List V->(St->Prop)->St->Prop)->Prop}(K:GOk G)(he:dk G C sc d e o)(hb:lr o=true)(Z:(apos.endLine==pos.line)=true)(slot:Slot "dict" name id)(ty:typeOf (.builtin id)=pure (.type "method_descriptor"))
  (hit:∀ρ σ P,qM C it ρ σ P->wpE C e ρ σ λv σ=>W v σ P) (hW:∀v σ P,W v σ P->∃a,v=.dct a/\(σ.D a).isSome=true)
  (hc:∀{A E a σ s P},AOk A d->Rel G σ s.heap->W (.dct a) σ P ->
   wpAny G.M A (call (.builtin id) [.ref a]) (λv s₁=>wpAny G.M A (pyIter v) (oI G σ s tupled P) E s₁) E s):xq G C sc d tupled it (.Call (.Attribute o name apos) [] [] pos):=λA E env ρ σ P s c h=>by
 apply oh hb rfl (by decide) Z (kq (he c (hit ρ σ P h)) λv σ₁ s₁ w q vr r x pl=>?_);have#[a,rfl,H]:=hW v σ₁ P q;have rfl:=vr;have#[xs,B]:=ba.mp H;have#[ds,hd,_]:=r.D _ _ B;apply iW hd.typeIs gH slot ty hd.mapOf.noDict ?_;apply og (C:=C) (P:=λvs σ'=>vs=[]/\σ'=σ₁) rfl lu (c.go r x) #[rfl,rfl] λvs σ₂ s₂ ws U O r₂ Y=>?_
 try clear B
 try clear H
 try clear r
 have#[rfl,rfl]:=U;have rfl:=O;apply bt (hc c.ao r₂ q) (λv _ l=>bt l (λag _ l=>?_) λ_ _ x=>x) λ_ _ x=>x;have#[I,σ',e,ht,p,hp,r',z,hn,J]:=l;have x3:=x.trans Y;apply#[I,σ',e,ht,p,hp,r',x3.trans z,λb hb=>x3.new (hn b hb),J]
def xX {σ:St}{h:Heap}{a:Addr}{es:List (Key×V)}(r:Rel G σ h)(e:σ.D a=some es):∃o ds ep,h.get? a=some o/\DRs G h es ds/\h.DictAt G.kk a ds ep/\∀h':Heap,h'.get? a=some o->h'.DictAt G.kk a ds ep:=by
 have#[ds,hd,O]:=r.D _ _ e;have#[ep,o,Z,U,W]:=hd.dictAt;apply#[o,ds,ep,U,O,#[o,Z,U,W],λh' Y=>#[o,Z,Y,W]]
def nP {σ:St}{s:Shared}{h:Heap}{a:Addr}{o:Obj}{P:List V->(St->Prop)->St->Prop}{es:List (Key×V)}(I:Itr G)(hI:I.it=h.objs.size)(Y:I.own=[h.objs.size])(O:Obj)(Z:∀b o,s.heap.get? b=some o->h.get? b=some o)(R:Rel G σ s.heap)(e:σ.D a=some es)(ho:s.heap.get? a=some o)(z:I.tup=true->tupled=true)(hp:P I.vs I.Gd (σ.bN a o))(pos:I.pos 0 (h.push O)) :
  oI G σ s tupled P (.ref h.objs.size) {s with heap:=h.push O}:=by
 have H:(σ.D a).isSome\/(σ.S a).isSome:=.inl (by rw[e];rfl);have U:Rel G (σ.bN a o) h:=(R.keeps Z).u4 (Z _ _ ho) H;have W:s.heap.get? h.objs.size=none:=by
  cases hq:s.heap.get? h.objs.size with
  |none=>rfl
  |some o=>have:=Z _ _ hq;rw[none_at_size h]at this;cases this
 apply#[I,σ.bN a o,by rw[hI],z,hp,pos,U.push _,Go.refl.to (((Evo.keeps Z).trans (Evo.u4 H)).trans (Evo.push _ _ _ _)),λb hb=>?_,λb hb=>?_]
 ·rw[Y]at hb;have rfl:=ax.mp hb;show W
 ·rw[Y]at hb;have B:=ax.mp hb
  try clear hb
  have rfl:=B;intro dz;have#[o',J]:=U.lz dz;rw[none_at_size h]at J;cases J
def HT (K:GOk G)(I:dk G C sc d e o)(hb:lr o=true)(Z:(apos.endLine==pos.line)=true):xq G C sc d tupled (.keys e) (.Call (.Attribute o "keys" apos) [] [] pos):=
 xK (it:=.keys e) (W:=AI) K I hb Z PySem.F.slot_dict_keys PySem.F.type_dict_keys (λρ σ P h=>h) (λv σ P q=>by
  have#[a,rfl,es,e,q]:=yg (v:=v) q;apply#[a,rfl,by rw[e];rfl]) @λA E a σ s P B R q=>by
 have#[es,e,q]:=q;have#[o,ds,ep,J,H,Y,O]:=xX R e;have U:=tc K R (.inr (.inl (by rw[e];rfl)):σ.dom a);apply call_meetsIn PySem.F.slot_dict_keys Y.dictOf.typeIs PySem.F.entry_dict_keys (PySem.F.args_dict_keys_1 _) (PySem.W.kdl_meets_keys G.kk a U) #[#[ds,Y.dictOf],?_];apply PySem.W.kdl_pyIter_keys #[_,bc _ rfl,rfl,rfl] (Y.push _) ?_;show nP (HP G _ a o es ds ep (pairs_at H).1 O) rfl rfl _ (λb o e=>ah _ e) R e J (λh=>nomatch h) (q o) #[_,bc _ rfl,rfl,rfl]
def DA (K:GOk G)(I:dk G C sc d e o)(hb:lr o=true)(Z:(apos.endLine==pos.line)=true):xq G C sc d true (.items e) (.Call (.Attribute o "items" apos) [] [] pos):=
 xK (it:=.items e) (W:=wC) K I hb Z PySem.F.slot_dict_items PySem.F.type_dict_items (λρ σ P h=>h) (λv σ P q=>by
  have#[a,rfl,es,e,q]:=yg (v:=v) q;apply#[a,rfl,by rw[e];rfl]) @λA E a σ s P B R q=>by
 have#[es,e,q]:=q;have#[o,ds,ep,J,H,Y,O]:=xX R e;have U:=tc K R (.inr (.inl (by rw[e];rfl)):σ.dom a);apply call_meetsIn PySem.F.slot_dict_items Y.dictOf.typeIs PySem.F.entry_dict_items (PySem.F.args_dict_items_1 _) (meets_dict_items G.kk a U) #[#[ds,Y.dictOf],?_];apply wpAny_pyIter_items #[_,bc _ rfl,rfl,rfl] (Y.push _) ?_;apply nP (D7 G _ a (gb (fw (ah _ J))) o es ds ep O) rfl rfl _ (λb o e=>ah _ e) R e J (λh=>rfl) (q o) #[#[_,_,bc _ rfl],H.mono λb o e _=>ah _ (ah _ e)]
end
section
variable {G:Stc}{C:Cal}{sc:Scope}{d:Nat}
def DRs.without {h:Heap}(k:Key):{es:List (Key×V)}->{ds:List (Key×Value)}->DRs G h es ds->DRs G h (delD es k) (PySem.without ds k)
 | [],ds=>λr=>by have rfl:=r;show .nil
 |(k',v)::es,ds=>λr=>by
  have#[w,us,rfl,a,r]:=r;have Z:=DRs.without k r;unfold delD PySem.without at Z ⊢;rw[uc,uc];by_cases c:k'=k
  ·subst c;rw[az (by simp),az (by simp)];show Z
  ·rw[br (by simpa using c),br (by simpa using c)];show .cons a Z
def GJ {o i:Ex}{x y:Expr}{p pos:Pos}(ho:dk G C sc d o x)(hi:dk G C sc d i y):vm G C sc d (.delD o i) (.Delete [.Subscript x y p] pos):=λA E env ρ σ K s c h=>by
 rw[arm_exec_Delete];apply aa (er (aa ?_));rw[arm_deleteEach_cons];apply aa (wpAny_delete_Subscript (kq (ho c h) λv σ₁ s₁ w q vr r Z=>kq (hi (c.go r Z) q) λag σ₂ s₂ z W U r₂ Y=>?_));have zz:=yg (v:=v) W
 try clear W
 have#[a,rfl,ds,kk,e,J,I,q]:=zz;have rfl:=vr;have#[vs,hd,H]:=r₂.D _ _ e;have hl:=H.look kk;have O:=H.length;unfold delItem
 try with_reducible refine bp ?_
 apply aa (wpAny_sequenceKey hd.typeIs (by decide) ?_);apply aa (je (name:=Str.ofString "__delitem__") hd.typeIs PySem.F.slot_dict_delitem
  (call_meetsIn PySem.F.slot_dict_delitem hd.typeIs PySem.F.entry_dict_delitem (PySem.F.args_dict_delitem_2 _ _) (meets_dict_delitem_pairs G.kk a (key_is J U)) #[vs,hd,by rw[<- O];show md (r₂.Dl _ _ e),?_,λh' hm hs=>?_]))
 ·cases hq:valueAt vs kk with
  |some _=>rfl
  |none =>
   have#[u,hu]:=ba.mp I;rw[hu,hq]at hl;show hl.elim
 ·have hz:(delD ds kk).length<=aw:=fk (nq _ _) (r₂.Dl _ _ e);have#[r',B]:=K7 r₂ e hs hm (H.without kk) hz;apply ab ?_;rw[arm_deleteEach_nil];apply ab (ab ?_);apply#[.next,ρ,_,.next,q,c.F.evo ((Z.trans Y).e.trans B),r',((Z.trans Y).to B).wide]
end
end MP
end
section
set_option genInjectivity false
set_option genSizeOf false
set_option backward.match.sparseCases false
namespace MP
open PySem PyProof.Rows PySem.W
section
variable {pos:Pos}{b:Ex}{y:Expr}
variable {G:Stc}{C:Cal}{sc:Scope}{d:Nat}
def BL:dk G C sc d .dct0 (.Dict [] [] pos):=λ_ _ _ _ _ _ _ c h =>
 wpAny_Dict_empty #[.dct _,_,h _ c.R.freshD,.dct _,c.R.putD (At.push _) (λ_=>none_at_size _) (λb f e=>c.R.CN (none_at_size _) e rfl) (Heap.DictOf.new _) .nil (by simp[aw]),Go.refl.to (Evo.putD (At.push _) (λ_=>none_at_size _) _)]
def G7 {op:BoolOp}(h:dk G C sc d b y):dk G C sc d b (.BoolOp op [y] pos):=λ_ _ _ _ _ _ _ c q=>BoolOp_one (h c q)
def yV (h:rt G C sc d b y):rt G C sc d b (.BoolOp .And [y] pos):=λ_ _ _ _ _ _ _ c q =>
 isTrue_and (kE (h c q) λt σ₁ s₁ q r x=>by
  cases t with
  |true=>show isTrue_and_nil (kj.back x (kj.here q r))
  |false=>show kj.back x (kj.here q r))
def yU (h:rt G C sc d b y):rt G C sc d b (.BoolOp .Or [y] pos):=λ_ _ _ _ _ _ _ c q =>
 isTrue_or (kE (h c q) λt σ₁ s₁ q r x=>by
  cases t with
  |false=>show isTrue_or_nil (kj.back x (kj.here q r))
  |true=>show kj.back x (kj.here q r))
end
structure Tab where
 cap:Str->Bool
 gl:List (Str×Value)
 attrs:List Str
 meths:List (Nat×Str)
 fns:List (Nat×Addr)
 cM:Addr
 cS:Addr
structure TabOk (G:Stc)(T:Tab)(C:Cal)(d:Nat):Prop where
 g:GOk G
 gl:∀x v,T.gl.lookup x=some v->G.gl x=some v
 attrs:G.attrs=T.attrs
 cap:G.cap=T.cap
 cal:dP G (λk=>T.fns.lookup k) C (d-1)
 lam:mB G C (d-1)
 meth:∀k name,T.meths.lookup k=some name->∃f,T.fns.lookup k=some f/\MethAt G name f
 init:∃f,T.fns.lookup 0=some f/\mG G f
 cM:G.cM=T.cM
 cS:G.cS=T.cS
 mt:∃fN fM,pe G fN fM/\oG G fN/\mA G fM
 ma:sd G
 unp:AA G
 d3:3<=d
abbrev ym (i:Nat)(x:Expr):Option Expr:=match i with|0=>(vw x).b.1|_=>(vw x).b.2
abbrev fe (x:Expr):List Comprehension×Scope:=(vw x).g
abbrev hdG:List Comprehension->Expr×Expr×List Expr
 |g::_=>(g.target,g.iter,g.ifs)
 | []=>(default,default,[])
abbrev LZ (x:Expr):Bool:=bC 0 x&&!(kids x).isEmpty
abbrev zu (x:Expr):BoolOp×List Expr×Pos:=((vw x).op,kids x,x.pos)
def OJ {x:Expr}(h:LZ x=true):∃z r,(zu x).2.1=z::r/\x=.BoolOp (zu x).1 (z::r) (zu x).2.2:=by
 have#[h0,Z]:=band h
 revert Z
 apply Expr.BoolOp.elim (motive_1:=λx=>(!(kids x).isEmpty)=true->∃z r,(zu x).2.1=z::r/\x=.BoolOp (zu x).1 (z::r) (zu x).2.2) x (yq h0) λop values p Z=>?_;cases values with
 |nil=>cases Z
 |cons z r=>refine#[z,r,rfl,rfl]
abbrev many (x:Expr):Bool:=!(kids x).tail.tail.isEmpty
abbrev bo (op:BoolOp)(a b:Expr)(p:Pos)(m:Bool):Expr:=.BoolOp op (a::bif m then (zu b).2.1 else [b]) p
abbrev CI (op:BoolOp)(b:Expr)(p:Pos)(m:Bool):Bool:=!m||(LZ b&&(decide ((zu b).1=op)&&decide ((zu b).2.2=p)))
abbrev hint (op:BoolOp)(x:Expr):Expr:=bif many x then .BoolOp op (kids x).tail x.pos else kid 1 x
def sY {op:BoolOp}{b:Expr}{p:Pos}:(m:Bool)->CI op b p m=true->m=false\/∃z r,b=.BoolOp op (z::r) p/\∀a,bo op a b p m=.BoolOp op (a::z::r) p
 |false,_=>.inl rfl
 |true,h=>by
  have#[h0,Z]:=band (show(LZ b&&(decide ((zu b).1=op)&&decide ((zu b).2.2=p)))=true from h);have#[Z,W]:=band Z;have Y:=ak Z;clear Z
  try clear Z
  try clear h
  have rfl:=Y;have Y:=ak W
  try clear W
  have rfl:=Y;have#[z,r,e,U]:=OJ h0;show .inr #[z,r,U,λa=>bb (λl=>Expr.BoolOp (zu b).1 (a::l) (zu b).2.2) e]
abbrev glob (T:Tab)(sc:Scope)(x:Str)(v:Value):Bool:=decide (sc.names.lookup x=some .globalImplicit)&&(jg x&&decide (T.gl.lookup x=some v))
abbrev kO (x:Expr):Bool:=!(bC 7 x)
abbrev j0 (sc:Scope):Tg->Expr->Expr
 |.v i=>λx=>.Name (vi sc i) x.pos
 |.T is=>λx=>.Tuple (rz sc is (kids x)) (exK x) x.pos
abbrev zE (T:Tab)(sc:Scope):Tg->Expr->Bool
 |.v i=>λ_=>ownAt T.cap sc i
 |.T is=>λx=>oY T.cap sc is
abbrev Exs.isNil:Exs->Bool
 |.nil=>true
 |_=>false
abbrev EK:BF->Nat
 |.len=>1
 |.set=>0
abbrev Exs.len:Exs->Nat
 |.nil=>0
 |.cons _ es=>es.len+1
abbrev y5:BF->Value
 |.len=>.builtin "len"
 |.set=>.type "set"
abbrev K2:BX->Value
 |.cu=>.type "set"
abbrev HV:BF->Bool
 |_=>false
abbrev isSort:BM->Bool
 |.sort=>true
 |_=>false
abbrev nm (x:Expr):Expr:=.Name (kh x) x.pos
abbrev Ex.isNone:Ex->Bool
 |.none=>true
 |_=>false
mutual
noncomputable def reE (T:Tab):Ex->Scope->Expr->Expr
 |.none=>λ_ x=>.Constant .none (exK x) x.pos
 |.bool b=>λ_ x=>.Constant (.bool b) (exK x) x.pos
 |.int i=>λ_ x=>.Constant (.int i) (exK x) x.pos
 |.str t=>λ_ x=>.Constant (.str t) (exK x) x.pos
 |.l i=>λsc x=>.Name (vi sc i) x.pos
 |.b op a b=>λsc x=>.BinOp (reE T a sc (kid 0 x)) (binOp op) (reE T b sc (kid 1 x)) x.pos
 |.neg a=>λsc x=>.UnaryOp .USub (reE T a sc (kid 0 x)) x.pos
 |.not a=>λsc x=>.UnaryOp .Not (reE T a sc (kid 0 x)) x.pos
 |.and a b=>λsc x=>bo .And (reE T a sc (kid 0 x)) (reE T b sc (hint .And x)) x.pos (many x)
 |.or a b=>λsc x=>bo .Or (reE T a sc (kid 0 x)) (reE T b sc (hint .Or x)) x.pos (many x)
 |.c op a b=>λsc x=>.Compare (reE T a sc (kid 0 x)) [iP op] [reE T b sc (kid 1 x)] x.pos
 |.I c a b=>λsc x=>.IfExp (reE T c sc (kid 0 x)) (reE T a sc (kid 1 x)) (reE T b sc (kid 2 x)) x.pos
 |.L es=>λsc x=>.List (pd T es sc (kids x)) x.pos
 |.T es=>λsc x=>.Tuple (pd T es sc (kids x)) (exK x) x.pos
 |.dct0=>λ_ x=>.Dict [] [] x.pos
 |.call _ es=>λsc x=>.Call (nm (kid 0 x)) (pd T es sc (kids x).tail) [] x.pos
 |.meth e m es=>λsc x=>.Call (.Attribute (reE T e sc (kid 0 (kid 0 x))) ((T.meths.lookup m).getD "") (kid 0 x).pos) (pd T es sc (kids x).tail) [] x.pos
 |.attr e i=>λsc x=>.Attribute (reE T e sc (kid 0 x)) ((T.attrs[i]?).getD "") x.pos
 |.g e=>λsc x=>.Attribute (reE T e sc (kid 0 x)) "get" x.pos
 |.h e=>λsc x=>.Attribute (reE T e sc (kid 0 x)) "__contains__" x.pos
 |.dhasOf e=>λsc x=>.Attribute (reE T e sc (kid 0 x)) "__contains__" x.pos
 |.flt=>λ_ x=>.Constant (.float 0x3FF0000000000000) (exK x) x.pos
 |.ratio a b=>λsc x=>.BinOp (.BinOp (.Constant (.float 0x4000000000000000) (exK (kid 0 (kid 0 x))) (kid 0 (kid 0 x)).pos) .Mult (reE T a sc (kid 1 (kid 0 x))) (kid 0 x).pos) .Div (reE T b sc (kid 1 x)) x.pos
 |.neS a b=>λsc x=>.Compare (reE T a sc (kid 0 x)) [.NotEq] [reE T b sc (kid 1 x)] x.pos
 |.bm k e es=>λsc x=>.Call (.Attribute (reE T e sc (kid 0 (kid 0 x))) (qA k) (kid 0 x).pos) (pd T es sc (kids x).tail) [] x.pos
 |.bf k es=>λsc x=>.Call (nm (kid 0 x)) (pd T es sc (kids x).tail) [] x.pos
 |.w f es=>λsc x=>.Call (.Name (vi sc f) (kid 0 x).pos) (pd T es sc (kids x).tail) [] x.pos
 |.sub e i=>λsc x=>.Subscript (reE T e sc (kid 0 x)) (reE T i sc (kid 1 x)) x.pos
 |.slc e lo hi=>λsc x=>.Subscript (reE T e sc (kid 0 x)) (.Slice ((ym 0 (kid 1 x)).map (reE T lo sc)) ((ym 1 (kid 1 x)).map (reE T hi sc)) none (kid 1 x).pos) x.pos
 |.K _ it t cs more=>λsc x=>.ListComp (wW T more (kf (fe x).2 sc) (kid 0 x))
   (#[j0 (kf (fe x).2 sc) t (hdG (fe x).1).1,kF T it sc (hdG (fe x).1).2.1,pd T cs (kf (fe x).2 sc) (hdG (fe x).1).2.2,0]::C9 T more (kf (fe x).2 sc) (fe x).1.tail) (fe x).2 x.pos
 |.bx _ e=>λsc x=>.Call (nm (kid 0 x)) [reE T e sc (kid 1 x)] [] x.pos
 |.n es=>λsc x=>.Call (nm (kid 0 x)) (pd T es sc (kids x).tail) [] x.pos
 |.N a b c=>λsc x=>.Call (nm (kid 0 x)) [reE T a sc (kid 1 x),reE T b sc (kid 2 x),reE T c sc (kid 3 x)] [] x.pos
 |.M e=>λsc x=>.Call (nm (kid 0 x)) [.Call (nm (kid 0 (kid 1 x))) [.Attribute (nm (kid 0 (kid 1 (kid 1 x)))) "_make" (kid 1 (kid 1 x)).pos,reE T e sc (kid 2 (kid 1 x))] [] (kid 1 x).pos] [] x.pos
 |.dead=>λ_ x=>x
noncomputable def pd (T:Tab):Exs->Scope->List Expr->List Expr
 |.nil=>λ_ _=>[]
 |.cons e es=>λsc l=>reE T e sc (l.headD default)::pd T es sc l.tail
noncomputable def kF (T:Tab):It->Scope->Expr->Expr
 |.rng1 e=>λsc x=>.Call (nm (kid 0 x)) [reE T e sc (kid 1 x)] [] x.pos
 |.rng2 e f=>λsc x=>.Call (nm (kid 0 x)) [reE T e sc (kid 1 x),reE T f sc (kid 2 x)] [] x.pos
 |.enum e=>λsc x=>.Call (nm (kid 0 x)) [reE T e sc (kid 1 x)] [] x.pos
 |.seq e=>λsc x=>reE T e sc x
 |.keys e=>λsc x=>.Call (.Attribute (reE T e sc (kid 0 (kid 0 x))) "keys" (kid 0 x).pos) [] [] x.pos
 |.items e=>λsc x=>.Call (.Attribute (reE T e sc (kid 0 (kid 0 x))) "items" (kid 0 x).pos) [] [] x.pos
noncomputable def C9 (T:Tab):Gens->Scope->List Comprehension->List Comprehension
 |.elt _=>λ_ _=>[]
 |.eltP _ _=>λ_ _=>[]
 |.cons it t cs more=>λsc l=>#[j0 sc t (hdG l).1,kF T it sc (hdG l).2.1,pd T cs sc (hdG l).2.2,0]::C9 T more sc l.tail
noncomputable def wW (T:Tab):Gens->Scope->Expr->Expr
 |.elt e=>λsc x=>reE T e sc x
 |.eltP _ _=>λ_ x=>x
 |.cons _ _ _ more=>λsc x=>wW T more sc x
end
abbrev tOk:Ex->Bool
 |.not a=>tOk a
 |.and a b=>tOk a&&tOk b
 |.or a b=>tOk a&&tOk b
 |.I _ a b=>tOk a&&tOk b
 |.c _ _ _=>true
 |.neS _ _=>true
 |.l _=>true
 |.attr _ _=>true
 |.w _ _=>true
 |.sub _ _=>true
 |.b _ _ _=>true
 |.dead=>true
 |_=>false
mutual
noncomputable def okE (T:Tab):Ex->Scope->Expr->Bool
 |.none=>λ_ _=>true
 |.bool _=>λ_ _=>true
 |.int _=>λ_ _=>true
 |.str _=>λ_ _=>true
 |.l i=>λsc _=>kindAt isVar sc i
 |.b _ a b=>λsc x=>okE T a sc (kid 0 x)&&okE T b sc (kid 1 x)
 |.neg a=>λsc x=>okE T a sc (kid 0 x)
 |.not a=>λsc x=>okE T a sc (kid 0 x)
 |.and a b=>λsc x=>okE T a sc (kid 0 x)&&(okE T b sc (hint .And x)&&CI .And (reE T b sc (hint .And x)) x.pos (many x))
 |.or a b=>λsc x=>okE T a sc (kid 0 x)&&(okE T b sc (hint .Or x)&&CI .Or (reE T b sc (hint .Or x)) x.pos (many x))
 |.c op a b=>λsc x=>okE T a sc (kid 0 x)&&(okE T b sc (kid 1 x)&&!(behindInMarks (iP op) (reE T b sc (kid 1 x))))
 |.I c a b=>λsc x=>tOk c&&(okE T c sc (kid 0 x)&&(okE T a sc (kid 1 x)&&okE T b sc (kid 2 x)))
 |.L es=>λsc x=>noStar (pd T es sc (kids x))&&gT T es sc (kids x)
 |.T es=>λsc x=>noStar (pd T es sc (kids x))&&gT T es sc (kids x)
 |.dct0=>λ_ _=>true
 |.call f es=>λsc x=>(T.fns.lookup f).any (λa=>glob T sc (kh (kid 0 x)) (.ref a))&&(noStar (pd T es sc (kids x).tail)&&gT T es sc (kids x).tail)
 |.meth e m es=>λsc x=>(T.meths.lookup m).isSome&&(okE T e sc (kid 0 (kid 0 x))&&(lr (reE T e sc (kid 0 (kid 0 x)))&&(((kid 0 x).pos.endLine==x.pos.line)&&(decide ((pd T es sc (kids x).tail).length<30) &&
   (noStar (pd T es sc (kids x).tail)&&gT T es sc (kids x).tail)))))
 |.attr e i=>λsc x=>(T.attrs[i]?).isSome&&(lr (reE T e sc (kid 0 x))&&okE T e sc (kid 0 x))
 |.g e=>λsc x=>lr (reE T e sc (kid 0 x))&&okE T e sc (kid 0 x)
 |.h e=>λsc x=>lr (reE T e sc (kid 0 x))&&okE T e sc (kid 0 x)
 |.dhasOf e=>λsc x=>lr (reE T e sc (kid 0 x))&&okE T e sc (kid 0 x)
 |.flt=>λ_ _=>true
 |.ratio a b=>λsc x=>okE T a sc (kid 1 (kid 0 x))&&okE T b sc (kid 1 x)
 |.neS a b=>λsc x=>okE T a sc (kid 0 x)&&(okE T b sc (kid 1 x)&&!(behindInMarks .NotEq (reE T b sc (kid 1 x))))
 |.bm k e es=>λsc x=>(!isSort k||es.isNil)&&(okE T e sc (kid 0 (kid 0 x))&&(lr (reE T e sc (kid 0 (kid 0 x)))&&(((kid 0 x).pos.endLine==x.pos.line)&&(decide ((pd T es sc (kids x).tail).length<30) &&
   (noStar (pd T es sc (kids x).tail)&&gT T es sc (kids x).tail)))))
 |.bf k es=>λsc x=>Nat.beq es.len (EK k)&&(glob T sc (kh (kid 0 x)) (y5 k)&&(noStar (pd T es sc (kids x).tail)&&gT T es sc (kids x).tail))
 |.w f es=>λsc x=>kindAt isVar sc f&&(noStar (pd T es sc (kids x).tail)&&gT T es sc (kids x).tail)
 |.sub e i=>λsc x=>!(isSlice (reE T i sc (kid 1 x)))&&(okE T e sc (kid 0 x)&&okE T i sc (kid 1 x))
 |.slc e lo hi=>λsc x=>okE T e sc (kid 0 x)&&((match ym 0 (kid 1 x) with|none=>lo.isNone|some l=>okE T lo sc l)&&(match ym 1 (kid 1 x) with|none=>hi.isNone|some l=>okE T hi sc l))
 |.K fv it t cs more=>λsc x=>CH T it sc (isTup (j0 (kf (fe x).2 sc) t (hdG (fe x).1).1)) (hdG (fe x).1).2.1&&(zE T (kf (fe x).2 sc) t (hdG (fe x).1).1&&(H9 T cs (kf (fe x).2 sc) (hdG (fe x).1).2.2 &&
   (KY T more (kf (fe x).2 sc) (fe x).1.tail (kid 0 x)&&(kO (kF T it sc (hdG (fe x).1).2.1)&&(decide ((fe x).2.kind=.function)&&(decide (((fe x).2.names.map (·.1)).Nodup) &&
   (j5 sc fv 0 (fe x).2.names&&eE (fe x).2 (#[j0 (kf (fe x).2 sc) t (hdG (fe x).1).1,kF T it sc (hdG (fe x).1).2.1,pd T cs (kf (fe x).2 sc) (hdG (fe x).1).2.2,0]::C9 T more (kf (fe x).2 sc) (fe x).1.tail))))))))
 |.bx k e=>λsc x=>glob T sc (kh (kid 0 x)) (K2 k)&&(noStar [reE T e sc (kid 1 x)]&&okE T e sc (kid 1 x))
 |.n es=>λsc x=>!es.isNil&&(glob T sc (kh (kid 0 x)) (.ref T.cS)&&(noStar (pd T es sc (kids x).tail)&&gT T es sc (kids x).tail))
 |.N a b c=>λsc x=>glob T sc (kh (kid 0 x)) (.ref T.cM)&&(noStar [reE T a sc (kid 1 x),reE T b sc (kid 2 x),reE T c sc (kid 3 x)]&&(okE T a sc (kid 1 x)&&(okE T b sc (kid 2 x)&&okE T c sc (kid 3 x))))
 |.M e=>λsc x=>glob T sc (kh (kid 0 x)) (.type "list")&&(glob T sc (kh (kid 0 (kid 1 x))) (.type "map")&&(glob T sc (kh (kid 0 (kid 1 (kid 1 x)))) (.ref T.cM)&&(noStar [reE T e sc (kid 2 (kid 1 x))]&&okE T e sc (kid 2 (kid 1 x)))))
 |.dead=>λ_ _=>true
noncomputable def gT (T:Tab):Exs->Scope->List Expr->Bool
 |.nil=>λ_ _=>true
 |.cons e es=>λsc l=>okE T e sc (l.headD default)&&gT T es sc l.tail
noncomputable def H9 (T:Tab):Exs->Scope->List Expr->Bool
 |.nil=>λ_ _=>true
 |.cons e es=>λsc l=>tOk e&&(okE T e sc (l.headD default)&&H9 T es sc l.tail)
noncomputable def CH (T:Tab):It->Scope->Bool->Expr->Bool
 |.rng1 e=>λsc _ x=>glob T sc (kh (kid 0 x)) (.type "range")&&(noStar [reE T e sc (kid 1 x)]&&okE T e sc (kid 1 x))
 |.rng2 e f=>λsc _ x=>glob T sc (kh (kid 0 x)) (.type "range")&&(noStar [reE T e sc (kid 1 x),reE T f sc (kid 2 x)]&&(okE T e sc (kid 1 x)&&okE T f sc (kid 2 x)))
 |.enum e=>λsc tp x=>tp&&(glob T sc (kh (kid 0 x)) (.type "enumerate")&&(noStar [reE T e sc (kid 1 x)]&&okE T e sc (kid 1 x)))
 |.seq e=>λsc _ x=>okE T e sc x
 |.keys e=>λsc _ x=>lr (reE T e sc (kid 0 (kid 0 x)))&&(((kid 0 x).pos.endLine==x.pos.line)&&okE T e sc (kid 0 (kid 0 x)))
 |.items e=>λsc tp x=>tp&&(lr (reE T e sc (kid 0 (kid 0 x)))&&(((kid 0 x).pos.endLine==x.pos.line)&&okE T e sc (kid 0 (kid 0 x))))
noncomputable def KY (T:Tab):Gens->Scope->List Comprehension->Expr->Bool
 |.elt e=>λsc _ x=>okE T e sc x
 |.eltP _ _=>λ_ _ _=>false
 |.cons it t cs more=>λsc l x=>CH T it sc (isTup (j0 sc t (hdG l).1)) (hdG l).2.1&&(zE T sc t (hdG l).1&&(H9 T cs sc (hdG l).2.2&&(KY T more sc l.tail x&&kO (kF T it sc (hdG l).2.1))))
end
abbrev wV (T:Tab)(sc:Scope):Tgt->Expr->Expr
 |.v i=>λx=>.Name (vi sc i) x.pos
 |.attr o i=>λx=>.Attribute (reE T o sc (kid 0 x)) ((T.attrs[i]?).getD "") x.pos
 |.sub o i=>λx=>.Subscript (reE T o sc (kid 0 x)) (reE T i sc (kid 1 x)) x.pos
 |.T is=>λx=>.Tuple (rz sc is (kids x)) (exK x) x.pos
abbrev JG (T:Tab)(sc:Scope):Tgt->Expr->Bool
 |.v i=>λ_=>ownAt T.cap sc i
 |.attr o i=>λx=>okE T o sc (kid 0 x)&&(T.attrs[i]?).isSome
 |.sub o i=>λx=>okE T o sc (kid 0 x)&&okE T i sc (kid 1 x)
 |.T is=>λx=>oY T.cap sc is
abbrev yw (T:Tab)(sc:Scope):List Tgt->List Expr->List Expr
 | []=>λ_=>[]
 |t::ts=>λl=>wV T sc t (l.headD default)::yw T sc ts l.tail
abbrev kL (T:Tab)(sc:Scope):List Tgt->List Expr->Bool
 | []=>λ_=>true
 |t::ts=>λl=>JG T sc t (l.headD default)&&kL T sc ts l.tail
abbrev stB (x:Stmt):List Stmt×List Stmt:=((sw x).b,(sw x).c)
abbrev uQ:List Tgt->Bool
 | [.v _]=>true
 |_=>false
abbrev uR:Ex->Bool
 |.K _ _ _ _ _=>true
 |_=>false
abbrev DB:List Tgt->Option (List Nat)
 | [.T is]=>some is
 |_=>none
abbrev JH (T:Tab)(sc:Scope)(ts:List Tgt)(e:Ex)(xs hs:List Expr)(y:Expr):Option (Option (List Str))->Bool
 |none=>false
 |some none=>kL T sc ts hs&&(vh y||(uQ ts&&uR e))
 |some (some names)=>(DB ts).any λis=>vh y&&(NF T.cap sc is names&&decide is.Nodup)
abbrev JP (k:NameKind):Bool:=k==.local
abbrev NV:Bop->Bool
 |.add=>true
 |.sub=>true
 |_=>false
abbrev PM (T:Tab)(sc:Scope)(i:Nat)(it:It)(t:Tg)(k v:Ex)(x:Stmt)(z:Expr):Stmt:=
 .Assign [.Name (vi sc i) ((yu x).getD 1 default).pos] (.DictComp (reE T k (kf (fe z).2 sc) (kid 0 z)) (reE T v (kf (fe z).2 sc) (kid 1 z)) [#[j0 (kf (fe z).2 sc) t (hdG (fe z).1).1,kF T it sc (hdG (fe z).1).2.1,[],0]] (fe z).2 z.pos) x.pos
abbrev PS (T:Tab)(sc:Scope)(i:Nat)(fv:List (Nat×Nat))(it:It)(t:Tg)(k v:Ex)(x:Stmt)(z:Expr):Bool:=
 CH T it sc (isTup (j0 (kf (fe z).2 sc) t (hdG (fe z).1).1)) (hdG (fe z).1).2.1&&(zE T (kf (fe z).2 sc) t (hdG (fe z).1).1&&(okE T k (kf (fe z).2 sc) (kid 0 z)&&(okE T v (kf (fe z).2 sc) (kid 1 z)&&(kO (kF T it sc (hdG (fe z).1).2.1)&&(decide ((fe z).2.kind=.function)&&(decide (((fe z).2.names.map (·.1)).Nodup)&&(j5 sc fv 0 (fe z).2.names &&
  (eE (fe z).2 [#[j0 (kf (fe z).2 sc) t (hdG (fe z).1).1,kF T it sc (hdG (fe z).1).2.1,[],0]]&&(ownAt T.cap sc i&&(kindAt JP sc i&&((((yu x).getD 1 default).pos.line==z.pos.line)&&!((fe z).2.names.any λp=>p.1==vi sc i&&(p.2==.local||p.2==.cell)))))))))))))
mutual
noncomputable def reS (T:Tab)(sc:Scope):Stm->Stmt->Stmt
 |.a ts e=>λx=>.Assign (yw T sc ts (yu x).tail) (reE T e sc (st0 x)) x.pos
 |.aug i op e=>λx=>.AugAssign (.Name (vi sc i) ((yu x).getD 1 default).pos) (binOp op) (reE T e sc (st0 x)) x.pos
 |.delD o i=>λx=>.Delete [.Subscript (reE T o sc (kid 0 (st0 x))) (reE T i sc (kid 1 (st0 x))) (st0 x).pos] x.pos
 |.delS o i=>λx=>.Delete [.Subscript (reE T o sc (kid 0 (st0 x))) (.Slice (some (reE T i sc ((ym 0 (kid 1 (st0 x))).getD default))) none none (kid 1 (st0 x)).pos) (st0 x).pos] x.pos
 |.dcomp2 i _ it t k v=>λx=>PM T sc i it t k v x (st0 x)
 |.expr e=>λx=>.Expr (reE T e sc (st0 x)) x.pos
 |.exprF e=>λx=>.Expr (reE T e sc (st0 x)) x.pos
 |.C c t e=>λx=>.If (reE T c sc (st0 x)) (eY T sc t (stB x).1) (eY T sc e (stB x).2) x.pos
 |.loop c b=>λx=>.While (reE T c sc (st0 x)) (eY T sc b (stB x).1) [] x.pos
 |.each t it b=>λx=>.For (j0 sc t ((yu x).getD 1 default)) (kF T it sc (st0 x)) (eY T sc b (stB x).1) [] x.pos
 |.ret e=>λx=>.Return ((yu x).head?.map (reE T e sc)) x.pos
 |.brk=>λx=>.Break x.pos
 |.cont=>λx=>.Continue x.pos
 |.pass=>λx=>bif (yu x).isEmpty then .Pass x.pos else .Expr (.Constant (.str (xT (st0 x))) (exK (st0 x)) (st0 x).pos) x.pos
 |.dead=>λx=>x
noncomputable def eY (T:Tab)(sc:Scope):jo->List Stmt->List Stmt
 |.nil=>λ_=>[]
 |.cons s ss=>λl=>reS T sc s (l.headD default)::eY T sc ss l.tail
end
mutual
noncomputable def okS (T:Tab)(sc:Scope):Stm->Stmt->Bool
 |.a ts e=>λx=>okE T e sc (st0 x)&&JH T sc ts e (yw T sc ts (yu x).tail) (yu x).tail (reE T e sc (st0 x)) (swp sc (yw T sc ts (yu x).tail) (reE T e sc (st0 x)))
 |.aug i op e=>λx=>NV op&&(ownAt T.cap sc i&&okE T e sc (st0 x))
 |.delD o i=>λx=>okE T o sc (kid 0 (st0 x))&&okE T i sc (kid 1 (st0 x))
 |.delS o i=>λx=>okE T o sc (kid 0 (st0 x))&&okE T i sc ((ym 0 (kid 1 (st0 x))).getD default)
 |.dcomp2 i fv it t k v=>λx=>PS T sc i fv it t k v x (st0 x)
 |.expr e=>λx=>vh (reE T e sc (st0 x))&&okE T e sc (st0 x)
 |.exprF e=>λx=>vh (reE T e sc (st0 x))&&okE T e sc (st0 x)
 |.C c t e=>λx=>tOk c&&(okE T c sc (st0 x)&&(j4 T sc t (stB x).1&&j4 T sc e (stB x).2))
 |.loop c b=>λx=>tOk c&&(okE T c sc (st0 x)&&j4 T sc b (stB x).1)
 |.each t it b=>λx=>zE T sc t ((yu x).getD 1 default)&&(CH T it sc (isTup (j0 sc t ((yu x).getD 1 default))) (st0 x)&&(j4 T sc b (stB x).1&&kO (kF T it sc (st0 x))))
 |.ret e=>λx=>match (yu x).head? with
  |some y=>okE T e sc y
  |none=>e.isNone
 |.brk=>λ_=>true
 |.cont=>λ_=>true
 |.pass=>λ_=>true
 |.dead=>λ_=>true
noncomputable def j4 (T:Tab)(sc:Scope):jo->List Stmt->Bool
 |.nil=>λ_=>true
 |.cons s ss=>λl=>okS T sc s (l.headD default)&&j4 T sc ss l.tail
end
end MP
end
section
namespace MP
open PySem PyProof.Rows PySem.W
variable {h:Heap}{a:Addr}{w':World}{kvs:List (Key×Value)}
def pW:entryFor table "set.__eq__"=some Builtin.«frozenset.__eq__»:=
 aK (id':="frozenset.__eq__") (by kernel_rfl) (by first|rfl|decide +kernel) (by decide +kernel) (by kernel_rfl)
def sub_set_set:isSubtype (.type "set") (.type "set")=pure true:=by rw[gh];kernel_rfl
def tO:isSubtype (.type "set") (.type "frozenset")=pure false:=by rw[gh];kernel_rfl
abbrev eR (prog:Program)(w:World)(h:Heap)(a:Addr)(ns:List Int):Prop:=
 ∃o es ep t,h.get? a=some o/\o.ExactSet/\o.data=.set es ep t/\ElemsOf (keyKind prog w) es.toList/\(∀k,decide (k∈ns.map Key.int)=true↔∃e∈es.toList,iN k e.2=true) /\
  es.size<scanBound/\t.fits es.size=true/\es.size=ns.length
def rg.raw {G:Stc}{ns:List Int}(x:rg G h a (ns.map Key.int))(prog:Program)(w:World):eR prog w h a ns:=by
 have#[o,es,ep,t,h1,z,B,H,Y,I,J,O,_]:=x;apply#[o,es,ep,t,h1,z,B,λe Z=>?_,Y,I,J,O.trans (ai _)];have#[#[k,hk,U],W]:=H e Z;have#[n,_,rfl]:=bg.mp (ak ((Y k).mpr #[e,Z,hk]));apply#[#[.int n,hk,U],W]
section
variable {prog:Program}{w:World}{A:Around}{E:QqV}{s:Shared}
def eR.of {ns:List Int}(x:eR prog w h a ns):h.SetOf (keyKind prog w) a (λk=>decide (k∈ns.map Key.int)) ns.length:=by
 have#[o,es,ep,t,H,I,J,O,U,W,Y,Z]:=x;apply#[o,es,ep,t,H,I,J,O,U,W,Y,Z]
def tN {b:Addr}{ks js:List Int}{id:String}{Q:Bool->Shared->Prop}(ha:eR prog w s.heap a ks)(hb:eR prog w s.heap b js)(hl:ks.length=js.length)(hs:∀k∈ks,k∈js)(h:Q true s):wpAny (model prog w) A (Builtin.Frozenset.subsetOf id a b) Q E s:=by
 have ao:=hb.of;have#[oa,es,ep,t,I,h2,J,h4,h5,h6,O,h8]:=ha;have#[ob,fs,ar,t',g1,g2,g3,g4,g5,g6,g7,g8]:=hb;unfold Builtin.Frozenset.subsetOf Builtin.Frozenset.sizeOf Builtin.Frozenset.walkUnseen;apply aa (aa (jc I J O (ab ?_)));apply aa (aa (jc g1 g3 g7 (ab ?_)));rw[az (rq (.g .A .B) [[1,1,1,-1]] (.e .C .D) (.e .B .C) (.e .A .D) hl h8 g8)];apply aa (iU I J O ?_);apply aa (aa (jc I J O (aa (jc g1 g3 g7 ?_))));have Y:∀x∈es.toList++fs.toList,Builtin.Frozenset.quietEq x.2=pure true:=λx hx=>by
  have#[#[k,hk,_],_]:=(fh.mp hx).elim (h4 x) (g4 x);rcases pj hk with ⟨i,u,rfl,e⟩|⟨y,u,rfl,e⟩<;>rw[e]<;>rfl
 apply aa (wpAny_forIn_list _ (λrest q s'=>s'=s/\q=(none,())/\∀x∈rest,Builtin.Frozenset.quietEq x.2=pure true) _ (λx rest q s' z=>?_) (λq s' z=>?_) _ _ #[rfl,rfl,Y])
 ·have#[rfl,rfl,z]:=z;have#[x1,x2]:=x;have W:=z _ (.head _);dsimp only at W ⊢;rw[W];show aa (ab (ab #[rfl,rfl,λy H=>z y (.tail _ H)]))
 have#[rfl,rfl,_]:=z;apply ab ?_;apply aa (wpAny_forIn_list _ (λrest q Z=>Z=s'/\q=(none,())/\∀x∈rest,x∈es.toList) _ (λx rest q Z z=>?_) (λq Z z=>?_) _ _ #[rfl,rfl,λx hx=>hx])
 ·have#[rfl,rfl,z]:=z;have#[x1,x2]:=x;have W:=z _ (.head _);have#[#[k,hk,hh],U]:=h4 _ W;dsimp only at hk hh U ⊢;have rfl:=hh;have ag:k∈js.map Key.int:=by
   have#[n,hn,rfl]:=bg.mp (ak ((h5 k).mpr #[_,W,hk]));show bg.mpr #[n,hs n hn,rfl]
  apply aa (bp (wpAny_setFind_of hk U ao λr hr=>?_));rw[cj ag]at hr;have#[j,rfl]:=ba.mp hr;apply aa (aa (iU I J O ?_));rw[az (by simp)];show ab (ab #[rfl,rfl,λy H=>z y (.tail _ H)])
 have#[rfl,rfl,_]:=z;show ab h
def KP {a b:Addr}{ks js:List Int}(U:eR prog w s.heap a ks)(hb:eR prog w s.heap b js)(O:ks.length=js.length)(I:∀k∈ks,k∈js)(J:A.units<cLine){Q:QqV}(h:Q (.bool true) s):wpAny (model prog w) A (compareOp .Eq (.ref a) (.ref b)) Q E s:=by
 have W:s.TypeIs (.ref a) "set":=by have#[o,es,ep,t,Z,Y,_]:=U;apply#[o,Z,Y.1]
 have tb:s.TypeIs (.ref b) "set":=by have#[o,es,ep,t,Z,Y,_]:=hb;apply#[o,Z,Y.1]
 apply wpAny_richCompare_same_room (op:=.Eq) W tb PySem.F.slot_set_eq (eh PySem.F.slot_set_eq W pW ?_ (PySem.F.args_set_eq_2 _ _)) J;apply aa ?_;apply di (a:=(Value.ref a,Value.ref b)) rfl ?_;apply aa ?_;unfold Builtin.Frozenset.isAnySet;apply aa (vo (T:="set") tb sub_set_set (ab ?_));rw[az (by decide)];apply aa (ab (aa (ab ?_)));have#[oa,es,ep,t,Z,Y,z,h4,h5,h6,B,H]:=id U;have#[ob,fs,ag,t',g1,g2,g3,g4,g5,g6,g7,g8]:=id hb;apply aa (aa (jc Z z B (ab ?_)));apply aa (aa (jc g1 g3 g7 (ab ?_)));dsimp only;rw[az (by rw[H,g8,O];simp)];apply aa (aa (aa (vo (T:="set") W tO (ab ?_))));rw[az (by decide)];show tN U hb O I (ab #[_,rfl,(λx=>nomatch x),h])
def zB {Z:Program}{es:List DictEntry}(W:Pairs (keyKind prog w) es kvs):Pairs (keyKind Z w') es kvs:=by
 induction W with
 |nil=>show .nil
 |cons a b _ Y=>show .cons a b Y
def D3 {es:List DictEntry}(Y:∀Z∈kvs,∃i,Z.1=Key.int i)(I:Pairs (keyKind prog w) es kvs)(hk:∀e∈es,∃k,iN k e.key=true/\e.hash=keyHash w k):∀e∈es,∃k,iN k e.key=true/\e.hash=keyHash w' k:=by
 induction I with
 |nil=>show λe H=>nomatch H
 | @cons e Z es kvs a b _ J =>
  intro x W;rcases bz.mp W with rfl|W
  ·have#[k,U,O]:=hk x (.head _);have#[i,Y]:=Y Z (.head _);obtain rfl:k=Z.1:=(zr U).symm.trans (zr a);rw[Y]at U O;apply#[.int i,U,O]
  ·show J (λZ h=>Y Z (.tail _ h)) (λe h=>hk e (.tail _ h)) x W
def sN {Z:Program}(O:∀U∈kvs,∃i,U.1=Key.int i)(x:h.DictOf (keyKind prog w) a kvs):h.DictOf (keyKind Z w') a kvs:=by
 have#[o,es,ep,z,B,H,I,W,J]:=x;apply#[o,es,ep,z,B,H,λe Y=>D3 O W (λe Y=>I e (Array.mem_toList_iff.mp Y)) e (Array.mem_toList_iff.mpr Y),zB W,J]
end
section
variable {G:Stc}{A:Around}{E:QqV}{s:Shared}{σ:St}{d:Nat}
def lK {h:Heap}{P:Key->Prop}:{es:List (Key×V)}->{ds:List (Key×Value)}->DRs G h es ds->(∀e∈es,P e.1)->∀e∈ds,P e.1
 | []=>λe _ x Z=>by have rfl:=e;show nomatch Z
 |e::es=>λz Y x Z=>by
  have#[w,us,rfl,_,r]:=z;rcases bz.mp Z with rfl|Z
  ·show Y e (.head _)
  ·show lK r (λe W=>Y e (.tail _ W)) x Z
def fO {h:Heap}:{es:List (Key×V)}->{ds:List (Key×Value)}->DRs G h es ds->es.length=ds.length
 | []=>λe=>by have rfl:=e;rfl
 |e::es=>λz=>by have#[w,us,rfl,_,r]:=z;show bb (·+1) (fO r)
def pN (U:A.in1.units+64<cLine)(R:Rel G σ s.heap){O:List (Key×V)}{Z:List (Key×Value)}(hb:DRs G s.heap O Z):{es:List (Key×V)}->{W:List (Key×Value)}->DRs G s.heap es W->(∀e∈es,∃u d d',O.lookup e.1=some u/\fQ σ 6 e.2=some d/\fQ σ 6 u=some d'/\PyData.eqv d d'=true)->KeqHits A.in1 s Z W true
 | []=>λe _=>by have rfl:=e;show .nil
 |e::es=>λz h=>by
  have#[w,us,rfl,vr,r]:=z;have#[u,d1,d2,h1,h2,h3,B]:=h e (.head _);have lk:=hb.look e.1;rw[h1]at lk;cases Y:valueAt Z e.1 with
  |none=>rw[Y]at lk;show lk.elim
  |some y =>
   rw[Y]at lk;have#[as,I,ca,da]:=zl R 6 h2 vr;have#[bs,J,cb,db]:=zl R 6 h3 lk;have x:=KeqHits.hit (k:=e.1) Y (B▸keq_at I J (wj ca da) (wj cb db) U) (pN U R hb r λe H=>h e (.tail _ H));show x
def M9 (K:GOk G)(ao:AOk A d)(R:Rel G σ s.heap){a b:V}{x y:Value}(va:VR G s.heap a x)(vb:VR G s.heap b y)(h:EqA σ a b)(hn:a≠.none):SeqAt.EqAt A.in1 s x y true:=by
 rcases h with ⟨rfl,_⟩|⟨p,q,ns,ms,rfl,rfl,J,O,h3,z⟩|⟨p,q,es,fs,rfl,rfl,J,O,h3,z,h5,h6⟩
 ·show absurd rfl hn
 ·have rfl:=va;have rfl:=vb;by_cases e:p=q
  ·rw[e];show SeqAt.EqAt.same _
  ·have Y:=R.S _ _ J;have Z:=R.S _ _ O;have I:A.in1.units<cLine:=by have:=ao.units;rw[show A.in1.units=A.units+1 from rfl];(show gz (.l .L .B) .a (.l (.a (.a .A (.m 30 .C)) (.n 300)) .B) this)
   show SeqAt.EqAt.of_refs e λprog w E Q H=>KP (Y.raw prog w) (Z.raw prog w) h3 z I H
 ·have rfl:=va;have rfl:=vb;by_cases e:p=q
  ·rw[e];show SeqAt.EqAt.same _
  ·have#[ka,da,Y]:=R.D _ _ J;have#[kb,db,Z]:=R.D _ _ O;have I:A.in1.units<cLine:=by have:=ao.units;rw[show A.in1.units=A.units+1 from rfl];(show gz (.l .L .B) .a (.l (.a (.a .A (.m 30 .C)) (.n 300)) .B) this)
   have n1:(p==sysModules)=false:=tc K R (.inr (.inl (by rw[J];rfl)));have n2:(q==sysModules)=false:=tc K R (.inr (.inl (by rw[O];rfl)));have hl:ka.length=kb.length:=(fO Y).symm.trans (h5.trans (fO Z));have W:KeqHits A.in1.in1 s kb ka true:=pN (A:=A.in1) (by have:=ao.units;rw[show A.in1.in1.units=A.units+1+1 from rfl];(show gz (.l (.a (.a .L .U) (.n 64)) .B) .a (.l (.a (.a .A (.m 30 .C)) (.n 300)) .B) this)) R Z Y h6;apply SeqAt.EqAt.of_refs e λprog w E Q H=>keq_eq n1 n2 (sN (lK (P:=λk=>∃i,k=Key.int i) Y h3) da) (sN (lK (P:=λk=>∃i,k=Key.int i) Z z) db) I (λ_=>W) ?_;rw[hl,dg];show H
def xC (K:GOk G)(I:AOk A d)(R:Rel G σ s.heap){a b:V}{x y:Value}(O:VR G s.heap a x)(vb:VR G s.heap b y)(h:EqS σ a b){Q:QqV}(q:Q (.bool false) s):wpAny G.M A (compareOp .NotEq x y) Q E s:=by
 have hu:A.units<cLine:=by have:=I.units;(show gz .B .a (.l (.a (.a .A (.m 30 .C)) (.n 300)) .B) this)
 rcases h with ⟨⟨rfl,rfl⟩|⟨p,q,ns,ms,rfl,_⟩|⟨p,q,es,fs,rfl,rfl,U,W,h3,h4,h5,h6⟩,hn⟩|⟨xs,ys,rfl,rfl,Y,hi⟩
 ·have rfl:=O;have rfl:=vb;show SeqAt.RcNeAt.none_none G.prog G.w E Q q
 ·show absurd rfl (hn p)
 ·have rfl:=O;have rfl:=vb;have#[ka,da,ra]:=R.D _ _ U;have#[kb,db,rb]:=R.D _ _ W;have n1:(p==sysModules)=false:=tc K R (.inr (.inl (by rw[U];rfl)));have n2:(q==sysModules)=false:=tc K R (.inr (.inl (by rw[W];rfl)));have Y:ka.length=kb.length:=(fO ra).symm.trans (h5.trans (fO rb));apply keq_ne n1 n2 da db hu (λ_=>pN (by have:=I.units;rw[show A.in1.units=A.units+1 from rfl];(show gz (.l (.a .L (.n 64)) .B) .a (.l (.a (.a .A (.m 30 .C)) (.n 300)) .B) this)) R rb ra h6) ?_;rw[Y,dg];assumption
 ·have#[p,ws,n,rfl,U,v1]:=O;have#[q',us,m,rfl,W,z]:=vb;have J:=v1.length;have l2:=z.length;have it:∀{p:Addr} {ws:List Value} {n:Nat},IsT s.heap p ws.toArray n->s.heap.IsTuple p ws.toArray:=λh=>#[_,h,rfl,_,rfl];apply SeqAt.RcNeAt.tuples (e:=λ_=>true) (it U) (it W) hu (λj Z j2=>?_) G.prog G.w E Q ?_
  ·rw[bq]at Z j2;have e1:=cm (l:=xs) (i:=j) (gr .B .k (.e .B .C) .H J Z);have e2:=cm (l:=ys) (i:=j) (rq .B [[1,1,-1,1]] (.e .C .B) (.e .C .D) (.l .A .D) Y J Z);have#[w1,f1,r1]:=v1.get e1;have#[w2,f2,r2]:=z.get e2;rw[cm Z]at f1;rw[cm j2]at f2;have#[g,gn]:=hi j _ _ e1 e2;rw[List.getElem_toArray,List.getElem_toArray,af f1,af f2];show M9 K I R r1 r2 g gn
  ·rw[bq,bq,<- J,<- l2,Y,kc.mpr λ_ _=>rfl,dg];show q
end
end MP
end
section
namespace MP
open PySem PyProof.Rows PySem.W
variable {pos:Pos}{x y:Expr}{a b:Ex}{A:Around}{E:QqV}{s:Shared}{n:Nat}{h:Heap}
def C7 {n:Nat}(h:n≠0):2^52<=Float64.roundMag n 1:=by
 unfold Float64.roundMag;rw[az (by simpa using h)];dsimp only;have I:(1:Nat).log2=0:=by simpa using Nat.log2_two_pow (n:=0)
 rw[I];generalize Float64.halfEven _ _=c;have W:(0:Int)<=(n.log2:Int):=cL _;generalize (n.log2:Int)=l at W;have Y:l-53<=(if (Float64.shift n 1 (-(l-((0:Nat):Int)))).1>=(Float64.shift n 1 (-(l-((0:Nat):Int)))).2 then l-((0:Nat):Int)-52 else l-((0:Nat):Int)-53):=by split<;>(first|show fZ (.ik (.s .A (.n 53)) (.s (.s .A (.t .O)) (.n 52))) .f Ar.y|show fZ (.ik (.s .A (.n 53)) (.s (.s .A (.t .O)) (.n 53))) .f Ar.y|omega)
 generalize (if (Float64.shift n 1 (-(l-((0:Nat):Int)))).1>=(Float64.shift n 1 (-(l-((0:Nat):Int)))).2 then l-((0:Nat):Int)-52 else l-((0:Nat):Int)-53)=m at Y ⊢;unfold Float64.infMag;have J:1<=(max m (-1074)+1074).toNat:=by(show(cp h).elim (λU=>(cg .C .i (.l .B .O) U)) λU=>((Ar.ton _).elim (λZ=>(Ar.a4 [_,_,_] [_] .C [[1,1,1,1,-1]] (.ik .O .A) (.ik (.s .A (.n 53)) .B) (.ik .B .C) (.ie (.t .A) (.a .C (.n 1074))) W Y (Ar.imax _ _).1 Z.2)) λZ=>(Ar.a4 [_,_,_] [_] .C [[0,1,1,1,1]] (.ik .O .A) (.ik (.s .A (.n 53)) .B) (.ik .B .C) (.ik (.a .C (.n 1074)) .O) W Y (Ar.imax _ _).1 Z.1)))
 generalize (max m (-1074)+1074).toNat=k at J;omega
def HA {n:Int}(h0:n≠0)(h:n.natAbs<2^1023):¬Float64.isZero (Float64.ofInt n)=true:=by
 have I:=C7 (n:=n.natAbs) ((lh h0).elim (λY=>((Ar.nab _).elim (λZ=>(xj (.u .A .O) [[-1,1,1]] (.il .A .O) (.ie (.t .A) .A) Y Z.2)) λZ=>(xj (.u .A .O) .d (.il .A .O) (.ie (.t .A) (.g .A)) Y Z.2))) λY=>((Ar.nab _).elim (λZ=>(xj (.u .A .O) .d (.il .O .A) (.ie (.t .A) .A) Y Z.2)) λZ=>(xj (.u .A .O) [[-1,1,1]] (.il .O .A) (.ie (.t .A) (.g .A)) Y Z.2)));have W:=Float64.roundMag_one_lt h;unfold Float64.ofInt Float64.ofFrac;generalize Float64.roundMag n.natAbs 1=mag at I W;have W:mag<2047*2^52:=W;have J:=Float64.toNat_pack (decide (n<0)) (mag:=mag) (fb (.l .A (.n (2^63))) .a (.l .A (.m 2047 (.n (2^52)))) W);have z:((Float64.pack (decide (n<0)) mag).toNat/2^52%2048==2047)=false:=by
  rw[J];cases decide (n<0)<;>simp<;>(first|show tn (.u .A (.n 2047)) [[-4503599627370496,1,4503599627370496,1]] (.l .B (.m 2047 (.n (2^52)))) (.e (.a (.m 2048 .C) .A) .D) (.e (.a (.m 4503599627370496 .D) .F) .B) W (Ar.wg _ 2048 (by decide)).2 (Ar.wg _ 4503599627370496 (by decide)).2 Ar.y|omega)
 have H:((Float64.pack (decide (n<0)) mag).toNat/2^52%2048==0)=false:=by
  rw[J];cases decide (n<0)<;>simp<;>omega
 unfold Float64.isZero Float64.decode;dsimp only;rw[az (by rw[z];decide),az (by rw[H];decide)];generalize (Float64.pack (decide (n<0)) mag).toNat%2^52=k;rw[show 2^52+k=(2^52-1+k)+1 by(show cg (.e (.a (.n (2^52)) .A) (.a (.a .B .A) .U)) [[1,1],[1,-1]] (.e .P (.n (2^52))) (ae (EO (.k .U (.n (2^52))) .f)))];show jw
section
variable {G:Stc}{C:Cal}{sc:Scope}{d:Nat}
def uU {n:Int}(h:n.natAbs<2^60):n.natAbs<2^1023:=Nat.lt_trans h (Nat.pow_lt_pow_right (by decide) (by decide))
def GH {f:UInt64}{k:Nat}:dk G C sc d .flt (.Constant (.float f) k pos):=λ_ _ _ _ _ _ _ c h=>AB (iv.here h #[_,_,rfl] c.R)
def yQ {e:Ex}(Z:dk G C sc d e x)(Y:vh x=true):vm G C sc d (.exprF e) (.Expr x pos):=λA E env ρ σ K s c h =>
 wpAny_Expr_any (prog:=G.prog) (w:=G.w) (kq (Z c h) λv σ₁ s₁ w q vr r x=>#[.next,_,σ₁,.next,q,c.F.evo x.e,r,x.wide]) (by unfold interactive;rw[c.eo.kind];rfl) (yc Y _ _ _)
def yM {f:UInt64}{k:Nat}{p0 z:Pos}(ha:dk G C sc d a x)(hb:dk G C sc d b y):dk G C sc d (.ratio a b) (.BinOp (.BinOp (.Constant (.float f) k p0) .Mult x z) .Div y pos):=λA E env ρ σ Q s c h=>by
 have B:Cx G sc d A env ρ σ {s with toks:=s.toks+1}:=#[c.ao,c.es,c.eo,c.F,c.R];apply wpAny_BinOp (wpAny_BinOp (AB (kq (ha B h) λv σ₁ s₁ w q vr r x=>?_)));have#[m,rfl,hm,q]:=pg (v:=v) q;have#[t,rfl]:=vr;apply AutoFloatOps.mul_fi_1 (Float64.ofInt_fits (uU hm)) ?_;have O:=B.go r x;have c1:Cx G sc d A env ρ σ₁ {s₁ with toks:=s₁.toks+1}:=#[O.ao,O.es,O.eo,O.F,O.R];apply kq (hb c1 q) λU σ₂ s₂ J Z Y r₂ W=>?_;have#[n,rfl,H,h0,Z]:=pg (v:=U) Z;have#[I,rfl]:=Y;apply AutoFloatOps.truediv_fi_2 (Float64.ofInt_fits (uU H)) (HA h0 (uU H)) ?_;have x1:Go [] σ s σ₁ {s₁ with toks:=s₁.toks+1}:=#[x.e,x.g,x.o];apply#[.flo,σ₂,Z,#[_,_,rfl],r₂,(x1.trans W).tok]
def GA (K:GOk G)(I:dk G C sc d a x)(hb:dk G C sc d b y)(J:behindInMarks .NotEq y=false):dk G C sc d (.neS a b) (.Compare x [.NotEq] [y] pos):=λ_ _ _ _ _ _ _ c h =>
 wpAny_Compare1 (kq (I c h) λv σ₁ s₁ w q vr r x =>
  kq (hb (c.go r x) q) λO σ₂ s₂ U Y W r₂ Z =>
   xC K c.ao r₂ (vr.mono Z.frz) W Y.1 (iv.back (x.trans Z) (iv.yk Y.2 (.bool _) r₂))) J
def BV (K:GOk G)(I:dk G C sc d a x)(hb:dk G C sc d b y)(J:behindInMarks .NotEq y=false):rt G C sc d (.neS a b) (.Compare x [.NotEq] [y] pos):=λ_ _ _ _ _ _ _ c h =>
 vl (kq (I c h) λv σ₁ s₁ w q vr r x =>
  kq (hb (c.go r x) q) λO σ₂ s₂ U Y W r₂ Z =>
   xC K c.ao r₂ (vr.mono Z.frz) W Y.1 (qe (kj.back (x.trans Z) (kj.here Y.2 r₂)))) J
def sR {Z:Nat->Bool}{i:Nat}:∀(ws:List Value) (b:Nat),(∀k,b<=k->k<b+ws.length->Z k=decide (i<=k))->((ws.zipIdx b).filterMap λx=>match x with|(x,k)=>if Z k=true then none else some x)=ws.take (i-b)
 | [],b=>λ_=>by simp
 |w::ws,b=>λh=>by
  rw[List.zipIdx_cons,uu];dsimp only;have h0:=h b (av _) (by simp);have Y:=sR (i:=i) ws (b+1) λk U W=>h k (cg .A .a .I U) (by rw[jh];(show gz (.l .A (.a .B .S)) .a (.l .A (.a .P .C)) W));rw[h0,Y];by_cases c:i<=b
  ·rw[cj c,br rfl,show i-b=0 by show fb (.e .A .O) [[1,0],[1,1]] (.e .A .O) (nk (cg .A .a .A c)),show i-(b+1)=0 by(show fb (.e .A .O) [[1,0],[1,1]] (.e .A .O) (nk (cg (.k .A .P) .a .A c)))];rfl
  ·rw[cw c,az (by decide),show i-b=(i-(b+1))+1 by show jm (.e .A .P) [[1,-1,1],[1,1,-1]] (.e (.a .A .C) .D) (.e (.a .B .S) .D) (ae (cg .A .a (.j .B .A) c)) (ae (cg .I .a (.j .B .A) c)),List.take_succ_cons]
def DW {α:Type}{l:Addr}{ws:List Value}{j:Nat}{f:Array Value->Array Value}{k:Unit->Sem α}{Q:α->Shared->Prop}(Y:IsL s.heap l ws.toArray n)(hz:ws.length<=sizeLine)(Z:f ws.toArray=(ws.take j).toArray)
  (h:∀f:Array Value->Array Value,f ws.toArray=(ws.take j).toArray->wpAny G.M A (k ()) Q E {s with heap:=s.heap.update l (Obj.mapSeq f)}):wpAny G.M A (updateSeq l f>>=k) Q E s:=
 aa (dC Y rfl (h f Z) (by rw[bq];show hz) (by rw[Z,bq,fq];(show gr (.k .A .P) .b .F (.k .A .C) hz (Ar.nr _ _).2.1)))
def sO {l U:Addr}{ws:List Value}{i:Int}{t:Tok}{Q:Unit->Shared->Prop}(I:IsL s.heap l ws.toArray n)(z:s.heap.IsSliceOf U (.int i t) .none .none)(h0:0<=i)(hz:ws.length<=sizeLine)
  (h:∀f:Array Value->Array Value,f ws.toArray=(ws.take i.toNat).toArray->Q () {s with heap:=s.heap.update l (Obj.mapSeq f)}):wpAny G.M A (delItem (.ref l) (.ref U)) Q E s:=by
 have#[os,Z,H,W]:=id z;have J:s.TypeIs (.ref U) "slice":=#[os,Z,H];apply wpAny_delItem_slot I.isList.typeIs (by decide) PySem.F.slot_list_delitem (eh PySem.F.slot_list_delitem I.isList.typeIs PySem.F.entry_list_delitem ?_ (PySem.F.args_list_delitem_2 _ _));show wpAny _ _ (Builtin.List.listSubscript? (.ref U)>>=_) _ _ s;apply aa ?_;unfold Builtin.List.listSubscript?;apply aa (xw J slice_no_index ?_);simp only[Option.isNone_none,tu];apply ab ?_;show wpAny _ _ (typeOf (.ref U)>>=_) _ _ s;apply aa (aF J ?_);rw[az (by decide)];rw[listSliceParts_eq];apply aa (aa (ux Z W (x:=.none) rfl (aa (wpAny_listPart .none ?_))));rw[az (show ¬((rawPart none==rawInt 0)=true) from jw)];apply aa (ux Z W (x:=.int i t) rfl (aa (wpAny_listPart (.int i t) ?_)));apply aa (ux Z W (x:=.none) rfl (aa (wpAny_listPart .none (ab ?_))));apply aa (m:=Builtin.List.listItems (.ref l)) ?_;unfold Builtin.List.listItems;apply aa (mh I rfl (ab ?_));apply aa (di (sliceIndices_raw (some i) none none ws.toArray.size (by simp)) ?_);have e:sliceBounds (some i) none none ws.toArray.size=(((min i.toNat ws.length:Nat):Int),(ws.length:Int),1):=by
  rw[bq];simp only[sliceBounds,Option.getD_none];have h1:¬(i<0):=by(show ph (.ig .A .O) .a (.ik .O .A) h0)
  simp only[h1,ju,show(1:Int)>0 by decide,tu]
  congr 1;omega
 rw[e];apply aa (su ?_);show wpAny _ _ (updateSeq l _>>=_) _ _ s;apply DW I hz ?_ λf hf=>aa (wpAny_letGo (ab #[_,rfl,h f hf]));show((ws.toArray.toList.zipIdx 0).filterMap _).toArray=_;apply bb List.toArray ((sR (i:=min i.toNat ws.length) ws 0 λk _ hk=>?_).trans ?_)
 ·show(if (1:Int)>0 then (decide (((min i.toNat ws.length:Nat):Int)<=(k:Int))&&decide ((k:Int)<(ws.length:Int))&&(((k:Int)-((min i.toNat ws.length:Nat):Int))%1==0)) else _)=_;rw[br (by decide),Int.emod_one,cj (show(k:Int)<(ws.length:Int) by show cg (.il (.t .A) (.t .B)) .a (.l .A (.a .O .B)) hk)];simp only[Bool.and_true,dg];show gu.mpr (#[λY=>(cg .A .a (.ik (.t .A) (.t .B)) Y),λY=>(cg (.ik (.t .A) (.t .B)) .a .A Y)])
 ·rw[Nat.sub_zero,List.take_eq_take_iff];(show(Ar.nr _ _).2.2.elim (λY=>(mn .G .g .A (.k .B .A) (Ar.nr _ _).1 Y)) λY=>(tq .G [[1,0,1,1],[1,1,0,0]] .A (.k .B .C) (.k .C .A) (Ar.nr _ _).1 (Ar.nr _ _).2.1 Y))
def GK {o i:Ex}{p q:Pos}(ho:dk G C sc d o x)(hi:dk G C sc d i y):vm G C sc d (.delS o i) (.Delete [.Subscript x (.Slice (some y) none none p) q] pos):=λA E env ρ σ K s c h=>by
 rw[arm_exec_Delete];apply aa (er (aa ?_));rw[arm_deleteEach_cons];apply aa (wpAny_delete_Subscript (kq (ho c h) λv σ₁ s₁ w q vr r Y=>wpAny_Slice (kq (evalPart_some_step (hi (c.go r Y) q)) λJ σ₂ s₂ H Z U r₂ O=>gD (gD ?_))));have#[a,rfl,Z]:=pf (v:=v) Z;have#[k,rfl,xs,e,h0,h1,Z]:=pg (v:=J) Z;have rfl:=vr;have#[t,rfl]:=U;have W:=r₂.push {cls:=.type "slice",data:=.fields #v[.int k t,.none,.none]};have#[ws,n,z,B]:=W.L _ _ e;have hz:=r₂.Ll _ _ e;have x3:Go [] σ s σ₂ {s₂ with heap:=s₂.heap.push {cls:=.type "slice",data:=.fields #v[.int k t,.none,.none]}}:=(Y.trans O).to (Evo.push _ _ _ _);apply sO (n:=n) (s:={s₂ with heap:=s₂.heap.push {cls:=.type "slice",data:=.fields #v[.int k t,.none,.none]}}) z (Heap.IsSliceOf.new ..) h0 (by rw[<- B.length];show md hz) λf hf=>?_;have#[r',I]:=tM W e z (B.take k.toNat) (by rw[fq];(show gr .A .b .F (.k .A .C) hz (Ar.nr _ _).2.1)) hf;rw[arm_deleteEach_nil];apply ab (ab ?_);apply#[.next,ρ,_,.next,Z,c.F.evo (x3.e.trans I),r',(x3.to I).wide]
abbrev dd (ns:List Int):List Int:=ns.foldl (λl n=>if n∈l then l else l++[n]) []
def II (ns:List Int)(n:Int):dd (ns++[n])=if n∈dd ns then dd ns else dd ns++[n]:=by unfold dd;rw[List.foldl_append];rfl
def pX (ns:List Int):(dd ns).Nodup/\∀x,x∈dd ns↔x∈ns:=by
 have go:∀(ns acc:List Int),acc.Nodup->(ns.foldl (λl n=>if n∈l then l else l++[n]) acc).Nodup/\∀x,x∈ns.foldl (λl n=>if n∈l then l else l++[n]) acc↔x∈acc\/x∈ns:=λns=>by
  induction ns with
  |nil=>show λacc h=>#[h,λx=>#[.inl,λh=>h.elim id λq=>nomatch q]]
  |cons n ns W =>
   intro acc h;rw[List.foldl_cons];by_cases c:n∈acc
   ·rw[br c];have#[Y,Z]:=W acc h;apply#[Y,λx=>(Z x).trans #[λq=>q.imp id (.tail _),λq=>q.elim .inl λq=>?_]];rcases bz.mp q with rfl|q
    ·show .inl c
    ·show .inr q
   ·rw[az c];have#[Y,Z]:=W (acc++[n]) (dT.mpr #[h,by simp,λx O y U=>by rw[ax.mp U];rintro rfl;show c O]);apply#[Y,λx=>(Z x).trans ?_];rw[fh,ax,bz,or_assoc]
 have#[Y,Z]:=go ns [] my;apply#[Y,λx=>(Z x).trans #[λh=>h.elim (λq=>nomatch q) id,.inr]]
def rO:∀{l us:List Int},l.Nodup->(∀x∈l,x∈us)->l.length<=us.length
 | [],us=>λ_ _=>dj _
 |x::l,us=>λZ h=>by
  have W:=h x (.head _);have U:=rO (l:=l) (us:=us.erase x) (List.nodup_cons.mp Z).2 λy Y=>(List.mem_erase_of_ne (by rintro rfl;show(List.nodup_cons.mp Z).1 Y)).mpr (h y (.tail _ Y));rw[List.length_erase_of_mem W]at U;have:=List.length_pos_of_mem W;rw[jh];(show gr .I .b (.k .A .C) (.e .S .B) U (ae (fb .C .a .D this)))
def MB {ns us:List Int}(h:∀n∈ns,n∈us):(dd ns).length<=us.length:=rO (pX ns).1 λx Z=>h x (((pX ns).2 x).mp Z)
def A3 {R:Result->Shared->Prop}{I S:Addr}{fp wr:List Addr}{Gg:Array GenState->Array GenState->Prop}{P:Nat->Value->Prop}{St:Nat->Shared->Prop}(W:WalksS G.prog G.w A.in1 I fp wr Gg n P St)(bv:S∉fp){vals us:List Int}(hn:vals.length=n)
  (ar:∀i v,P i v->∃t,v=.int (vals.getD i 0) t) (hb:us.length+1<scanBound) (ao:∀x∈vals,x∈us) :
  ∀(k i:Nat) (s:Shared),n-i=k->i<=n->St i s->rg G s.heap S ((dd (vals.take i)).map Key.int) ->
   (∀s',Moved (S::wr) Gg s s'->rg G s'.heap S ((dd vals).map Key.int)->R (.ok (.ret .none)) s')->codeAny G.M A (.builtin "set.update.loop" #[[.ref S,.ref I],[]]) R s:=by
 have bR:S∉wr:=λh=>bv (W.sub _ h);have J:∀b∈wr,b∈S::wr:=λb hb=>List.mem_cons_of_mem _ hb;have mv:∀{s s':Shared} {ks:List Key},Moved wr Gg s s'->rg G s.heap S ks->rg G s'.heap S ks:=λhm x=>by
  have#[o,es,ep,t,ho,r]:=x;apply#[o,es,ep,t,hm.heap S _ bR ho,r]
 intro k;induction k with
 |zero =>
  intro i s hk hi ag hS hR;have ao:i=n:=by(show gr .G [[1,1,-1],[1,0,1]] (.e .C .O) (.e (.a .C .A) .B) hk (ae (cg .A .a .A hi)))
  subst ao;apply ll nB ?_;rw[mi uq _];show wpAny _ A.in1 (pyNext (.ref I)>>=_) _ _ s;apply aa (W.done s _ _ ag λs' hm=>?_);show wpAny _ A.in1 (ret Value.none) _ _ s';rw[<- hn,qj]at hS;show ab (hR s' (hm.mono J) (mv hm hS))
 |succ k ih =>
  intro i s hk hi ag hS hR;have Z:i<n:=by(show jm .B .k (.e .C (.a .D .U)) (.e (.a .C .A) .B) hk (ae (cg .A .a .A hi)))
  apply ll nB ?_;rw[mi uq _];show wpAny _ A.in1 (pyNext (.ref I)>>=_) _ _ s;apply aa (W.item i s _ _ Z ag λv s' hP be hm=>?_);have#[t,rfl]:=ar i v hP;have cb:=mv hm hS;have hl:(dd (vals.take i)).length<=us.length:=MB λx hx=>ao x (List.mem_of_mem_take hx);have hg:vals[i]?=some (vals.getD i 0):=by rw[List.getD_eq_getElem?_getD,cm (gr .B .k (.e .B .C) .H hn Z)];rfl
  have bd:vals.take (i+1)=vals.take i++[vals.getD i 0]:=by rw[List.take_add_one,hg];rfl
  show wpAny _ A.in1 (holding [Value.int (vals.getD i 0) t] (setAdd S (.int (vals.getD i 0) t))>>=_) _ _ s';generalize vals.getD i 0=y at bd;apply aa (bp ?_);unfold setAdd;apply bp ?_;have bu:G.kk.is (Key.int y) (Value.int y t)=true:=key_is (v:=.int y) (h:=s'.heap) rfl #[t,rfl];apply aa (G.kk.pyHash bu (lZ (s:={s' with toks:=s'.toks+1}) bu rfl rfl cb (by rw[ai];(show gr (.l .L .B) .b (.l .S .B) (.k .A .C) hb hl)) λb h' bl Y=>?_));have ca:rg G h' S ((dd (vals.take (i+1))).map Key.int):=by
   rw[bd,II];by_cases c:y∈dd (vals.take i)
   ·rw[br c];rw[br (bg.mpr #[y,c,rfl])]at Y;show Y
   ·rw[az c,dw];rw[az (λq=>by have#[z,hz,e]:=bg.mp q;cases e;show c hz)]at Y;show Y
  apply ab #[j7 uq _,ih (i+1) _ (tn .G [[1,-1,1,-1],[1,1,-1,1]] (.e .C .P) (.e (.a .C .D) .F) (.e (.a .A (.a .D .U)) .F) hk (ae (cg .A .a .A hi)) (ae (cg .I .a .B Z))) Z (W.frame _ s' _ _ be (rj _) λb hb o e=>?_) ca λbM bn bL=>?_]
  ·rw[bl.2 b (λh:b=S=>bv (by rw[<- h];show hb))];show e
  ·apply hR bM (Moved.trans W.gtrans ((hm.mono J).then_heap (rj _) λb o hb e=>?_) bn) bL;rw[bl.2 b (λh:b=S=>hb (by rw[h];show List.mem_cons_self))];show e
def A1 (a:Value){Q₁:QqV}(h:Q₁ (.ref s.heap.objs.size) {s with heap:=s.heap.push (cY G)}) :
  codeAny G.M A (.call (.builtin "set.__new__") #[[.type "set",a],[]]) (wants Q₁ E) s:=by
 apply mr ?_;show wpAny _ A.in1 (do checkBuiltinCall "set.__new__" #[[.type "set",a],[]];again (.builtin "set.__new__" #[[.type "set",a],[]])) _ _ s;apply aa (di (F.newCall_set_1 a) (ab #[j7 F.plain_set_new _,ll F.entry_set_new ?_]));rw[mi F.plain_set_new _];unfold Builtin.«set.__new__» Builtin.Frozenset.newClass;have Z:=sub_set_self;have#[Y,g,d,tk,os]:=s;dsimp only
 wp_walk
 apply rv (ab ?_);dsimp only;simp only[newObj];apply aa (iV (ab ?_));show ab h
set_option maxHeartbeats 3200000 in
def A4 {A:Around}{E:QqV}{s:Shared}{l:Addr}{items:Array Value}{ns us:List Int}{Q:QqV}(hh:A.handled=none)(hl:s.heap.IsList l items)(hi:IntsAre items.toList ns)(hb:us.length+1<scanBound)(cb:∀x∈ns,x∈us)
  (h:∀(h':Heap) (tk:Nat),rg G h' s.heap.objs.size ((dd ns).map Key.int)->(∀b o,s.heap.get? b=some o->h'.get? b=some o)->Q (.ref s.heap.objs.size) {s with heap:=h',toks:=tk}) :
  wpAny G.M A (call (.type "set") [.ref l]) Q E s:=by
 have#[c,tl,cx]:=F.called_set.mro;have bR:=F.called_set.made;have cl:=F.called_set.sub;apply mq (mr ?_);show wpAny _ _ (callAny (.type "set") _) _ _ _;apply ab #[yb _ (by decide +kernel),ll F.entry_type_call ?_];rw[Around.under_plain (weight_type_call_type "set" [.ref l] []) rfl];have h1:=F.called_set.notType;have h2:=F.called_set.canCreate;have cM:=F.typeCall_set_1 (.ref l)
 repeat (any_goals (first|assumption|wp_step))
 apply codeAny_mono (A1 (.ref l) (E:=E) (Q₁:=λobj s₁=>obj=.ref s.heap.objs.size/\s₁={s with heap:=s.heap.push (cY G)}) #[rfl,rfl]) λr s₁ hr=>?_;cases r with
 |error e=>show hr
 |ok fl =>
  cases fl with
  |ret obj =>
   have#[rfl,rfl]:=hr;have hS:(s.heap.push (cY G)).get? s.heap.objs.size=some (cY G):=bc _ rfl;have J:=nG (G:=G) s.heap;have hT:Shared.TypeIs {s with heap:=s.heap.push (cY G)} (.ref s.heap.objs.size) "set":=#[_,hS,rfl];have cB:=F.called_set.init.lookup;have cS:=F.called_set.init.bind (.ref s.heap.objs.size)
   repeat (any_goals (first|assumption|wp_step))
   apply codeAny_mono (uy (R:=wants (λr s₂=>r=.none/\∃h' tk,s₂={s with heap:=h',toks:=tk} /\
     rg G h' s.heap.objs.size ((dd ns).map Key.int)/\(∀b o,s.heap.get? b=some o->h'.get? b=some o)) E) F.called_set.init.plain F.entry_set_init (check_set_init_1 hT ?_)) λr₂ s₂ Z=>?_
   ·have#[ol,ao,bu,nl,bn]:=hl;have#[ck,U,bM,Y]:=ol;simp only at bu bn;subst bu;subst bn;have ag:(s.heap.push (cY G)).get? l=some {cls:=.type "list",dict:=U,data:=.seq items nl,slots:=Y}:=ah _ ao;have cn:=F.sub_list_set;have ct:=F.sub_list_frozenset;have cA:(Value.type "list" == Value.type "dict")=false:=by decide
    have bl:(s.heap.push (cY G)).IsList l items:=#[_,ag,rfl,nl,rfl];unfold Builtin.«set.__init__» noKeywords Builtin.Frozenset.updateFrom;generalize ch:pyIter=PI
    wp_walk
    subst ch;apply aJ bl ?_;apply aa (wpAny_runValue ?_);have be:l<s.heap.objs.size:=fw ao;have cc:A.in1.in1.in1.handled=none:=by simp[hh]
    have O:(s.heap.push (cY G)).objs.size=s.heap.objs.size+1:=fg ..;have ar:l≠(s.heap.push (cY G)).objs.size:=by(show gr (.u .A .B) [[-1,1,-1]] .H (.e .B .S) be O)
    have cd:s.heap.objs.size∉[(s.heap.push (cY G)).objs.size,l]:=by
     simp only[bz,mu,or_false,not_or]
     (show#[(cg (.u .A .B) [[-1,-1]] (.e .B .L) O),(cg (.u .A .B) .a (.l .B .A) be)])
    have W:=hi.length;rw[iy]at W;apply A3 (us:=us) ((Walks.list cc _ l ar items).toS) cd W.symm (λi v hv=>IntsAre.int_at hi i v (by rw[Array.getElem?_toList];show hv)) hb cb (items.size-0) 0 _ (oo (.e .A .A) [[1],[1]]) (dj _)
     #[#[_,bc _ rfl,rfl,rfl],(bl.push _)] ?J ?hR
    case J =>
     have#[o,es,ep,t,ho,r]:=J;apply#[o,es,ep,t,ah _ ho,r]
    case hR =>
     intro s' hm I;have#[h',g',d',bv,bL]:=s';have eg:g'=s.gens:=hm.gens;have ed:d'=s.drawn:=hm.drawn;have eo:bL=s.os:=hm.os;subst eg;subst ed;subst eo;show wpAny _ _ _ _ _ _;apply ab ?_;show wpAny _ _ (ret Value.none) _ _ _;apply ab #[rfl,h',bv,rfl,I,λb o e=>?_];have bd:=fw e;show hm.heap b o (by simp only[bz,mu,or_false,not_or];(show#[(cg (.u .A .B) .j .B bd),(gr (.u .A .B) [[-1,-1,1]] (.e .B .S) .H O bd)])) (ah _ (ah _ e))
   ·cases r₂ with
    |error e=>show Z
    |ok z =>
     cases z with
     |ret r =>
      have#[rfl,h',tk,rfl,I,ca]:=Z
      repeat (any_goals (first|assumption|wp_step))
      show h _ _ I ca
     |_=>show Z.elim
  |_=>show hr.elim
def B9 {e:Ex}{x:Str}{p:Pos}(K:GOk G)(he:dk G C sc d e y)(W:noStar [y]=true)(I:sc.names.lookup x=some .globalImplicit)(B:jg x=true)(O:G.gl x=some (.type "set")) :
  dk G C sc d (.bx .cu e) (.Call (.Name x p) [y] [] pos):=λA E env ρ σ Q s c h=>by
 apply sv (P:=λvs σ=>on1 vs λv=>MX .cu v σ Q) K W (jf he lu (fj W).1) I B O c h λvs σ₁ s₁ ws q vr r Y=>?_;replace q:=bU (vs:=vs) q;have#[v,rfl,q]:=q;have#[a,rfl,ns,e,#[us,h1,h2],q]:=pf (v:=v) q;have#[w,rfl,rfl]:=vr.one;have#[ws,n,z,O]:=r.L _ _ e;apply A4 (us:=us) c.ao.handled z.isList (sr O) (by rw[show scanBound=4096 from rfl];(show fb (.l .L (.n 4096)) .a (.l .A (.n 4000)) h1)) h2 λh' tk J hk=>?_;have Z:s₁.heap.get? s₁.heap.objs.size=none:=none_at_size _;have#[o,es,ep,t,H,r']:=id J;have U:At s₁.heap.objs.size s₁.heap h':=At.grow Z hk H;have#[d1,d2]:=pX ns;apply#[.set _,_,q (dd ns) d1 d2 _ r.DH r.freshD,.set _,r.u5 U (λ_=>Z) J,Y.to (Evo.u5 U (λ_=>Z) _)]
def ES {es:List (Key×V)}{p:V}:(t8 es p).length<=es.length+1:=by
 unfold t8;cases AN p with
 |none=>show rj _
 |some l =>
  show(Option.elim (l.headD V.none).eI es λk=>putD es k (l.tail.headD V.none)).length<=_;cases (l.headD V.none).eI with
  |none=>show rj _
  |some k=>show bS _ _ _
def rK (acc:List V)(p:V):yx (acc++[p])=t8 (yx acc) p:=by unfold yx;rw[List.foldl_append];rfl
def kK (acc:List V):(yx acc).length<=acc.length:=by
 have:∀(acc:List V) (es:List (Key×V)),(acc.foldl t8 es).length<=es.length+acc.length:=λacc=>by
  induction acc with
  |nil=>show λes=>av _
  |cons v acc Z =>
   intro es;have W:=Z (t8 es v);have Y:=@ES es v;rw[List.foldl_cons,jh];(show jm (.k .A (.a .B .S)) .b (.k .A (.a .D .C)) (.k .D .P) W Y)
 have h:=this acc []
 rwa [List.length_nil,tx]at h
def DRs.CQ {h':Heap}(Z:gf h h'):{es:List (Key×V)}->{ds:List (Key×Value)}->DRs G h es ds->DRs G h' es ds
 | []=>λe=>e
 |_::_=>λz=>by have#[w,us,e,a,r]:=z;apply#[w,us,e,a.mono Z,r.CQ Z]
abbrev OU (G:Stc):Acc G where
 B:=λh D acc=>acc.length<=aw/\∃ds,h.DictOf G.kk D ds/\DRs G h (yx acc) ds
 keep:=λh h' D acc b hk hf=>by
  have#[z,ds,hd,dr]:=b;apply#[z,ds,hd.at hk,dr.CQ hf]
 there:=λh D acc b=>by have#[z,ds,hd,dr]:=b;have#[o,ho,_]:=Heap.dictOf_iff.mp hd;apply#[o,ho]
def vX {k v:Ex}{kx vx ce:Expr}{gens:List Comprehension}{depth:Nat}(hk:dk G C sc d k kx)(hv:dk G C sc d v vx)(hg:gens[depth+1]?=none):qb G (OU G) C sc d (.eltP k v) ce gens (I4 kx vx) depth:=λA E env ρ σ acc K s D X xo c a h=>by
 unfold qx;rw[hg];show wpAny _ _ (I4 kx vx _ env) _ _ _;unfold I4;apply aa (kq (hk c h) λu σ₁ s₁ w q vr r x=>aa (bp (kq (hv (c.go r x) q) λO σ₂ s₂ bd Z W r₂ U=>?_)));have#[#[i,rfl],hz,Z]:=Z;have#[t,rfl]:=vr;have xx:=x.trans U;have Y:=a.evo xx.e mu;have#[_,ds,hd,dr]:=Y.here;have hl:=kK acc;have J:=dr.length;apply aa (er (bp (wpAny_dictSet_pairs (k:=.int i) (key_is (v:=.int i) (h:=s₂.heap) rfl #[t,rfl]) hd (λh' H z=>?_) (by rw[<- J];show md (gr .A .b (.l .C .B) (.k .A .C) hz hl)))));have#[o,be,ep,ho,hc,ar,_]:=id hd;have I:gf s₂.heap h':=pq z λo' eo=>by
  have rfl:=af (ho.symm.trans eo);show nu ar
 have ao:∀b o,b∉[D]->s₂.heap.get? b=some o->h'.get? b=some o:=λb o hb e=>by rw[z.2 b (λq=>hb (q▸.head _))];show e
 have#[o2,ag,_]:=Heap.dictOf_iff.mp H;apply#[ρ,acc++[.T [.int i,O]],σ₂,Z,(c.F.evo xx.e).but ao I (λb hb=>by have rfl:=ax.mp hb;show a.off),r₂.frame (o':=default) z Y.out a.base I,#[by rw[cv];show hz,_,H,?_],Y.out,?_,λ_ _=>rfl]
 ·rw[rK];show(dr.CQ I).put (W.mono I)
 ·show(xx.more λ_ h=>nomatch h).to (Evo.frame z ag (.head _) I)
def Rel.vZ {σ:St}{a:Addr}{es:List (Key×V)}{ds:List (Key×Value)}(R:Rel G σ h)(U:¬σ.dom a)(hb:G.hb.get? a=none)(hd:h.DictOf G.kk a ds)(O:DRs G h es ds)(hz:es.length<=aw):Rel G (σ.jr a es) h:=by
 apply#[R.L,λb ys e=>?_,R.S,R.I,λb o e=>?_,R.Ll,λb ys e=>?_,R.inj,λx y f e=>?_,R.sep,λb d=>?_,R.base]
 ·by_cases Y:b=a
  ·try clear U
   subst Y;simp only[St.jr,ay,ek]at e;subst e;apply#[ds,hd,O]
  ·simp only[St.jr,bh Y]at e;show R.D b ys e
 ·have#[hb,e]:=fS e;have#[q,r]:=R.Z b o e;apply#[q,?_];show(upd σ.D a es b).isSome=true\/_;rw[bh hb];show r
 ·by_cases Y:b=a
  ·subst Y;simp only[St.jr,ay,ek]at e;show e▸hz
  ·simp only[St.jr,bh Y]at e;show R.Dl b ys e
 ·have W:y≠a:=λq=>U (by unfold St.dom;rw[<- q];show .inr (.inr (.inr (.inr (.inr #[x,f,e])))));show(bh W).trans (R.apart x y f e)
 ·rcases aB d with d|rfl
  ·show R.new b d
  ·show hb
def Evo.vZ {X:List Addr}{σ σ':St}{h':Heap}{D:Addr}(es:List (Key×V))(x:Evo X σ h σ' h')(Z:h.get? D=none):Evo X σ h (σ'.jr D es) h':=
 #[x.keep,x.frz,λb d=>(aB d).elim (x.dom b) λe=>.inr (e▸Z),x.there]
def tU {i:Nat}{fv:List (Nat×Nat)}{it:It}{t:Tg}{k v:Ex}{kx vx target iter:Expr}{scope:Scope}{x:Str}{kd:NameKind}{W Z:Pos}(hit:xq G C sc d (isTup target) it iter)(ht:tf G C (kf scope sc) d t target)(hk:dk G C (kf scope sc) d k kx)(hv:dk G C (kf scope sc) d v vx)
  (hs:∀env v,foldedSetIterable iter env v=pure v) (J:scope.kind=.function) (nd:(scope.names.map (·.1)).Nodup) (bL:j5 sc fv 0 scope.names=true) (bv:eE scope [#[target,iter,[],0]]=true) (hi:sc.names[i]?=some (x,kd)) (H:Own G x kd) (hl:kindAt JP sc i=true) (hq:((W.line==pos.line)&&!(scope.names.any λp=>p.1==x&&(p.2==.local||p.2==.cell)))=true) :
  vm G C sc d (.dcomp2 i fv it t k v) (.Assign [.Name x W] (.DictComp kx vx [#[target,iter,[],0]] scope pos) Z):=λA E env ρ σ K s c h=>by
 have#[kl,ag,bl,_]:=aO hl;obtain rfl:kl=.local:=by cases kl<;>first|rfl|show Bool.noConfusion bl
 have bu:kd=.local:=by rw[hi]at ag;show(rh (af ag)).2
 have bn:env.kindOf x=some .local:=bu▸rp c.eo.nd (by rw[c.es];show hi);have bd:(env.blockKind==.function&&env.kindOf x==some .local&&W.line==pos.line&&!(scope.names.any λ(n,k)=>n==x&&(k==.local||k==.cell)))=true:=by
  rw[bn,(band hq).1];have hb:env.blockKind=.function:=by unfold Env.blockKind;rw[c.eo.kind];rfl
  rw[hb];show(band hq).2
 have I:swapsWith (.DictComp kx vx [#[target,iter,[],0]] scope pos) (some (.Name x W)) Z.line env=pure true:=by
  show(pure _:Sem Bool)=_;show bb pure bd
 rw[exec_Assign_Name_used _ _ _ _ I];apply aa (er (aa ?_));show wpAny G.M A (comprehension _ scope env _ newDict false (eval iter env) (some (assign (.Name x W) env))>>=λ_=>pure ()) _ E s;apply aa ?_;apply sS (B:=OU G) (o0:={cls:=.type "dict",data:=.dict #v[]}) (Kf:=λacc σ=>∀c,σ.D c=none->K .next (upd ρ i (.dct c)) (σ.jr c (yx acc))) (use:=some (assign (.Name x W) env)) IP (λq=>iq q (dj _)) rfl (λh D e=>#[dj _,[],#[_,#v[],0,e,#[rfl,rfl,rfl],rfl,λ_ he=>by simp at he,.nil,my],.nil]) hit ht o8 (vX hk hv rfl) hs J nd bL bv (λg hg=>nomatch hg) c h λacc σ' s' D L q b hd hb0 bR R' x' hL be bM hm=>?_;have#[m,hm]:=hm;have#[hz,ds,hD,dr]:=b;have hl:=kK acc;have ca:σ'.D D=none:=by
  cases hq:σ'.D D with
  |none=>rfl
  |some y=>show absurd (.inr (.inl (by rw[hq];rfl))) hd
 have R1:=R'.vZ hd hb0 hD dr (gr .A .b .F (.k .A .C) hz hl);have x1:Go [] σ s (σ'.jr D (yx acc)) s':=#[x'.e.vZ _ bR,x'.g,x'.o];have Y:¬(σ'.jr D (yx acc)).dom L:=λdm=>(aB dm).elim bM λe=>be e;show wpAny G.M A (assign (.Name x W) env (.ref D)) _ E _;apply assign_Name (ug c.eo (c.F.evo x1.e) R1 (by rw[c.es];show hi) H (.dct D) λs2 F2 R2 x2=>?_);have hn:∀b∈[L],s.heap.get? b=none:=λb hb=>by have rfl:=ax.mp hb;show hL
 have hX:=jE c.F hn;have#[o,cb,ep,ho,ar,O]:=id hm;have z:=x2.keep _ _ ho Y (hX L (.head _));apply#[m,#[o,cb,ep,z,ar,O],λh3 U=>ab (ab ?_)];have hf:gf s2.heap h3:=pq U λo' e=>by have rfl:=af (z.symm.trans e);show nu ar
 have ao:∀b o,b∉[L]->s2.heap.get? b=some o->h3.get? b=some o:=λb o hb e=>by rw[U.2 b (λq=>hb (q▸.head _))];show e
 apply#[.next,_,_,.next,q _ ca,F2.but ao hf hX,R2.frame (o':=default) U Y (zm c.R hn L (.head _)) hf,(x1.wide.trans x2).but ao .rfl hn]
end
section
variable {sc:Scope}{x y u:Expr}{α:Type}{e a b:Ex}{p pos:Pos}{es:Exs}{args:List Expr}{n:Nat}
variable {G:Stc}{T:Tab}{C:Cal}{d:Nat}
def qu (K:TabOk G T C d){x:Str}{v:Value}(h:glob T sc x v=true):sc.names.lookup x=some .globalImplicit/\jg x=true/\G.gl x=some v:=
 #[ak (band h).1,(band (band h).2).1,K.gl _ _ (ak (band (band h).2).2)]
def zo (h:kO x=true):∀env v,foldedSetIterable x env v=pure v:=by
 intro env v;induction x using Expr.casesOn<;>first|rfl|show Bool.noConfusion (show false=true from h)
def TabOk.own (K:TabOk G T C d){i:Nat}(h:ownAt T.cap sc i=true):∃k,sc.names[i]?=some (vi sc i,k)/\Own G (vi sc i) k/\jg (vi sc i)=true:=uA (by rw[K.cap];show h)
def jU (K:TabOk G T C d):(t:Tg)->(x:Expr)->zE T sc t x=true->tf G C sc d t (j0 sc t x)
 |.v i,x,h=>by have#[k,Y,Z,W]:=K.own h;show FW (C:=C) Y Z
 |.T is,x,h=>FX (C:=C) K.unp (by rw[K.cap];show h)
def lA {a:Option α}{d:α}(h:a.isSome=true):a=some (a.getD d):=by
 cases a with
 |none=>cases h
 |some x=>rfl
def qC (K:TabOk G T C d){i:Nat}(h:(T.attrs[i]?).isSome=true):G.attrs[i]?=some ((T.attrs[i]?).getD ""):=by
 rw[K.attrs];show lA h
def OL {op:BoolOp}{m:Bool}(H:∀z r,dk G C sc d a x->dk G C sc d b (.BoolOp op (z::r) p)->dk G C sc d e (.BoolOp op (x::z::r) p))(Z:dk G C sc d a x)(hb:dk G C sc d b y)(h:CI op y p m=true) :
  dk G C sc d e (bo op x y p m):=by
 rcases sY m h with rfl|⟨z,r,rfl,Y⟩
 ·show H y [] Z (G7 hb)
 ·rw[Y];show H z r Z hb
def OK {op:BoolOp}{m:Bool}(H:∀z r,rt G C sc d a x->rt G C sc d b (.BoolOp op (z::r) p)->rt G C sc d e (.BoolOp op (x::z::r) p))(Z:rt G C sc d a x)(hb:rt G C sc d b y)(h:CI op y p m=true) :
  rt G C sc d e (bo op x y p m):=by
 rcases sY m h with rfl|⟨z,r,rfl,Y⟩
 ·show H y [] Z (by cases op;show yV hb;show yU hb)
 ·rw[Y];show H z r Z hb
def yT (K:TabOk G T C d){f:Nat}(h:((T.fns.lookup f).any λa=>glob T sc (kh x) (.ref a))=true)(Z:oq G C sc d es args)(Y:noStar args=true):dk G C sc d (.call f es) (.Call (nm x) args [] pos):=by
 have#[a,e,h]:=any_some h;have#[g1,g2,g3]:=qu K h;show BP K.g (K.cal.more (Nat.sub_le _ _)) e Z Y g1 g2 g3
def yP (K:TabOk G T C d){m:Nat}{o:Expr}{ap:Pos}(h:(T.meths.lookup m).isSome=true)(U:dk G C sc d e o)(I:lr o=true)(J:(ap.endLine==pos.line)=true)(O:decide (args.length<30)=true)(Y:noStar args=true)(Z:oq G C sc d es args) :
  dk G C sc d (.meth e m es) (.Call (.Attribute o ((T.meths.lookup m).getD "") ap) args [] pos):=by
 have#[f,W,M]:=K.meth _ _ (lA h);show BG (K.cal.more (Nat.sub_le _ _)) W M U Z I Y (ak O) J
def GQ (K:TabOk G T C d){k:BM}{o:Expr}{ap:Pos}(h:(!isSort k||es.isNil)=true)(J:es.isNil=true->args=[])(Y:dk G C sc d e o)(U:lr o=true)(W:(ap.endLine==pos.line)=true)(I:decide (args.length<30)=true)(O:noStar args=true)(Z:oq G C sc d es args) :
  dk G C sc d (.bm k e es) (.Call (.Attribute o (qA k) ap) args [] pos):=by
 by_cases hk:k=.sort
 ·subst hk;have rfl:=J h;cases es with
  |nil=>show B7 K.ma Y U W
  |cons _ _=>cases h
 ·show KN K.g hk Y Z U O (ak I) W
def CA {l:List Expr}:(es:Exs)->es.isNil=true->pd T es sc l=[]
 |.nil,_=>rfl
def GZ {l:List Expr}:(es:Exs)->(!es.isNil)=true->pd T es sc l≠[]
 |.cons _ _,_=>List.cons_ne_nil _ _
def yO (K:TabOk G T C d)(Z:args≠[])(h:glob T sc (kh x) (.ref T.cS)=true)(W:noStar args=true)(Y:oq G C sc d es args):dk G C sc d (.n es) (.Call (nm x) args [] pos):=by
 have#[g1,g2,g3]:=qu K h;have#[f,U,M]:=K.init;show BE K.g K.cal (fk (by decide) K.d3) U M Y W Z g1 g2 (K.cS▸g3)
def mM (K:TabOk G T C d){c:Ex}{v w:Expr}(h:glob T sc (kh x) (.ref T.cM)=true)(Z:noStar [u,v,w]=true)(W:dk G C sc d a u)(hb:dk G C sc d b v)(Y:dk G C sc d c w):dk G C sc d (.N a b c) (.Call (nm x) [u,v,w] [] pos):=by
 have#[g1,g2,g3]:=qu K h;have#[fN,fM,O,U,J]:=K.mt;show oS K.g O U K.ma (fk (by decide) K.d3) W hb Y Z g1 g2 (K.cM▸g3)
def jX (K:TabOk G T C d){z:Expr}{q:Pos}(B:glob T sc (kh x) (.type "list")=true)(H:glob T sc (kh y) (.type "map")=true)(I:glob T sc (kh z) (.ref T.cM)=true)(O:noStar [u]=true)(J:dk G C sc d e u) :
  dk G C sc d (.M e) (.Call (nm x) [.Call (nm y) [.Attribute (nm z) "_make" q,u] [] p] [] pos):=by
 have#[g1,g2,g3]:=qu K B;have#[U,k2,k3]:=qu K H;have#[W,Y,Z]:=qu K I;have#[fN,fM,Mk,Mn,Mm]:=K.mt;show mO K.g Mk K.ma Mm K.d3 J O g1 g2 g3 U k2 k3 W Y (K.cM▸Z)
def gZ (h:e.isNone=true):e=.none:=by
 induction e using Ex.casesOn<;>first|rfl|show Bool.noConfusion h
def IE {l m:List α}{a:α}(h:l.drop n=a::m):l[n]?=some a:=by
 have:=bb (λl=>l[0]?) h;simpa using this
def ID {l m:List α}{a:α}(h:l.drop n=a::m):l.drop (n+1)=m:=by
 have:=bb (λl=>l.drop 1) h;simpa using this
def bQ:(Z:Gens)->(l:List Comprehension)->∀g∈C9 T Z sc l,g.is_async=0
 |.elt _,_,_,h=>nomatch h
 |.eltP _ _,_,_,h=>nomatch h
 |.cons _ _ _ more,l,g,h=>(bz.mp h).elim (λe=>e▸rfl) (bQ more l.tail g)
def ft {p:Prop}(h:false=true):p:=Bool.noConfusion h
def KL (K:TabOk G T C d):(k:BX)->glob T sc (kh x) (K2 k)=true->noStar [u]=true->dk G C sc d e u->dk G C sc d (.bx k e) (.Call (nm x) [u] [] pos)
 |.cu=>λh Z Y=>by have#[g1,g2,g3]:=qu K h;show B9 K.g Y Z g1 g2 g3
def GS (K:TabOk G T C d):(k:BF)->Nat.beq 1 (EK k)=true->HV k=false->glob T sc (kh x) (y5 k)=true->noStar [u]=true->dk G C sc d e u->dk G C sc d (.bf k %[e|0]) (.Call (nm x) [u] [] pos)
 |.len=>λ_ _ h Z Y=>by have#[g1,g2,g3]:=qu K h;show GC K.g Y Z g1 g2 g3
 |.set=>λh=>ft h
def GR (K:TabOk G T C d){f:Ex}{v:Expr}:(k:BF)->Nat.beq 2 (EK k)=true->glob T sc (kh x) (y5 k)=true->noStar [u,v]=true->dk G C sc d e u->dk G C sc d f v->dk G C sc d (.bf k %[e,f|0]) (.Call (nm x) [u,v] [] pos)
 |.len=>λh=>ft h
 |.set=>λh=>ft h
def GU (K:TabOk G T C d):(k:BF)->Nat.beq 0 (EK k)=true->glob T sc (kh x) (y5 k)=true->dk G C sc d (.bf k .nil) (.Call (nm x) [] [] pos)
 |.set=>λ_ h=>by have#[g1,g2,g3]:=qu K h;show BA K.g g1 g2 g3
 |.len=>λh=>ft h
def bf3 (k:BF)(h:Nat.beq (n+3) (EK k)=true):False:=by
 cases k<;>first|show nomatch (show Nat.beq (n+2) 0=true from h)|show nomatch (show Nat.beq (n+3) 0=true from h)|show nomatch (show Nat.beq (n+1) 0=true from h)
mutual
theorem iw (K:TabOk G T C d):(e:Ex)->(sc:Scope)->(x:Expr)->okE T e sc x=true->dk G C sc d e (reE T e sc x)
 |.none=>λsc x h=>BD
 |.bool b=>λsc x h=>BQ
 |.int i=>λsc x h=>GF
 |.str t=>λsc x h=>G4
 |.l i=>λsc x h=>by have#[k,h1,Z,Y]:=aO h;show jC h1 Z Y
 |.b op a b=>λsc x h=>wM (iw K a sc _ (band h).1) (iw K b sc _ (band h).2)
 |.neg a=>λsc x h=>G9 (iw K a sc _ h)
 |.not a=>λsc x h=>G8 (iw K a sc _ h)
 |.and a b=>λsc x h=>let Z:=band (band h).2;OL (λ_ _=>snd_and) (iw K a sc _ (band h).1) (iw K b sc _ Z.1) Z.2
 |.or a b=>λsc x h=>let Z:=band (band h).2;OL (λ_ _=>KG) (iw K a sc _ (band h).1) (iw K b sc _ Z.1) Z.2
 |.c op a b=>λsc x h=>let Z:=band (band h).2;GL (iw K a sc _ (band h).1) (iw K b sc _ Z.1) ((dp _).mp Z.2)
 |.I c a b=>λsc x h=>let Z:=band (band h).2;let Y:=band Z.2;GD (gM K c sc _ (band h).1 Z.1) (iw K a sc _ Y.1) (iw K b sc _ Y.2)
 |.L es=>λsc x h=>GB (dG K es sc _ (band h).1 (band h).2)
 |.T es=>λsc x h=>wK (dG K es sc _ (band h).1 (band h).2)
 |.dct0=>λsc x h=>BL
 |.call f es=>λsc x h=>let Z:=band (band h).2;yT K (band h).1 (dG K es sc _ Z.1 Z.2) Z.1
 |.meth e m es=>λsc x h=>let Z:=band (band h).2;let Y:=band Z.2;let W:=band Y.2;let U:=band W.2;let O:=band U.2
  yP K (band h).1 (iw K e sc _ Z.1) Y.1 W.1 U.1 O.1 (dG K es sc _ O.1 O.2)
 |.attr e i=>λsc x h=>let Z:=band (band h).2;qU K.g (iw K e sc _ Z.2) Z.1 (qC K (band h).1)
 |.g e=>λsc x h=>tT (iw K e sc _ (band h).2) (band h).1
 |.h e=>λsc x h=>tR (iw K e sc _ (band h).2) (band h).1
 |.dhasOf e=>λsc x h=>tS (iw K e sc _ (band h).2) (band h).1
 |.flt=>λsc x h=>GH
 |.ratio a b=>λsc x h=>yM (iw K a sc _ (band h).1) (iw K b sc _ (band h).2)
 |.neS a b=>λsc x h=>let Z:=band (band h).2;GA K.g (iw K a sc _ (band h).1) (iw K b sc _ Z.1) ((dp _).mp Z.2)
 |.bm k e es=>λsc x h=>let Z:=band (band h).2;let Y:=band Z.2;let W:=band Y.2;let U:=band W.2;let O:=band U.2
  GQ K (band h).1 (CA es) (iw K e sc _ Z.1) Y.1 W.1 U.1 O.1 (dG K es sc _ O.1 O.2)
 |.bf k .nil=>λsc x h=>GU K k (band h).1 (band (band h).2).1
 |.bf k %[e|0]=>λsc x h=>let Z:=band (band h).2;let W:=band Z.2
  GS K k (band h).1 rfl Z.1 W.1 (iw K e sc _ (band W.2).1)
 |.bf k %[e,f|0]=>λsc x h=>let Z:=band (band h).2;let W:=band Z.2;let U:=band W.2
  GR K k (band h).1 Z.1 W.1 (iw K e sc _ U.1) (iw K f sc _ (band U.2).1)
 |.bf k (.cons e (.cons f (.cons g r)))=>λsc x h=>(bf3 k (band h).1).elim
 |.w f es=>λsc x h=>let Z:=band (band h).2;by have#[k,e1,e2,e3]:=aO (band h).1;show nF K.g (K.lam.more (Nat.sub_le _ _)) e1 e2 e3 (dG K es sc _ Z.1 Z.2) Z.1
 |.sub e i=>λsc x h=>let Z:=band (band h).2;wL (iw K e sc _ Z.1) (iw K i sc _ Z.2) ((dp _).mp (band h).1)
 |.slc e lo B=>λsc x h=>let Z:=band (band h).2;G5 (iw K e sc _ (band h).1)
   (by
    cases J:ym 0 (kid 1 x) with
    |none=>show .inl #[gZ (by have:=Z.1;rw[J]at this;show this),rfl]
    |some y=>show .inr #[_,rfl,iw K lo sc y (by have:=Z.1;rw[J]at this;show this)])
   (by
    cases J:ym 1 (kid 1 x) with
    |none=>show .inl #[gZ (by have:=Z.2;rw[J]at this;show this),rfl]
    |some y=>show .inr #[_,rfl,iw K B sc y (by have:=Z.2;rw[J]at this;show this)])
 |.K fv it t cs more=>λsc x h=>let Z:=band (band h).2;let Y:=band Z.2;let W:=band Y.2;let U:=band W.2;let O:=band U.2;let H:=band O.2;let I:=band H.2
  qT (qW K it sc _ _ (band h).1) (jU K t _ Z.1) (wQ K cs _ _ Y.1) (C1 K more _ _ _ _ _ 0 pZ rfl (λg z=>(bz.mp z).elim (λe=>e▸rfl) (bQ more _ g)) W.1) (zo U.1) (ak O.1) (ak H.1) I.1 I.2 (bQ more _)
 |.bx k e=>λsc x h=>let Z:=band (band h).2;KL K k (band h).1 Z.1 (iw K e sc _ Z.2)
 |.n es=>λsc x h=>let Z:=band (band h).2;let Y:=band Z.2;yO K (GZ es (band h).1) Z.1 Y.1 (dG K es sc _ Y.1 Y.2)
 |.N a b c=>λsc x h=>let Z:=band (band h).2;let Y:=band Z.2;let W:=band Y.2;mM K (band h).1 Z.1 (iw K a sc _ Y.1) (iw K b sc _ W.1) (iw K c sc _ W.2)
 |.M e=>λsc x h=>let Z:=band (band h).2;let Y:=band Z.2;let W:=band Y.2;jX K (band h).1 Z.1 Y.1 W.1 (iw K e sc _ W.2)
 |.dead=>λsc x h=>yS
theorem gM (K:TabOk G T C d):(e:Ex)->(sc:Scope)->(x:Expr)->tOk e=true->okE T e sc x=true->rt G C sc d e (reE T e sc x)
 |.not a=>λsc x t h=>BU (gM K a sc _ t h)
 |.and a b=>λsc x t h=>let Z:=band (band h).2;OK (λ_ _=>BZ) (gM K a sc _ (band t).1 (band h).1) (gM K b sc _ (band t).2 Z.1) Z.2
 |.or a b=>λsc x t h=>let Z:=band (band h).2;OK (λ_ _=>GW) (gM K a sc _ (band t).1 (band h).1) (gM K b sc _ (band t).2 Z.1) Z.2
 |.c op a b=>λsc x t h=>let Z:=band (band h).2;BY (iw K a sc _ (band h).1) (iw K b sc _ Z.1) ((dp _).mp Z.2)
 |.neS a b=>λsc x t h=>let Z:=band (band h).2;BV K.g (iw K a sc _ (band h).1) (iw K b sc _ Z.1) ((dp _).mp Z.2)
 |.I c a b=>λsc x t h=>let Z:=band (band h).2;let Y:=band Z.2;BW (gM K c sc _ (band h).1 Z.1) (gM K a sc _ (band t).1 Y.1) (gM K b sc _ (band t).2 Y.2)
 |.l i=>λsc x t h=>by have#[k,W,Z,Y]:=aO h;show wq (jC W Z Y) (λ_ _=>rfl) λρ σ Q q=>q
 |.attr e i=>λsc x t h=>let Z:=band (band h).2;wq (qU K.g (iw K e sc _ Z.2) Z.1 (qC K (band h).1)) (λ_ _=>rfl) λρ σ Q q=>q
 |.w f es=>λsc x t h=>let Z:=band (band h).2;by have#[k,J,O,U]:=aO (band h).1;show wq (nF K.g (K.lam.more (Nat.sub_le _ _)) J O U (dG K es sc _ Z.1 Z.2) Z.1) (λ_ _=>rfl) λρ σ Q q=>q
 |.sub e i=>λsc x t h=>let Z:=band (band h).2;wq (wL (iw K e sc _ Z.1) (iw K i sc _ Z.2) ((dp _).mp (band h).1)) (λ_ _=>rfl) λρ σ Q q=>q
 |.b op a b=>λsc x t h=>wq (wM (iw K a sc _ (band h).1) (iw K b sc _ (band h).2)) (λ_ _=>rfl) λρ σ Q q=>q
 |.dead=>λsc x t h=>yR
 |.none=>λ_ _ t _=>ft t
 |.bool _=>λ_ _ t _=>ft t
 |.int _=>λ_ _ t _=>ft t
 |.str _=>λ_ _ t _=>ft t
 |.neg _=>λ_ _ t _=>ft t
 |.L _=>λ_ _ t _=>ft t
 |.T _=>λ_ _ t _=>ft t
 |.dct0=>λ_ _ t _=>ft t
 |.call _ _=>λ_ _ t _=>ft t
 |.meth _ _ _=>λ_ _ t _=>ft t
 |.g _=>λ_ _ t _=>ft t
 |.h _=>λ_ _ t _=>ft t
 |.dhasOf _=>λ_ _ t _=>ft t
 |.flt=>λ_ _ t _=>ft t
 |.ratio _ _=>λ_ _ t _=>ft t
 |.bm _ _ _=>λ_ _ t _=>ft t
 |.bf _ _=>λ_ _ t _=>ft t
 |.slc _ _ _=>λ_ _ t _=>ft t
 |.K _ _ _ _ _=>λ_ _ t _=>ft t
 |.bx _ _=>λ_ _ t _=>ft t
 |.n _=>λ_ _ t _=>ft t
 |.N _ _ _=>λ_ _ t _=>ft t
 |.M _=>λ_ _ t _=>ft t
theorem dG (K:TabOk G T C d):(es:Exs)->(sc:Scope)->(l:List Expr)->noStar (pd T es sc l)=true->gT T es sc l=true->oq G C sc d es (pd T es sc l)
 |.nil=>λsc l Z h=>lu
 |.cons e es=>λsc l Z h=>jf (iw K e sc _ (band h).1) (dG K es sc _ (fj Z).2 (band h).2) (fj Z).1
theorem wQ (K:TabOk G T C d):(es:Exs)->(sc:Scope)->(l:List Expr)->H9 T es sc l=true->qa G C sc d es (pd T es sc l)
 |.nil=>λsc l h=>o8
 |.cons e es=>λsc l h=>let Z:=band (band h).2;vK (gM K e sc _ (band h).1 Z.1) (wQ K es sc _ Z.2)
theorem qW (K:TabOk G T C d):(it:It)->(sc:Scope)->(Y:Bool)->(x:Expr)->CH T it sc Y x=true->xq G C sc d Y it (kF T it sc x)
 |.rng1 e,sc,Y,x,h=>let Z:=band (band h).2;by have#[g1,g2,g3]:=qu K (band h).1;show HS K.g (iw K e sc _ Z.2) Z.1 g1 g2 g3
 |.rng2 e f,sc,Y,x,h=>let Z:=band (band h).2;let W:=band Z.2;by have#[g1,g2,g3]:=qu K (band h).1;show HR K.g (iw K e sc _ W.1) (iw K f sc _ W.2) Z.1 g1 g2 g3
 |.enum e,sc,true,x,h=>let Z:=band h;let W:=band Z.2;by have#[g1,g2,g3]:=qu K Z.1;show HU K.g (iw K e sc _ W.2) W.1 g1 g2 g3
 |.enum e,sc,false,x,h=>nomatch h
 |.seq e,sc,Y,x,h=>LV (iw K e sc _ h)
 |.keys e,sc,Y,x,h=>let Z:=band (band h).2;HT K.g (iw K e sc _ Z.2) (band h).1 Z.1
 |.items e,sc,true,x,h=>let U:=band h;let Z:=band U.2;DA K.g (iw K e sc _ Z.2) U.1 Z.1
 |.items e,sc,false,x,h=>nomatch h
theorem C1 (K:TabOk G T C d):(Z:Gens)->(sc:Scope)->(x:Expr)->(l:List Comprehension)->(gens:List Comprehension)->(ce:Expr)->(depth:Nat)->iS ce gens (uV (wW T Z sc x))->gens.drop (depth+1)=C9 T Z sc l->(∀g∈gens,g.is_async=0)->KY T Z sc l x=true->qb G (A9 G) C sc d Z ce gens (uV (wW T Z sc x)) depth
 |.elt e=>λsc x l gens ce depth W hd Y h=>A8 (iw K e sc _ h) (jj.mpr (List.drop_eq_nil_iff.mp hd))
 |.eltP k v=>λsc x l gens ce depth W hd Y h=>ft h
 |.cons it t cs more=>λsc x l gens ce depth W hd Y h =>
  let J:=band (band h).2;let O:=band J.2;let U:=band O.2
  vY W (qW K it sc _ _ (band h).1) (jU K t _ J.1) (wQ K cs _ _ O.1) (C1 K more sc x _ gens ce (depth+1) W (ID hd) Y U.1) (IE hd) (λH I=>Y H (cz I)) (zo U.2)
end
end
section
variable {e:Ex}
variable {G:Stc}{T:Tab}{C:Cal}{d:Nat}{sc:Scope}
def KO (K:TabOk G T C d):(t:Tgt)->(x:Expr)->JG T sc t x=true->iB G C sc d t (wV T sc t x)
 |.v i,x,h=>by have#[k,Y,Z,W]:=K.own h;show wI Y Z
 |.attr o i,x,h=>AW K.g (iw K o sc _ (band h).1) (qC K (band h).2)
 |.sub o i,x,h=>FV (iw K o sc _ (band h).1) (iw K i sc _ (band h).2)
 |.T is,x,h=>FU K.unp (by rw[K.cap];show h)
def DL (t:Tgt)(x:Expr)(xs:List Expr)(env:Env):assignEach (wV T sc t x::xs) env=(false,assign (wV T sc t x) env)::assignEach xs env:=by
 cases t<;>rfl
def wO (K:TabOk G T C d):(ts:List Tgt)->(l:List Expr)->kL T sc ts l=true->cW G C sc d ts (yw T sc ts l)
 | [],_,_=>.nil
 |t::ts,l,h=>.cons (KO K t _ (band h).1) (DL t _ _) (wO K ts _ (band h).2)
def AV:(ts:List Tgt)->(l:List Expr)->uQ ts=true->kL T sc ts l=true->∃i x p,ts=[.v i]/\yw T sc ts l=[.Name x p]/\x=vi sc i/\ownAt T.cap sc i=true
 | []=>λl q h=>ft q
 |t::r=>λl q h=>by
  cases t<;>cases r<;>first|refine⟨_,_,_,rfl,rfl,rfl,(band h).1⟩|show ft q
def PG:(ts:List Tgt)->(is:List Nat)->DB ts=some is->ts=[.T is]
 | []=>λis h=>gy h
 |t::r=>λis h=>by
  cases t<;>cases r<;>first|show gy h|(have rfl:=af h;rfl)
def N6 (K:TabOk G T C d)(t:Tg)(x:Expr)(h:zE T sc t x=true):y6 G C sc d t (j0 sc t x):=tf.plain (C:=C) (jU K t x h)
def OS {op:Bop}(h:NV op=true):op=.add\/op=.sub:=by
 induction op using Bop.casesOn<;>first|show .inl rfl|show .inr rfl|show Bool.noConfusion h
def IL (h:uR e=true):∃fv it t cs more,e=.K fv it t cs more:=by
 induction e using Ex.casesOn<;>first|refine⟨_,_,_,_,_,rfl⟩|show Bool.noConfusion h
def GX (K:TabOk G T C d){ts:List Tgt}{pos:Pos}{l:List Expr}{y:Expr}(U:uR e=true)(Y:uQ ts=true)(W:kL T sc ts l=true)(h:okE T e sc y=true):vm G C sc d (.a ts e) (.Assign (yw T sc ts l) (reE T e sc y) pos):=by
  have Z:=IL U
  try clear U
  have#[fv,it,t,cs,more,rfl]:=Z;have Z:=AV ts l Y W
  try clear W
  try clear Y
  have#[i,x',p',rfl,e2,rfl,hk]:=Z;have#[kd,o1,o2,o3]:=K.own hk;rw[e2];have h2:=band (band h).2;have z:=band h2.2;have B:=band z.2;have H:=band B.2;have I:=band H.2;have J:=band I.2;have O:=band J.2;show k7 o1 o2 (qW K it sc _ _ (band h).1) (jU K t _ h2.1) (wQ K cs _ _ z.1) (C1 K more _ _ _ _ _ 0 pZ rfl (λg hg=>(bz.mp hg).elim (λe=>e▸rfl) (bQ more _ g)) B.1) (zo H.1) (ak I.1) (ak J.1) O.1 O.2 (bQ more _)
def yX (K:TabOk G T C d){ts:List Tgt}{pos:Pos}{l:List Expr}{y:Expr}(h:okE T e sc y=true):(o:Option (Option (List Str)))->swp sc (yw T sc ts l) (reE T e sc y)=o->JH T sc ts e (yw T sc ts l) l (reE T e sc y) o=true->vm G C sc d (.a ts e) (.Assign (yw T sc ts l) (reE T e sc y) pos)
 |none,_,Y=>nomatch Y
 |some none,W,Y=>(Classical.em (vh (reE T e sc y)=true)).elim (λU=>tY (wO K ts l (band Y).1) (iw K e sc y h) U W) λU =>
  ((vd ..).mp (band Y).2).elim (λZ=>absurd Z U) λZ=>GX K (band Z).2 (band Z).1 (band Y).1 h
 |some (some names),W,Y=>by
  have#[is,O,Z]:=any_some Y
  try clear Y
  have rfl:=PG ts is O;show snd_swap K.unp (iw K e sc y h) (band Z).1 W (by rw[K.cap];show(band (band Z).2).1) (ak (band (band Z).2).2)
mutual
theorem PJ (K:TabOk G T C d):(s:Stm)->(x:Stmt)->okS T sc s x=true->vm G C sc d s (reS T sc s x)
 |.a ts e=>λx h=>yX K (band h).1 _ rfl (band h).2
 |.aug i op e=>λx h=>by
  have#[k,U,W,O]:=K.own (band (band h).2).1;show GV (OS (band h).1) (iw K e sc _ (band (band h).2).2) U W O
 |.delD o i=>λx h=>GJ (iw K o sc _ (band h).1) (iw K i sc _ (band h).2)
 |.delS o i=>λx h=>GK (iw K o sc _ (band h).1) (iw K i sc _ (band h).2)
 |.dcomp2 i fv it t k v=>λx h=>by
  have Z:=band (band h).2;have Y:=band Z.2;have h4:=band Y.2;have h5:=band h4.2;have z:=band h5.2;have B:=band z.2;have H:=band B.2;have I:=band H.2;have J:=band I.2;have hb:=band J.2;have#[kd,U,W,O]:=K.own J.1;show tU (qW K it sc _ _ (band h).1) (jU K t _ Z.1) (iw K k _ _ Y.1) (iw K v _ _ h4.1) (zo h5.1) (ak z.1) (ak B.1) H.1 I.1 U W hb.1 hb.2
 |.expr e=>λx h=>BI (iw K e sc _ (band h).2) (band h).1
 |.exprF e=>λx h=>yQ (iw K e sc _ (band h).2) (band h).1
 |.C c t e=>λx h=>let Z:=band (band h).2;let Y:=band Z.2;BO (gM K c sc _ (band h).1 Z.1) (iK K t _ Y.1) (iK K e _ Y.2)
 |.loop c b=>λx h=>let Z:=band (band h).2;BH (gM K c sc _ (band h).1 Z.1) (iK K b _ Z.2)
 |.each t it b=>λx h=>let Z:=band (band h).2;let Y:=band Z.2;BJ (N6 K t _ (band h).1) (qW K it sc _ _ Z.1) (iK K b _ Y.1) (zo Y.2)
 |.ret e=>λx h=>by
  show vm G C sc d _ (.Return ((yu x).head?.map (reE T e sc)) x.pos);have h:(match (yu x).head? with|some y=>okE T e sc y|none=>e.isNone)=true:=h;cases q:(yu x).head? with
  |some y=>rw[q]at h;show G6 (iw K e sc y h)
  |none=>rw[q]at h;have rfl:=gZ h;show BB
 |.brk=>λx h=>GN
 |.cont=>λx h=>BN
 |.pass=>λx h=>by
  show vm G C sc d _ (bif (yu x).isEmpty then _ else _);cases (yu x).isEmpty
  ·show oT
  ·show BC
 |.dead=>λx h=>BK
theorem iK (K:TabOk G T C d):(b:jo)->(l:List Stmt)->j4 T sc b l=true->dO G C sc d b (eY T sc b l)
 |.nil=>λl h=>yW
 |.cons s ss=>λl h=>tZ (PJ K s _ (band h).1) (iK K ss _ (band h).2)
end
end
structure qJ (G:Stc)(T:Tab):Prop where
 g:GOk G
 gl:∀x v,T.gl.lookup x=some v->G.gl x=some v
 attrs:G.attrs=T.attrs
 cap:G.cap=T.cap
 meth:∀k name,T.meths.lookup k=some name->∃f,T.fns.lookup k=some f/\MethAt G name f
 init:∃f,T.fns.lookup 0=some f/\mG G f
 cM:G.cM=T.cM
 cS:G.cS=T.cS
 mt:∃fN fM,pe G fN fM/\oG G fN/\mA G fM
 ma:sd G
structure qF (G:Stc)(T:Tab)(P:Nat->Option Fn):Prop where
 base:qJ G T
 lam:∀k cs a,G.clo k cs a->∃n sc e b,P (1000+k)=some #[n+cs.length,[],.cons (.ret b) .nil]/\mC G a n cs sc e/\okE T b sc e=true/\reE T b sc e=e
 fn:∀k a,T.fns.lookup k=some a->∃fn sc body,P k=some fn/\FnAt G a fn.n fn.dflt sc body/\j4 T sc fn.body body=true/\eY T sc fn.body body=body
section
variable {G:Stc}{T:Tab}{P:Nat->Option Fn}
def qJ.tab (B:qJ G T){C:Cal}{d:Nat}(Y:dP G (λk=>T.fns.lookup k) C (d-1))(Z:mB G C (d-1))(hd:3<=d):TabOk G T C d:=
 #[B.g,B.gl,B.attrs,B.cap,Y,Z,B.meth,B.init,B.cM,B.cS,B.mt,B.ma,PF B.ma,hd]
def jI (K:qF G T P):∀n,dP G (λk=>T.fns.lookup k) (ef P n) (2*n+2)/\mB G (ef P n) (2*n+2)
 |0=>⟨λk a hk=>by
  have#[fn,sc,body,H,Y,hc]:=K.fn k a hk;have#[o,fd,U,W,_]:=Y.here;apply#[#[o,fd,U,W],λz R vr h=>h.elim],λk cs a hk=>by
  have#[m,sc,e,b,H,Y,hc]:=K.lam k cs a hk;have#[o,fd,U,W,_]:=Y.here;apply#[#[o,fd,U,W],λz R vr h=>h.elim]⟩
 |n+1=>by
  have#[bl,ag]:=jI K n;have tb:TabOk G T (ef P n) (2*n+3):=K.base.tab bl ag (oo (.k (.n 3) (.a (.m 2 .A) (.n 3))) .f);apply#[λk a hk=>?_,λk cs a hk=>?_]
  ·have#[fn,sc,body,H,Y,hc]:=K.fn k a hk;have#[o,fd,U,W,_]:=Y.here;apply#[#[o,fd,U,W],@λA E vs ws σ Q s z R vr h=>?_];have#[bn,Z,I,J,h]:=h;have rfl:=af (H.symm.trans Z);show IV (b:=fn.body) (d:=2*n+3) Y (hc.2▸iK tb fn.body body hc.1) z R vr I J h
  ·have#[m,sc,e,b,H,Y,bd,ar]:=K.lam k cs a hk;have#[o,fd,U,W,_]:=Y.here;apply#[#[o,fd,U,W],@λA E vs ws σ Q s z R vr h=>?_];have#[bn,Z,I,J,h]:=h;have zz:=af (H.symm.trans Z)
   try clear Z
   have rfl:=zz;have be:frameOf #[m+cs.length,[],.cons (.ret b) .nil] (vs++cs)=λi=>(vs++cs)[i]?:=by
    funext i
    unfold frameOf eQ;dsimp only;rw[List.drop_nil,cy]
   rw[be]at h;have hl:vs.length=m:=by
    rw[cv]at I J;dsimp only[List.length_nil]at I J
    (show gr .G .g (.k (.a .A .C) (.a .B .C)) (.k (.a .B .C) (.a (.a .A .C) .O)) I J)
   show EA (d:=2*n+3) Y (ar▸iw tb b sc e bd) z R vr hl h
end
end MP
end
section
set_option backward.match.sparseCases false
namespace MP
open PySem PyProof.Rows PySem.W
variable {G:Stc}{h h₀:Heap}{d:Data}{a:Addr}{T:Tab}{fn:Fn}
abbrev yE:Value->Tok
 |.int _ t=>t
 |.str _ t=>t
 |_=>0
abbrev wF:Value->Addr
 |.ref a=>a
 |_=>0
abbrev vJ:V->Value->Bool
 |.none=>λw=>decide (w=.none)
 |.bool a=>λw=>decide (w=.bool a)
 |.int a=>λw=>decide (w=.int a (yE w))
 |.str a=>λw=>decide (w=.str a (yE w))
 |_=>λ_=>false
abbrev jH:List V->List Value->Bool
 | []=>λws=>ws.isEmpty
 |v::vs=>λws=>!ws.isEmpty&&(vJ v (ws.headD .none)&&jH vs ws.tail)
def A0 {v:V}{w:Value}(e:vJ v w=true):VR G h v w:=by
 induction v using V.casesOn<;>first|show ak e▸.none|show ak e▸.bool _|show ak e▸.int _ _|show ak e▸.str _ _|show Bool.noConfusion e
def lP:(vs:List V)->(ws:List Value)->jH vs ws=true->VRs G h vs ws
 | []=>λws e=>by
  cases ws with
  |nil=>show .nil
  |cons w ws=>show Bool.noConfusion (show false=true from e)
 |v::vs=>λws e=>by
  cases ws with
  |nil=>show Bool.noConfusion (show false=true from e)
  |cons w ws =>
   have e:=band (show(vJ v w&&jH vs ws)=true from e);show .cons (A0 e.1) (lP vs ws e.2)
abbrev lN:Data->Option FuncData
 |.func f=>some f
 |_=>none
abbrev eN:Data->Option (Array Value)
 |.fields vs=>some vs
 |_=>none
abbrev xY:Data->Option (Array Value×Nat)
 |.seq vs n=>some (vs,n)
 |_=>none
def hV {f:FuncData}(h:lN d=some f):d=.func f:=by
 induction d using Data.casesOn<;>first|show bb _ (af h)|show gy h
def dM {f:Array Value}(h:eN d=some f):d=.fields f:=by
 induction d using Data.casesOn<;>first|show bb _ (af h)|show gy h
def vG {f:Array Value×Nat}(h:xY d=some f):d=.seq f.1 f.2:=by
 induction d using Data.casesOn<;>first|show af h▸rfl|show gy h
abbrev EF:FuncBody->Option (List Stmt)
 |.stmts b=>some b
 |.expr _=>none
def EE {d:FuncBody}{f:List Stmt}(h:EF d=some f):d=.stmts f:=by
 cases d
 ·show bb _ (af h)
 ·show gy h
abbrev told {α:Type}(f:Data->Option α)(h:Heap)(a:Addr):Option α:=(h.get? a).bind λo=>f o.data
def jB {α:Type}{f:Data->Option α}{x:α}(e:told f h a=some x):∃o,h.get? a=some o/\f o.data=some x:=dq.mp e
abbrev y0 (h:Heap)(cd:Value)(q:Str):Bool:=decide (cd=.ref (wF cd))&&(told eN h (wF cd)).any λvs=>(vs[1]?:Option Value).any λw=>decide (w=.str q (yE w))
abbrev IH (h:Heap)(dflt:List V)(v:Value):Bool:=(decide (v=.none)&&dflt.isEmpty)||(decide (v=.ref (wF v))&&(told xY h (wF v)).any λds=>jH dflt ds.1.toList)
abbrev O3 (T:Tab)(h:Heap)(fn:Fn)(fd:FuncData)(body:List Stmt):Bool:=
 decide (fd.scope.kind=.function)&&(!fd.scope.isCoroutine&&(!fd.scope.isGenerator&&(decide ((fd.scope.names.map (·.1)).Nodup)&&(fd.scope.names.all (λp=>p.2 != .free)&&(fd.closure.isEmpty&&(decide (fd.globals=mainGlobals)&&(decide (fd.builtins=builtinsNs) &&
 (y0 h fd.code fd.qualname&&(ui fd.params&&(rn (fd.params.args.map (·.arg)) fd.scope.names&&(decide (fd.params.args.length=fn.n)&&(IH h fn.dflt fd.defaults&&(decide (fn.dflt.length<=fn.n)&&j4 T fd.scope fn.body body)))))))))))))
abbrev M6 (fd:FuncData):Option (Scope×List Stmt):=(EF fd.body).map λb=>(fd.scope,b)
abbrev bodyOf (h:Heap)(a:Addr):Option (Scope×List Stmt):=(told lN h a).bind M6
abbrev lD (T:Tab)(h:Heap)(fn:Fn)(a:Addr):Bool:=(told lN h a).any λfd=>(EF fd.body).any λb=>O3 T h fn fd b
def vL {cd:Value}{q:Str}(e:y0 h cd q=true):h.CodeRec cd q:=by
 have#[vs,Y,O]:=any_some (band e).2;have#[o,W,hd]:=jB Y;have#[w,Z,U]:=any_some O;apply#[_,o,vs,_,ak (band e).1,W,dM hd,Z.trans (bb some (ak U))]
def pB {l:List (Str×NameKind)}(h:l.all (λp=>p.2 != .free)=true)(i:Nat)(x:Str):l[i]?≠some (x,.free):=λe =>
 absurd (kc.mp h _ (cz e)) (by simp)
def DI (hk:∀b o,h₀.get? b=some o->G.hb.get? b=some o)(J:G.hb.NoLimit)(e:lD T h₀ fn a=true):∃x,bodyOf h₀ a=some x/\FnAt G a fn.n fn.dflt x.1 x.2/\j4 T x.1 fn.body x.2=true:=by
 have#[fd,z,e]:=any_some e;have#[b,B,e]:=any_some e;have#[o,ho,hd]:=jB z;have g1:=band e;have g2:=band g1.2;have g3:=band g2.2;have g4:=band g3.2;have g5:=band g4.2;have g6:=band g5.2;have g7:=band g6.2;have g8:=band g7.2;have g9:=band g8.2;have O:=band g9.2;have U:=band O.2;have W:=band U.2;have Y:=band W.2;have Z:=band Y.2;apply#[(fd.scope,b),(dq.mpr #[fd,z,bb (Option.map λb=>(fd.scope,b)) B]),#[J,ak g1.1,(dp _).mp g2.1,(dp _).mp g3.1,ak g4.1,pB g5.1,o,fd,hk _ _ ho,hV hd,rfl,EE B,ub.mp g6.1,ak g7.1,ak g8.1,(vL g9.1).keeps hk,O.1,U.1,ak W.1,?_,ak Z.1],Z.2];apply((vd ..).mp Y.1).imp (λq=>#[ak (band q).1,ub.mp (band q).2]) λq=>?_;have#[ds,h3,q2]:=any_some (band q).2;have#[ot,I,H]:=jB h3;apply#[_,ot,ds.1.toList,ds.2,ak (band q).1,hk _ _ I,vG H,lP _ _ q2]
abbrev KS (T:Tab)(fn:Fn)(x:Scope×List Stmt):Scope×List Stmt:=(x.1,eY T x.1 fn.body x.2)
def NZ (hk:∀b o,h₀.get? b=some o->G.hb.get? b=some o)(Z:G.hb.NoLimit)(e:lD T h₀ fn a=true)(Y:bodyOf h₀ a=(bodyOf h₀ a).map (KS T fn)) :
  ∃sc body,FnAt G a fn.n fn.dflt sc body/\j4 T sc fn.body body=true/\eY T sc fn.body body=body:=by
 have#[x,W,O,U]:=DI hk Z e;rw[W]at Y;apply#[x.1,x.2,O,U,(bb Prod.snd (af Y)).symm]
def xR (hk:∀b o,h₀.get? b=some o->G.hb.get? b=some o)(Z:G.hb.NoLimit)(e:lD T h₀ fn a=true){f:Scope×List Stmt->Scope×List Stmt}(W:bodyOf h₀ a=(bodyOf h₀ a).map f):∃x,bodyOf h₀ a=some x/\FnAt G a fn.n fn.dflt (f x).1 (f x).2:=by
 have#[x,Y,U,_]:=DI hk Z e;rw[Y]at W;apply#[x,Y,af W▸U]
end MP
end
section
namespace MP
namespace SM
abbrev fn0:Fn:=⟨5,[.none,.str "",.str "",.bool true],(.cons .pass
 (.cons (.a [(.attr (.l 0) 0)] (.l 1))
 (.cons (.a [(.attr (.l 0) 1),(.attr (.l 0) 2)] .none)
 (.cons (.a [(.attr (.l 0) 3)] (.l 4))
 (.cons (.expr (.meth (.l 0) 1 %[.l 2,.l 3|0]))
 .nil)))))⟩
abbrev fn1:Fn:=⟨3,[],(.cons .pass
 (.cons (.expr (.meth (.l 0) 2 %[.l 1|0]))
 (.cons (.expr (.meth (.l 0) 3 %[.l 2|0]))
 .nil)))⟩
abbrev fn2:Fn:=⟨2,[],(.cons .pass
 (.cons (.C (.c .is (.l 1) (.attr (.l 0) 1)) (.cons (.ret .none)
 .nil) .nil)
 (.cons (.a [(.attr (.l 0) 1)] (.l 1))
 (.cons (.a [(.attr (.l 0) 4),(.attr (.l 0) 5)] .none)
 .nil))))⟩
abbrev fn3:Fn:=⟨2,[],(.cons .pass
 (.cons (.C (.c .is (.l 1) (.attr (.l 0) 2)) (.cons (.ret .none)
 .nil) .nil)
 (.cons (.a [(.attr (.l 0) 2)] (.l 1))
 (.cons (.a [(.attr (.l 0) 4),(.attr (.l 0) 5)] .none)
 (.cons (.a [(.attr (.l 0) 6)] .none)
 (.cons (.expr (.meth (.l 0) 4 .nil))
 .nil))))))⟩
abbrev fn5:Fn:=⟨5,[.int 0,.none,.int 0,.none],(.cons .pass
 (.cons (.a [(.T [5,6,7,8])] (.T %[.attr (.l 0) 1,.attr (.l 0) 2,.attr (.l 0) 7,.h (.attr (.l 0) 8)|0]))
 (.cons (.C (.c .is (.l 2) .none) (.cons (.a [(.v 2)] (.bf .len %[.l 5|0]))
 .nil) .nil)
 (.cons (.C (.c .is (.l 4) .none) (.cons (.a [(.v 4)] (.bf .len %[.l 6|0]))
 .nil) .nil)
 (.cons (.a [.T [9,10,11]] (.T %[.l 1,.l 3,.int 0|0]))
 (.cons (.a [(.v 12)] .dct0)
 (.cons (.a [(.v 13)] (.L .nil))
 (.cons (.each (.v 14) (.rng2 (.l 1) (.l 2)) (.cons (.a [(.v 15)] (.g (.l 12)))
 (.cons (.a [(.v 16)] .dct0)
 (.cons (.each (.v 17) (.seq (.bm .get (.l 7) %[.sub (.l 5) (.l 14),.l 13|0])) (.cons (.C (.c .lt (.l 17) (.l 3)) (.cons .cont
 .nil) .nil)
 (.cons (.C (.c .ge (.l 17) (.l 4)) (.cons .brk
 .nil) .nil)
 (.cons (.a [(.v 18),(.sub (.l 16) (.l 17))] (.b .add (.w 15 %[.b .sub (.l 17) (.int 1),.int 0|0]) (.int 1)))
 (.cons (.C (.c .gt (.l 18) (.l 11)) (.cons (.a [.T [9,10,11]] (.T %[.b .add (.b .sub (.l 14) (.l 18)) (.int 1),.b .add (.b .sub (.l 17) (.l 18)) (.int 1),.l 18|0]))
 .nil) .nil)
 .nil)))))
 (.cons (.a [(.v 12)] (.l 16))
 .nil)))))
 (.cons (.loop (.and (.c .gt (.l 9) (.l 1)) (.and (.c .gt (.l 10) (.l 3)) (.and (.not (.w 8 %[.sub (.l 6) (.b .sub (.l 10) (.int 1))|0])) (.c .eq (.sub (.l 5) (.b .sub (.l 9) (.int 1))) (.sub (.l 6) (.b .sub (.l 10) (.int 1))))))) (.cons (.a [.T [9,10,11]] (.T %[.b .sub (.l 9) (.int 1),.b .sub (.l 10) (.int 1),.b .add (.l 11) (.int 1)|0]))
 .nil))
 (.cons (.loop (.and (.c .lt (.b .add (.l 9) (.l 11)) (.l 2)) (.and (.c .lt (.b .add (.l 10) (.l 11)) (.l 4)) (.and (.not (.w 8 %[.sub (.l 6) (.b .add (.l 10) (.l 11))|0])) (.c .eq (.sub (.l 5) (.b .add (.l 9) (.l 11))) (.sub (.l 6) (.b .add (.l 10) (.l 11))))))) (.cons (.aug 11 .add (.int 1))
 .nil))
 (.cons (.loop (.and (.c .gt (.l 9) (.l 1)) (.and (.c .gt (.l 10) (.l 3)) (.and (.w 8 %[.sub (.l 6) (.b .sub (.l 10) (.int 1))|0]) (.c .eq (.sub (.l 5) (.b .sub (.l 9) (.int 1))) (.sub (.l 6) (.b .sub (.l 10) (.int 1))))))) (.cons (.a [.T [9,10,11]] (.T %[.b .sub (.l 9) (.int 1),.b .sub (.l 10) (.int 1),.b .add (.l 11) (.int 1)|0]))
 .nil))
 (.cons (.loop (.and (.c .lt (.b .add (.l 9) (.l 11)) (.l 2)) (.and (.c .lt (.b .add (.l 10) (.l 11)) (.l 4)) (.and (.w 8 %[.sub (.l 6) (.b .add (.l 10) (.l 11))|0]) (.c .eq (.sub (.l 5) (.b .add (.l 9) (.l 11))) (.sub (.l 6) (.b .add (.l 10) (.l 11))))))) (.cons (.a [(.v 11)] (.b .add (.l 11) (.int 1)))
 .nil))
 (.cons (.ret (.N (.l 9) (.l 10) (.l 11)))
 .nil)))))))))))))⟩
abbrev fn6:Fn:=⟨1,[],(.cons .pass
 (.cons (.C (.c .isNot (.attr (.l 0) 4) .none) (.cons (.ret (.attr (.l 0) 4))
 .nil) .nil)
 (.cons (.a [.T [1,2]] (.T %[.bf .len %[.attr (.l 0) 1|0],.bf .len %[.attr (.l 0) 2|0]|0]))
 (.cons (.a [(.v 3)] (.L %[.T %[.int 0,.l 1,.int 0,.l 2|0]|0]))
 (.cons (.a [(.v 4)] (.L .nil))
 (.cons (.loop (.l 3) (.cons (.a [(.T [5,6,7,8])] (.bm .pop (.l 3) .nil))
 (.cons (.a [(.T [9,10,11]),(.v 12)] (.meth (.l 0) 5 %[.l 5,.l 6,.l 7,.l 8|0]))
 (.cons (.C (.l 11) (.cons (.expr (.bm .append (.l 4) %[.l 12|0]))
 (.cons (.C (.and (.c .lt (.l 5) (.l 9)) (.c .lt (.l 7) (.l 10))) (.cons (.expr (.bm .append (.l 3) %[.T %[.l 5,.l 9,.l 7,.l 10|0]|0]))
 .nil) .nil)
 (.cons (.C (.and (.c .lt (.b .add (.l 9) (.l 11)) (.l 6)) (.c .lt (.b .add (.l 10) (.l 11)) (.l 8))) (.cons (.expr (.bm .append (.l 3) %[.T %[.b .add (.l 9) (.l 11),.l 6,.b .add (.l 10) (.l 11),.l 8|0]|0]))
 .nil) .nil)
 .nil))) .nil)
 .nil))))
 (.cons (.expr (.bm .sort (.l 4) .nil))
 (.cons (.a [(.v 13),(.v 14),(.v 15)] (.int 0))
 (.cons (.a [(.v 16)] (.L .nil))
 (.cons (.each (.T [17,18,19]) (.seq (.l 4)) (.cons (.C (.and (.c .eq (.b .add (.l 13) (.l 15)) (.l 17)) (.c .eq (.b .add (.l 14) (.l 15)) (.l 18))) (.cons (.aug 15 .add (.l 19))
 .nil) (.cons (.C (.l 15) (.cons (.expr (.bm .append (.l 16) %[.T %[.l 13,.l 14,.l 15|0]|0]))
 .nil) .nil)
 (.cons (.a [.T [13,14,15]] (.T %[.l 17,.l 18,.l 19|0]))
 .nil)))
 .nil))
 (.cons (.C (.l 15) (.cons (.expr (.bm .append (.l 16) %[.T %[.l 13,.l 14,.l 15|0]|0]))
 .nil) .nil)
 (.cons (.expr (.bm .append (.l 16) %[.T %[.l 1,.l 2,.int 0|0]|0]))
 (.cons (.a [(.attr (.l 0) 4)] (.M (.l 16)))
 (.cons (.ret (.attr (.l 0) 4))
 .nil))))))))))))))⟩
end SM
namespace SM
abbrev fn7:Fn:=⟨1,[],(.cons .pass
 (.cons (.C (.c .isNot (.attr (.l 0) 5) .none) (.cons (.ret (.attr (.l 0) 5))
 .nil) .nil)
 (.cons (.a [(.v 1),(.v 2)] (.int 0))
 (.cons (.a [(.attr (.l 0) 5),(.v 3)] (.L .nil))
 (.cons (.each (.T [4,5,6]) (.seq (.meth (.l 0) 6 .nil)) (.cons (.a [(.v 7)] (.str ""))
 (.cons (.C (.and (.c .lt (.l 1) (.l 4)) (.c .lt (.l 2) (.l 5))) (.cons (.a [(.v 7)] (.str "replace"))
 .nil) (.cons (.C (.c .lt (.l 1) (.l 4)) (.cons (.a [(.v 7)] (.str "delete"))
 .nil) (.cons (.C (.c .lt (.l 2) (.l 5)) (.cons (.a [(.v 7)] (.str "insert"))
 .nil) .nil)
 .nil))
 .nil))
 (.cons (.C (.l 7) (.cons (.expr (.bm .append (.l 3) %[.T %[.l 7,.l 1,.l 4,.l 2,.l 5|0]|0]))
 .nil) .nil)
 (.cons (.a [.T [1,2]] (.T %[.b .add (.l 4) (.l 6),.b .add (.l 5) (.l 6)|0]))
 (.cons (.C (.l 6) (.cons (.expr (.bm .append (.l 3) %[.T %[.str "equal",.l 4,.l 1,.l 5,.l 2|0]|0]))
 .nil) .nil)
 .nil))))))
 (.cons (.ret (.l 3))
 .nil))))))⟩
end SM
namespace SM
abbrev pT:Fn:=⟨1,[],(.cons (.a [(.v 1)] (.attr (.l 0) 2))
 (.cons (.a [(.attr (.l 0) 7),(.v 2)] .dct0)
 (.cons (.each (.T [3,4]) (.enum (.l 1)) (.cons (.a [(.v 5)] (.bm .setdefault (.l 2) %[.l 4,.L .nil|0]))
 (.cons (.expr (.bm .append (.l 5) %[.l 3|0]))
 .nil)))
 (.cons (.a [(.attr (.l 0) 8),(.v 6)] (.bf .set .nil))
 (.cons (.a [(.v 7)] (.attr (.l 0) 0))
 (.cons (.C (.l 7) (.cons (.each (.v 4) (.keys (.l 2)) (.cons (.C (.w 7 %[.l 4|0]) (.cons (.expr (.bm .add (.l 6) %[.l 4|0]))
 .nil) .nil)
 .nil))
 (.cons (.each (.v 4) (.seq (.l 6)) (.cons (.delD (.l 2) (.l 4))
 .nil))
 .nil)) .nil)
 (.cons (.a [(.attr (.l 0) 9),(.v 8)] (.bf .set .nil))
 (.cons (.a [(.v 9)] (.bf .len %[.l 1|0]))
 (.cons (.C (.and (.attr (.l 0) 3) (.c .ge (.l 9) (.int 200))) (.cons (.a [(.v 10)] (.b .add (.b .fdiv (.l 9) (.int 100)) (.int 1)))
 (.cons (.each (.T [4,11]) (.items (.l 2)) (.cons (.C (.c .gt (.bf .len %[.l 11|0]) (.l 10)) (.cons (.expr (.bm .add (.l 8) %[.l 4|0]))
 .nil) .nil)
 .nil))
 (.cons (.each (.v 4) (.seq (.l 8)) (.cons (.delD (.l 2) (.l 4))
 .nil))
 .nil))) .nil)
 .nil)))))))))⟩
end SM
namespace R1
open SM
abbrev O0:jo:=(.cons (.a [(.sub (.l 1) (.l 2))] (.b .add (.bm .get (.l 1) %[.l 2,.int 0|0]) (.int 1)))
 .nil)
abbrev JS:jo:=(.cons (.a [(.attr (.l 0) 6),(.v 1)] .dct0)
 (.cons (.each (.v 2) (.seq (.attr (.l 0) 2)) O0)
 .nil))
abbrev qB:jo:=(.cons (.C (.w 4 %[.l 2|0]) %[.a [(.v 6)] (.sub (.l 3) (.l 2))|0] %[.a [(.v 6)] (.bm .get (.l 1) %[.l 2,.int 0|0])|0])
 (.cons (.a [(.sub (.l 3) (.l 2))] (.b .sub (.l 6) (.int 1)))
 (.cons (.C (.c .gt (.l 6) (.int 0)) %[.a [(.v 5)] (.b .add (.l 5) (.int 1))|0] .nil)
 .nil)))
abbrev fnQ:Fn:=⟨1,[],(.cons .pass
 (.cons (.C (.c .is (.attr (.l 0) 6) .none) JS .nil)
 (.cons (.a [(.v 1)] (.attr (.l 0) 6))
 (.cons (.a [(.v 3)] .dct0)
 (.cons (.a [.T [4,5]] (.T %[.dhasOf (.l 3),.int 0|0]))
 (.cons (.each (.v 2) (.seq (.attr (.l 0) 1)) qB)
 (.cons (.ret (.call 12 %[.l 5,.b .add (.bf .len %[.attr (.l 0) 1|0]) (.bf .len %[.attr (.l 0) 2|0])|0]))
 .nil)))))))⟩
abbrev fnR:Fn:=#[2,[],%[.C (.l 1) %[.ret (.ratio (.l 0) (.l 1))|0] .nil,.ret .flt|0]]
abbrev AM:Ex:=(.K [(2,0),(3,6)] (.rng1 (.bf .len %[.l 0|0])) (.v 1) %[.c .eq (.sub (.l 2) (.l 1)) (.l 3)|0] (.elt (.l 1)))
abbrev uG:jo:=(.cons (.a [(.v 7)] AM)
 (.cons (.C (.and (.l 1) (.and (.c .eq (.b .mod (.l 6) (.int 3)) (.int 0)) (.c .ne (.l 7) (.L .nil)))) %[.expr (.bm .append (.l 3) %[.l 6|0])|0] %[.C (.and (.l 2) (.and (.c .ge (.bf .len %[.l 0|0]) (.int 200)) (.c .gt (.b .mul (.int 100) (.b .sub (.bf .len %[.l 7|0]) (.int 1))) (.bf .len %[.l 0|0])))) %[.expr (.bm .append (.l 4) %[.l 6|0])|0] %[.C (.c .ne (.l 7) (.L .nil)) %[.a [(.sub (.l 5) (.l 6))] (.l 7)|0] .nil|0]|0])
 .nil))
abbrev fnN:Fn:=⟨3,[],(.cons (.a [.T [3,4,5]] (.T %[.L .nil,.L .nil,.dct0|0]))
 (.cons (.each (.v 6) (.rng1 (.int 7)) uG)
 (.cons (.ret (.T %[.bx .cu (.l 3),.bx .cu (.l 4),.l 5|0]))
 .nil)))⟩
abbrev mR:jo:=(.cons (.a [(.v 1)] (.I (.l 0) (.sub (.l 0) (.int 0)) (.int 0)))
 (.cons (.a [.T [2,3]] (.T %[.c .eq (.b .mod (.l 1) (.int 2)) (.int 1),.c .eq (.b .mod (.b .fdiv (.l 1) (.int 2)) (.int 2)) (.int 0)|0]))
 (.cons (.a [(.v 4)] (.L %[.L .nil,.L %[.int 0,.int 1,.int 2|0],.b .mul (.L %[.int 1|0]) (.int 201)|0]))
 (.cons (.a [(.T [5,6])] (.T %[.sub (.l 4) (.int 0),.sub (.l 4) (.int 1)|0]))
 .nil))))
abbrev vF:jo:=(.cons (.a [.T [17,18]] (.T %[.sub (.l 4) (.l 14),.sub (.l 4) (.l 15)|0]))
 (.cons (.expr (.meth (.l 7) 1 %[.l 17,.l 18|0]))
 .nil))
abbrev JZ:jo:=(.cons (.a [(.v 17)] (.sub (.l 4) (.l 14)))
 (.cons (.expr (.meth (.l 7) 2 %[.l 17|0]))
 .nil))
abbrev JY:jo:=(.cons (.a [(.v 18)] (.sub (.l 4) (.l 15)))
 (.cons (.expr (.meth (.l 7) 3 %[.l 18|0]))
 .nil))
abbrev JX:jo:=(.cons (.a [(.v 19)] (.I (.c .eq (.l 14) (.int 0)) (.meth (.l 7) 6 .nil) (.meth (.l 7) 7 .nil)))
 (.cons (.a [(.v 9)] (.I (.c .is (.l 9) .none) (.attr (.l 7) 4) (.l 9)))
 (.cons (.a [(.v 10)] (.I (.c .is (.l 10) .none) (.attr (.l 7) 5) (.l 10)))
 (.cons (.C (.or (.c .is (.l 19) .none) (.c .isNot (.l 19) (.I (.c .eq (.l 14) (.int 0)) (.l 9) (.l 10)))) %[.ret (.bool false)|0] .nil)
 .nil))))
abbrev DR:jo:=(.cons (.exprF (.meth (.l 7) 8 .nil))
 (.cons (.C (.c .is (.l 11) .none) %[.dcomp2 11 [(2,6)] (.seq (.bx .cu (.l 6))) (.v 1) (.l 1) (.bm .count (.l 2) %[.l 1|0])|0] .nil)
 .nil))
abbrev MD:jo:=(.cons (.delS (.sub (.l 4) (.l 14)) (.b .fdiv (.bf .len %[.sub (.l 4) (.l 14)|0]) (.int 2)))
 .nil)
abbrev xO:jo:=(.cons (.expr (.bm .extend (.sub (.l 4) (.l 14)) %[.b .mul (.L %[.b .mod (.l 16) (.int 7)|0]) (.b .pow (.int 2) (.b .mod (.b .fdiv (.l 16) (.int 7)) (.int 8)))|0]))
 .nil)
abbrev xZ:jo:=(.cons (.a [(.sub (.l 4) (.l 14))] (.slc (.sub (.l 4) (.l 14)) .none .none))
 .nil)
abbrev E8:jo:=(.cons (.C (.or (.c .isNot (.l 17) (.l 5)) (.c .isNot (.l 18) (.l 6))) %[.a [(.T [9,10])] (.T %[.none,.none|0])|0] .nil)
 (.cons (.C (.c .isNot (.l 18) (.l 6)) %[.a [.T [8,11]] (.T %[.call 10 %[.l 18,.l 2,.l 3|0],.none|0])|0] .nil)
 (.cons (.a [(.T [5,6])] (.T %[.l 17,.l 18|0]))
 (.cons (.C (.or (.c .isNot (.attr (.l 7) 1) (.l 5)) (.c .isNot (.attr (.l 7) 2) (.l 6))) %[.ret (.bool false)|0] .nil)
 (.cons (.C (.neS (.T %[.attr (.l 7) 8,.attr (.l 7) 9,.attr (.l 7) 7|0]) (.l 8)) %[.ret (.bool false)|0] .nil)
 (.cons (.C (.or (.c .isNot (.attr (.l 7) 4) (.l 9)) (.or (.c .isNot (.attr (.l 7) 5) (.l 10)) (.neS (.attr (.l 7) 6) (.l 11)))) %[.ret (.bool false)|0] .nil)
 .nil))))))
abbrev JW:Stm:=(.C (.c .lt (.l 13) (.int 2)) vF (.cons (.C (.c .eq (.l 13) (.int 2)) JZ (.cons (.C (.c .eq (.l 13) (.int 3)) JY (.cons (.C (.and (.c .eq (.l 13) (.int 4)) (.c .lt (.b .add (.bf .len %[.l 5|0]) (.bf .len %[.l 6|0])) (.int 60))) JX (.cons (.C (.c .eq (.l 13) (.int 5)) DR (.cons (.C (.and (.c .eq (.l 13) (.int 6)) (.c .eq (.l 15) (.int 2))) MD (.cons (.C (.c .eq (.l 13) (.int 6)) xO (.cons (.C (.c .eq (.l 13) (.int 7)) xZ .nil)
 .nil))
 .nil))
 .nil))
 .nil))
 .nil))
 .nil))
 .nil))
abbrev wG:jo:=(.cons (.a [(.T [13,14,15,16])] (.T %[.b .mod (.l 12) (.int 8),.b .mod (.b .fdiv (.l 12) (.int 8)) (.int 3),.b .mod (.b .fdiv (.l 12) (.int 24)) (.int 3),.b .fdiv (.l 12) (.int 72)|0]))
 (.cons (.a [.T [17,18]] (.T %[.l 5,.l 6|0]))
 (.cons JW
 E8)))
abbrev aY:jo:=(.cons (.a [(.T [8,9,10,11])] (.T %[.call 10 %[.l 6,.l 2,.l 3|0],.none,.none,.none|0]))
 (.cons (.each (.v 12) (.seq (.b .add (.L %[.int 12|0]) (.slc (.l 0) (.int 1) (.int 63)))) wG)
 (.cons (.ret (.bool true))
 .nil)))
abbrev rV:Ex:=(.I (.b .mod (.l 0) (.int 3)) (.int 0) (.int 5))
abbrev fnL:Fn:=#[1,[],.cons (.ret rV) .nil]
abbrev cT:Ex:=.l 2
abbrev oF:Exs:=%[.l 5,.l 6,.l 3|0]
abbrev P (k:Nat):Option Fn:=match k with
 |0=>some fn0|1=>some fn1|2=>some fn2|3=>some fn3|4=>some pT|5=>some fn5|6=>some fn6|7=>some fn7|8=>some fnQ|10=>some fnN|12=>some fnR|1000=>some fnL|_=>none
abbrev tab:Tab where
 cap:=λ_=>false
 gl:=[("len",.builtin "len"),("set",.type "set"),("list",.type "list"),("range",.type "range"),("map",.type "map"),("enumerate",.type "enumerate"),("tuple",.type "tuple"),("Match",.ref 135),("SequenceMatcher",.ref 242),("_law_notes",.ref 251),("_calculate_ratio",.ref 145),("law",.ref 256)]
 attrs:=["isjunk","a","b","autojunk","matching_blocks","opcodes","fullbcount","b2j","bjunk","bpopular"]
 meths:=[(0,"__init__"),(1,"set_seqs"),(2,"set_seq1"),(3,"set_seq2"),(4,"_SequenceMatcher__chain_b"),(5,"find_longest_match"),(6,"get_matching_blocks"),(7,"get_opcodes"),(8,"quick_ratio")]
 fns:=[(0,160),(1,167),(2,174),(3,181),(4,188),(5,196),(6,203),(7,210),(8,232),(10,251),(12,145)]
 cM:=135
 cS:=242
end R1
end MP
end
section
namespace MP
open PySem PyProof.Rows PySem.W
variable {G2:Stc}
abbrev eD (h:Heap)(p:Addr->Bool):Heap:=#[h.objs.mapIdx λi o=>bif p i then o else {cls:=.none,data:=.freed},h.life]
def aM (h:Heap)(p:Addr->Bool)(a:Addr):(eD h p).get? a=bif p a then h.get? a else none:=by
 unfold eD Heap.get?;dsimp only;rw[Array.getElem?_mapIdx];cases p a
 ·cases h.objs[a]?<;>rfl
 ·cases h.objs[a]?<;>rfl
mutual
theorem VR.turn {G:Stc}{h:Heap}(e:G2.cM=G.cM)(hb:∀a o,G.hb.get? a=some o->G2.hb.get? a=some o)(W:∀k cs a,G.clo k cs a->G2.clo k cs a):{v:V}->{w:Value}->VR G h v w->VR G2 h v w
 |.none=>λx=>x
 |.bool _=>λx=>x
 |.int _=>λx=>x
 |.str _=>λx=>x
 |.L _=>λx=>x
 |.dct _=>λx=>x
 |.set _=>λx=>x
 |.obj _=>λx=>x
 |.T _=>λZ=>by have#[a,ws,n,Y,g,r]:=Z;apply#[a,ws,n,Y,g,VRs.turn e hb W r]
 |.mt _=>λZ=>by have#[a,ws,n,dd,Y,g,r]:=Z;apply#[a,ws,n,dd,Y,by rw[e];show g,VRs.turn e hb W r]
 |.eM _=>λx=>x
 |.dY _=>λx=>x
 |.clo _ _=>λZ=>by have#[a,o,Y,q,g,r]:=Z;apply#[a,o,Y,W _ _ _ q,hb _ _ g,r]
 |.ro _=>λZ=>by have#[a,ws,n,Y,g,r]:=Z;apply#[a,ws,n,Y,hb _ _ g,r]
 |.dhas _=>λx=>x
 |.flo=>λx=>x
theorem VRs.turn {G:Stc}{h:Heap}(e:G2.cM=G.cM)(hb:∀a o,G.hb.get? a=some o->G2.hb.get? a=some o)(Z:∀k cs a,G.clo k cs a->G2.clo k cs a):{vs:List V}->{ws:List Value}->VRs G h vs ws->VRs G2 h vs ws
 | []=>λx=>x
 |_::_=>λY=>by have#[w,us,W,a,r]:=Y;apply#[w,us,W,VR.turn e hb Z a,VRs.turn e hb Z r]
end
def DRs.turn {G:Stc}{h:Heap}(e:G2.cM=G.cM)(hb:∀a o,G.hb.get? a=some o->G2.hb.get? a=some o)(Z:∀k cs a,G.clo k cs a->G2.clo k cs a):{es:List (Key×V)}->{ds:List (Key×Value)}->DRs G h es ds->DRs G2 h es ds
 | []=>λx=>x
 |_::_=>λY=>by have#[w,us,W,a,r]:=Y;apply#[w,us,W,a.turn e hb Z,DRs.turn e hb Z r]
def OV.turn {G:Stc}{h:Heap}(e:G2.cM=G.cM)(hb:∀a o,G.hb.get? a=some o->G2.hb.get? a=some o)(Z:∀k cs a,G.clo k cs a->G2.clo k cs a){v:Option V}{w:Option Value}(x:OV G h v w):OV G2 h v w:=by
 cases v<;>cases w<;>first|show x|show VR.turn e hb Z x
section
variable {G:Stc}{σ:St}{env:Env}{ρ:Fr}{h₀ h:Heap}{f c d:Addr}{cap:Str->Bool}{kk:Nat}{v:V}
end
abbrev xNm:Str:="x"
def zY {ps:Arguments}{env:Env}(Y:ps.defaults=[])(Z:ps.kw_defaults=[]):defaultsOf ps env=([],[]):=by
 have#[a,b,c,d,e,f,g]:=ps;subst Y Z;rfl
section
variable {G:Stc}{A:Around}{E:QqV}{s:Shared}{env:Env}{ρ:Fr}{σ:St}
structure F6 (G:Stc)(σ:St)(env:Env)(h:Heap)(mg:Str->Option Value)(c P:Addr)(ps:Array Value):Prop where
 g:h.Ns mainGlobals mg
 code:env.code=.ref c
 hd:CodeHd h c P
 tab:h.get? P=some (tabObj ps)
 ne:mainGlobals≠P
 bu:h.BuiltinsAt mg P
 Pb:G.hb.get? P=none
 Pd:¬σ.dom P
 PX:P∉envX env
end
abbrev newOf (b:List Stmt):List Stmt:=
 let s0:=b.getD 0 default;let s1:=b.getD 1 default;let d:=st0 s0;let c:=st0 s1;let f:=kid 0 c;let t:=kid 2 c
 pD d.pos s0.pos (kid 0 f).pos f.pos (kid 1 c).pos (kid 0 t).pos (kid 1 t).pos (kid 2 t).pos t.pos c.pos s1.pos (xT d) (exK d) (exK t)
abbrev HB (b:List Stmt):Bool:=(kid 0 (st0 (b.getD 1 default))).pos.endLine==(st0 (b.getD 1 default)).pos.line
abbrev pG (b:List Stmt):List Pos:=
 let s0:=b.getD 0 default;let s1:=b.getD 1 default;let s2:=b.getD 2 default;let s3:=b.getD 3 default;let c:=st0 s1;let q:=st0 s2;let l:=kid 0 q
 [(st0 s0).pos,s0.pos,((yu s1).getD 1 default).pos,(kid 0 (kid 0 c)).pos,(kid 0 c).pos,(kid 1 c).pos,(kid 2 c).pos,c.pos,s1.pos,(kid 0 l).pos,(kid 1 l).pos,l.pos,(kid 1 q).pos,q.pos,s2.pos,(st0 s3).pos,s3.pos]
abbrev CD (l:List Pos):Fin 20->Pos:=λi=>l.getD i.1 #[0,0,0,0]
abbrev LF (b:List Stmt):List Stmt:=kS (CD (pG b)) (xT (st0 (b.getD 0 default))) (exK (st0 (b.getD 0 default))) (exK (kid 1 (st0 (b.getD 2 default)))) (sw (b.getD 2 default)).b
abbrev CV (b:List Stmt):Bool:=(CD (pG b) 4).endLine==(CD (pG b) 7).line
end MP
end
section
set_option backward.match.sparseCases false
open PySem PySem.W PyProof.Rows
set_option maxHeartbeats 0
namespace Mine
open MP
abbrev tB (w:World)(os:OsState):Thread:=#[L5 (eQ (tA w os)),(tA w os).code,(tA w os).pos,(tA w os).stack]
abbrev XB (w:World)(os:OsState):Option (Flow×SharedT×Code×Pos):=NA TB pw w 11 an 1 300 (sA w os) (tB w os)
abbrev s3 (w:World)(os:OsState):SharedT:=(XB w os).elim (S4 w os) (·.2.1)
abbrev F (w:World)(os:OsState):Shared:=(s3 w os).abs
abbrev viewOf (p:Program):Program:={p with main:={p.main with body:=[0,2,3,4,5,7,8].filterMap λi=>p.main.body[i]?}}
abbrev qv:Program:=viewOf pw
public abbrev loose:List Str:=[Str.ofString "_tuplegetter",Str.ofString "Match",Str.ofString "SequenceMatcher"]
@[reducible] def rw1:=PySem.Challenge.rw_dm0056_01
public abbrev Xt:Shared->Bool:=λs=>xlAt qv [] s&&recOk (RowW.records rw1.row.toRowW) s
abbrev xH (w:World)(s:Shared):Bool:=staticsOk (importedModules pw.main.body) (boot_heap w.params) s.heap&&namesBound pw s.heap&&gensDone s&&laidKept (boot_heap w.params) s.heap
abbrev HZ (h:Heap)(x:Str):Option Value:=(h.nsMap mainGlobals x).or (h.nsMap builtinsNs x)
abbrev gU (h:Heap)(a:Addr)(xs:List Str):Bool:=xs.all λx=>(h.nsMap a x).isNone
abbrev isFn (h:Heap)(a:Addr):Bool:=(h.get? a).any λo=>decide (o.cls=.type "function")&&(lN o.data).isSome
abbrev fragOf (h:Heap)(as:List Addr):Frag:=as.filterMap λa=>(h.get? a).map λo=>(a,o)
public abbrev K8 (h:Heap):Frag:=fragOf h [135,134,136,91,2,82,89]
abbrev OF:jo:=.cons .dead %[.dead|0]
abbrev OE:jo:=.cons .dead %[.dead,.dead,.dead|0]
abbrev CU:List (Str×NameKind):=[("tuple",.globalImplicit),("len",.globalImplicit),("TypeError",.globalImplicit)]
abbrev CJ (h:Heap):Bool:=h.isNs mainGlobals&&h.isNs builtinsNs&&h.isNs 241&&h.isNs 134&&h.isNs cStatics&&(h.nsMap cStatics "sys.recursionlimit").isNone&&(h.get? sysModules).isSome
abbrev DG (h:Heap):Bool:=R1.tab.gl.all λp=>decide (HZ h p.1=some p.2)
abbrev pF (h:Heap):Bool:=R1.tab.meths.all λp=>decide ((h.nsMap 241 p.2)=(R1.tab.fns.lookup p.1).map Value.ref)
abbrev xQ (h:Heap):Bool:=R1.tab.fns.all λp=>isFn h p.2&&match R1.P p.1 with|some fn=>lD R1.tab h fn p.2|none=>false
abbrev newOk (h:Heap):Bool:=lD R1.tab h #[4,[],OF] 82&&(bodyOf h 82).any λx=>HB x.2
abbrev uK (h:Heap):Bool:=lD R1.tab h #[2,[],OE] 89&&(bodyOf h 89).any λx=>CV x.2
abbrev NH (x:Scope×List Stmt):Scope×List Stmt:=(zp [],newOf x.2)
abbrev JL (x:Scope×List Stmt):Scope×List Stmt:=(pb CU [],LF x.2)
abbrev KR (k:Nat)(x:Scope×List Stmt):Scope×List Stmt:=match R1.P k with
 |some fn=>KS R1.tab fn x
 |none=>x
abbrev q9 (h:Heap):List (Option (Scope×List Stmt)):=R1.tab.fns.map λp=>bodyOf h p.2
abbrev y4 (h:Heap):List (Option (Scope×List Stmt)):=R1.tab.fns.map λp=>(bodyOf h p.2).map (KR p.1)
abbrev frees (h:Heap):Heap:=h.update 253 λ_=>{cls:=.none,data:=.freed}
abbrev Q0:Expr->Option (Arguments×Expr×Scope×Pos)
 |.Lambda a e s p=>some (a,e,s,p)
 |_=>none
abbrev nQ (x:Expr):Arguments×Expr×Scope×Pos:=(Q0 x).getD (#[[],[],none,[],[],none,[]],default,default,default)
abbrev Q1 (x:Expr):Expr:=.Lambda (nQ x).1 (reE R1.tab R1.rV (nQ x).2.2.1 (nQ x).2.1) (nQ x).2.2.1 (nQ x).2.2.2
abbrev aI (st:Stmt):Expr:=kid 1 (st0 st)
abbrev NG (sc:Scope)(st:Stmt):Stmt:=.Assign [.Name "matcher" ((yu st).getD 1 default).pos] (.Call (nm (kid 0 (st0 st))) (.IfExp (reE R1.tab R1.cT sc (kid 0 (aI st))) (Q1 (kid 1 (aI st))) (reE R1.tab .none sc (kid 2 (aI st))) (aI st).pos::pd R1.tab R1.oF sc (kids (st0 st)).tail.tail) [] (st0 st).pos) st.pos
abbrev at4 (x:Scope×List Stmt):Stmt:=x.2.getD 4 default
abbrev NS (x:Scope×List Stmt):Scope×List Stmt:=(x.1,eY R1.tab x.1 R1.mR x.2++NG x.1 (at4 x)::eY R1.tab x.1 R1.aY (x.2.drop 5))
abbrev vS:Value->Str
 |.str s _=>s
 |_=>""
abbrev vI:Value->Int
 |.int i _=>i
 |_=>0
abbrev vB:Value->Bool
 |.bool b=>b
 |_=>false
abbrev NT:List (Str×NameKind):=[(xNm,.«local»)]
abbrev PY:Str×NameKind:=("matcher",.«local»)
abbrev LP (l:Arguments×Expr×Scope×Pos):Bool:=decide (l.2.2.1.kind=.function)&&(!l.2.2.1.isCoroutine&&(!l.2.2.1.isGenerator&&(decide (l.2.2.1.names=NT)&&(ui l.1&&(decide (l.1.args.map (·.arg)=[xNm])&&(l.1.defaults.isEmpty&&(l.1.kw_defaults.isEmpty&&okE R1.tab R1.rV l.2.2.1 l.2.1)))))))
abbrev LN (x:Scope×List Stmt):Bool:=j4 R1.tab x.1 R1.aY (x.2.drop 5)&&(decide (x.1.names[7]?=some PY)&&(LP (nQ (kid 1 (aI (at4 x))))&&(okE R1.tab R1.cT x.1 (kid 0 (aI (at4 x)))&&(glob R1.tab x.1 (kh (kid 0 (st0 (at4 x)))) (.ref R1.tab.cS)&&(noStar (pd R1.tab R1.oF x.1 (kids (st0 (at4 x))).tail.tail)&&gT R1.tab R1.oF x.1 (kids (st0 (at4 x))).tail.tail)))))
abbrev K0 (vs:Array Value):Bool:=decide (vs[11]?=some (.ref 253))&&(decide (vs.getD 11 .none=.ref 253)&&(decide (vs.getD 18 .none=.str (vS (vs.getD 18 .none)) (yE (vs.getD 18 .none)))&&(decide (vs.getD 7 .none=.int (vI (vs.getD 7 .none)) (yE (vs.getD 7 .none)))&&(decide (vs.getD 9 .none=.bool (vB (vs.getD 9 .none)))&&decide (vs.getD 10 .none=.int (vI (vs.getD 10 .none)) (yE (vs.getD 10 .none)))))))
abbrev codeOk (h:Heap):Bool:=(told lN h 256).any (λfd=>decide (fd.code=.ref 255))&&(h.get? 255).any λo=>decide (o.cls=.type "code")&&(eN o.data).any K0
abbrev isPlain:Data->Bool
 |.plain=>true
 |_=>false
abbrev q8 (h:Heap):Bool:=decide (h.nsMap mainGlobals "__builtins__"=some (.ref 4))&&(h.get? 4).any λo=>decide (o.cls=.type "module")&&(decide (o.dict=some builtinsNs)&&isPlain o.data)
abbrev CY (h:Heap):Bool:=lD R1.tab h #[1,[],R1.mR] 256&&((bodyOf h 256).any LN&&(codeOk h&&q8 h))
structure Obs (P:Params)(h:Heap):Prop where
 nss:CJ h=true
 no241:gU h 241 ("__getattribute__" :: "__getattr__" :: "__setattr__" :: R1.tab.attrs)=true
 no134:gU h 134 ["__iter__","__lt__","__len__","__init__"]=true
 gls:DG h=true
 meths:pF h=true
 fns:xQ h=true
 new:newOk h=true
 make:uK h=true
 q9:q9 h=y4 h
 newB:bodyOf h 82=(bodyOf h 82).map NH
 makeB:bodyOf h 89=(bodyOf h 89).map JL
 law:CY h=true
 lawB:bodyOf h 256=(bodyOf h 256).map NS
 g242:h.get? 242=some (excClassObj "SequenceMatcher" "SequenceMatcher" 242 241 [.type "object"] [.type "object"] true [] [] false none none none none (some (.str "SequenceMatcher" 389)) (some (.str "SequenceMatcher" 397)) (some (.bool true)) "object.__new__")
 g135:h.get? 135=some (cZ 135 134 "Match" "Match" (some (.ref 65)) (some (.str "Match" 253)) (some (.str "Match" 261)))
 l1:peek (K8 h) #[pw,P] (mroOf (.ref 135))=some [.ref 135,.type "tuple",.type "object"]
 l2:peek (K8 h) #[pw,P] (isType (.ref 135))=some true
 l3:peek (K8 h) #[pw,P] (isSubtype (.ref 135) (.ref 135))=some true
 l4:peek (K8 h) #[pw,P] (isSubtype (.ref 135) (.type "tuple"))=some true
 l5:peek (K8 h) #[pw,P] (isSubtype (.ref 135) (.type "object"))=some true
 l6:peek (K8 h) #[pw,P] (classHasDel 135)=some false
 l7:peek (K8 h) #[pw,P] (typeLookup (.ref 135) "__init__")=some (some (.builtin "object.__init__"))
 l8:peek (K8 h) #[pw,P] (specialOf (.ref 135) "__call__")=some (some (.builtin "type.__call__"))
 l9:peek (K8 h) #[pw,P] (isInstance (.ref 135) (.type "type"))=some true
 l10:peek (K8 h) #[pw,P] (Bind.madeBy (.ref 135))=some none
 l11:peek (K8 h) #[pw,P] (Bind.madeHere "tuple.__new__" (.ref 135))=some ()
 l12:(λx:Value=>peek (K8 h) #[pw,P] (checkBuiltinCall "tuple.__new__" #[[.ref 135,x],[]]))=λx=>some ()
 m1:readsIn (K8 h) 135 (.type "type")=true
 m2:findCls (K8 h) (.ref 135) (.type "type") "__new__"=some (.get (.builtin "staticmethod.__get__") (.ref 136) .none (.ref 135))
 m3:findCls (K8 h) (.ref 135) (.type "type") "_make"=some (.get (.builtin "classmethod.__get__") (.ref 91) .none (.ref 135))
 m4:recIn (K8 h) 136 "staticmethod"=some [.ref 82]
 m5:recIn (K8 h) 91 "classmethod"=some [.ref 89,.bool false]
abbrev asked (w:World)(s:Shared)(h:Heap)(P:Params):=
 ((xH w s,openSeen qv loose (importedModules pw.main.body) Xt true s),
  (CJ h&&gU h 241 ("__getattribute__" :: "__getattr__" :: "__setattr__" :: R1.tab.attrs)&&gU h 134 ["__iter__","__lt__","__len__","__init__"]&&DG h&&pF h&&xQ h&&newOk h&&uK h&&CY h),
  (q9 h,bodyOf h 82,bodyOf h 89,h.get? 242,h.get? 135,bodyOf h 256,s.heap.get? 253),
  (peek (K8 h) #[pw,P] (mroOf (.ref 135)),peek (K8 h) #[pw,P] (isType (.ref 135)),peek (K8 h) #[pw,P] (isSubtype (.ref 135) (.ref 135)),peek (K8 h) #[pw,P] (isSubtype (.ref 135) (.type "tuple")),peek (K8 h) #[pw,P] (isSubtype (.ref 135) (.type "object")),
  peek (K8 h) #[pw,P] (classHasDel 135),peek (K8 h) #[pw,P] (typeLookup (.ref 135) "__init__"),peek (K8 h) #[pw,P] (specialOf (.ref 135) "__call__"),peek (K8 h) #[pw,P] (isInstance (.ref 135) (.type "type")),peek (K8 h) #[pw,P] (Bind.madeBy (.ref 135)),
  peek (K8 h) #[pw,P] (Bind.madeHere "tuple.__new__" (.ref 135)),λx:Value=>peek (K8 h) #[pw,P] (checkBuiltinCall "tuple.__new__" #[[.ref 135,x],[]])),
  (readsIn (K8 h) 135 (.type "type"),findCls (K8 h) (.ref 135) (.type "type") "__new__",findCls (K8 h) (.ref 135) (.type "type") "_make",recIn (K8 h) 136 "staticmethod",recIn (K8 h) 91 "classmethod"))
def atB:(λw os=>((XB w os).map λr=>(r.1,r.2.2.1),asked w (F w os) (frees (F w os).heap) w.params))=λw os=>(some (.next,cE),((true,openGood qv loose),true,
  (y4 (frees (F w os).heap),(bodyOf (frees (F w os).heap) 82).map NH,(bodyOf (frees (F w os).heap) 89).map JL,some (excClassObj "SequenceMatcher" "SequenceMatcher" 242 241 [.type "object"] [.type "object"] true [] [] false none none none none (some (.str "SequenceMatcher" 389)) (some (.str "SequenceMatcher" 397)) (some (.bool true)) "object.__new__"),
   some (cZ 135 134 "Match" "Match" (some (.ref 65)) (some (.str "Match" 253)) (some (.str "Match" 261))),(bodyOf (frees (F w os).heap) 256).map NS,some (tabObj #v[])),
  (some [.ref 135,.type "tuple",.type "object"],some true,some true,some true,some true,some false,some (some (.builtin "object.__init__")),some (some (.builtin "type.__call__")),some true,some none,some (),λ_=>some ()),
  (true,some (.get (.builtin "staticmethod.__get__") (.ref 136) .none (.ref 135)),some (.get (.builtin "classmethod.__get__") (.ref 91) .none (.ref 135)),some [.ref 82],some [.ref 89,.bool false]))):=by
 delta F s3 XB tB L5 PySem.W.Fast.tw4202317264376624991
 rw[uW]
 kernel_rfl
end Mine
end
section
open PySem PySem.W PyProof.Rows
set_option maxHeartbeats 0
namespace Mine
open MP
def zL {p q:Program}{loose:List Str}{Xt:Shared->Bool}{N:Nat}{z:Bool}{Z:Params->Heap}{Y:Array GenState}{U:Drawn}{W O:Nat}{I:Option Value}{M:Nat}{F:World->OsState->Shared}
  (J:∀w:World,(fencedOpening treeTable p w N).map (λs=>(s.heap,s.gens,s.drawn,s.toks))=some (Z w.params,Y,U,W))
  (size:∀w:World,((Z w.params).isNs mainGlobals&&Y.size==0,(Z w.params).objs.size,(Z w.params).nsMap mainGlobals "__annotations__")=(true,O,I))
  (run:∀(w:World) (os:OsState),topRun treeTable p w O I M #[Z w.params,Y,U,W,os] (topStub p)=some (F w os)) (le:Nat.ble M N=true)
  (xH:∀(w:World) (os:OsState),(staticsOk (importedModules p.main.body) (Z w.params) (F w os).heap&&namesBound p (F w os).heap&&gensDone (F w os)&&laidKept (Z w.params) (F w os).heap)=true)
  (seen:∀(w:World) (os:OsState),openSeen q loose (importedModules p.main.body) Xt z (F w os)=openGood q loose) :
  LeftO p q loose Xt (λs=>s.heap) (λw=>(F w ((fencedOpening treeTable p w N).elim {} (·.os))).heap) N z:=λw=>by
 have#[#[h,H,d,k,os],e,e']:=gm.mp (J w);have zz:=by simpa using e'
 clear e';have#[rfl,rfl,rfl,rfl]:h=Z w.params/\H=Y/\d=U/\k=W:=zz;have#[z1,z2,z3]:_/\_/\_:=by simpa only[sf] using size w
 have r:=topRun_mono (N-M) _ _ _ _ (run w os);rw[show M+(N-M)=N by have:=aq le;(show gz (.e .M .C) [[1,-1],[1,1]] (.e (.a .B .A) .C) (ae (cg .A .a .A this)))]at r;have t:topFrom treeTable p w N #[Z w.params,H,d,k,os]=some (F w os):=by
  unfold topFrom;dsimp only;rw[z1,z2,z3,r];show(match staticsOk (importedModules p.main.body) (Z w.params) (F w os).heap&&namesBound p (F w os).heap&&gensDone (F w os)&&laidKept (Z w.params) (F w os).heap with|true=>_|false=>_)=_;rw[xH w os]
 unfold openEnds;rw[e];show(topFrom treeTable p w N _).map _=_;rw[t];apply bb some (Prod.ext (seen w os) ?_);show(F w os).heap=_;dsimp only;rw[e];rfl
def jl {α Z:Type}{a c:α}{b d:Z}(h:(a,b)=(c,d)):a=c:=bb (·.1) h
def gk {α Z:Type}{a c:α}{b d:Z}(h:(a,b)=(c,d)):b=d:=bb (·.2) h
def NQ {w:World}{os:OsState}:xH w (F w os)=true:=jl (jl (gk (ez (ez atB w) os)))
def PT (w:World)(os:OsState):Obs w.params (frees (F w os).heap)/\(F w os).heap.get? 253=some (tabObj #v[]):=by
 have v:=gk (gk (ez (ez atB w) os));generalize frees (F w os).heap=h at v ⊢;generalize w.params=P at v ⊢;have U:=jl v;have Z:=jl (gk v);have W:=jl (gk (gk v));have Y:=gk (gk (gk v));simp only[dh]at U;have#[#[#[#[#[#[#[#[a1,a2],a3],a4],a5],a6],a7],J],O]:=U;have z:=gk (gk (gk (gk Z)));have b:=gk W;have c:=gk b;have d:=gk c;have e:=gk d;have f:=gk e;have g:=gk f;have i:=gk g;have j:=gk i;have k:=gk j;have l:=gk k;have m:=gk Y;have n:=gk m;have o:=gk n;apply#[#[a1,a2,a3,a4,a5,a6,a7,J,jl Z,jl (gk Z),jl (gk (gk Z)),O,jl (gk z),jl (gk (gk (gk Z))),jl z,jl W,jl b,jl c,jl d,jl e,jl f,jl g,jl i,jl j,jl k,jl l,gk l,jl Y,jl m,jl n,jl o,gk o],gk (gk z)]
def KQ (w:World)(os:OsState):topRun treeTable pw w 11 an 2288 (S0 w os) (topStub pw)=some (F w os):=by
 have z:=ez (ez pre w) os;have hb:=ez (ez blk w) os;have hA:=ez (ez atA w) os;have hv:=jl (ez (ez atB w) os);have hf:=λc q s=>ez (ez (ez (ez fin w) c) q) s;have#[#[fl,O,c3,q3],Y,e]:=gm.mp hv;have I:fl=.next:=jl e
 have H:c3=cE:=gk e;subst I;subst H;have hF:F w os=O.abs:=by
  unfold F s3;rw[Y];rfl
 have Z:XA w os=some (sA w os,tA w os):=by
  have U:=jl hA;unfold sA tA;cases q:XA w os with
  |none=>rw[q]at U;cases U
  |some x=>rfl
 have J:tB w os=tA w os:=by
  unfold tB;rw[<- gk hA]
 unfold XB at Y;rw[J]at Y;rw[hF];generalize sA w os=sa at Z Y;generalize tA w os=ta at Z Y;unfold XA at Z;unfold th0 at Z;rw[OP]at Z;have B:TB=treeTable:=PySem.W.Fast.te14364793385576792824.symm;have e1:goT=@segGoT:=PySem.W.Fast.te10295753902157049106.symm;have e2:NA=@segRunT:=PySem.W.Fast.te10110043849684766642.symm;rw[e1,B]at Z;rw[e2,B]at Y;rw[B]at z hb hf;have hs:=seg_go (n:=1973) (N:=300) (segGo_of Z) (segRun_of Y);apply go_top (n:=12) (N:=2276) z (piece_block (n:=1) (N:=2275) hb ?_);have:=piece_app (n:=2273) (N:=2) (l:=bE) (rest:=[]) (env:=IB) hs (piece_nil (hf _ _ _));rw[cy]at this;show this
end Mine
end
section
open PySem PySem.W PyProof.Rows
set_option maxHeartbeats 0
namespace Mine
open MP
def NO:∀w:World,((boot_heap w.params).isNs mainGlobals&&(#[[]]:Array GenState).size==0,(boot_heap w.params).objs.size,(boot_heap w.params).nsMap mainGlobals "__annotations__")=(true,11,an):=by
 have h:(λw:World=>((boot_heap w.params).isNs mainGlobals&&(#[[]]:Array GenState).size==0,(boot_heap w.params).objs.size,(boot_heap w.params).nsMap mainGlobals "__annotations__"))=λw=>(true,11,an):=by kernel_rfl
 show λw=>ez h w
abbrev H1 (w:World):Heap:=(F w ((fencedOpening treeTable pw w 4418).elim {} (·.os))).heap
abbrev hook:Hook where
 α:=Heap
 obs:=λs=>s.heap
 val:=H1
 says:=λw h=>∀a o,(H1 w).get? a=some o->h.get? a=some o
 of:=λw s e a o h=>by rw[e];show h
 keeps:=λw h h' x k a o e=>k a o (x a o e)
def left:LeftO pw qv loose Xt (λs=>s.heap) H1 4418 true:=zL (boot_open (by kernel_rfl) (by decide +kernel) (λs=>by kernel_rfl)) NO KQ (by decide +kernel) (λw os=>NQ) λw os=>gk (jl (gk (ez (ez atB w) os)))
def head (Y:∀(d:DefRec) (Z:List (Str×Expr)),defOf qv rw1.row.name=some (d,Z)->WalkO qv loose (XL qv []) hook.says rw1.row.toRowW d Z λf vs=>PySem.call f vs):rw1.Holds:=by
 w_on
 apply holds_law (by decide +kernel) λW=>?_;apply holds_open (q:=qv) (loose:=loose) (Xt:=Xt) (XP:=XL qv []) (Yf:=hook.obs) (Ya:=hook.val) (YP:=hook.says) (N:=4418) left hook.of hook.keeps (λs e=>xl_of s (mK.mp e).1) XL.keeps (by rfl) (by rfl) (by rfl) (λs e=>recFacts_of (mK.mp e).2) (by first|rfl|fail "no head") (by first|assumption|decide +kernel) (by decide +kernel) #[rfl,rfl,rfl,rfl,rfl,by decide +kernel] ?hw ?Y
 case hw=>w_witness2
 case Y=>show Y _ _ (by rfl)
def PU (w:World):Obs w.params (frees (H1 w))/\(H1 w).get? 253=some (tabObj #v[]):=PT w _
end Mine
end
section
set_option tactic.hygienic true
open PySem PySem.W PyProof.Rows
set_option maxHeartbeats 0
namespace Mine
open MP
def AS (x:Str)(Z:x∈R1.tab.attrs):typeLookup (.type "object") x=pure none:=by
 simp only[R1.tab,bz,mu,or_false]at Z;rcases Z with rfl|rfl|rfl|rfl|rfl|rfl|rfl|rfl|rfl|rfl<;>(rw[ec,cq];kernel_rfl)
abbrev GG (w:World)(h0 hb:Heap)(clo:Nat->List V->Addr->Prop):Stc:={prog:=pw,w:=w,hb:=hb,cM:=135,cS:=242,attrs:=R1.tab.attrs,gl:=HZ h0,cap:=λ_=>false,clo:=clo}
section
variable {w:World}{h0 hb:Heap}{clo:Nat->List V->Addr->Prop}(ob:Obs w.params h0)
include ob
def rN:h0.isNs mainGlobals=true/\h0.isNs builtinsNs=true/\h0.isNs 241=true/\h0.isNs 134=true/\h0.isNs cStatics=true/\h0.nsMap cStatics "sys.recursionlimit"=none/\∃o,h0.get? sysModules=some o:=by
 have h:=ob.nss;unfold CJ at h;simp only[dh,uf]at h;have#[#[#[#[#[#[I,J],O],U],W],Y],Z]:=h;apply#[I,J,O,U,W,Y,ba.mp Z]
omit ob in
def pa {h:Heap}{a:Addr}{xs:List Str}(e:gU h a xs=true){x:Str}(Z:x∈xs):h.nsMap a x=none:=by
 unfold gU at e;rw[kc]at e;show uf.mp (e x Z)
variable (hk:∀a o,h0.get? a=some o->hb.get? a=some o)
include hk
def HM:hb.NoLimit:=by
 have#[I,J,O,U,Y,Z,W]:=rN ob;apply#[_,(tj Y).keeps hk,Z]
def OI:ClsAt hb 242 241 (h0.nsMap 241):=by
 have#[I,J,Z,O,U,W,Y]:=rN ob;apply#[#[_,_,_,_,_,_,_,_,_,_,_,_,hk _ _ (ob.g242)],(tj Z).keeps hk]
def Q3:GOk (GG w h0 hb clo):=by
 have#[U,W,H,I,J,O,o,Y]:=rN ob;have no:=ob.no241;apply#[#[241,_,OI ob hk,pa no (.head _),pa no (.tail _ (.head _)),pa no (.tail _ (.tail _ (.head _))),λx Z=>#[pa no (.tail _ (.tail _ (.tail _ Z))),AS x Z]],by show R1.tab.attrs.length<=100;decide,by show R1.tab.attrs.Nodup;decide +kernel,#[o,hk _ _ Y],#[_,_,(tj U).keeps hk,(tj W).keeps hk,λx=>rfl]]
omit hk in
def gl8 (x:Str)(v:Value)(e:R1.tab.gl.lookup x=some v):HZ h0 x=some v:=by
 have h:=ob.gls;unfold DG at h;rw[kc]at h;show ak (h (x,v) (MP.mem_of_lookup e))
def M5 {k:Nat}{a:Addr}(e:R1.tab.fns.lookup k=some a):∃o fd,hb.get? a=some o/\o.cls=.type "function"/\o.data=.func fd:=by
 have h:=ob.fns;unfold xQ at h;rw[kc]at h;have:=h (k,a) (MP.mem_of_lookup e);rw[dh]at this;have:=this.1;have#[o,Z,h]:=MP.any_some this;have#[W,Y]:=MP.band h;have#[fd,hd]:=ba.mp Y;apply#[o,fd,hk _ _ Z,ak W,hV hd]
omit hk in
def LC {k:Nat}{name:Str}(e:R1.tab.meths.lookup k=some name):h0.nsMap 241 name=(R1.tab.fns.lookup k).map Value.ref:=by
 have h:=ob.meths;unfold pF at h;rw[kc]at h;show ak (h (k,name) (MP.mem_of_lookup e))
def JK (k:Nat)(name:Str)(e:R1.tab.meths.lookup k=some name):∃f,R1.tab.fns.lookup k=some f/\MethAt (GG w h0 hb clo) name f:=by
 have no:=ob.no241;have Y:∃f,R1.tab.fns.lookup k=some f:=by
  have h:R1.tab.meths.all (λp=>(R1.tab.fns.lookup p.1).isSome)=true:=by decide +kernel
  show ba.mp (kc.mp h _ (MP.mem_of_lookup e))
 have Z:name∉R1.tab.attrs:=by
  have h:R1.tab.meths.all (λp=>decide (p.2∉R1.tab.attrs))=true:=by decide +kernel
  show ak (kc.mp h _ (MP.mem_of_lookup e))
 have#[f,W]:=Y;have#[o,fd,U,O,hd]:=M5 ob hk W;apply#[f,W,#[#[241,_,o,fd,OI ob hk,pa no (.head _),pa no (.tail _ (.head _)),?_,U,O,hd],Z,#[_,ec _ _]]];have:=LC ob e;rw[W]at this;show this
def NW:∃f,R1.tab.fns.lookup 0=some f/\mG (GG w h0 hb clo) f:=by
 have#[f,Z,M]:=JK ob hk 0 "__init__" rfl;have#[N,mN,of,fd,O,H,I,U,W,Y,J]:=M.here;apply#[f,Z,#[N,mN,of,O,U,W,Y]]
def LD:sd (GG w h0 hb clo):=by
 have#[I,J,O,Z,U,W,Y]:=rN ob;have no:=ob.no134;apply#[#[134,_,_,_,_,_,_,hk _ _ (ob.g135),(tj Z).keeps hk,pa no (.head _),pa no (.tail _ (.head _)),pa no (.tail _ (.tail _ (.head _))),pa no (.tail _ (.tail _ (.tail _ (.head _))))]]
omit ob hk in
def pS (h:Heap):∀l:List Addr,Frag.In (fragOf h l) h
 | [],a,o,e=>by cases e
 |b::l,a,o,e=>by
  unfold fragOf at e;simp only[uu]at e;cases Z:h.get? b with
  |none=>rw[Z]at e;show pS h l a o e
  |some ob =>
   rw[Z]at e;simp only[Option.map_some,List.lookup]at e;split at e
   ·rename_i q;cases e;rw[vp.mp q];show Z
   ·show pS h l a o e
omit ob hk in
def m6:findCls [] (.type "tuple") (.type "type") "__new__"=some (.val (.builtin "tuple.__new__")):=by kernel_rfl
omit ob hk in
def m7:findIn [] (.type "type") "__getattribute__"=some (some (.builtin "type.__getattribute__")):=by kernel_rfl
omit ob hk in
def m8:subIn [] (.type "type") (.type "type")=some true:=by kernel_rfl
omit ob hk in
def m9:opaqueClassAbove (.type "tuple")=pure none:=by kernel_rfl
omit ob hk in
def m10:hookBefore (.type "type")=pure none:=by kernel_rfl
omit ob hk in
def m11:typeOf (.type "tuple")=pure (.type "type"):=by kernel_rfl
def D4:(K8 h0).In hb:=(pS h0 _).keeps hk
def b0 {α:Type}{t:Sem α}{r:α}(e:peek (K8 h0) #[pw,w.params] t=some r):Looks (GG w h0 hb clo).M (GG w h0 hb clo).hb t r:=Looks.of_peek (K:=K8 h0) (D4 ob hk) e
def HD:pe (GG w h0 hb clo) 82 89 where
 made:=b0 ob hk (ob.l10)
 here:=b0 ob hk (ob.l11)
 chk:=λx=>b0 ob hk (ez ob.l12 x)
 mro:=b0 ob hk (ob.l1)
 self:=b0 ob hk (ob.l3)
 tup:=b0 ob hk (ob.l4)
 init:=b0 ob hk (ob.l7)
 call:=b0 ob hk (ob.l8)
 typ:=b0 ob hk (ob.l9)
 isT:=b0 ob hk (ob.l2)
 del:=b0 ob hk (ob.l6)
 new:=λA E s Q k h=>cls_bind (K:=K8 h0) (mc:=.type "type") ((D4 ob hk).keeps k) (ob.m1) (ob.m2) (mq (sm_get (s:={s with toks:=s.toks+1}) (K:=K8 h0) ((D4 ob hk).keeps k) (ob.m4) (handed_on rfl h)))
 make:=λA E s expr Q k h=>cls_bind (K:=K8 h0) (mc:=.type "type") ((D4 ob hk).keeps k) (ob.m1) (ob.m3) (mq (cm_get (s:={s with toks:=s.toks+1}) (K:=K8 h0) ((D4 ob hk).keeps k) (ob.m5) (handed_on rfl h)))
 typNew:=λA E s expr Q h=>cls_open (K:=[]) (λ_ _ e=>nomatch e) (Looks.of_pure m9) (Looks.of_pure m11) m7 (Looks.of_pure m10) m8 m6 (ab (handed_on rfl h))
def PV:oG (GG w h0 hb clo) 82:=by
 apply#[?_,gl8 ob "tuple" _ (by decide +kernel),b0 ob hk ob.l5];have h:=ob.new;unfold newOk at h;rw[dh]at h;have#[x,Y,W]:=xR (G:=GG w h0 hb clo) hk (HM ob hk) h.1 ob.newB;have Z:=h.2;rw[Y]at Z;apply#[_,_,_,_,_,_,_,_,_,_,_,_,_,_,[],W,Z]
def NK:mA (GG w h0 hb clo) 89:=by
 apply#[?_,gl8 ob "tuple" _ (by decide +kernel),gl8 ob "len" _ (by decide +kernel)];have h:=ob.make;unfold uK at h;rw[dh]at h;have#[x,Y,W]:=xR (G:=GG w h0 hb clo) hk (HM ob hk) h.1 ob.makeB;have Z:=h.2;rw[Y]at Z;apply#[_,_,_,_,_,CU,[],W,Z,by decide +kernel,by decide +kernel]
def OO:qJ (GG w h0 hb clo) R1.tab:=
 #[Q3 ob hk,gl8 ob,rfl,rfl,JK ob hk,NW ob hk,rfl,rfl,#[82,89,HD ob hk,PV ob hk,NK ob hk],LD ob hk]
def JD (W:∀k cs a,clo k cs a->∃n sc e b,R1.P (1000+k)=some #[n+cs.length,[],.cons (.ret b) .nil]/\mC (GG w h0 hb clo) a n cs sc e/\okE R1.tab b sc e=true/\reE R1.tab b sc e=e):qF (GG w h0 hb clo) R1.tab R1.P:=by
 apply#[OO ob hk,W,λk a e=>?_];have h:=ob.fns;unfold xQ at h;rw[kc]at h;have:=h (k,a) (MP.mem_of_lookup e);rw[dh]at this;have Z:=this.2;split at Z
 ·rename_i fn Y;have#[sc,body,x,y]:=NZ (G:=GG w h0 hb clo) hk (HM ob hk) Z (by
   have O:=List.map_inj_left.mp ob.q9 (k,a) (MP.mem_of_lookup e);have U:KR k=KS R1.tab fn:=by funext x;unfold KR;rw[Y]
   rw[<- U];show O)
  apply#[fn,sc,body,Y,x,y]
 ·cases Z
end
end Mine
end
section
namespace MP
open PySem
def jt {σ:St}{a d:Addr}{f:Nat->Option V}:(σ.ir a d f).I a=some (d,f):=ay _ _ _
def gP {σ:St}{a d d':Addr}{f g:Nat->Option V}:(σ.ir a d f).ir a d' g=σ.ir a d' g:=by
 unfold St.ir
 congr 1
 funext j
 simp only[upd];split<;>rfl
section
variable {C:Cal}{ρ:Fr}{σ:St}{e a b:Ex}{es:Exs}
def yC {Q:List V->St->Prop}:xy C (.cons e es) ρ σ Q=wpE C e ρ σ λv σ=>xy C es ρ σ λvs σ=>Q (v::vs) σ:=rfl
end
def za {p q:Prop}(h:q):if false=true then p else q:=h
def bB {p q:Prop}(h:p):if true=true then p else q:=h
def rX (k:Key):k.v.eI=some k:=by cases k<;>rfl
def pv {vs:List V}{G:St->Prop}{T:V->Fr->St->(Fr->St->Prop)->Prop}{K:Fr->St->Prop}(Inv:Nat->Fr->St->Prop)
  (step:∀i v ρ σ,vs[i]?=some v->Inv i ρ σ->G σ/\∀k:Fr->St->Prop,(∀ρ' σ',Inv (i+1) ρ' σ'->k ρ' σ')->T v ρ σ k) (fin:∀ρ σ,Inv vs.length ρ σ->G σ/\K ρ σ) {ρ:Fr} {σ:St} (h0:Inv 0 ρ σ):mU vs G T ρ σ K:=by
 have go:∀(ws:List V) (i:Nat) (ρ:Fr) (σ:St),vs.drop i=ws->Inv i ρ σ->i<=vs.length->mU ws G T ρ σ K:=by
  intro ws;induction ws with
  |nil =>
   intro i ρ σ e h Y;have:i=vs.length:=by have:=List.drop_eq_nil_iff.mp e;(show mn .G .g .A (.k .B .A) Y this)
   subst this;show fin ρ σ h
  |cons v ws U =>
   intro i ρ σ e h Y;have W:vs[i]?=some v:=by
    have:=bb (λl=>l[0]?) e;simpa using this
   have O:vs.drop (i+1)=ws:=by
    have:=bb (λl=>l.drop 1) e;simpa using this
   have Z:=(cf.mp W).1;have#[g,t]:=step i v ρ σ W h;apply#[g,t _ λρ' σ' h'=>U (i+1) ρ' σ' O h' Z]
 show go vs 0 ρ σ rfl h0 (dj _)
def nN {T:(Fr->St->Prop)->Fr->St->Prop}(Inv:Nat->Fr->St->Prop)(step:∀n ρ σ,Inv n ρ σ->∀again:Fr->St->Prop,(∀m ρ' σ',m<n->Inv m ρ' σ'->again ρ' σ')->T again ρ σ) :
  ∀(N n:Nat) {ρ:Fr} {σ:St},n<N->Inv n ρ σ->xG T N ρ σ
 |0=>λn {ρ} {σ} h _=>absurd h (ku _)
 |N+1=>λn {ρ} {σ} h Y=>step n ρ σ Y _ λm ρ' σ' Z h'=>nN Inv step N m (gr .B .b (.l .C .P) .H h Z) h'
abbrev posOf (k:Key)(bs:List Key):List Nat:=(List.range bs.length).filter λj=>decide (bs[j]?=some k)
def eB (k:Key)(bs:List Key)(b:Key):posOf k (bs++[b])=posOf k bs++if b=k then [bs.length] else []:=by
 unfold posOf;rw[cv,sk,List.range_succ,List.filter_append]
 congr 1
 ·apply List.filter_congr λj Z=>?_;rw[dE (cI.mp Z)]
 ·simp[uc]
def uh {σ σ':St}{u:V}{xs:List V}(h:∀a xs,σ.L a=some xs->σ'.L a=some xs)(e:wd σ u=some xs):wd σ' u=some xs:=by
 induction u using V.casesOn with
 |L a=>show h _ _ e
 |_=>show e
structure B2J (σ₀ σ:St)(db:Addr)(bs:List Key):Prop where
 tab:∃es,σ.D db=some es/\es.length<=bs.length/\(∀k,es.lookup k=none->posOf k bs=[]) /\
  (∀k w,es.lookup k=some w->∃c,w=.L c/\σ.L c=some ((posOf k bs).map λj:Nat=>V.int j)/\σ₀.L c=none) /\
  ∀k k' c,es.lookup k=some (.L c)->es.lookup k'=some (.L c)->k=k'
 old:∀a xs,σ₀.L a=some xs->σ.L a=some xs
 I:σ.I=σ₀.I
 S:σ.S=σ₀.S
 D:∀a,a≠db->σ.D a=σ₀.D a
 keys:∀es,σ.D db=some es->(es.map (·.1)).Nodup/\∀k∈es.map (·.1),k∈bs
def B2J.start {σ₀:St}{db:Addr}:B2J σ₀ (σ₀.jr db []) db []:=
 ⟨#[[],ay _ _ _,av _,λk _=>rfl,λk w e=>(by cases e),λk k' c e=>(by cases e)],λa xs e=>e,rfl,rfl,λa h=>bh h,λes e=>by
  have Z:=af ((ay σ₀.D db []).symm.trans e)
  try clear e
  have rfl:=Z;apply#[my,λk h=>nomatch h]⟩
def yi {es:List (Key×V)}{k k':Key}{v:V}:(es++[(k,v)]).lookup k'=(es.lookup k').or (if k'=k then some v else none):=by
 induction es with
 |nil=>simp[List.lookup];split<;>simp_all
 |cons e r Z =>
  have#[a,b]:=e;simp only[List.cons_append,List.lookup];split
  ·rfl
  ·show Z
public abbrev eA (k:Key)(bs:List Key):List V:=(posOf k bs).map λj:Nat=>V.int j
def gR (k:Key)(bs:List Key)(b:Key):eA k (bs++[b])=eA k bs++if b=k then [.int bs.length] else []:=by
 unfold eA;rw[eB,dw]
 congr 1
 split<;>rfl
def B2J.step {σ₀ σ:St}{db c:Addr}{bs:List Key}(h:B2J σ₀ σ db bs)(hc:σ.L c=none)(b:Key):∃es,σ.D db=some es/\es.length<=bs.length /\
  ∃c',(es.lookup b).getD (.L c)=.L c'/\((σ.cu c []).jr db (if (es.lookup b).isSome then es else es++[(b,.L c)])).L c'=some (eA b bs) /\
   B2J σ₀ (((σ.cu c []).jr db (if (es.lookup b).isSome then es else es++[(b,.L c)])).cu c' (eA b bs++[.int bs.length])) db (bs++[b]):=by
 have#[es,hD,O,ag,U,J]:=h.tab;apply#[es,hD,O,?_];have ao:σ₀.L c=none:=by
  cases hq:σ₀.L c with
  |none=>rfl
  |some xs=>rw[h.old c xs hq]at hc;cases hc
 cases hb:es.lookup b with
 |some w =>
  have#[c1,rfl,bd,bL]:=U b w hb;have bu:c1≠c:=λe=>by rw[e,hc]at bd;cases bd
  apply#[c1,rfl,?_,?_]
  ·show upd σ.L c [] c1=_;rw[bh bu];show bd
  ·simp only[Option.isSome_some,tu];apply#[#[es,ay _ _ _,by simp;(show cg (.k .A .P) .a .A O),λk e=>?_,λk w e=>?_,J],λa xs e=>?_,h.I,h.S,λa ha=>?_,λbM Z=>?_]
   ·have hk:b≠k:=λq=>by rw[<- q,hb]at e;cases e
    rw[eB,ag k e,az hk];rfl
   ·have#[H,rfl,Y,z]:=U k w e;apply#[H,rfl,?_,z];show upd (upd σ.L c []) c1 _ H=some (eA k (bs++[b]));rw[gR];by_cases hk:b=k
    ·subst hk;rw[hb]at e;cases e;rw[ay,br rfl]
    ·have bv:H≠c1:=λq=>hk (J b k c1 hb (q▸e));have B:H≠c:=λq=>by rw[q,hc]at Y;cases Y
     rw[bh bv,bh B,az hk,cy];show Y
   ·show upd (upd σ.L c []) c1 _ a=some xs;have h1:a≠c1:=λq=>by rw[q,bL]at e;cases e
    have h2:a≠c:=λq=>by rw[q,ao]at e;cases e
    rw[bh h1,bh h2];show h.old a xs e
   ·show upd σ.D db es a=_;rw[bh ha];show h.D a ha
   ·have rfl:=af ((ay σ.D db es).symm.trans Z);have#[k1,k2]:=h.keys _ hD;apply#[k1,λk hk=>jy _ (k2 k hk)]
 |none =>
  have hp:posOf b bs=[]:=ag b hb;have be:eA b bs=[]:=by unfold eA;rw[hp];rfl
  apply#[c,rfl,?_,?_]
  ·show upd σ.L c [] c=_;rw[ay,be]
  ·simp only[vq,dn,ju];apply#[#[es++[(b,V.L c)],(show upd σ.D db (es++[(b,V.L c)]) db=_ from ay _ _ _),by simp;(show cg .A .a .A O),λk e=>?_,λk w e=>?_,λk k' H e Z=>?_],λa xs e=>?_,h.I,h.S,λa ha=>?_,λbM Z=>?_]
   ·rw[yi]at e;cases hk:es.lookup k with
    |some w=>rw[hk]at e;cases e
    |none =>
     rw[hk,cG]at e;have ar:b≠k:=λq=>by rw[br q.symm]at e;cases e
     rw[eB,ag k hk,az ar];rfl
   ·rw[yi]at e;cases hk:es.lookup k with
    |some w' =>
     rw[hk,Option.some_or]at e
     try clear be
     try clear hp
     cases e;have#[H,rfl,Y,z]:=U k _ hk;apply#[H,rfl,?_,z];show upd (upd σ.L c []) c _ H=some (eA k (bs++[b]));have B:H≠c:=λq=>by rw[q,hc]at Y;cases Y
     have ar:b≠k:=λq=>by rw[<- q,hb]at hk;cases hk
     rw[bh B,bh B,gR,az ar,cy];show Y
    |none =>
     rw[hk,cG]at e;split at e
     ·rename_i q
      try clear Y
      try clear z
      cases e;subst q;apply#[c,rfl,?_,ao];show upd (upd σ.L c []) c _ c=some (eA k (bs++[k]));rw[ay,gR,br rfl]
     ·cases e
   ·rw[yi]at e Z;have fresh:∀k2,es.lookup k2≠some (.L c):=λk2 e2=>by
     have#[c3,e3,bl,_]:=U k2 _ e2;cases e3;rw[hc]at bl;cases bl
    cases hk:es.lookup k with
    |some w =>
     rw[hk,Option.some_or]at e;cases e;cases W:es.lookup k' with
     |some w'=>rw[W,Option.some_or]at Z;cases Z;show J k k' H hk W
     |none =>
      rw[W,cG]at Z;split at Z
      ·cases Z;show absurd hk (fresh k)
      ·cases Z
    |none =>
     rw[hk,cG]at e;split at e
     ·rename_i q;cases e;cases W:es.lookup k' with
      |some w'=>rw[W,Option.some_or]at Z;cases Z;show absurd W (fresh k')
      |none =>
       rw[W,cG]at Z;split at Z
       ·rename_i q';rw[q,q']
       ·cases Z
     ·cases e
   ·show upd (upd σ.L c []) c _ a=some xs;have h2:a≠c:=λq=>by rw[q,ao]at e;cases e
    rw[bh h2,bh h2];show h.old a xs e
   ·show upd σ.D db _ a=_;rw[bh ha];show h.D a ha
   ·have zz:=af ((ay σ.D db (es++[(b,V.L c)])).symm.trans Z);clear Z
    try clear Z
    have rfl:=zz;have#[k1,k2]:=h.keys _ hD;rw[dw];apply#[dT.mpr #[k1,by simp,λx hx y hy=>?_],λk hk=>?_]
    ·have zz:=ax.mp hy
     try clear hy
     have rfl:=zz;rintro rfl;have zz:=bg.mp hx
     try clear hx
     have#[p,bn,rfl]:=zz;rw[qo]at hb;have:=hb p bn;simp at this
    ·rcases fh.mp hk with hk|hk
     ·show jy _ (k2 k hk)
     ·show si _ hk
end MP
end
section
set_option tactic.hygienic true
namespace MP
variable {i j:Nat}
abbrev hit (as bs:List Key)(rm:Key->Bool)(i j:Nat):Bool:=match as[i]?,bs[j]? with
 |some a,some b=>decide (a=b)&&!rm a
 |_,_=>false
def HW {as bs:List Key}{rm:Key->Bool}:hit as bs rm i j=true↔∃c,as[i]?=some c/\bs[j]?=some c/\rm c=false:=by
 cases Y:as[i]? with
 |none=>rw[show hit as bs rm i j=false by unfold hit;rw[Y]];apply#[(λh=>nomatch h),λh=>by have#[c,Z,_]:=h;cases Z]
 |some a =>
  cases hb:bs[j]? with
  |none=>rw[show hit as bs rm i j=false by unfold hit;rw[Y,hb]];apply#[(λh=>nomatch h),λh=>by have#[c,_,Z,_]:=h;cases Z]
  |some b =>
   rw[show hit as bs rm i j=(decide (a=b)&&!rm a) by unfold hit;rw[Y,hb],dh,decide_eq_true_eq,dp];apply#[λh=>?_,λh=>?_]
   ·try clear hb
    try clear Y
    have#[rfl,h]:=h;apply#[_,rfl,rfl,h]
   ·have#[c,Z,W,h]:=h;have rfl:=af Z;have U:=af W
    try clear W
    have rfl:=U;apply#[rfl,h]
section
variable {as bs:List Key}{rm:Key->Bool}{alo ahi blo bhi:Nat}
abbrev eJ (as bs:List Key)(ok:Key->Bool)(alo blo:Nat):Nat->Nat->Nat->Nat×Nat×Nat
 |i+1,j+1,k=>if alo<i+1/\blo<j+1/\hit as bs (λc=>!ok c) i j=true then eJ as bs ok alo blo i j (k+1) else (i+1,j+1,k)
 |i,j,k=>(i,j,k)
abbrev sG (as bs:List Key)(ok:Key->Bool)(ahi bhi:Nat):Nat->Nat->Nat->Nat->Nat
 |0,_,_,k=>k
 |n+1,i,j,k=>if i+k<ahi/\j+k<bhi/\hit as bs (λc=>!ok c) (i+k) (j+k)=true then sG as bs ok ahi bhi n i j (k+1) else k
def uY {ok:Key->Bool}{k:Nat}:eJ as bs ok alo blo (i+1) (j+1) k=if alo<i+1/\blo<j+1/\hit as bs (λc=>!ok c) i j=true then eJ as bs ok alo blo i j (k+1) else (i+1,j+1,k):=rfl
def uX {ok:Key->Bool}{n k:Nat}:sG as bs ok ahi bhi (n+1) i j k=if i+k<ahi/\j+k<bhi/\hit as bs (λc=>!ok c) (i+k) (j+k)=true then sG as bs ok ahi bhi n i j (k+1) else k:=rfl
end
end MP
end
section
namespace MP
open PySem
variable {σ σ₁:St}{c:Addr}{k k':Key}{es:List (Key×V)}
structure Kp (σ σ':St):Prop where
 L:∀a xs,σ.L a=some xs->σ'.L a=some xs
 D:∀a es,σ.D a=some es->σ'.D a=some es
 S:σ'.S=σ.S
 I:σ'.I=σ.I
def Kp.refl (σ:St):Kp σ σ:=#[λ_ _ e=>e,λ_ _ e=>e,rfl,rfl]
def Kp.trans {σ₂:St}(h:Kp σ σ₁)(h':Kp σ₁ σ₂):Kp σ σ₂:=#[λa xs e=>h'.L a xs (h.L a xs e),λa xs e=>h'.D a xs (h.D a xs e),h'.S.trans h.S,h'.I.trans h.I]
def Kp.noL (h:Kp σ σ₁)(Z:σ₁.L c=none):σ.L c=none:=by
 cases q:σ.L c with
 |none=>rfl
 |some xs=>rw[h.L _ _ q]at Z;cases Z
def Kp.noD (h:Kp σ σ₁)(Z:σ₁.D c=none):σ.D c=none:=by
 cases q:σ.D c with
 |none=>rfl
 |some xs=>rw[h.D _ _ q]at Z;cases Z
def Kp.cu (h:Kp σ σ₁){xs:List V}(Z:σ.L c=none):Kp σ (σ₁.cu c xs):=⟨λa ys e=>by
 have:a≠c:=λq=>by rw[q,Z]at e;cases e
 show upd σ₁.L c xs a=_;rw[bh this];show h.L a ys e,h.D,h.S,h.I⟩
def Kp.jr (h:Kp σ σ₁){xs:List (Key×V)}(Z:σ.D c=none):Kp σ (σ₁.jr c xs):=⟨h.L,λa ys e=>by
 have:a≠c:=λq=>by rw[q,Z]at e;cases e
 show upd σ₁.D c xs a=_;rw[bh this];show h.D a ys e,h.S,h.I⟩
abbrev tg:Key->Prop
 |.int _=>True
 |.str s=>PyData.strOk s=true
def AJ {K:Bool->Prop}(h:tg k)(h':tg k')(q:K (decide (k=k'))):tJ k.v k'.v σ K:=by
 cases k with
 |int a =>
  cases k' with
  |int b =>
   show K (a==b);have:(a==b)=decide (Key.int a=Key.int b):=by
    by_cases e:a=b
    ·simp[e]
    ·simp[e]
   rw[this];show q
  |str b =>
   apply#[.int a,.str b,rfl,?_,?_]
   ·show(if PyData.strOk b then some (PyData.str b) else none)=_;rw[br (show PyData.strOk b=true from h')]
   ·have:PyData.eqv (.int a) (.str b)=decide (Key.int a=Key.str b):=by simp[PyData.eqv]
    rw[this];show q
 |str a =>
  cases k' with
  |int b =>
   apply#[.str a,.int b,?_,rfl,?_]
   ·show(if PyData.strOk a then some (PyData.str a) else none)=_;rw[br (show PyData.strOk a=true from h)]
   ·have:PyData.eqv (.str a) (.int b)=decide (Key.str a=Key.int b):=by simp[PyData.eqv]
    rw[this];show q
  |str b =>
   show K (a==b);have:(a==b)=decide (Key.str a=Key.str b):=by
    by_cases e:a=b
    ·simp[e]
    ·simp[e]
   rw[this];show q
def yD {K:Bool->Prop}(h:tg k)(h':tg k')(q:K (decide (k=k'))):jO .eq k.v k'.v σ K:=AJ h h' q
def gS {bs:List Key}{j:Nat}:j∈posOf k bs↔bs[j]?=some k:=by
 unfold posOf;rw[aW,cI,decide_eq_true_eq];apply#[λh=>h.2,λh=>#[(cf.mp h).1,h]]
def xk:es.any (λe=>e.1==k)=(es.lookup k).isSome:=by
 induction es with
 |nil=>rfl
 |cons e r Z =>
  have#[a,b]:=e;simp only[List.any_cons,List.lookup,Z];by_cases h:k=a
  ·subst h;simp
  ·rw[ee (kz h),ee h];rfl
def rF {v:V}:(putD es k v).length<=es.length+1:=by
 unfold putD;split<;>simp
def eG {v:V}:(putD es k v).lookup k'=if k'=k then some v else es.lookup k':=by
 unfold putD;split
 ·rename_i h;rw[xk]at h;induction es with
  |nil=>cases h
  |cons e r Y =>
   have#[a,b]:=e;simp only[gv,List.lookup]at h ⊢;by_cases hk:a=k
   ·subst hk;rw[br rfl];by_cases Z:k'=a
    ·subst Z;simp
    ·rw[az Z];have U:(k'==a)=false:=ee Z;simp only[List.lookup,U];clear Y h;induction r with
     |nil=>rfl
     |cons e r Y =>
      have#[J,I]:=e;simp only[gv,List.lookup];by_cases W:J=a
      ·subst W;rw[br rfl];simp only[List.lookup,U];show Y
      ·rw[az W];simp only[List.lookup];cases k'==J with
       |true=>rfl
       |false=>show Y
   ·rw[az hk];have O:(k==a)=false:=ee (kz hk);rw[O]at h;simp only[List.lookup];by_cases Z:k'=a
    ·try clear O
     subst Z;rw[az hk];simp
    ·rw[ee Z];show Y h
 ·rename_i h;rw[xk]at h;rw[yi];by_cases Z:k'=k
  ·skip
   try clear Y
   subst Z;cases q:es.lookup k' with
   |none=>simp
   |some w=>rw[q]at h;show absurd rfl h
  ·simp[Z]
end MP
end
section
set_option backward.match.sparseCases false
namespace MP
open PySem
variable {v a:V}{α:Type}{σ:St}
def nS (h:isNone v=true):v=.none:=by
 induction v using V.casesOn<;>first|rfl|show Bool.noConfusion h
def nO {P:Prop}{x:α}(h:none=some x):P:=nomatch h
def lj {Z:Type}{o:Option α}{f:α->Option Z}{b:Z}(h:o.bind f=some b):∃a,o=some a/\f a=some b:=dq.mp h
def omap {Z:Type}{o:Option α}{f:α->Z}{b:Z}(h:o.map f=some b):∃a,o=some a/\f a=b:=gm.mp h
abbrev sE (a b:V):Option (Int×Int):=(vInt a).bind λi=>(vInt b).map λj=>(i,j)
def aQ {b:V}{p:Int×Int}(h:sE a b=some p):a=.int p.1/\b=.int p.2:=by
 have#[i,e,h]:=lj h;have Z:=omap h
 try clear h
 have#[j,Y,rfl]:=Z;apply#[qt e,qt Y]
abbrev xf {α:Type}(c:Prop)[Decidable c](x:α):Option α:=if c then some x else none
def uk {c:Prop}[Decidable c]{x y:α}(h:xf c x=some y):c/\x=y:=by
 unfold xf at h;by_cases q:c
 ·rw[br q]at h;apply#[q,af h]
 ·rw[az q]at h;cases h
abbrev fL (op:Bop)(a b:V):Option V:=(sE a b).bind λp=>match op with
 |.add=>some (.int (p.1+p.2))
 |.sub=>some (.int (p.1-p.2))
 |.mul=>xf (p.1.natAbs<2^60\/p.2.natAbs<2^60) (.int (p.1*p.2))
 |.fdiv=>xf (0<p.2/\p.2.natAbs<2^60) (.int (p.1/p.2))
 |.mod=>xf (0<p.2) (.int (p.1%p.2))
 |.pow=>xf (0<=p.2/\p.2<=1000/\p.1.natAbs<2^64) (.int (p.1^p.2.toNat))
def sJ {op:Bop}{b:V}{Q:V->St->Prop}(h:fL op a b=some v)(q:Q v σ):iG op a b σ Q:=by
 have#[#[i,j],e,h]:=lj h;have#[rfl,rfl]:=aQ e;clear e;induction op using Bop.casesOn with
 |add=>cases h;show q
 |sub=>cases h;show q
 |mul=>have#[c,rfl]:=uk h;apply#[c,q]
 |fdiv =>
  try clear e
  have#[c,rfl]:=uk h;have c:0<j/\j.natAbs<2^60:=c;apply#[(by(rename_i Z Y;show ph (.iu .A .O) .a (.il .O .A) Z.1):j≠0),c.2,?_];rw[ti _ (by show 0<=j;(rename_i Z Y;show ph (.ik .O .A) .a (.il .O .A) Z.1))];show q
 |mod =>
  have#[c,rfl]:=uk h;have c:0<j:=c;apply#[(by(rename_i Z Y;show ph (.iu .A .O) .a (.il .O .A) Z):j≠0),?_];rw[Int.fmod_eq_emod_of_nonneg _ (by show 0<=j;(rename_i Z Y;show ph (.ik .O .A) .a (.il .O .A) Z))];show q
 |pow=>have#[c,rfl]:=uk h;apply#[c.1,c.2.1,c.2.2,q]
abbrev v7 (σ:St):V->Option Bool
 |.none=>some false
 |.bool b=>some b
 |.int i=>some (i != 0)
 |.L a=>(σ.L a).map λxs=>!xs.isEmpty
 |.clo _ _=>some true
 |_=>none
def fJ:∀(v:V) {b:Bool} {K:Bool->Prop},v7 σ v=some b->K b->rx v σ K:=by
 intro v b K h q;induction v using V.casesOn
 case none=>have rfl:=af h;show q
 case bool=>have rfl:=af h;show q
 case int=>have rfl:=af h;show q
 case L=>have#[xs,e,rfl]:=omap h;apply#[xs,e,q]
 case clo=>have rfl:=af h;show q
 all_goals show nO h
abbrev b5 (σ:St)(op:Cop)(a b:V):Option Bool:=match op with
 |.eq=>(vInt a).elim ((vStr a).bind λx=>(vStr b).map λy=>x==y) λi=>(vInt b).map λj=>decide (i=j)
 |.ne=>(vInt a).elim ((vStr a).bind λx=>(vStr b).map λy=>!(x==y)) λi=>(vInt b).map λj=>decide (i≠j)
 |.lt=>(sE a b).map λp=>decide (p.1<p.2)
 |.le=>(sE a b).map λp=>decide (p.1<=p.2)
 |.gt=>(sE a b).map λp=>decide (p.2<p.1)
 |.ge=>(sE a b).map λp=>decide (p.2<=p.1)
 |.is=>xf (isNone b=true) (isNone a)
 |.isNot=>xf (isNone b=true) (!(isNone a))
 |_=>none
def deq (x y:Int):(x==y)=decide (x=y):=by
 by_cases e:x=y
 ·simp[e]
 ·simp[e]
def dne (x y:Int):(!(x==y))=decide (x≠y):=by rw[deq];by_cases e:x=y<;>simp[e]
def sI {op:Cop}{b:V}{r:Bool}{K:Bool->Prop}(h:b5 σ op a b=some r)(q:K r):jO op a b σ K:=by
 have Z:∀{a:V} {K:Bool->Prop},K (isNone a)->FD a .none σ K:=λ{a K} q=>q;induction op using Cop.casesOn with
 |eq =>
  cases e:vInt a with
  |some i =>
   have rfl:=qt e;have#[j,O,rfl]:=omap h;have rfl:=qt O;show K (i==j);rw[deq];show q
  |none =>
   unfold b5 at h;rw[e]at h;have#[x,W,h]:=lj h;have#[y,Y,rfl]:=omap h;have rfl:=cO W;have rfl:=cO Y;show q
 |ne =>
  cases e:vInt a with
  |some i =>
   have rfl:=qt e;have#[j,O,rfl]:=omap h;have rfl:=qt O;show K (!(i==j));rw[dne];show q
  |none =>
   unfold b5 at h;rw[e]at h;have#[x,W,h]:=lj h;have#[y,Y,rfl]:=omap h;have U:=cO W
   try clear W
   have rfl:=U;have U:=cO Y
   try clear Y
   have rfl:=U;show q
 |lt=>have#[p,e,rfl]:=omap h;have#[rfl,rfl]:=aQ e;show q
 |le=>have#[p,e,rfl]:=omap h;have#[rfl,rfl]:=aQ e;show q
 |gt=>have#[p,e,rfl]:=omap h;have#[rfl,rfl]:=aQ e;show q
 |ge=>have#[p,e,rfl]:=omap h;have#[rfl,rfl]:=aQ e;show q
 |is=>have#[c,rfl]:=uk h;have rfl:=nS c;show Z q
 |isNot=>have#[c,rfl]:=uk h;have rfl:=nS c;show Z (K:=λr=>K (!r)) q
 |isIn=>cases h
 |notIn=>cases h
def ifO {c:Prop}[Decidable c]{x:Option α}{y:α}(h:(if c then x else none)=some y):c/\x=some y:=by
 by_cases q:c
 ·rw[br q]at h;apply#[q,h]
 ·rw[az q]at h;cases h
abbrev DJ (xs:List V)(i:Int):Option V:=if 0<=fc xs.length i then xs[(fc xs.length i).toNat]? else none
abbrev xU (σ:St)(a i:V):Option V:=(vInt i).bind λi=>match jP a with
 |some a=>(σ.L a).bind λxs=>DJ xs i
 |none=>(AN a).bind λxs=>if i.natAbs<2^60 then DJ xs i else none
def sH {i:V}{K:V->Prop}(h0:xU σ a i=some v)(q:K v):jL a i σ K:=by
 have#[j,e,h]:=lj h0;clear h0;have e:=qt e;subst e;cases e:jP a with
 |some b =>
  rw[e]at h;have e:=jA e;subst e;have#[xs,e,h]:=lj (o:=σ.L b) h;have#[c,h]:=ifO h;apply#[xs,v,e,c,h,q]
 |none =>
  rw[e]at h;have#[xs,e,h]:=lj (o:=AN a) h;have e:=FN e;subst e;have#[c,h]:=ifO h;have#[Z,h]:=ifO h;apply#[v,c,Z,h,q]
abbrev I8 (σ:St)(k:BF)(vs:List V):Option V:=match k with
 |.len=>match vs with
  | [v]=>(jP v).elim ((tL v).bind λa=>(σ.D a).map λxs=>.int xs.length) λa=>(σ.L a).map λxs=>.int xs.length
  |_=>none
 |_=>none
def I7 (k:BF)(vs:List V){Q:V->St->Prop}(h:I8 σ k vs=some v)(q:Q v σ):FG k vs σ Q:=by
 cases vs with
 |nil=>induction k using BF.casesOn<;>show nO h
 |cons u r =>
  induction k using BF.casesOn
  case len =>
   cases r with
   |cons=>show nO h
   |nil =>
    cases e:jP u with
    |some a =>
     have rfl:=jA e;have#[xs,e,rfl]:=omap h;apply#[xs,e,q]
    |none =>
     have h:(jP u).elim ((tL u).bind λa=>(σ.D a).map λxs=>V.int xs.length) (λa=>(σ.L a).map λxs=>.int xs.length)=some v:=h;rw[e]at h;have#[a,U,h]:=lj (o:=tL u) h;have Y:=FO U
     try clear U
     have rfl:=Y;have Y:=omap h;clear h;clear h
     try clear h
     have#[xs,e,rfl]:=Y;apply#[xs,e,q]
  case set=>show nO h
  all_goals cases r with
  |nil=>show nO h
  |cons w r =>
   cases r with
   |cons=>show nO h
   |nil =>
    first
    |(have#[p,e,rfl]:=omap (o:=sE u w) h;have#[rfl,rfl]:=aQ e;show q)
    |(have#[#[i,j],e,h]:=lj (o:=sE u w) h;have#[rfl,rfl]:=aQ e;have#[c,rfl]:=uk h;have c:0<j/\j.natAbs<2^60:=c;apply⟨(by(rename_i Z W;show ph (.iu .A .O) .a (.il .O .A) Z.1):j≠0),c.2,?_⟩;rw[ti _ (by show 0<=j;(rename_i Z W;show ph (.ik .O .A) .a (.il .O .A) Z.1)),Int.fmod_eq_emod_of_nonneg _ (by show 0<=j;(rename_i Z W;show ph (.ik .O .A) .a (.il .O .A) Z.1))];show q)
mutual
noncomputable def evV (σ:St)(ρ:Fr):Ex->Option V
 |.none=>some .none
 |.bool b=>some (.bool b)
 |.int i=>some (.int i)
 |.str s=>some (.str s)
 |.l x=>ρ x
 |.b op a b=>(evV σ ρ a).bind λva=>(evV σ ρ b).bind λvb=>fL op va vb
 |.neg a=>(evV σ ρ a).bind λv=>(vInt v).map λi=>.int (-i)
 |.not a=>(evV σ ρ a).bind λv=>(v7 σ v).map λb=>.bool !b
 |.c op a b=>(evV σ ρ a).bind λva=>(evV σ ρ b).bind λvb=>(b5 σ op va vb).map .bool
 |.I c a b=>(evT σ ρ c).bind λt=>if t then evV σ ρ a else evV σ ρ b
 |.T es=>(mW σ ρ es).bind λvs=>if vs.length<=aw then some (.T vs) else none
 |.attr e x=>(evV σ ρ e).bind λv=>(yF v).bind λa=>(σ.I a).bind λp=>p.2 x
 |.sub e i=>(evV σ ρ e).bind λv=>(evV σ ρ i).bind λj=>xU σ v j
 |.bf k es=>(mW σ ρ es).bind λvs=>I8 σ k vs
 |_=>none
noncomputable def mW (σ:St)(ρ:Fr):Exs->Option (List V)
 |.nil=>some []
 |.cons e es=>(evV σ ρ e).bind λv=>(mW σ ρ es).map λvs=>v::vs
noncomputable def evT (σ:St)(ρ:Fr):Ex->Option Bool
 |.not a=>(evT σ ρ a).map λb=>!b
 |.and a b=>(evT σ ρ a).bind λt=>if t then evT σ ρ b else some false
 |.or a b=>(evT σ ρ a).bind λt=>if t then some true else evT σ ρ b
 |.c op a b=>(evV σ ρ a).bind λva=>(evV σ ρ b).bind λvb=>b5 σ op va vb
 |.I c a b=>(evT σ ρ c).bind λt=>if t then evT σ ρ a else evT σ ρ b
 |.l x=>(ρ x).bind λv=>v7 σ v
 |.int i=>some (i != 0)
 |.bool b=>some b
 |.attr e x=>(evV σ ρ e).bind λv=>(yF v).bind λa=>(σ.I a).bind λp=>(p.2 x).bind λu=>v7 σ u
 |.sub e i=>(evV σ ρ e).bind λv=>(evV σ ρ i).bind λj=>(xU σ v j).bind λr=>v7 σ r
 |.b op a b=>(evV σ ρ a).bind λva=>(evV σ ρ b).bind λvb=>(fL op va vb).bind λr=>v7 σ r
 |_=>none
end
section
variable {i j:Int}
variable {σ:St}{ρ:Fr}{e a b c:Ex}{es:Exs}
@[simp] theorem O4:evV σ ρ .none=some .none:=rfl
@[simp] theorem O6 {x:Bool}:evV σ ρ (.bool x)=some (.bool x):=rfl
@[simp] theorem PA:evV σ ρ (.int i)=some (.int i):=rfl
@[simp] theorem wi {x:Nat}:evV σ ρ (.l x)=ρ x:=rfl
@[simp] theorem pU {op:Bop}:evV σ ρ (.b op a b)=(evV σ ρ a).bind λZ=>(evV σ ρ b).bind λvb=>fL op Z vb:=rfl
@[simp] theorem P0:evV σ ρ (.neg a)=(evV σ ρ a).bind λv=>(vInt v).map λi=>.int (-i):=rfl
@[simp] theorem PB {op:Cop}:evV σ ρ (.c op a b)=(evV σ ρ a).bind λZ=>(evV σ ρ b).bind λvb=>(b5 σ op Z vb).map .bool:=rfl
@[simp] theorem aS:evV σ ρ (.T es)=(mW σ ρ es).bind λvs=>if vs.length<=aw then some (.T vs) else none:=rfl
@[simp] theorem OZ {i:Ex}:evV σ ρ (.sub e i)=(evV σ ρ e).bind λv=>(evV σ ρ i).bind λj=>xU σ v j:=rfl
@[simp] theorem Q7 {k:BF}:evV σ ρ (.bf k es)=(mW σ ρ es).bind λvs=>I8 σ k vs:=rfl
@[simp] theorem zy:mW σ ρ .nil=some []:=rfl
@[simp] theorem ic:mW σ ρ (.cons e es)=(evV σ ρ e).bind λv=>(mW σ ρ es).map λvs=>v::vs:=rfl
@[simp] theorem PC:evT σ ρ (.not a)=(evT σ ρ a).map λb=>!b:=rfl
@[simp] theorem I6:evT σ ρ (.and a b)=(evT σ ρ a).bind λt=>if t then evT σ ρ b else some false:=rfl
@[simp] theorem Q8:evT σ ρ (.or a b)=(evT σ ρ a).bind λt=>if t then some true else evT σ ρ b:=rfl
@[simp] theorem pV {op:Cop}:evT σ ρ (.c op a b)=(evV σ ρ a).bind λZ=>(evV σ ρ b).bind λvb=>b5 σ op Z vb:=rfl
@[simp] theorem I5 {x:Nat}:evT σ ρ (.l x)=(ρ x).bind λv=>v7 σ v:=rfl
@[simp] theorem N2:vInt (.int i)=some i:=rfl
@[simp] theorem MS:fL .add (.int i) (.int j)=some (.int (i+j)):=rfl
@[simp] theorem MO:fL .sub (.int i) (.int j)=some (.int (i-j)):=rfl
@[simp] theorem MQ:fL .mul (.int i) (.int j)=xf (i.natAbs<2^60\/j.natAbs<2^60) (.int (i*j)):=rfl
@[simp] theorem M7:fL .fdiv (.int i) (.int j)=xf (0<j/\j.natAbs<2^60) (.int (i/j)):=rfl
@[simp] theorem MR:fL .mod (.int i) (.int j)=xf (0<j) (.int (i%j)):=rfl
@[simp] theorem OC {l:Addr}:I8 σ .len [.L l]=(σ.L l).map λxs=>.int xs.length:=rfl
@[simp] theorem O7:b5 σ .lt (.int i) (.int j)=some (decide (i<j)):=rfl
@[simp] theorem O8:b5 σ .le (.int i) (.int j)=some (decide (i<=j)):=rfl
@[simp] theorem O9:b5 σ .gt (.int i) (.int j)=some (decide (j<i)):=rfl
@[simp] theorem OA:b5 σ .ge (.int i) (.int j)=some (decide (j<=i)):=rfl
@[simp] theorem OB:b5 σ .eq (.int i) (.int j)=some (decide (i=j)):=rfl
end
section
variable {e:Ex}
variable {C:Cal}{σ:St}{ρ:Fr}
mutual
theorem ki:∀(e:Ex) {v:V} {Q:V->St->Prop},evV σ ρ e=some v->Q v σ->wpE C e ρ σ Q
 |.none=>λh q=>by cases (h:some _=some _);show q
 |.bool b=>λh q=>by cases (h:some _=some _);show q
 |.int b=>λh q=>by cases (h:some _=some _);show q
 |.str b=>λh q=>by cases (h:some _=some _);show q
 |.l x=>λh q=>#[_,h,q]
 |.b op a b=>λh q=>by
  have#[W,Z,h]:=lj h;have#[vb,Y,h]:=dq.mp h;show ki a Z (ki b Y (sJ h q))
 |.neg a=>λh q=>by
  have#[W,Z,h]:=lj h;apply ki a Z ?_;have#[i,Y,rfl]:=omap h;apply#[i,qt Y,q]
 |.not a=>λh q=>by
  have#[W,Z,h]:=lj h;have#[b,Y,rfl]:=gm.mp h;show ki a Z (fJ _ Y q)
 |.c op a b=>λh q=>by
  have#[W,Z,h]:=lj h;have#[vb,Y,h]:=dq.mp h;have#[r,U,rfl]:=gm.mp h;show ki a Z (ki b Y (sI U q))
 |.I c a b=>λh q=>by
  have#[t,Z,h]:=lj h;apply zb c Z ?_;cases t with
  |true=>show bB (ki a h q)
  |false=>show za (ki b h q)
 |.T es=>λh q=>by
  have#[vs,Z,h]:=lj h;have#[c,h]:=ifO h;cases h;show jF es Z #[c,q]
 |.attr e x=>λh q=>by
  have#[W,Z,h]:=lj h;apply ki e Z ?_;have#[a,O,h]:=lj h;have#[#[d,f],Y,h]:=lj h;apply#[a,d,f,_,oO O,Y,h,q]
 |.sub e i=>λh q=>by
  have#[W,Z,h]:=lj h;have#[vb,Y,h]:=dq.mp h;show ki e Z (ki i Y (sH h q))
 |.bf k es=>λh q=>by
  have#[vs,Z,h]:=lj h;show jF es Z (I7 _ _ h q)
 |.and ..=>λh q=>nO h
 |.or ..=>λh q=>nO h
 |.L ..=>λh q=>nO h
 |.dct0=>λh q=>nO h
 |.call ..=>λh q=>nO h
 |.meth ..=>λh q=>nO h
 |.g ..=>λh q=>nO h
 |.h ..=>λh q=>nO h
 |.dhasOf ..=>λh q=>nO h
 |.flt=>λh q=>nO h
 |.ratio ..=>λh q=>nO h
 |.neS ..=>λh q=>nO h
 |.bm ..=>λh q=>nO h
 |.w ..=>λh q=>nO h
 |.slc ..=>λh q=>nO h
 |.K ..=>λh q=>nO h
 |.bx ..=>λh q=>nO h
 |.n ..=>λh q=>nO h
 |.N ..=>λh q=>nO h
 |.M ..=>λh q=>nO h
 |.dead=>λh q=>nO h
theorem jF:∀(es:Exs) {vs:List V} {Q:List V->St->Prop},mW σ ρ es=some vs->Q vs σ->xy C es ρ σ Q
 |.nil,vs,Q,h,q=>by cases (h:some _=some vs);show q
 |.cons e es,vs,Q,h,q=>by
  have#[v,W,h]:=lj h;have Z:=gm.mp h;clear h
  try clear h
  have#[us,Y,rfl]:=Z;show ki e W (jF es Y q)
theorem zb:∀(e:Ex) {b:Bool} {Q:Bool->St->Prop},evT σ ρ e=some b->Q b σ->wpT C e ρ σ Q
 |.not a=>λh q=>by
  have#[b,Y,rfl]:=omap h;show zb a Y q
 |.and a b=>λh q=>by
  have#[t,Z,h]:=lj h;apply zb a Z ?_;cases t with
  |true=>show bB (zb b h q)
  |false=>cases h;show za q
 |.or a b=>λh q=>by
  have#[t,Z,h]:=lj h;apply zb a Z ?_;cases t with
  |true=>cases h;show bB q
  |false=>show za (zb b h q)
 |.c op a b=>λh q=>by
  have#[U,Z,h]:=lj h;have#[vb,Y,h]:=dq.mp h;show ki a Z (ki b Y (sI h q))
 |.I c a b=>λh q=>by
  have#[t,Z,h]:=lj h;apply zb c Z ?_;cases t with
  |true=>show bB (zb a h q)
  |false=>show za (zb b h q)
 |.l x=>λh q=>by
  have#[u,Z,h]:=lj h;apply#[u,Z,fJ _ h q]
 |.int i=>λh q=>by cases (h:some _=some _);show q
 |.bool i=>λh q=>by cases (h:some _=some _);show q
 |.attr e x=>λh q=>by
  have#[U,Z,h]:=lj h;apply ki e Z ?_;have#[a,O,h]:=lj h;have#[#[d,f],Y,h]:=lj h;have#[u,W,h]:=lj h;apply#[a,d,f,u,oO O,Y,W,fJ _ h q]
 |.sub e i=>λh q=>by
  have#[U,Z,h]:=lj h;have#[vb,Y,h]:=dq.mp h;have#[u,W,h]:=dq.mp h;show ki e Z (ki i Y (sH W (fJ _ h q)))
 |.b op a b=>λh q=>by
  have#[U,Z,h]:=lj h;have#[vb,Y,h]:=dq.mp h;have#[u,W,h]:=dq.mp h;show ki a Z (ki b Y (sJ W (fJ _ h q)))
 |.none=>λh q=>nO h
 |.str ..=>λh q=>nO h
 |.neg ..=>λh q=>nO h
 |.T ..=>λh q=>nO h
 |.bf ..=>λh q=>nO h
 |.L ..=>λh q=>nO h
 |.dct0=>λh q=>nO h
 |.call ..=>λh q=>nO h
 |.meth ..=>λh q=>nO h
 |.g ..=>λh q=>nO h
 |.h ..=>λh q=>nO h
 |.dhasOf ..=>λh q=>nO h
 |.flt=>λh q=>nO h
 |.ratio ..=>λh q=>nO h
 |.neS ..=>λh q=>nO h
 |.bm ..=>λh q=>nO h
 |.w ..=>λh q=>nO h
 |.slc ..=>λh q=>nO h
 |.K ..=>λh q=>nO h
 |.bx ..=>λh q=>nO h
 |.n ..=>λh q=>nO h
 |.N ..=>λh q=>nO h
 |.M ..=>λh q=>nO h
 |.dead=>λh q=>nO h
end
variable {K:Fl->Fr->St->Prop}{ss:jo}
def tD {x:Nat}(v:V)(h:evV σ ρ e=some v)(k:dt C ss (upd ρ x v) σ K):dt C (.cons (.a [.v x] e) ss) ρ σ K:=ki e h k
def tE {xs:List Nat}(vs:List V)(h:evV σ ρ e=some (.T vs))(l:xs.length=vs.length)(k:dt C ss (gj xs vs ρ) σ K):dt C (.cons (.a [.T xs] e) ss) ρ σ K:=
 ki e h #[vs,rfl,l,k]
def mD {c:Ex}{t e:jo}(b:Bool)(h:evT σ ρ c=some b)(k:if b then dt C t ρ σ (zi (λρ σ=>dt C ss ρ σ K) K) else dt C e ρ σ (zi (λρ σ=>dt C ss ρ σ K) K)):dt C (.cons (.C c t e) ss) ρ σ K:=zb c h k
def oL {x:Nat}{a:Addr}{xs:List V}(v:V)(Y:ρ x=some (.L a))(Z:σ.L a=some xs)(h:evV σ ρ e=some v)(l:xs.length<aw)(k:dt C ss ρ (σ.cu a (xs++[v])) K):dt C (.cons (.expr (.bm .append (.l x) %[e|0])) ss) ρ σ K:=by
 apply#[_,Y,(show(σ.L a).isSome=true by rw[Z];rfl),?_];rw[yC];apply ki e h ?_;apply#[xs,Z,l,rfl,k]
def F7 (v:V)(h:evV σ ρ e=some v)(k:K (.ret v) ρ σ):dt C (.cons (.ret e) ss) ρ σ K:=ki (Q:=λv σ=>K (.ret v) ρ σ) e h k
def mf (k:K .next ρ σ):dt C .nil ρ σ K:=k
def oK {H:Fr->St->Prop}(k:H ρ σ):dt C .nil ρ σ (zi H K):=k
def aU (k:dt C ss ρ σ K):dt C (.cons .pass ss) ρ σ K:=k
def tF {c:Ex}{t e:jo}(p:Prop)[Decidable p](h:evT σ ρ c=some (decide p))(Z:p->dt C t ρ σ (zi (λρ σ=>dt C ss ρ σ K) K))(k2:¬p->dt C e ρ σ (zi (λρ σ=>dt C ss ρ σ K) K)):dt C (.cons (.C c t e) ss) ρ σ K:=by
 apply mD _ h ?_;by_cases q:p
 ·rw[cj q,br rfl];show Z q
 ·rw[cw q,az (by simp)];show k2 q
end
end MP
end
section
namespace MP
open PySem
variable {ρ:Fr}{σ:St}{es:List (Key×V)}{ks:List Key}
structure J2 (σ σ':St)(s:Addr)(js:List Key):Prop where
 L:σ'.L=σ.L
 D:σ'.D=σ.D
 I:σ'.I=σ.I
 S:∀a,a≠s->σ'.S a=σ.S a
 at_:σ'.S s=some js
structure J3 (σ σ':St)(d:Addr)(es:List (Key×V)):Prop where
 L:σ'.L=σ.L
 S:σ'.S=σ.S
 I:σ'.I=σ.I
 D:∀a,a≠d->σ'.D a=σ.D a
 at_:σ'.D d=some es
section
variable {C:Cal}{K:Fl->Fr->St->Prop}
def EP {c:Ex}{sx s:Nat}{js:List Key}{k:Int}{b:Bool}{again:Fr->St->Prop}(U:∀Q:Bool->St->Prop,Q b σ->wpT C c ρ σ Q)(W:ρ 4=some (.int k))(Y:ρ sx=some (.set s))(Z:σ.S s=some js)(hz:js.length<4000)(hk:Key.int k∉js)
  (h:again ρ (if b then σ.dZ s (js++[.int k]) else σ)):dt C %[.C c %[.expr (.bm .add (.l sx) %[.l 4|0])|0] .nil|0] ρ σ (wm again K):=by
 apply U _ ?_;cases b with
 |false=>show za h
 |true =>
  apply bB #[.set s,Y,(by show(σ.S s).isSome=true;rw[Z];rfl),.int k,W,js,Z,hz,rfl,?_];rw[az hk];show h
def ER {c:Ex}{sx s:Nat}{t:Tg}{vs:List V}{G:St->Prop}{ks:List Int}{p:Int->Bool}{k:Fr->St->Prop}(Inv:Fr->Prop)(nd:ks.Nodup)(Y:vs.length=ks.length)(hz:ks.length<4000)(hI:Inv ρ)(hS:σ.S s=some [])(hG:∀σ' js,J2 σ σ' s js->σ'.Z=σ.Z\/σ'.Z=clr σ.Z s->G σ')
  (bind:∀(i:Nat) (v:V) (y:Int) (ρ:Fr) (σ':St) (js:List Key) (K:Fr->Prop),vs[i]?=some v->ks[i]?=some y->Inv ρ->J2 σ σ' s js->(∀ρ',Inv ρ'->ρ' 4=some (.int y)->ρ' sx=some (.set s)->(∀Q:Bool->St->Prop,Q (p y) σ'->wpT C c ρ' σ' Q)->K ρ')->pz t v σ' ρ K)
  (h:∀ρ' σ',Inv ρ'->J2 σ σ' s ((ks.filter p).map Key.int)->k ρ' σ') :
  mU vs G (λv ρ σ kk=>pz t v σ ρ λρ=>dt C %[.C c %[.expr (.bm .add (.l sx) %[.l 4|0])|0] .nil|0] ρ σ (wm kk K)) ρ σ k:=by
 apply pv (λi ρ' σ'=>Inv ρ'/\J2 σ σ' s (((ks.take i).filter p).map Key.int)/\(σ'.Z=σ.Z\/σ'.Z=clr σ.Z s)) ?_ ?_ #[hI,#[rfl,rfl,rfl,λ_ _=>rfl,hS],.inl rfl]
 ·intro i v ρ' σ' hv U;have#[hi,B,z]:=U;apply#[hG _ _ B z,λkk hk=>?_];have W:i<ks.length:=Y▸(cf.mp hv).1;have hy:ks[i]?=some ks[i]:=cm W;apply bind i v ks[i] ρ' σ' _ _ hv hy hi B λar i2 r4 rs hc=>?_;have J:Key.int ks[i]∉((ks.take i).filter p).map Key.int:=λq=>by
   have#[y,ag,O]:=bg.mp q;have U:=Key.int.inj O
   try clear O
   have rfl:=U;have h1:=(aW.mp ag).1;have#[j,hj,e]:=gp.mp h1;rw[List.getElem_take]at e;have ao:j<i:=by rw[fq]at hj;(show gr .B .b .H .F hj (Ar.nr _ _).1)
   have:=(List.getElem_inj nd).mp e
   (show mn .ff [[0,1,-1]] .B .G ao this)
  apply EP (b:=p ks[i]) hc r4 rs B.at_ ?_ J (hk _ _ #[i2,?_])
  ·rw[ai];have:=nq p (ks.take i);rw[fq]at this;(show i9 (.l .A (.n 4000)) [[1,1,1,1,1]] (.l .B (.n 4000)) (.l .C .B) (.k .A .D) (.k .D .C) hz W this (Ar.nr _ _).1)
  ·rw[ow W,List.filter_append,dw];cases hp:p ks[i] with
   |false =>
    rw[List.filter_cons_of_neg (by rw[hp];decide),aX,List.map_nil,cy];apply#[B,z]
   |true =>
    rw[List.filter_cons_of_pos hp,aX];apply#[#[B.L,B.D,B.I,λa ha=>(bh ha).trans (B.S a ha),ay _ _ _],.inr ?_];show clr σ'.Z s=clr σ.Z s;rcases z with e|e
    ·rw[e]
    ·rw[e];funext a;unfold clr;split<;>rfl
 ·intro ρ' σ' U;have#[hi,B,z]:=U;apply#[hG _ _ B z,?_];rw[Y,qj]at B;show h ρ' σ' hi B
abbrev aZ (es:List (Key×V))(ks:List Key):List (Key×V):=es.filter λe=>decide (e.1∉ks)
def we {k:Key}:(aZ es ks).lookup k=if k∈ks then none else es.lookup k:=by
 unfold aZ;induction es with
 |nil=>rw[aX];split<;>rfl
 |cons e r Y =>
  have#[a,v]:=e;rw[uc];by_cases c:a∈ks
  ·rw[az (by simpa using c),Y];by_cases d:k∈ks
   ·rw[br d,br d]
   ·have Z:k≠a:=λq=>d (q▸c);rw[az d,az d,jz,ee Z]
  ·rw[br (by simpa using c),jz,jz,Y];by_cases d:k=a
   ·subst d;rw[dg];show(az c).symm
   ·rw[ee d]
def zD {k:Key}:delD (aZ es ks) k=aZ es (ks++[k]):=by
 unfold delD aZ;rw[List.filter_filter];apply List.filter_congr λe _=>?_;by_cases c:e.1=k
 ·simp[c]
 ·by_cases d:e.1∈ks
  ·simp[c,d]
  ·simp[c,d]
def zC:aZ es []=es:=List.filter_eq_self.mpr λ_ _=>rfl
def DO {G:St->Prop}{d dx:Nat}{k:Fr->St->Prop}(hd:σ.D d=some es)(rd:ρ dx=some (.dct d))(h4:dx≠4)(nd:ks.Nodup)(ao:∀k∈ks,(es.lookup k).isSome=true)(hG:∀σ' ar,J3 σ σ' d ar->σ'.Z=σ.Z\/σ'.Z=clr σ.Z d->G σ')
  (h:∀ρ' σ',(∀m,m≠4->ρ' m=ρ m)->J3 σ σ' d (aZ es ks)->k ρ' σ') :
  mU (ks.map Key.v) G (λv ρ σ kk=>pz (.v 4) v σ ρ λρ=>dt C %[.delD (.l dx) (.l 4)|0] ρ σ (wm kk K)) ρ σ k:=by
 apply pv (λi ρ' σ'=>(∀m,m≠4->ρ' m=ρ m)/\J3 σ σ' d (aZ es (ks.take i))/\(σ'.Z=σ.Z\/σ'.Z=clr σ.Z d)) ?_ ?_ #[λ_ _=>rfl,#[rfl,rfl,rfl,λ_ _=>rfl,hd.trans (by rw[List.take_zero,zC])],.inl rfl]
 ·intro i v ρ' σ' z Y;have#[O,B,J]:=Y;apply#[hG _ _ B J,λkk hk=>?_];rw[bw]at z;have Y:=omap z
  try clear z
  have#[y,hy,rfl]:=Y;have Y:=cf.mp hy
  try clear hy
  have#[U,rfl]:=Y;have W:ks[i]∉ks.take i:=λq=>by
   have#[j,hj,e]:=gp.mp q;rw[List.getElem_take]at e;have ag:j<i:=by rw[fq]at hj;(show gr .B .b .H .F hj (Ar.nr _ _).1)
   have:=(List.getElem_inj nd).mp e
   (show mn .ff [[0,1,-1]] .B .G ag this)
  apply#[.dct d,(bh h4).trans ((O _ h4).trans rd),ks[i].v,ay _ _ _,_,ks[i],B.at_,rX _,?_,?_]
  ·rw[we,az W];show ao _ (ze U)
  ·apply hk _ _ #[λm hm=>(bh hm).trans (O m hm),?_,.inr ?_]
   ·rw[ow U,<- zD];apply#[B.L,B.S,B.I,λa ha=>(bh ha).trans (B.D a ha),ay _ _ _]
   ·show clr σ'.Z d=clr σ.Z d;rcases J with e|e
    ·rw[e]
    ·rw[e];funext a;unfold clr;split<;>rfl
 ·intro ρ' σ' Y;have#[O,B,J]:=Y;apply#[hG _ _ B J,?_];rw[ai,qj]at B;show h ρ' σ' O B
end
end MP
end
section
namespace MP
namespace SM
open PySem
variable {ρ:Fr}{la lb u:V}{db sj:Addr}{alo ahi blo bhi n i j x:Nat}{σ:St}{ks as bs:List Key}{C:Cal}{c:Ex}
structure FF (ρ:Fr)(la lb:V)(db sj:Addr)(alo ahi blo bhi:Nat):Prop where
 r1:ρ 1=some (.int alo)
 r2:ρ 2=some (.int ahi)
 r3:ρ 3=some (.int blo)
 r4:ρ 4=some (.int bhi)
 r5:ρ 5=some la
 r6:ρ 6=some lb
 r7:ρ 7=some (.dct db)
 r8:ρ 8=some (.dY sj)
def FF.up {v:V}(h:FF ρ la lb db sj alo ahi blo bhi)(Z:9<=n):FF (upd ρ n v) la lb db sj alo ahi blo bhi:=
 have k:∀m,Nat.blt m 9=true->upd ρ n v m=ρ m:=λm Y=>bh (gb (fy (aq Y) Z))
 #[(k 1 rfl).trans h.r1,(k 2 rfl).trans h.r2,(k 3 rfl).trans h.r3,(k 4 rfl).trans h.r4,(k 5 rfl).trans h.r5,(k 6 rfl).trans h.r6,(k 7 rfl).trans h.r7,(k 8 rfl).trans h.r8]
structure FB (ρ:Fr)(i j k:Nat):Prop where
 r9:ρ 9=some (.int i)
 r10:ρ 10=some (.int j)
 r11:ρ 11=some (.int k)
def FB.up {k:Nat}{v:V}(h:FB ρ i j k)(Z:12<=n):FB (upd ρ n v) i j k:=
 have k:∀m,Nat.blt m 12=true->upd ρ n v m=ρ m:=λm Y=>bh (gb (fy (aq Y) Z))
 #[(k 9 rfl).trans h.r9,(k 10 rfl).trans h.r10,(k 11 rfl).trans h.r11]
def nT {a b:Nat}{v:V}(h:(uj a b)[i]?=some v):a+i<b/\v=.int ((a+i:Nat):Int):=by
 unfold uj at h;rw[bw]at h;by_cases hi:i<((b:Int)-a).toNat
 ·rw[List.getElem?_range hi]at h;simp at h;apply#[by show(Ar.ton _).elim (λZ=>(jm (.l .M .C) .b (.l .B .D) (.ie (.t .D) (.s (.t .C) (.t .A))) hi Z.2)) λZ=>(jm (.l .M .C) .c (.l .B .D) (.e .D .O) hi Z.2),by rw[<- h];rfl]
 ·rw[sq (by simpa using hi)]at h;cases h
def td:fc n (i:Int)=i:=by unfold fc;rw[az (oo (.ig (.t .A) .O) .f)]
def cV {Q:V->Prop}{x d:Addr}{f:Nat->Option V}(Z:ρ i=some (.obj x))(W:σ.I x=some (d,f))(Y:f j=some u)(q:Q u):∃v,ρ i=some v/\∃x d f u,v=V.obj x/\σ.I x=some (d,f)/\f j=some u/\Q u:=#[_,Z,x,d,f,u,rfl,W,Y,q]
def pI {i:Int}{c:Key}{Q:V->Prop}(Z:wd σ u=some (ks.map Key.v))(hz:ks.length<=aw)(hi:i=n)(hv:ks[n]?=some c)(q:Q c.v):jL u (.int i) σ Q:=by
 subst hi;have hk:(ks.map Key.v)[n]?=some c.v:=by rw[bw,hv];rfl
 have Y:n<ks.length:=(cf.mp hv).1;induction u using V.casesOn with
 |L a=>refine#[_,_,Z,by rw[td];(show oo (.ik .O (.t .A)) .f),by rw[td,gw];show hk,q]
 |_=>cases Z
def LY {Q:V->St->Prop}(Z:wd σ u=some (ks.map Key.v))(hz:ks.length<=aw)(q:Q (.int ks.length) σ):AH u σ Q:=by
 have e:∀{xs:List V} {n:Nat},xs.length=n->xs=ks.map Key.v->n<=aw/\Q (.int n) σ:=λ{xs n} h e=>by
  have:n=ks.length:=by rw[<- h,e,ai]
  rw[this];apply#[hz,q]
 induction u using V.casesOn with
 |L a=>refine#[_,Z,(e rfl rfl).2]
 |_=>cases Z
def B3 {i:Ex}{c:Key}{Q:V->St->Prop}(Z:ρ x=some u)(W:evV σ ρ i=some (.int n))(U:wd σ u=some (ks.map Key.v))(hz:ks.length<=aw)(Y:ks[n]?=some c)(q:Q c.v σ):wpE C (.sub (.l x) i) ρ σ Q:=
 #[u,Z,ki (Q:=λj σ=>jL u j σ λr=>Q r σ) i W (pI U hz rfl Y q)]
def JO {e:Ex}{Q:V->St->Prop}(Z:∀Q:V->St->Prop,Q u σ->wpE C e ρ σ Q)(Y:wd σ u=some (ks.map Key.v))(hz:ks.length<=aw)(q:Q (.int ks.length) σ):wpE C (.bf .len %[e|0]) ρ σ Q:=
 Z (λv σ=>xy C .nil ρ σ λvs σ=>FG .len (v::vs) σ Q) (show AH u σ Q from LY Y hz q)
def zt {C:Cal}{cA cB ia ib:Ex}{ok:Key->Bool}{p q:Prop}[Decidable p][Decidable q]{y:Nat}{Q:Bool->St->Prop}
  (I:wd σ la=some (as.map Key.v)) (J:wd σ lb=some (bs.map Key.v)) (ha:∀k∈as,tg k) (hb:∀k∈bs,tg k) (O:as.length<=aw) (U:bs.length<=aw) (r5:ρ 5=some la) (r6:ρ 6=some lb)
  (hA:∀Q:Bool->St->Prop,Q (decide p) σ->wpT C cA ρ σ Q) (hB:∀Q:Bool->St->Prop,Q (decide q) σ->wpT C cB ρ σ Q)
  (hi:p->q->x<as.length/\y<bs.length/\evV σ ρ ia=some (.int x)/\evV σ ρ ib=some (.int y)/\∀(b:Key) (Q:Bool->St->Prop),bs[y]?=some b->Q (ok b) σ->wpT C c ρ σ Q)
  (k:∀t:Bool,(t=true↔p/\q/\hit as bs (λc=>!ok c) x y=true)->Q t σ):wpT C (.and cA (.and cB (.and c (.c .eq (.sub (.l 5) ia) (.sub (.l 6) ib))))) ρ σ Q:=by
 apply hA _ ?_;by_cases Y:p
 case neg=>rw[cw Y];show k false #[(λh=>nomatch h),λh=>absurd h.1 Y]
 rw[cj Y,br rfl];apply hB _ ?_;by_cases Z:q
 case neg=>rw[cw Z];show k false #[(λh=>nomatch h),λh=>absurd h.2.1 Z]
 rw[cj Z,br rfl];have#[hx,hy,z,H,hc]:=hi Y Z;clear hi hA hB;have ea:as[x]?=some as[x]:=cm hx;have B:bs[y]?=some bs[y]:=cm hy;have e:hit as bs (λc=>!ok c) x y=true↔as[x]=bs[y]/\ok bs[y]=true:=by
  rw[HW,ea,B];apply#[λ⟨c,h1,h2,h3⟩=>by have rfl:=af h2;apply#[af h1,(Bool.not_eq_false' _).mp h3],λh=>#[_,bb some h.1,rfl,(Bool.not_eq_false' _).mpr h.2]]
 apply hc _ _ B ?_;cases W:ok bs[y] with
 |false=>show k false #[(λh=>nomatch h),λh=>by rw[e,W]at h;show absurd h.2.2.2 jw]
 |true =>
  rw[br rfl];apply B3 (C:=C) r5 z I O ea ?_;apply B3 (C:=C) r6 H J U B ?_;apply yD (ha _ (ze _)) (hb _ (ze _)) (k _ ?_);rw[decide_eq_true_iff,e,W];apply#[λh=>#[Y,Z,h,rfl],λh=>h.2.2.1]
def JT {m:Nat}(r:ρ x=some (.int (m+1:Nat))):evV σ ρ (.b .sub (.l x) (.int 1))=some (.int m):=by
 rw[pU,wi,r];show some (V.int (((m+1:Nat):Int)-1))=_
 congr 2;(show oo (.ie (.s (.t .L) .U) (.t .A)) [[1],[1]])
def JR {js:List Key}{K:Fl->Fr->St->Prop}{ok:Key->Bool}
  (U:wd σ la=some (as.map Key.v)) (W:wd σ lb=some (bs.map Key.v)) (O:∀k∈as,tg k) (hb:∀k∈bs,tg k) (Y:as.length<=aw) (Z:bs.length<=aw)
  (z:∀(ρ:Fr) (j:Nat) (b:Key) (Q:Bool->St->Prop),FF ρ la lb db sj alo ahi blo bhi->ρ 10=some (.int ((j+1:Nat):Int))->bs[j]?=some b->Q (ok b) σ->wpT C c ρ σ Q)
  {k:Nat} (I:i<=as.length) (J:j<=bs.length)
  (h:∀ρ,FF ρ la lb db sj alo ahi blo bhi->FB ρ (eJ as bs ok alo blo i j k).1 (eJ as bs ok alo blo i j k).2.1 (eJ as bs ok alo blo i j k).2.2->K .next ρ σ) (F:FF ρ la lb db sj alo ahi blo bhi) (B:FB ρ i j k) :
  wpS C (.loop (.and (.c .gt (.l 9) (.l 1)) (.and (.c .gt (.l 10) (.l 3)) (.and c (.c .eq (.sub (.l 5) (.b .sub (.l 9) (.int 1))) (.sub (.l 6) (.b .sub (.l 10) (.int 1))))))) %[.a [.T [9,10,11]] (.T %[.b .sub (.l 9) (.int 1),.b .sub (.l 10) (.int 1),.b .add (.l 11) (.int 1)|0])|0]) ρ σ K:=by
 apply#[i+1,?_];induction i generalizing j k ρ with
 |zero =>
  apply zt (ok:=ok) (x:=0) (y:=0) (p:=alo<0) (q:=blo<j) U W O hb Y Z F.r5 F.r6 (λQ q=>#[_,B.r9,_,F.r1,by show Q (decide ((alo:Int)<(0:Nat))) σ;rw[gu.mpr xv];show q])
   (λQ q=>#[_,B.r10,_,F.r3,by show Q (decide ((blo:Int)<j)) σ;rw[gu.mpr xv];show q]) (λa=>absurd a (ku _)) λt e=>?_
  cases t with
  |false=>show h ρ F B
  |true=>show absurd (e.mp rfl).1 (ku _)
 |succ i H =>
  have tA:∀Q:Bool->St->Prop,Q (decide (alo<i+1)) σ->wpT C (.c .gt (.l 9) (.l 1)) ρ σ Q:=λQ q=>#[_,B.r9,_,F.r1,by show Q (decide ((alo:Int)<(i+1:Nat))) σ;rw[gu.mpr xv];show q];have tB:∀Q:Bool->St->Prop,Q (decide (blo<j)) σ->wpT C (.c .gt (.l 10) (.l 3)) ρ σ Q:=λQ q=>#[_,B.r10,_,F.r3,by show Q (decide ((blo:Int)<j)) σ;rw[gu.mpr xv];show q];cases j with
  |zero =>
   apply zt (ok:=ok) (x:=0) (y:=0) U W O hb Y Z F.r5 F.r6 tA tB (λ_ a=>absurd a (ku _)) λt e=>?_;cases t with
   |false=>show h ρ F B
   |true=>show absurd (e.mp rfl).2.1 (ku _)
  |succ j =>
   apply zt (ok:=ok) (x:=i) (y:=j) U W O hb Y Z F.r5 F.r6 tA tB (λ_ _=>#[I,J,JT B.r9,JT B.r10,λb Q=>z ρ j b Q F B.r10]) λt e=>?_;rw[uY]at h;cases t with
   |false=>show h ρ F (by rw[az λq=>Bool.noConfusion (e.mpr q)];show B)
   |true =>
    rw[br (e.mp rfl)]at h;apply#[_,B.r9,_,B.r10,_,B.r11,aq rfl,_,rfl,rfl,?_];apply H (xu I) (xu J) h (((F.up (by decide)).up (by decide)).up (by decide)) #[?_,?_,rfl]
    ·show bb (λi=>some (V.int i)) (Int.add_sub_cancel (i:Int) 1)
    ·show bb (λi=>some (V.int i)) (Int.add_sub_cancel (j:Int) 1)
def JQ {js:List Key}{K:Fl->Fr->St->Prop}{ok:Key->Bool}{body:Stm}
  (Z:body=.aug 11 .add (.int 1)\/body=.a [(.v 11)] (.b .add (.l 11) (.int 1)))
  (J:wd σ la=some (as.map Key.v)) (O:wd σ lb=some (bs.map Key.v)) (ha:∀k∈as,tg k) (hb:∀k∈bs,tg k) (z:ahi<=as.length) (H:bhi<=bs.length) (W:as.length<=aw) (Y:bs.length<=aw)
  (hc:∀(ρ:Fr) (j k:Nat) (b:Key) (Q:Bool->St->Prop),FF ρ la lb db sj alo ahi blo bhi->ρ 10=some (.int j)->ρ 11=some (.int k)->bs[j+k]?=some b->Q (ok b) σ->wpT C c ρ σ Q)
  {k:Nat}
  (h:∀ρ,FF ρ la lb db sj alo ahi blo bhi->FB ρ i j (sG as bs ok ahi bhi (ahi-i) i j k)->K .next ρ σ) {ρ:Fr} (F:FF ρ la lb db sj alo ahi blo bhi) (B:FB ρ i j k) :
  wpS C (.loop (.and (.c .lt (.b .add (.l 9) (.l 11)) (.l 2)) (.and (.c .lt (.b .add (.l 10) (.l 11)) (.l 4)) (.and c (.c .eq (.sub (.l 5) (.b .add (.l 9) (.l 11))) (.sub (.l 6) (.b .add (.l 10) (.l 11))))))) %[body|0]) ρ σ K:=by
 have I:ahi<=i+k+(ahi-i):=by(show EN (.k .A (.a (.a .B .C) .D)) .a (.k .A (.a .D .B)) (Ar.PH _ _))
 apply#[ahi-i+1,?_];generalize ahi-i=n at *;have up:∀{x m k:Nat} {ρ:Fr},ρ x=some (.int m)->ρ 11=some (.int k)->evV σ ρ (.b .add (.l x) (.l 11))=some (.int (m+k:Nat)):=λr r'=>by
  rw[pU,wi,wi,r,r'];rfl
 have tA:∀{k:Nat} {ρ:Fr},FF ρ la lb db sj alo ahi blo bhi->FB ρ i j k->∀Q:Bool->St->Prop,Q (decide (i+k<ahi)) σ->wpT C (.c .lt (.b .add (.l 9) (.l 11)) (.l 2)) ρ σ Q:=λ{k ρ} F B Q q=>#[_,B.r9,_,B.r11,_,F.r2,by show Q (decide (((i+k:Nat):Int)<ahi)) σ;rw[gu.mpr xv];show q];have tB:∀{k:Nat} {ρ:Fr},FF ρ la lb db sj alo ahi blo bhi->FB ρ i j k->∀Q:Bool->St->Prop,Q (decide (j+k<bhi)) σ->wpT C (.c .lt (.b .add (.l 10) (.l 11)) (.l 4)) ρ σ Q:=λ{k ρ} F B Q q=>#[_,B.r10,_,B.r11,_,F.r4,by show Q (decide (((j+k:Nat):Int)<bhi)) σ;rw[gu.mpr xv];show q];induction n generalizing k ρ with
 |zero =>
  apply zt (ok:=ok) (x:=0) (y:=0) J O ha hb W Y F.r5 F.r6 (tA F B) (tB F B) (λa=>absurd a (Nat.not_lt_of_le I)) λt e=>?_;cases t with
  |false=>show h ρ F B
  |true=>show absurd (e.mp rfl).1 (Nat.not_lt_of_le I)
 |succ n ih =>
  apply zt (ok:=ok) (x:=i+k) (y:=j+k) J O ha hb W Y F.r5 F.r6 (tA F B) (tB F B) (λh1 h2=>#[fy h1 z,fy h2 H,up B.r9 B.r11,up B.r10 B.r11,λb Q=>hc ρ j k b Q F B.r10 B.r11]) λt e=>?_;rw[uX]at h;cases t with
  |false=>show h ρ F (by rw[az λq=>Bool.noConfusion (e.mpr q)];show B)
  |true =>
   rw[br (e.mp rfl)]at h;have go:=ih (k:=k+1) (ρ:=upd ρ 11 (.int ((k:Int)+1))) (F.up (by decide)) #[B.r9,B.r10,rfl] h (EN (.k .A (.a (.a .B .S) .D)) .a (.k .A (.a (.a .B .C) (.a .D .U))) I);rcases Z with rfl|rfl
   ·apply#[_,B.r11,go]
   ·apply#[_,B.r11,go]
end SM
namespace SM
open PySem
section
variable {P:Nat->Option Fn}{n:Nat}{Q:V->St->Prop}
variable {C:Cal}{σ:St}{ρ:Fr}{K:Fl->Fr->St->Prop}{ss:jo}{x d:Addr}{f:Nat->Option V}{i a b:Nat}{e:Ex}
def iD (v:V)(h:evV σ ρ e=some v)(Z:ρ i=some (.obj x))(Y:σ.I x=some (d,f))(k:dt C ss ρ (σ.ir x d (upd f a v)) K):dt C (.cons (.a [.attr (.l i) a] e) ss) ρ σ K:=
 ki e h #[.obj x,Z,x,d,f,rfl,Y,k]
def qI (v:V)(h:evV (σ.ir x d f) ρ e=some v)(Z:ρ i=some (.obj x))(k:dt C ss ρ (σ.ir x d (upd f a v)) K):dt C (.cons (.a [.attr (.l i) a] e) ss) ρ (σ.ir x d f) K:=
 iD v h Z jt (by rw[gP];show k)
def J1 (v:V)(h:evV σ ρ e=some v)(Z:ρ i=some (.obj x))(Y:σ.I x=some (d,f))(k:dt C ss ρ (σ.ir x d (upd (upd f a v) b v)) K):dt C (.cons (.a [.attr (.l i) a,.attr (.l i) b] e) ss) ρ σ K:=
 ki e h #[.obj x,Z,x,d,f,rfl,Y,.obj x,Z,x,d,_,rfl,jt,by rw[gP];show k]
def c8 (v:V)(h:evV (σ.ir x d f) ρ e=some v)(Z:ρ i=some (.obj x))(k:dt C ss ρ (σ.ir x d (upd (upd f a v) b v)) K):dt C (.cons (.a [.attr (.l i) a,.attr (.l i) b] e) ss) ρ (σ.ir x d f) K:=
 J1 v h Z jt (by rw[gP];show k)
def bZ {es:Exs}{m:Nat}(vs:List V)(Z:ρ i=some (.obj x))(Y:(σ.I x).isSome=true)(h:mW σ ρ es=some vs)(k:C m (.obj x::vs) σ λv σ=>v=.none/\dt C ss ρ σ K):dt C (.cons (.expr (.meth (.l i) m es)) ss) ρ σ K:=
 #[.obj x,Z,x,rfl,Y,jF (Q:=λvs σ=>C m (.obj x::vs) σ λv σ=>v=.none/\dt C ss ρ σ K) es h k]
end
def C4 (U:P 2=some fn2){x d:Addr}{la:V}{f:Nat->Option V}{σ:St}(Z:σ.I x=some (d,f))(W:f 1=some .none)(Y:isNone la=false)(h:Q .none (σ.ir x d (upd (upd (upd f 1 la) 4 .none) 5 .none))):ef P (n+1) 2 [.obj x,la] σ Q:=
 ⟨fn2,U,av 2,av 2,aU (mD false (by
   show((σ.I x).bind λp=>p.2 1).bind _=_;rw[Z];show(f 1).bind _=_;rw[W];show bb some Y) (za (mf (iD la rfl rfl Z (c8 .none rfl rfl (mf h))))))⟩
def rA (Y:P 1=some fn1){x:Addr}{Z vb:V}{σ:St}(hI:(σ.I x).isSome=true)(h:ef P n 2 [.obj x,Z] σ λv σ=>v=.none/\(σ.I x).isSome=true/\ef P n 3 [.obj x,vb] σ λv σ=>v=.none/\Q .none σ):ef P (n+1) 1 [.obj x,Z,vb] σ Q:=
 ⟨fn1,Y,av 3,av 3,aU (bZ [Z] rfl hI rfl (Eq.mp (bb (ef P n 2 [.obj x,Z] σ) (funext λv=>funext λσ'=>propext ⟨λq=>#[q.1,bZ [vb] rfl q.2.1 rfl q.2.2],λq=>⟨q.1,by
  have#[_,_,e,y,J,U,_,O,W]:=q;cases e;cases J;cases O;apply#[U,W]⟩⟩)) h))⟩
def C3 (U:P 3=some fn3){x d:Addr}{lb:V}{f:Nat->Option V}{σ:St}(Z:σ.I x=some (d,f))(W:f 2=some .none)(Y:isNone lb=false)
  (h:ef P n 4 [.obj x] (σ.ir x d (upd (upd (upd (upd f 2 lb) 4 .none) 5 .none) 6 .none)) λv σ=>v=.none/\Q .none σ):ef P (n+1) 3 [.obj x,lb] σ Q:=
 ⟨fn3,U,av 2,av 2,aU (mD false (by
   show((σ.I x).bind λp=>p.2 2).bind _=_;rw[Z];show(f 2).bind _=_;rw[W];show bb some Y) (za (mf (iD lb rfl rfl Z (c8 .none rfl rfl (qI .none rfl rfl (bZ [] rfl (by rw[jt];rfl) rfl h)))))))⟩
end SM
end MP
end
section
namespace MP
open PySem
variable {σ:St}{db:Addr}{bs:List Key}{gone:Key->Bool}{es:List (Key×V)}
def CM {α:Type}[DecidableEq α]{ks Z:List α}(I:ks.Nodup)(hm:∀k,k∈Z↔k∈ks)(hl:Z.length=ks.length):Z.Nodup:=by
 apply List.pairwise_iff_getElem.mpr λi j hi O U e=>?_;have z:ks ⊆ Z.eraseIdx j:=λx H=>by
  have#[m,W,Y]:=gp.mp ((hm x).mpr H);apply List.mem_eraseIdx_iff_getElem.mpr ?_;by_cases c:m=j
  ·subst c;apply#[i,hi,gb U,e.trans Y]
  ·apply#[m,W,c,Y]
 have J:=I.length_le_of_subset z;rw[cJ O]at J
 (show tq .ff .h .G (.k .B .C) (.e .S .A) hl J (ae (cg .C .a (.l .B .A) O)))
structure Tb (σ:St)(db:Addr)(bs:List Key)(gone:Key->Bool)(es:List (Key×V)):Prop where
 D:σ.D db=some es
 nd:(es.map (·.1)).Nodup
 sub:∀k∈es.map (·.1),k∈bs
 len:es.length<=bs.length
 out:∀k,gone k=true->es.lookup k=none
 here:∀k,gone k=false->(es.lookup k=none/\posOf k bs=[])\/∃c,es.lookup k=some (.L c)/\σ.L c=some (eA k bs)
def Tb.move {σ':St}(h:Tb σ db bs gone es)(Y:σ'.D db=σ.D db)(Z:∀a xs,σ.L a=some xs->σ'.L a=some xs):Tb σ' db bs gone es:=
 #[Y.trans h.D,h.nd,h.sub,h.len,h.out,λk hk=>(h.here k hk).imp_right λq=>by have#[c,U,W]:=q;apply#[c,U,Z _ _ W]]
def aP {k:Key}:k∈es.map (·.1)↔(es.lookup k).isSome=true:=by
 rw[<- xk,List.any_eq_true];apply#[λh=>?_,λh=>?_]
 ·have#[e,Y,Z]:=bg.mp h;apply#[e,Y,by rw[Z];show dg k]
 ·have#[e,Y,Z]:=h;show bg.mpr #[e,Y,eq_of_beq Z]
def Tb.aZ {σ':St}{p:Key->Bool}{ks:List Key}(h:Tb σ db bs gone es)(B:J3 σ σ' db (MP.aZ es ks))(hk:∀k,k∈ks↔k∈es.map (·.1)/\p k=true):Tb σ' db bs (λk=>gone k||p k) (MP.aZ es ks):=by
 apply#[B.at_,?_,λk q=>?_,fk (nq _ _) h.len,λk q=>?_,λk q=>?_]
 ·show(List.filter_sublist.map _).nodup h.nd
 ·have#[e,W,rfl]:=bg.mp q;show h.sub _ (bg.mpr #[e,(aW.mp W).1,rfl])
 ·rw[we];split
  ·rfl
  ·rename_i n;rcases (vd ..).mp q with q|q
   ·show h.out k q
   ·cases hq:es.lookup k with
    |none=>rfl
    |some w=>show absurd ((hk k).mpr #[aP.mpr (by rw[hq];rfl),q]) n
 ·have#[Y,Z]:=Bool.or_eq_false_iff.mp q;have n:k∉ks:=λm=>by rw[((hk k).mp m).2]at Z;cases Z
  rw[we,az n,B.L];show h.here k Y
def B2J.tb {σ₀:St}(h:B2J σ₀ σ db bs):∃es,Tb σ db bs (λ_=>false) es:=by
 have#[es,Z,U,J,O,_]:=h.tab;have#[W,k2]:=h.keys es Z;apply#[es,Z,W,k2,U,λk e=>Bool.noConfusion e,λk _=>?_];cases hk:es.lookup k with
 |none=>show .inl #[rfl,J k hk]
 |some w =>
  have Y:=O k w hk
  try clear hk
  have#[c,rfl,e,_]:=Y;show .inr #[c,rfl,e]
abbrev Small (ys:List Int):Prop:=∃us:List Int,us.length<4000/\∀y∈ys,y∈us
def B2J.tbN {σ₀:St}(h:B2J σ₀ σ db bs):∃es,Tb σ db bs (λ_=>false) es/\∀k c,es.lookup k=some (.L c)->σ₀.L c=none:=by
 have#[es,T]:=h.tb;have#[W,Y,J,I,Z,_]:=h.tab;have rfl:=af (T.D.symm.trans Y);apply#[es,T,λk c e=>?_];have#[H,O,_,U]:=Z k _ e;cases O;show U
abbrev sy (p:Int->Bool):Key->Bool
 |.int y=>p y
 |.str _=>false
def sD {ys:List Int}(h:∀k∈es.map (·.1),k∈ys.map Key.int):∃ks:List Int,es.map (·.1)=ks.map Key.int:=by
 generalize es.map (·.1)=l at h;induction l with
 |nil=>refine#[[],rfl]
 |cons k l Y =>
  have#[ks,e]:=Y λk hk=>h k (.tail _ hk);have Z:=bg.mp (h k (.head _))
  try clear h
  have#[y,_,rfl]:=Z;apply#[y::ks,by rw[e];rfl]
def nM {ks:List Int}(h:(ks.map Key.int).Nodup):ks.Nodup:=(tH.mp h).imp λn e=>n (bb Key.int e)
def nK {ks:List Int}(h:ks.Nodup):(ks.map Key.int).Nodup:=tH.mpr (h.imp λn e=>n (Key.int.inj e))
section
variable {C:Cal}{K:Fl->Fr->St->Prop}
structure MJ (σ σ':St)(db s:Addr)(bs:List Key)(gone p:Key->Bool)(es:List (Key×V)):Prop where
 L:σ'.L=σ.L
 I:σ'.I=σ.I
 S:∀a,a≠s->σ'.S a=σ.S a
 D:∀a,a≠db->σ'.D a=σ.D a
 tb:∃es',Tb σ' db bs (λk=>gone k||p k) es'/\∀k w,es'.lookup k=some w->es.lookup k=some w
 at_:∃jn:List Int,jn.Nodup/\σ'.S s=some (jn.map Key.int)/\∀k,k∈jn.map Key.int↔k∈es.map (·.1)/\p k=true
def JC {c:Ex}{sx s db:Nat}{t:Tg}{it:It}{ys:List Int}{p:Int->Bool}{ρ:Fr}{σ:St}{ss:jo}(Inv:Fr->Prop)(val:Key×V->V)(bv:sx≠4)(ag:∀ρ ρ',(∀m,m≠4->ρ' m=ρ m)->Inv ρ->Inv ρ')(O:∀ρ,Inv ρ->ρ 2=some (.dct db)/\ρ sx=some (.set s))
  (hz:Small ys) (T:Tb σ db (ys.map Key.int) gone es) (hS:σ.S s=some []) (ao:s≠db) (hI:Inv ρ)
  (hit:∀K:List V->(St->Prop)->St->Prop,(∀o,K (es.map val) (λτ=>τ.Z db=some o) (σ.bN db o))->qM C it ρ σ K)
  (bind:∀(e:Key×V) (y:Int) (ρ:Fr) (σ':St) (K:Fr->Prop),e∈es->e.1=.int y->Inv ρ->σ'.L=σ.L->(∀ρ',Inv ρ'->ρ' 4=some (.int y)->(∀Q:Bool->St->Prop,Q (p y) σ'->wpT C c ρ' σ' Q)->K ρ')->pz t (val e) σ' ρ K)
  (h:∀ρ' σ',Inv ρ'->MJ σ σ' db s (ys.map Key.int) gone (sy p) es->dt C ss ρ' σ' K) :
  dt C (.cons (.each t it %[.C c %[.expr (.bm .add (.l sx) %[.l 4|0])|0] .nil|0]) (.cons (.each (.v 4) (.seq (.l sx)) %[.delD (.l 2) (.l 4)|0]) ss)) ρ σ K:=by
 have#[ks,W]:=sD T.sub;have U:ks.Nodup:=nM (W▸T.nd);have ar:es.length=ks.length:=by have:=bb List.length W;simpa using this
 have#[us,hu,bn]:=hz;have bu:ks.length<4000:=Nat.lt_of_le_of_lt (U.length_le_of_subset λy hy=>by
  have h1:Key.int y∈es.map (·.1):=by rw[W];show bg.mpr #[y,hy,rfl]
  have#[z,hz,e]:=bg.mp (T.sub _ h1);cases e;show bn _ hz) hu
 apply hit _ λo=>?_;apply ER (σ:=σ.bN db o) (p:=p) (ks:=ks) (s:=s) (sx:=sx) Inv U (by rw[ai];show ar) bu hI hS (λσ' js B hZ=>?_) (λi v y ρ' σ' js K' hv hy hi B kk=>?_) λρ' σ' hi B=>?_
 ·rcases hZ with e|e
  ·rw[e];show ay _ _ _
  ·rw[e,DZ (kz ao)];show ay _ _ _
 ·rw[bw]at hv;have zz:=omap hv
  try clear hv
  have#[e,he,rfl]:=zz;have e1:e.1=.int y:=by
   have:(es.map (·.1))[i]?=some (.int y):=by rw[W,bw,hy];rfl
   rw[bw,he]at this;show af this
  show bind e y ρ' σ' K' (cz he) e1 hi B.L λJ i2 r4 hc=>kk J i2 r4 (O _ i2).2 hc
 ·have#[r2,rs]:=O _ hi;apply#[_,rs,_,B.at_,λo2 bl hm hl=>?_];have bd:((ks.filter p).map Key.int).Nodup:=nK (U.sublist List.filter_sublist);have be:=CM bd hm hl;have Y:∀k,k∈bl↔k∈es.map (·.1)/\sy p k=true:=λk=>by
   rw[hm k,W];apply#[λq=>?_,λq=>?_]
   ·have#[y,h1,rfl]:=bg.mp q;have#[h2,h3]:=aW.mp h1;apply#[bg.mpr #[y,h2,rfl],h3]
   ·have#[h1,h3]:=q;have#[y,h2,rfl]:=bg.mp h1;show bg.mpr #[y,aW.mpr #[h2,h3],rfl]
  have hD:(σ'.bN s o2).D db=some es:=(ez B.D db).trans T.D;apply DO (σ:=σ'.bN s o2) hD r2 (by decide) be (λk hk=>aP.mp ((Y k).mp hk).1) (λσ2 bL H hZ=>?_) λJ σ2 hr H=>?_
  ·rcases hZ with e|e
   ·rw[e];show ay _ _ _
   ·rw[e,DZ ao];show ay _ _ _
  ·apply h J σ2 (ag _ _ hr hi) ?_;have T2:Tb (σ'.bN s o2) db (ys.map Key.int) gone es:=T.move (ez B.D db) λa xs e=>(ez B.L a).trans e;apply#[H.L.trans B.L,H.I.trans B.I,λa ha=>(ez H.S a).trans (B.S a ha),λa ha=>(H.D a ha).trans (ez B.D a),#[_,T2.aZ H Y,λk w e=>by rw[we]at e;split at e;cases e;show e],ks.filter p,U.sublist List.filter_sublist,(ez H.S s).trans B.at_,λk=>(hm k).symm.trans (Y k)]
end
namespace SM
variable {es:List (Key×V)}
abbrev mE (C:Cal)(vj:V)(jk:Int->Bool)(σ₀:St):Prop:=(vj=.none/\∀y,jk y=false)\/∃k cs,vj=.clo k cs/\∀(y:Int) (σ:St) (Q:V->St->Prop),(∀a xs,σ₀.L a=some xs->σ.L a=some xs)->(∀v,(∀(σ:St) (K:Bool->Prop),K (jk y)->rx v σ K)->Q v σ)->C (1000+k) (.int y::cs) σ Q
abbrev oX (ys:List Int)(y:Int):Bool:=decide (200<=ys.length)&&decide (ys.length/100+1<(posOf (.int y) (ys.map Key.int)).length)
abbrev wt (aj:Bool)(ys:List Int)(y:Int):Bool:=aj&&oX ys y
structure cX (σ σ':St)(x d:Addr)(f:Nat->Option V)(ys:List Int)(aj:Bool)(jk:Int->Bool)(db sj sp:Addr)(jn pn:List Int):Prop where
 L:∀a xs,σ.L a=some xs->σ'.L a=some xs
 I:∃f',σ'.I x=some (d,f')/\(∀m,m<7->f' m=f m)/\f' 7=some (.dct db)/\f' 8=some (.set sj)/\f' 9=some (.set sp)
 D:∃es,Tb σ' db (ys.map Key.int) (λk=>sy jk k||sy (wt aj ys) k) es/\∀k c,es.lookup k=some (.L c)->σ.L c=none
 S:σ'.S sj=some (jn.map Key.int)
 Sp:σ'.S sp=some (pn.map Key.int)
 ne:sj≠sp
 J:jn.Nodup/\∀y,y∈jn↔y∈ys/\jk y=true
 Pn:pn.Nodup/\∀y,y∈pn↔y∈ys/\jk y=false/\wt aj ys y=true
structure Mid (σ₀:St)(x d lb db sj:Addr)(f:Nat->Option V)(ys:List Int)(jk:Int->Bool)(ρ:Fr)(σ:St)(jn:List Int)(es:List (Key×V)):Prop where
 r0:ρ 0=some (.obj x)
 r1:ρ 1=some (.L lb)
 r2:ρ 2=some (.dct db)
 I:σ.I x=some (d,upd (upd f 7 (.dct db)) 8 (.set sj))
 L:∀a xs,σ₀.L a=some xs->σ.L a=some xs
 S:σ.S sj=some (jn.map Key.int)
 J:jn.Nodup/\∀y,y∈jn↔y∈ys/\jk y=true
 T:Tb σ db (ys.map Key.int) (sy jk) es
 N:∀k c,es.lookup k=some (.L c)->σ₀.L c=none
abbrev wY:jo:=(.cons (.a [(.attr (.l 0) 9),(.v 8)] (.bf .set .nil))
 (.cons (.a [(.v 9)] (.bf .len %[.l 1|0]))
 (.cons (.C (.and (.attr (.l 0) 3) (.c .ge (.l 9) (.int 200))) (.cons (.a [(.v 10)] (.b .add (.b .fdiv (.l 9) (.int 100)) (.int 1)))
 (.cons (.each (.T [4,11]) (.items (.l 2)) (.cons (.C (.c .gt (.bf .len %[.l 11|0]) (.l 10)) (.cons (.expr (.bm .add (.l 8) %[.l 4|0]))
 .nil) .nil)
 .nil))
 (.cons (.each (.v 4) (.seq (.l 8)) (.cons (.delD (.l 2) (.l 4))
 .nil))
 .nil))) .nil)
 .nil)))
def lookup_mem (nd:(es.map (·.1)).Nodup){k:Key}{v:V}(h:(k,v)∈es):es.lookup k=some v:=by
 induction es with
 |nil=>cases h
 |cons e r Z =>
  have#[a,b]:=e;rw[gv,List.nodup_cons]at nd;rw[jz];rcases bz.mp h with e|h
  ·cases e;rw[dg]
  ·have:k≠a:=λq=>nd.1 (q▸bg.mpr #[_,h,rfl]);rw[ee this];show Z nd.2 h
def cP {σ:St}{db:Addr}{ys:List Int}{gone:Key->Bool}(T:Tb σ db (ys.map Key.int) gone es)(y:Int):Key.int y∈es.map (·.1)↔y∈ys/\gone (.int y)=false:=by
 apply#[λh=>#[?_,?_],λh=>?_]
 ·have#[z,hz,e]:=bg.mp (T.sub _ h);cases e;show hz
 ·cases hg:gone (.int y) with
  |false=>rfl
  |true=>rw[aP,T.out _ hg]at h;cases h
 ·rw[aP];rcases T.here _ h.2 with ⟨Z,Y⟩|⟨c,Z,_⟩
  ·have#[j,W,e]:=gp.mp h.1;have:j∈posOf (.int y) (ys.map Key.int):=gS.mpr (by rw[bw,cm W,e];rfl);rw[Y]at this;cases this
  ·rw[Z];rfl
def pJ {ns:List Int}{y:Int}:Key.int y∈ns.map Key.int↔y∈ns:=#[λh=>by have#[z,hz,e]:=bg.mp h;cases e;show hz,λh=>bg.mpr #[y,h,rfl]]
def wX {C:Cal}{σ₀ σ:St}{x d lb db sj:Addr}{f:Nat->Option V}{ys:List Int}{aj:Bool}{H:Int->Bool}{ρ:Fr}{jn:List Int}{Q:V->St->Prop}(M:Mid σ₀ x d lb db sj f ys H ρ σ jn es)(be:f 3=some (.bool aj))(hL:σ₀.L lb=some (ys.map V.int))(hz:Small ys)
  (h:∀σ' sp pn,cX σ₀ σ' x d f ys aj H db sj sp jn pn->Q .none σ'):dt C wY ρ σ (mQ Q):=by
 have r0:=M.r0;have r1:=M.r1;have r2:=M.r2;have I:=M.I;have T:=M.T;have S:=M.S;have Lb:=M.L _ _ hL;intro s2 bu bd;apply#[.obj x,r0,x,d,_,rfl,I,?_];have ag:sj≠s2:=λe=>by rw[e,bu]at S;cases S
 have hnd:s2≠db:=λe=>by
  have:=T.D;rw[<- e,bd]at this;cases this
 generalize Z:(σ.dZ s2 []).ir x d (upd (upd (upd f 7 (.dct db)) 8 (.set sj)) 9 (.set s2))=σ1;have L1:σ1.L=σ.L:=by rw[<- Z];rfl
 have D1:σ1.D=σ.D:=by rw[<- Z];rfl
 have I1:σ1.I x=some (d,upd (upd (upd f 7 (.dct db)) 8 (.set sj)) 9 (.set s2)):=by rw[<- Z];show jt
 have S1:σ1.S=upd σ.S s2 []:=by rw[<- Z];rfl
 have Sj:σ1.S sj=some (jn.map Key.int):=by rw[S1,bh ag];show S
 have Y:Tb σ1 db (ys.map Key.int) (sy H) es:=T.move (ez D1 db) λa xs e=>(ez L1 a).trans e;have S2:σ1.S s2=some (([]:List Int).map Key.int):=by rw[S1];show ay _ _ _
 have fin:∀σ' pn,σ'.L=σ1.L->σ'.I=σ1.I->σ'.S sj=some (jn.map Key.int)->σ'.S s2=some ((pn:List Int).map Key.int)->(pn.Nodup/\∀y,y∈pn↔y∈ys/\H y=false/\wt aj ys y=true)->(∃z,Tb σ' db (ys.map Key.int) (λk=>sy H k||sy (wt aj ys) k) z/\∀k w,z.lookup k=some w->es.lookup k=some w)->Q .none σ':=λσ' pn ao ca bR bM bv bL=>by
  have#[z,T',sub]:=bL;show h σ' s2 pn #[λa xs e=>by rw[ao,L1];show M.L _ _ e,#[upd (upd (upd f 7 (.dct db)) 8 (.set sj)) 9 (.set s2),by rw[ca];show I1,λm hm=>by rw[bh (gb (Nat.lt_trans hm (by decide))),bh (gb (Nat.lt_trans hm (by decide))),bh (gb hm)],rfl,rfl,rfl],#[z,T',λk c e=>M.N k c (sub _ _ e)],bR,bM,ag,M.J,bv]
 apply#[.L lb,r1,_,(ez L1 lb).trans Lb,?_];apply#[.obj x,r0,x,d,_,.bool aj,rfl,I1,be,?_];have hp:sy (wt false ys)=λ_=>false:=by
  funext k
  cases k<;>rfl
 have eO:(λk=>sy H k||false)=sy H:=funext λk=>zf _;cases aj with
 |false=>show fin σ1 [] rfl rfl Sj S2 #[my,λy=>#[λq=>(nomatch q),λq=>Bool.noConfusion q.2.2]] #[es,by rw[hp,eO];show Y,λ_ _ e=>e]
 |true=>?_
 show wpT C (.c .ge (.l 9) (.int 200)) (upd (upd ρ 8 (.set s2)) 9 (.int (ys.map V.int).length)) σ1 _;apply#[_,rfl,?_];rw[ai];show if decide ((200:Int)<=(ys.length:Nat))=true then _ else _
 by_cases c:200<=ys.length
 ·rw[cj (by(show fb (.ik (.n 200) (.t .A)) .a (.k (.n 200) .A) c):(200:Int)<=(ys.length:Nat)),br rfl];apply#[_,rfl,(by decide:(100:Int)≠0),by decide,?_];have bl:((ys.length:Nat):Int).fdiv 100+1=((ys.length/100+1:Nat):Int):=by
   rw[ti _ (by decide)];(show Ar.a5 [_,_] [_,_,_] (.ie (.a .A .U) (.t .L)) [[100,0,1,-1,0,1],[100,1,0,1,1,-1]] (.ik .O .B) (.il .B (.n 100)) (.ie (.a (.m 100 .A) .B) (.t .B)) (.l .C (.n 100)) (.e (.a (.m 100 .A) .C) .B) (Ar.imod _ 100 (by decide)).1 (Ar.imod _ 100 (by decide)).2.1 (Ar.imod _ 100 (by decide)).2.2 (Ar.wg _ 100 (by decide)).1 (Ar.wg _ 100 (by decide)).2)
  show dt C _ (upd _ 10 (.int (((ys.length:Nat):Int).fdiv 100+1))) σ1 _;rw[bl];apply JC (σ:=σ1) (s:=s2) (db:=db) (p:=oX ys) (λρ=>ρ 2=some (.dct db)/\ρ 8=some (.set s2)/\ρ 10=some (.int (ys.length/100+1:Nat))) (λe=>.T [e.1.v,e.2]) (by decide) (λρ ρ' hr hi=>#[(hr 2 (by decide)).trans hi.1,(hr 8 (by decide)).trans hi.2.1,(hr 10 (by decide)).trans hi.2.2]) (λρ hi=>#[hi.1,hi.2.1]) hz Y (by rw[S1];show ay _ _ _) hnd #[r2,rfl,rfl] (λK' kk=>#[_,r2,es,Y.D,kk]) (λe y ρ' σ' K' he hy hi ao kk=>?_) λρ' σ' hi V=>?_
  ·apply#[_,rfl,rfl,?_];have#[i2,i8,ar]:=hi;rw[hy];apply kk _ #[i2,i8,ar] rfl λQ' q=>?_;have#[cb,v1]:=e;clear h
   try clear h
   try clear be
   obtain rfl:cb=.int y:=hy;have cd:=Y.nd;have hl:es.lookup (.int y)=some v1:=lookup_mem Y.nd he;have hg:sy H (.int y)=false:=by
    cases hq:sy H (.int y) with
    |false=>rfl
    |true=>rw[Y.out _ hq]at hl;cases hl
   rcases Y.here _ hg with ⟨W,_⟩|⟨cc,W,q2⟩
   ·rw[hl]at W;cases W
   ·rw[hl]at W
    try clear he
    try clear hl
    have rfl:=af W;apply#[_,rfl,_,(ez ao cc).trans q2,_,ar,?_];have e:decide (((ys.length/100+1:Nat):Int)<((eA (.int y) (ys.map Key.int)).length:Nat))=oX ys y:=by
     unfold oX;rw[cj c,Bool.true_and];have:(eA (.int y) (ys.map Key.int)).length=(posOf (.int y) (ys.map Key.int)).length:=ai ..;rw[this];show gu.mpr (#[λW=>(cg (.l .L .B) .a (.il (.t .L) (.t .B)) W),λW=>(cg (.il (.t .L) (.t .B)) .a (.l .L .B) W)])
    show Q' (decide _) σ';rw[e];show q
  ·have#[pn,nd,bn,hm]:=V.at_;apply fin σ' pn V.L V.I ((V.S sj ag).trans Sj) bn #[nd,λy=>?_] V.tb;show pJ.symm.trans ((hm _).trans #[λq=>#[((cP Y y).mp q.1).1,((cP Y y).mp q.1).2,q.2],λq=>#[(cP Y y).mpr #[q.1,q.2.1],q.2.2]])
 ·rw[cw (by(show fb (.ij (.n 200) (.t .A)) .a (.j (.n 200) .A) c):¬(200:Int)<=(ys.length:Nat)),az (by decide)];have hp:sy (wt true ys)=λ_=>false:=by
   funext k
   cases k with
   |int y=>show oX ys y=false;unfold oX;rw[cw c];rfl
   |str s=>rfl
  show fin σ1 [] rfl rfl Sj S2 #[my,λy=>#[λq=>(nomatch q),λq=>by have:wt true ys y=false:=ez hp (.int y);rw[this]at q;show Bool.noConfusion q.2.2]] #[es,by rw[hp,eO];show Y,λ_ _ e=>e]
end SM
namespace SM
abbrev D5:jo:=(.cons (.a [(.v 7)] (.attr (.l 0) 0))
 (.cons (.C (.l 7) (.cons (.each (.v 4) (.keys (.l 2)) (.cons (.C (.w 7 %[.l 4|0]) (.cons (.expr (.bm .add (.l 6) %[.l 4|0]))
 .nil) .nil)
 .nil))
 (.cons (.each (.v 4) (.seq (.l 6)) (.cons (.delD (.l 2) (.l 4))
 .nil))
 .nil)) .nil)
 wY))
def LQ {C:Cal}{σ₀ σ:St}{x d lb db sj:Addr}{f:Nat->Option V}{ys:List Int}{aj:Bool}{Y:Int->Bool}{ρ:Fr}{es:List (Key×V)}{vj:V}{Q:V->St->Prop}(z:ρ 0=some (.obj x))(r1:ρ 1=some (.L lb))(B:ρ 2=some (.dct db))(r6:ρ 6=some (.set sj))(I:σ.I x=some (d,upd (upd f 7 (.dct db)) 8 (.set sj)))(L:∀a xs,σ₀.L a=some xs->σ.L a=some xs)(S:σ.S sj=some [])(T:Tb σ db (ys.map Key.int) (λ_=>false) es)(N:∀k c,es.lookup k=some (.L c)->σ₀.L c=none)
  (ag:sj≠db) (ao:f 0=some vj) (H:f 3=some (.bool aj)) (hL:σ₀.L lb=some (ys.map V.int)) (hz:Small ys) (hJ:mE C vj Y σ₀)
  (h:∀σ' sp jn W,cX σ₀ σ' x d f ys aj Y db sj sp jn W->Q .none σ'):dt C D5 ρ σ (mQ Q):=by
 apply#[.obj x,z,x,d,_,vj,rfl,I,ao,?_];apply#[vj,ay _ _ _,?_];rcases hJ with ⟨rfl,J⟩|⟨k,cs,rfl,U⟩
 ·have e:sy Y=λ_=>false:=by
   funext q
   cases q with
   |int y=>show J y
   |str s=>rfl
  show wX (jn:=[]) #[z,r1,B,I,L,S,#[my,λy=>#[λq=>(nomatch q),λq=>by rw[J y]at q;show Bool.noConfusion q.2]],by rw[e];show T,N] H hL hz λσ' sp W hc=>h σ' sp [] W hc
 ·show dt C _ (upd ρ 7 (.clo k cs)) σ _;apply JC (σ:=σ) (s:=sj) (db:=db) (p:=Y) (gone:=λ_=>false) (es:=es) (λρ=>ρ 0=some (.obj x)/\ρ 1=some (.L lb)/\ρ 2=some (.dct db)/\ρ 6=some (.set sj)/\ρ 7=some (.clo k cs)) (λe=>e.1.v) (by decide) (λρ ρ' O Z=>#[(O 0 (by decide)).trans Z.1,(O 1 (by decide)).trans Z.2.1,(O 2 (by decide)).trans Z.2.2.1,(O 6 (by decide)).trans Z.2.2.2.1,(O 7 (by decide)).trans Z.2.2.2.2]) (λρ Z=>#[Z.2.2.1,Z.2.2.2.1]) hz T S ag #[z,r1,B,r6,rfl] (λK' kk=>#[_,B,es,T.D,kk]) (λe y ρ' σ' K' he hy Z bd kk=>?_) λρ' σ' Z V=>?_
  ·have#[i0,i1,i2,i6,i7]:=Z;rw[hy];apply kk _ #[i0,i1,i2,i6,i7] rfl λQ' q=>?_;apply#[_,i7,_,rfl,?_];show U y σ' _ (λa xs e=>by rw[bd];show L a xs e) λv hv=>hv σ' _ q
  ·have#[i0,i1,i2,i6,i7]:=Z;have#[be,T',sub]:=V.tb;have#[jn,nd,ar,hm]:=V.at_;have e:(λk=>false||sy Y k)=sy Y:=funext λk=>Bool.false_or _;rw[e]at T';apply wX (jn:=jn) #[i0,i1,i2,by rw[V.I];show I,λa xs q=>by rw[V.L];show L a xs q,ar,#[nd,λy=>?_],T',λk c e=>N k c (sub _ _ e)] H hL hz λσ' sp W hc=>h σ' sp jn W hc;show pJ.symm.trans ((hm _).trans #[λq=>#[((cP T y).mp q.1).1,q.2],λq=>#[(cP T y).mpr #[q.1,rfl],q.2]])
def sX {P:Nat->Option Fn}(hP:P 4=some SM.pT){n:Nat}{x d lb:Addr}{f:Nat->Option V}{ys:List Int}{σ:St}{vj:V}{aj:Bool}{jk:Int->Bool}{Q:V->St->Prop}(hI:σ.I x=some (d,f))(bu:f 0=some vj)(bn:f 2=some (.L lb))(bl:f 3=some (.bool aj))(hL:σ.L lb=some (ys.map V.int))(hz:Small ys)(ao:ys.length<aw)
  (hJ:mE (ef P n) vj jk σ) (h:∀σ' db sj sp jn pn,cX σ σ' x d f ys aj jk db sj sp jn pn->Q .none σ'):ef P (n+1) 4 [.obj x] σ Q:=by
 apply#[SM.pT,hP,by simp[SM.pT],by simp[SM.pT],?_];have h0:frameOf SM.pT [.obj x] 0=some (.obj x):=rfl;generalize frameOf SM.pT [.obj x]=ρ at h0;have Y:σ.L lb=some ((ys.map Key.int).map Key.v):=by rw[hL,lp];rfl
 apply#[.obj x,h0,x,d,f,.L lb,rfl,hI,bn,?_];apply λdb bM=>#[.obj x,h0,x,d,f,rfl,hI,?_];apply#[.L lb,rfl,(ys.map Key.int).map Key.v,Y,?_];generalize ag:ys.map Key.int=bs at Y;have U:bs.length<aw:=by rw[<- ag,ai];show ao
 apply#[by rw[ai];show iz U,?_];apply pv (λi ρ' σ'=>ρ' 0=some (.obj x)/\ρ' 1=some (.L lb)/\ρ' 2=some (.dct db)/\B2J (σ.ir x d (upd f 7 (.dct db))) σ' db (bs.take i)) ?_ ?_ ?_
 ·intro i v ρ' σ' hv ⟨r0,r1,r2,W⟩;apply#[W.old lb _ Y,λk hk=>?_];have hi:i<bs.length:=by
   have:=(cf.mp hv).1;simpa using this
  have ar:v=.T [.int i,bs[i].v]:=by
   rw[bw,List.getElem?_zipIdx]at hv;simp[hi]at hv;show hv.symm
  try clear hv
  subst ar;apply#[_,rfl,rfl,?_];apply#[.dct db,r2,?_,bs[i].v,rfl,?_]
  ·have#[es,O,_]:=W.tab;show(σ'.D db).isSome=true;rw[O];rfl
  apply#[aq rfl,λc hc=>?_];have#[es,O,Z,c',e1,e2,J]:=W.step hc bs[i];have H:(bs.take i).length=i:=by simp;(show(Ar.nr _ _).2.2.elim (λq1=>(mn .G .g .A (.k .B .A) (Ar.nr _ _).1 q1)) λq1=>(tq .G [[1,1,0,1],[1,0,1,0]] (.l .B .C) .A (.k .C .A) hi (Ar.nr _ _).1 q1))
  have bd:bs.take i++[bs[i]]=bs.take (i+1):=(ow hi).symm;rw[H]at Z J;rw[bd]at J;apply#[es,bs[i],O,rX _,by show rq .B .e (.l .C .B) (.l .D .C) (.k .A .D) U hi Z,?_];rw[e1];apply#[.L c',rfl,?_,.int i,rfl,?_]
  ·show(St.L _ c').isSome=true;rw[e2];rfl
  apply#[eA bs[i] (bs.take i),e2,?_,rfl,?_]
  ·unfold eA posOf;have:=nq (λj=>decide ((bs.take i)[j]?=some bs[i])) (List.range (bs.take i).length);simp only[ai,oz]at this ⊢
   (show Ar.a4 [] [_,_,_,_,_] .B [[1,1,1,1,1]] (.l .C .B) (.l .D .C) (.e .F .D) (.k .A .F) U hi H this)
  show hk _ _ #[r0,r1,r2,J]
 ·intro ρ' σ' ⟨r0,r1,r2,W⟩;have Z:((bs.map Key.v).zipIdx.map λp=>V.T [.int p.2,p.1]).length=bs.length:=by simp
  rw[Z,qj]at W;apply#[W.old lb _ Y,?_];have bv:σ'.I x=some (d,upd f 7 (.dct db)):=by rw[W.I];show jt
  intro s1 bL z;apply#[.obj x,r0,x,d,_,rfl,bv,?_];have#[es,T,N]:=W.tbN
  try clear Z
  try clear Y
  subst ag;have be:s1≠db:=λe=>by
   have:=T.D;rw[<- e,z]at this;cases this
  apply LQ (σ:=(σ'.dZ s1 []).ir x d (upd (upd f 7 (.dct db)) 8 (.set s1))) (ρ:=upd ρ' 6 (.set s1)) (σ₀:=σ) (es:=es) (sj:=s1) (lb:=lb) r0 r1 r2 rfl jt (λa xs e=>W.old a xs e) (ay _ _ _) (T.move rfl λa xs e=>e) (λk c e=>N k c e) be bu bl hL hz hJ λσ' sp jn pn hc=>h σ' db s1 sp jn pn hc
 ·apply#[h0,rfl,rfl,B2J.start]
end SM
end MP
end
section
namespace MP
namespace SM
set_option genInjectivity false
set_option genSizeOf false
open PySem
abbrev nU:jo:=(.cons (.C (.c .lt (.l 17) (.l 3)) (.cons .cont
 .nil) .nil)
 (.cons (.C (.c .ge (.l 17) (.l 4)) (.cons .brk
 .nil) .nil)
 (.cons (.a [(.v 18),(.sub (.l 16) (.l 17))] (.b .add (.w 15 %[.b .sub (.l 17) (.int 1),.int 0|0]) (.int 1)))
 (.cons (.C (.c .gt (.l 18) (.l 11)) (.cons (.a [.T [9,10,11]] (.T %[.b .add (.b .sub (.l 14) (.l 18)) (.int 1),.b .add (.b .sub (.l 17) (.l 18)) (.int 1),.l 18|0]))
 .nil) .nil)
 .nil))))
abbrev z7:Stm:=.each (.v 17) (.seq (.bm .get (.l 7) %[.sub (.l 5) (.l 14),.l 13|0])) nU
section
variable {s:Sc}{t j bi bj bk:Nat}
end
abbrev H6:jo:=(.cons (.a [(.v 15)] (.g (.l 12)))
 (.cons (.a [(.v 16)] .dct0)
 (.cons z7
 (.cons (.a [(.v 12)] (.l 16))
 .nil))))
def JN {n:Nat}(h:n<aw):n<2^40:=Nat.lt_trans h (by decide)
def K3 {n m:Nat}(h:n<=m)(Z:m<aw):(n:Int).natAbs<2^40:=Nat.lt_of_le_of_lt h (JN Z)
end SM
end MP
end
section
namespace MP
abbrev Within (alo ahi blo bhi:Nat)(t:Nat×Nat×Nat):Prop:=alo<=t.1/\t.1+t.2.2<=ahi/\blo<=t.2.1/\t.2.1+t.2.2<=bhi
section
variable {as bs:List Key}{ok rm js:Key->Bool}{alo ahi blo bhi:Nat}
def fI:∀{i j k:Nat},Within alo ahi blo bhi (i,j,k)->Within alo ahi blo bhi (eJ as bs ok alo blo i j k)
 |0,j,k,h=>h
 |i+1,0,k,h=>h
 |i+1,j+1,k,h=>by
  rw[uY];split
  ·rename_i c;apply fI ?_;have#[U,Y,W,Z]:alo<=i+1/\i+1+k<=ahi/\blo<=j+1/\j+1+k<=bhi:=h;show(show alo<=i/\i+(k+1)<=ahi/\blo<=j/\j+(k+1)<=bhi from#[by show cg .A .a (.l .A .P) c.1,by show gz (.k (.a .A .P) .C) .a (.k (.a .L .B) .C) Y,by show cg .A .a (.l .A .P) c.2.1,by show gz (.k (.a .A .P) .C) .a (.k (.a .L .B) .C) Z])
  ·show h
def fH:∀{n i j k:Nat},Within alo ahi blo bhi (i,j,k)->Within alo ahi blo bhi (i,j,sG as bs ok ahi bhi n i j k)
 |0,i,j,k=>λh=>h
 |n+1,i,j,k=>λh=>by
  rw[uX];split
  ·rename_i c;apply fH ?_;have#[Y,U,Z,W]:alo<=i/\i+k<=ahi/\blo<=j/\j+k<=bhi:=h;show(show alo<=i/\i+(k+1)<=ahi/\blo<=j/\j+(k+1)<=bhi from#[by show cg .A .a .A Y,by show gz (.k (.a .A .P) .C) .a (.l .M .C) c.1,by show cg .A .a .A Z,by show gz (.k (.a .A .P) .C) .a (.l .M .C) c.2.1])
  ·show h
end
inductive xr (F:Nat->Nat->Nat->Nat->Nat×Nat×Nat->Prop):Nat->Nat->Nat->Nat->List (Nat×Nat×Nat)->Prop
 |nil {alo ahi blo bhi i j:Nat}:F alo ahi blo bhi (i,j,0)->xr F alo ahi blo bhi []
 |node {alo ahi blo bhi i j k:Nat} {L R:List (Nat×Nat×Nat)}:F alo ahi blo bhi (i,j,k)->0<k->(alo<i->blo<j->xr F alo i blo j L)->(¬(alo<i/\blo<j)->L=[]) ->
   (i+k<ahi->j+k<bhi->xr F (i+k) ahi (j+k) bhi R)->(¬(i+k<ahi/\j+k<bhi)->R=[])->xr F alo ahi blo bhi (L++(i,j,k)::R)
abbrev iT (t u:Nat×Nat×Nat):Prop:=t.1+t.2.2<=u.1/\t.2.1+t.2.2<=u.2.1
def xr.ok {F:Nat->Nat->Nat->Nat->Nat×Nat×Nat->Prop}(hF:∀a b c d t,F a b c d t->Within a b c d t){alo ahi blo bhi:Nat}{L:List (Nat×Nat×Nat)}(h:xr F alo ahi blo bhi L) :
  (∀t∈L,Within alo ahi blo bhi t/\0<t.2.2)/\L.Pairwise iT:=by
 induction h with
 |nil _=>refine#[λt h=>(by cases h),.nil]
 | @node alo ahi blo bhi i j k L R hf hk hL z hR H U Y =>
  have W:=hF _ _ _ _ _ hf;unfold Within at W;simp only at W;have I:(∀t∈L,Within alo i blo j t/\0<t.2.2)/\L.Pairwise iT:=by
   by_cases c:alo<i/\blo<j
   ·show U c.1 c.2
   ·rw[z c];apply#[λt h=>(by cases h),.nil]
  have Z:(∀t∈R,Within (i+k) ahi (j+k) bhi t/\0<t.2.2)/\R.Pairwise iT:=by
   by_cases c:i+k<ahi/\j+k<bhi
   ·show Y c.1 c.2
   ·rw[H c];apply#[λt h=>(by cases h),.nil]
  apply#[λt J=>?_,?_]
  ·rcases fh.mp J with q|q
   ·have:=I.1 t q;unfold Within at *
    (show#[#[(cg .A .a .A this.1.1),#[(qD (.k .M .C) .b (.k (.a .D .F) .C) (.k .M .D) W.2.1 this.1.2.1),#[(cg .A .a .A this.1.2.2.1),(qD (.k .M .C) .b (.k (.a .D .F) .C) (.k .M .D) W.2.2.2 this.1.2.2.2)]]],(fb .D .a .D this.2)])
   ·rcases bz.mp q with q|q
    ·subst q;unfold Within;simp only
     (show#[#[(cg .A .a .A W.1),#[(gz (.k .M .C) .a (.k .M .C) W.2.1),#[(cg .A .a .A W.2.2.1),(gz (.k .M .C) .a (.k .M .C) W.2.2.2)]]],(fb .D .a .D hk)])
    ·have:=Z.1 t q;unfold Within at *
     (show#[#[(jm .A .b (.k .A .C) (.k (.a .C .D) .B) W.1 this.1.1),#[(gz (.k .M .C) .a (.k .M .C) this.1.2.1),#[(jm .A .b (.k .A .C) (.k (.a .C .D) .B) W.2.2.1 this.1.2.2.1),(gz (.k .M .C) .a (.k .M .C) this.1.2.2.2)]]],(fb .D .a .D this.2)])
  ·rw[List.pairwise_append];apply#[I.2,.cons (λu O=>?_) Z.2,λt J u O=>?_]
   ·have:=Z.1 u O;unfold Within at this;unfold iT;simp only
    (show#[(gz (.k .M .C) .a (.k .M .C) this.1.1),(gz (.k .M .C) .a (.k .M .C) this.1.2.2.1)])
   ·have:=I.1 t J;unfold Within at this;unfold iT;rcases bz.mp O with q|q
    ·subst q;simp only
     (show#[(gz (.k .M .C) .a (.k .M .C) this.1.2.1),(gz (.k .M .C) .a (.k .M .C) this.1.2.2.2)])
    ·have:=Z.1 u q;unfold Within at this
     (rename_i z1;show#[(qD (.k .M .C) .b (.k .M .D) (.k (.a .D .F) .C) z1.1.2.1 this.1.1),(qD (.k .M .C) .b (.k .M .D) (.k (.a .D .F) .C) z1.1.2.2.2 this.1.2.2.1)])
def iA {alo ahi blo bhi:Nat}:∀{L:List (Nat×Nat×Nat)} {lo:Nat},(∀t∈L,Within alo ahi blo bhi t/\0<t.2.2)->L.Pairwise iT->(∀t∈L,lo<=t.1)->lo<=ahi->lo+L.length<=ahi
 | [],lo,_,_,_,h=>h
 |t::L,lo,U,Y,H,h=>by
  have W:=U t (.head _);have J:=H t (.head _);have#[z,Y]:=cH.mp Y;have:=iA (lo:=lo+1) (λu Z=>U u (.tail _ Z)) Y (λu Z=>by have:=(z u Z).1;(show rq .I .e (.l .O .C) (.k .A .D) (.k (.a .D .C) .B) W.2 J this)) (by have:=W.1.2.1;(show rq .I .e (.l .O .C) (.k .A .D) (.k (.a .D .C) .B) W.2 J this));rw[jh];(show gz (.k (.a .A .P) .C) .a (.k (.a .L .B) .C) this)
abbrev mrg:Nat->Nat->Nat->List (Nat×Nat×Nat)->List (Nat×Nat×Nat)
 |i,j,k,[]=>if k=0 then [] else [(i,j,k)]
 |i,j,k,(i',j',k')::r=>if i+k=i'/\j+k=j' then mrg i j (k+k') r else if k=0 then mrg i' j' k' r else (i,j,k)::mrg i' j' k' r
namespace SM
open PySem
variable {σ2:St}{x nl:Addr}
def T3:=Nat×Nat×Nat
def T4:=Nat×Nat×Nat×Nat
abbrev zT (t:T3):Int×Int×Int:=(t.1,t.2.1,t.2.2)
abbrev mV (t:T3):V:=mtV (zT t)
abbrev tV (t:T3):V:=.T [.int t.1,.int t.2.1,.int t.2.2]
abbrev qV (r:T4):V:=.T [.int r.1,.int r.2.1,.int r.2.2.1,.int r.2.2.2]
def N8 {L mb:List T3}(Y:L.Perm mb)(Z:L.Pairwise iT)(hk:∀t∈L,0<t.2.2):((mb.map zT).mergeSort leT).map mtV=L.map mV:=by
 have e:(mb.map zT).mergeSort leT=L.map zT:=by
  apply List.Perm.eq_of_pairwise (le:=LeT) ?_ (dJ _) ?_ ((List.mergeSort_perm _ _).trans (Y.symm.map zT))
  ·show λa b _ _ J U=>LeT.OT J U
  ·rw[tH];apply List.Pairwise.imp_of_mem (λ{a b} W hb h=>?_) Z;have:=hk a W;unfold iT at h;unfold LeT zT;simp only
   (show .inl (gr (.il (.t .A) (.t .B)) .b (.k (.a .A .C) .B) (.l .O .C) h.1 this))
 rw[e,lp];rfl
abbrev qw (q:List T4):Nat:=(q.map λr=>2*(r.2.1-r.1)+1).sum
def jD {q:List T4}{r:T4}:qw (q++[r])=qw q+(2*(r.2.1-r.1)+1):=by simp[qw]
def CC {q:List T4}:q.length<=qw q:=by
 induction q with
 |nil=>show av _
 |cons r q Z =>
  unfold qw at *;simp only[jh,gv,List.sum_cons]
  (show gz (.k .L (.a (.a (.m 2 .B) .U) .C)) .a (.k .A .C) Z)
inductive qG (F:Nat->Nat->Nat->Nat->T3->Prop):List T4->List (List T3)->Prop
 |nil:qG F [] []
 |snoc {q:List T4} {Ls:List (List T3)} {r:T4} {L:List T3}:qG F q Ls->xr F r.1 r.2.1 r.2.2.1 r.2.2.2 L->qG F (q++[r]) (Ls++[L])
def qG.inv {F:Nat->Nat->Nat->Nat->T3->Prop}{q:List T4}{r:T4}{Z:List (List T3)}(h:qG F (q++[r]) Z):∃Ls L,Z=Ls++[L]/\qG F q Ls/\xr F r.1 r.2.1 r.2.2.1 r.2.2.2 L:=by
 generalize e:q++[r]=J at h;cases h with
 |nil=>show absurd (bb List.length e) (by simp)
 | @snoc O Ls r2 L W Y =>
  have:=List.append_inj' e rfl
  try clear e
  have#[rfl,U]:=this;cases U;apply#[Ls,L,rfl,W,Y]
def N4 {r:T4}{σ:St}:FQ (qV r) σ=some [.int r.1,.int r.2.1,.int r.2.2.1,.int r.2.2.2]:=rfl
def AR {t:T3}{σ:St}:FQ (mV t) σ=some [.int t.1,.int t.2.1,.int t.2.2]:=rfl
abbrev rk (p:Prop)[Decidable p](q:List T4)(r:T4):List T4:=if p then q++[r] else q
def zj {σ:St}{a:Addr}{xs:List V}(h:σ.L a=some xs):σ.cu a xs=σ:=by
 have:upd σ.L a xs=σ.L:=by
  funext z
  by_cases e:z=a
  ·rw[e,ay,h]
  ·show bh e
 unfold St.cu;rw[this]
section
variable {σ:St}{ρ:Fr}{a b c e:Ex}{m n k l:Nat}
def bW (Z:evV σ ρ a=some (.int m))(hb:evV σ ρ b=some (.int n)):evT σ ρ (.c .lt a b)=some (decide (m<n)):=by
 rw[pV,Z,hb];show bb some (gu.mpr xv)
def DK (Z:evV σ ρ a=some (.int m))(hb:evV σ ρ b=some (.int n)):evT σ ρ (.c .eq a b)=some (decide (m=n)):=by
 rw[pV,Z,hb];show bb some (gu.mpr Int.ofNat_inj)
def yn (Z:evV σ ρ a=some (.int m))(hb:evV σ ρ b=some (.int n)):evV σ ρ (.b .add a b)=some (.int (m+n:Nat)):=by
 rw[pU,Z,hb];rfl
def fK {p q:Prop}[Decidable p][Decidable q](Z:evT σ ρ a=some (decide p))(hb:evT σ ρ b=some (decide q)):evT σ ρ (.and a b)=some (decide (p/\q)):=by
 rw[I6,Z];by_cases h:p
 ·rw[cj h];show hb.trans (bb some (gu.mpr #[λx=>#[h,x],λx=>x.2]))
 ·rw[cw h];show bb some (cw λx=>h x.1).symm
def hH {x:Nat}(h:ρ x=some (.int k)):evT σ ρ (.l x)=some (decide (k≠0)):=by
 rw[I5,h];cases k<;>rfl
def ev3 (Y:evV σ ρ a=some (.int m))(hb:evV σ ρ b=some (.int n))(Z:evV σ ρ c=some (.int k)):evV σ ρ (.T %[a,b,c|0])=some (tV (m,n,k)):=by
 rw[aS,ic,Y,ic,hb,ic,Z];rfl
def ev4 (W:evV σ ρ a=some (.int m))(hb:evV σ ρ b=some (.int n))(Y:evV σ ρ c=some (.int k))(Z:evV σ ρ e=some (.int l)):evV σ ρ (.T %[a,b,c,e|0])=some (qV (m,n,k,l)):=by
 rw[aS,ic,W,ic,hb,ic,Y,ic,Z];rfl
variable {C:Cal}{K:Fl->Fr->St->Prop}{ss:jo}
def push {ql:Addr}{q:List T4}{p:Prop}[Decidable p](r:T4)(O:ρ 3=some (.L ql))(Z:σ.L ql=some (q.map qV))(Y:q.length<aw)(W:evT σ ρ c=some (decide p))(U:evV σ ρ e=some (qV r))(h:dt C ss ρ (σ.cu ql ((rk p q r).map qV)) K) :
  dt C (.cons (.C c %[.expr (.bm .append (.l 3) %[e|0])|0] .nil) ss) ρ σ K:=by
 unfold rk at h;apply tF p W (λy=>?_) λy=>?_
 ·rw[br y,dw]at h;show oL (qV r) O Z U (by rw[ai];show Y) (mf h)
 ·rw[az y,zj Z]at h;show mf h
end
abbrev In4 (as bs:List Key)(r:T4):Prop:=r.1<=r.2.1/\r.2.2.1<=r.2.2.2/\r.2.1<=as.length/\r.2.2.2<=bs.length
section
variable {as bs:List Key}{F:Nat->Nat->Nat->Nat->T3->Prop}{q:List T4}{r:T4}{mb:List T3}{p:Prop}[Decidable p]
def xN (h:∀u∈q,In4 as bs u)(h':p->In4 as bs r):∀u∈rk p q r,In4 as bs u:=by
 unfold rk;split
 ·rename_i c;intro u Z;rcases fh.mp Z with Z|Z
  ·show h u Z
  ·rw[ax.mp Z];show h' c
 ·show h
def oW:qw (rk p q r)<=qw q+(2*(r.2.1-r.1)+1):=by
 unfold rk;split
 ·rw[jD];show av _
 ·show gI _ _
def nI {W:List (List T3)}(o:qG F (rk p q r) W):∃Z R,qG F q Z/\W.flatten=Z.flatten++R/\(p->xr F r.1 r.2.1 r.2.2.1 r.2.2.2 R)/\(¬p->R=[]):=by
 unfold rk at o;split at o
 ·rename_i c;have#[Y,R,rfl,U,J]:=o.inv;apply#[Y,R,U,by rw[List.flatten_append,dU,gK,cy],λ_=>J,λq=>absurd c q]
 ·rename_i c;apply#[W,[],o,(cy _).symm,λO=>absurd O c,λ_=>rfl]
abbrev j6 (F:Nat->Nat->Nat->Nat->T3->Prop)(na nb:Nat)(q:List T4)(mb:List T3):Prop:=∀Ls,qG F q Ls->∃L,xr F 0 na 0 nb L/\L.Perm (mb++Ls.flatten)
variable {na nb alo ahi blo bhi i j k:Nat}
def j6.drop (h:j6 F na nb (q++[(alo,ahi,blo,bhi)]) mb)(Z:F alo ahi blo bhi (i,j,0)):j6 F na nb q mb:=λY o=>by
 have#[L,b,p]:=h _ (.snoc o (.nil Z));apply#[L,b,by rwa [List.flatten_append,dU,gK,cy,cy]at p]
def j6.part (h:j6 F na nb (q++[(alo,ahi,blo,bhi)]) mb)(I:F alo ahi blo bhi (i,j,k))(hk:0<k) :
  j6 F na nb (rk (i+k<ahi/\j+k<bhi) (rk (alo<i/\blo<j) q (alo,i,blo,j)) (i+k,ahi,j+k,bhi)) (mb++[(i,j,k)]):=λLs o=>by
 have#[ag,R,O,H,z,Y]:=nI o;have#[Z,L,J,B,bL,W]:=nI O;have#[M,bM,U]:=h _ (.snoc J (.node I hk (λa b=>bL #[a,b]) W (λa b=>z #[a,b]) Y));apply#[M,bM,U.trans ?_];rw[H,B,List.flatten_append,dU,gK,cy,jq];apply List.Perm.append_left _ ?_;rw[<- jq,jq Z.flatten,<- jq Z.flatten];show List.perm_middle
def j6.start:j6 F na nb [(0,na,0,nb)] []:=λW o=>by
 have Y:=o.inv (q:=[]);clear o;have#[Z,L,rfl,o',b]:=Y;have e:Z=[]:=by
  generalize e:([]:List T4)=q at o';cases o' with
  |nil=>rfl
  |snoc _ _=>show absurd (bb List.length e) (by simp)
 subst e;apply#[L,b,by simp]
end
structure QN (σ:St)(ql ml:Addr):Prop where
 ne:ql≠ml
 q:σ.L ql=none
 m:σ.L ml=none
structure QS (σ σ':St)(ql ml:Addr)(q:List T4)(mb:List T3):Prop where
 kp:Kp σ σ'
 q:σ'.L ql=some (q.map qV)
 m:σ'.L ml=some (mb.map mV)
section
variable {σ σ':St}{ql ml:Addr}{q:List T4}{mb:List T3}
def QS.N9 (N:QN σ ql ml)(S:QS σ σ' ql ml q mb)(Z:List T4):QS σ (σ'.cu ql (Z.map qV)) ql ml Z mb:=#[S.kp.cu N.q,ay _ _ _,(bh (kz N.ne)).trans S.m]
def QS.setM (N:QN σ ql ml)(S:QS σ σ' ql ml q mb)(Z:List T3):QS σ (σ'.cu ml (Z.map mV)) ql ml q Z:=#[S.kp.cu N.m,(bh N.ne).trans S.q,ay _ _ _]
def QS.kept (S:QS σ σ' ql ml q mb)(k:Kp σ' σ2):QS σ σ2 ql ml q mb:=#[S.kp.trans k,k.L _ _ S.q,k.L _ _ S.m]
end
structure R6 (ρ:Fr)(x:Addr)(ql ml:Addr)(na nb:Nat):Prop where
 r0:ρ 0=some (.obj x)
 r1:ρ 1=some (.int na)
 r2:ρ 2=some (.int nb)
 r3:ρ 3=some (.L ql)
 r4:ρ 4=some (.L ml)
inductive IZ (σ:St)(x ql ml:Addr)(as bs:List Key)(F:Nat->Nat->Nat->Nat->T3->Prop)(w:Nat)(ρ:Fr)(σ':St):Prop
 |mk (q:List T4) (mb:List T3):R6 ρ x ql ml as.length bs.length->w=qw q->QS σ σ' ql ml q mb->qw q+mb.length<=2*as.length+1->(∀r∈q,In4 as bs r)->j6 F as.length bs.length q mb->IZ σ x ql ml as bs F w ρ σ'
def H0 {Z Y W i alo ahi k:Nat}(h2:Y<=W+(2*(i-alo)+1))(z:Z<=Y+(2*(ahi-(i+k))+1))(a:alo<=i)(b:i+k<=ahi)(hk:0<k):Z<W+(2*(ahi-alo)+1):=by(show Ar.a6 [] [_,_,_,_,_,_,_,_,_,_] (.l .A (.a .B (.a (.m 2 .C) .U))) [[1,1,1,2,2,2,-2]] (.k .D (.a .B (.a (.m 2 .F) .U))) (.k .A (.a .D (.a (.m 2 .G) .U))) (.l .O .H) (.e (.a .F .I) .J) (.e (.a .G (.a .J .H)) .K) (.e (.a .C .I) .K) h2 z hk (ae (cg .A .a .A a)) (ae (gz (.k .M .C) .a (.k .M .C) b)) (ae (jm .A .b (.k .A .C) (.k (.a .C .D) .B) a b)))
def DF {C:Cal}{σ σ':St}{ql ml:Addr}{as bs:List Key}{F:Nat->Nat->Nat->Nat->T3->Prop}{q:List T4}{mb:List T3}{ρ:Fr}{K:Fl->Fr->St->Prop}{alo ahi blo bhi i j k:Nat}(z:as.length<400000)(N:QN σ ql ml)(H:R6 ρ x ql ml as.length bs.length)(S:QS σ σ' ql ml q mb)
  (r5:ρ 5=some (.int alo)) (r6:ρ 6=some (.int ahi)) (r7:ρ 7=some (.int blo)) (r8:ρ 8=some (.int bhi)) (r9:ρ 9=some (.int i)) (Y:ρ 10=some (.int j)) (Z:ρ 11=some (.int k)) (ao:ρ 12=some (mV (i,j,k)))
  (W:Within alo ahi blo bhi (i,j,k)) (hr:In4 as bs (alo,ahi,blo,bhi)) (ar:∀r∈q,In4 as bs r) (hw:qw (q++[(alo,ahi,blo,bhi)])+mb.length<=2*as.length+1) (hk:0<k) (hf:F alo ahi blo bhi (i,j,k)) (ag:j6 F as.length bs.length (q++[(alo,ahi,blo,bhi)]) mb)
  (h:∀w σ2,w<qw (q++[(alo,ahi,blo,bhi)])->IZ σ x ql ml as bs F w ρ σ2->K .next ρ σ2) :
  dt C (.cons (.expr (.bm .append (.l 4) %[.l 12|0]))
   (.cons (.C (.and (.c .lt (.l 5) (.l 9)) (.c .lt (.l 7) (.l 10))) %[.expr (.bm .append (.l 3) %[.T %[.l 5,.l 9,.l 7,.l 10|0]|0])|0] .nil)
   %[.C (.and (.c .lt (.b .add (.l 9) (.l 11)) (.l 6)) (.c .lt (.b .add (.l 10) (.l 11)) (.l 8))) %[.expr (.bm .append (.l 3) %[.T %[.b .add (.l 9) (.l 11),.l 6,.b .add (.l 10) (.l 11),.l 8|0]|0])|0] .nil|0])) ρ σ' K:=by
 have W:alo<=i/\i+k<=ahi/\blo<=j/\j+k<=bhi:=W;have hr:alo<=ahi/\blo<=bhi/\ahi<=as.length/\bhi<=bs.length:=hr;rw[jD]at hw h;have hw:qw q+(2*(ahi-alo)+1)+mb.length<=2*as.length+1:=hw;have h1:=CC (q:=q);have lt:=H0 (oW (p:=alo<i/\blo<j) (q:=q) (r:=(alo,i,blo,j))) (oW (p:=i+k<ahi/\j+k<bhi) (q:=rk (alo<i/\blo<j) q (alo,i,blo,j)) (r:=(i+k,ahi,j+k,bhi))) W.1 W.2.1 hk;have h2:qw (rk (alo<i/\blo<j) q (alo,i,blo,j))<=qw q+(2*(i-alo)+1):=oW;have h4:=CC (q:=rk (alo<i/\blo<j) q (alo,i,blo,j));apply oL (mV (i,j,k)) H.r4 S.m ao (by rw[ai];unfold aw;(rename_i O;show jm (.l .A .Q) [[1,2,1]] (.l .B (.n 400000)) (.k (.a (.a .C (.a (.m 2 .D) .U)) .A) (.a (.m 2 .B) .U)) z O)) ?_;have S1:=S.setM N (mb++[(i,j,k)]);rw[dw]at S1;apply push (p:=alo<i/\blo<j) (alo,i,blo,j) H.r3 S1.q (by unfold aw;(rename_i O;show tn (.l .A .Q) [[1,2,1,1]] (.l .B (.n 400000)) (.k (.a (.a .C (.a (.m 2 .D) .U)) .F) (.a (.m 2 .B) .U)) (.k .A .C) z O h1)) (fK (bW r5 r9) (bW r7 Y)) (ev4 r5 r9 r7 Y) ?_;have S2:=S1.N9 N (rk (alo<i/\blo<j) q (alo,i,blo,j));apply push (p:=i+k<ahi/\j+k<bhi) (i+k,ahi,j+k,bhi) H.r3 S2.q (by unfold aw;(rename_i O;show Ar.a7 [] [_,_,_,_,_,_,_,_,_,_,_] (.l .A .Q) [[1,2,1,2,1,1,-2,2]] (.l .B (.n 400000)) (.k (.a (.a .C (.a (.m 2 .D) .U)) .F) (.a (.m 2 .B) .U)) (.k (.a .G .H) .I) (.k .J (.a .C (.a (.m 2 .K) .U))) (.k .A .J) (.e (.a .D (.v 10)) .I) (.e (.a .K (.v 10)) .G) z O W.2.1 h2 h4 (ae (jm .A .b (.k .A .C) (.k (.a .C .D) .B) W.1 W.2.1)) (ae (cg .A .a .A W.1)))) (fK (bW (yn r9 Z) r6) (bW (yn Y Z) r8)) (ev4 (yn r9 Z) r6 (yn Y Z) r8) ?_;have S3:=S2.N9 N (rk (i+k<ahi/\j+k<bhi) (rk (alo<i/\blo<j) q (alo,i,blo,j)) (i+k,ahi,j+k,bhi));apply h _ _ lt #[_,mb++[(i,j,k)],H,rfl,S3,?_,?_,ag.part hf hk]
 ·rw[cv,sk];(rename_i O;show qD (.k (.a .A .P) (.a (.m 2 .C) .U)) .b (.k (.a (.a .D (.a (.m 2 .F) .U)) .B) (.a (.m 2 .C) .U)) (.l .A (.a .D (.a (.m 2 .F) .U))) O lt)
 ·show xN (xN ar λc=>#[iz c.1,iz c.2,by show i<=as.length;(show jm .A .b (.k (.a .A .C) .D) (.k .D .B) W.2.1 hr.2.2.1),by show j<=bs.length;(show jm .A .b (.k (.a .A .C) .D) (.k .D .B) W.2.2.2 hr.2.2.2)]) λc=>#[iz c.1,iz c.2,hr.2.2.1,hr.2.2.2]
structure F8 (P:Nat->Option Fn)(n:Nat)(σ:St)(x:Addr)(as bs:List Key)(F:Nat->Nat->Nat->Nat->T3->Prop):Prop where
 call:∀(σ':St) (alo ahi blo bhi:Nat) (Q:V->St->Prop),Kp σ σ'->In4 as bs (alo,ahi,blo,bhi)->(∀σ2 i j k,Kp σ' σ2->F alo ahi blo bhi (i,j,k)->Q (mV (i,j,k)) σ2)->ef P (n+1) 5 [.obj x,.int alo,.int ahi,.int blo,.int bhi] σ' Q
 within:∀{alo ahi blo bhi:Nat} {t:T3},F alo ahi blo bhi t->Within alo ahi blo bhi t
def DE {P:Nat->Option Fn}{n:Nat}{σ σ':St}{ql ml:Addr}{as bs:List Key}{F:Nat->Nat->Nat->Nat->T3->Prop}{q:List T4}{r:T4}{mb:List T3}{ρ:Fr}{again:Fr->St->Prop}{K:Fl->Fr->St->Prop}
  (hI:(σ.I x).isSome=true) (W:F8 P n σ x as bs F) (ao:as.length<400000) (N:QN σ ql ml) (H:R6 ρ x ql ml as.length bs.length) (S:QS σ σ' ql ml (q++[r]) mb) (hw:qw (q++[r])+mb.length<=2*as.length+1) (O:∀u∈q++[r],In4 as bs u)
  (Z:j6 F as.length bs.length (q++[r]) mb) (J:∀w ρ' σ2,w<qw (q++[r])->IZ σ x ql ml as bs F w ρ' σ2->again ρ' σ2) :
  dt (ef P (n+1)) (.cons (.a [(.T [5,6,7,8])] (.bm .pop (.l 3) .nil))
   (.cons (.a [(.T [9,10,11]),(.v 12)] (.meth (.l 0) 5 %[.l 5,.l 6,.l 7,.l 8|0]))
   (.cons (.C (.l 11) (.cons (.expr (.bm .append (.l 4) %[.l 12|0]))
    (.cons (.C (.and (.c .lt (.l 5) (.l 9)) (.c .lt (.l 7) (.l 10))) %[.expr (.bm .append (.l 3) %[.T %[.l 5,.l 9,.l 7,.l 10|0]|0])|0] .nil)
    %[.C (.and (.c .lt (.b .add (.l 9) (.l 11)) (.l 6)) (.c .lt (.b .add (.l 10) (.l 11)) (.l 8))) %[.expr (.bm .append (.l 3) %[.T %[.b .add (.l 9) (.l 11),.l 6,.b .add (.l 10) (.l 11),.l 8|0]|0])|0] .nil|0])) .nil) .nil))) ρ σ' (wm again K):=by
 have#[alo,ahi,blo,bhi]:=r;have hq:=S.q;rw[dw]at hq;apply#[_,H.r3,(by show(σ'.L ql).isSome=true;rw[hq];rfl),q.map qV,qV (alo,ahi,blo,bhi),hq,_,N4,rfl,?_];have hr:alo<=ahi/\blo<=bhi/\ahi<=as.length/\bhi<=bs.length:=O (alo,ahi,blo,bhi) (si _ (.head _));have Y:∀u∈q,In4 as bs u:=λu hu=>O u (jy _ hu);have S0:QS σ (σ'.cu ql (q.map qV)) ql ml q mb:=#[S.kp.cu N.q,ay _ _ _,(bh (kz N.ne)).trans S.m];apply#[_,H.r0,x,rfl,(by show(σ'.I x).isSome=true;rw[S.kp.I];show hI),_,rfl,_,rfl,_,rfl,_,rfl,?_];apply W.call _ alo ahi blo bhi _ S0.kp hr λσ2 i j k k2 hf=>?_;have S2:=S0.kept k2;apply#[_,AR (t:=(i,j,k)),rfl,?_];apply tF (k≠0) (hH rfl) (λc=>?_) λc=>?_
 ·show DF ao N #[H.r0,H.r1,H.r2,H.r3,H.r4] S2 rfl rfl rfl rfl rfl rfl rfl rfl (W.within hf) hr Y hw (Nat.pos_of_ne_zero c) hf Z λw z lt Q=>J w _ z lt Q
 ·have rfl:=Classical.not_not.mp c;have ag:qw q+(2*(ahi-alo)+1)+mb.length<=2*as.length+1:=by rw[jD]at hw;show hw
  apply mf (J (qw q) _ _ (by rw[jD];(show n9 (.l .A (.a .A (.a (.m 2 .B) .U))) .f)) #[q,mb,#[H.r0,H.r1,H.r2,H.r3,H.r4],rfl,S2,by show EN (.k .M (.a (.m 2 .C) .U)) .a (.k (.a (.a .A (.a (.m 2 .D) .U)) .B) (.a (.m 2 .C) .U)) ag,Y,Z.drop hf])
structure R7 (ρ:Fr)(x nl:Addr)(na nb:Nat):Prop where
 r0:ρ 0=some (.obj x)
 r1:ρ 1=some (.int na)
 r2:ρ 2=some (.int nb)
 r16:ρ 16=some (.L nl)
inductive J0 (σ1:St)(x nl:Addr)(na nb:Nat)(L:List T3)(t:Nat)(ρ:Fr)(σ2:St):Prop
 |mk (i j k:Nat) (acc:List T3):R7 ρ x nl na nb->Kp σ1 σ2->ρ 13=some (.int i)->ρ 14=some (.int j)->ρ 15=some (.int k)->σ2.L nl=some (acc.map tV)->acc.length<=t->acc++mrg i j k (L.drop t)=mrg 0 0 0 L->J0 σ1 x nl na nb L t ρ σ2
def xE {C:Cal}{ρ:Fr}{K:Fl->Fr->St->Prop}{ss:jo}{acc:List T3}{i j k:Nat}(W:ρ 16=some (.L nl))(O:ρ 13=some (.int i))(U:ρ 14=some (.int j))(Y:ρ 15=some (.int k))(Z:σ2.L nl=some (acc.map tV))(J:acc.length<aw)
  (h:dt C ss ρ (σ2.cu nl ((acc++if k=0 then [] else [(i,j,k)]).map tV)) K) :
  dt C (.cons (.C (.l 15) %[.expr (.bm .append (.l 16) %[.T %[.l 13,.l 14,.l 15|0]|0])|0] .nil) ss) ρ σ2 K:=by
 apply tF (k≠0) (hH Y) (λc=>?_) λc=>?_
 ·rw[az c,dw]at h;show oL (tV (i,j,k)) W Z (ev3 O U Y) (by rw[ai];show J) (mf h)
 ·rw[br (Classical.not_not.mp c),cy,zj Z]at h;show mf h
def CP {C:Cal}{U:St}{na nb t:Nat}{L:List T3}{ρ:Fr}{K:Fl->Fr->St->Prop}{again:Fr->St->Prop}(hn:U.L nl=none)(hL:L.length<400000)(ht:t<L.length)(I:J0 U x nl na nb L t ρ σ2)(ag:∀ρ' σ',J0 U x nl na nb L (t+1) ρ' σ'->again ρ' σ') :
  dt C (.cons (.C (.and (.c .eq (.b .add (.l 13) (.l 15)) (.l 17)) (.c .eq (.b .add (.l 14) (.l 15)) (.l 18))) %[.aug 15 .add (.l 19)|0]
   (.cons (.C (.l 15) %[.expr (.bm .append (.l 16) %[.T %[.l 13,.l 14,.l 15|0]|0])|0] .nil)
   %[.a [.T [13,14,15]] (.T %[.l 17,.l 18,.l 19|0])|0])) .nil) (gj [17,18,19] [.int L[t].1,.int L[t].2.1,.int L[t].2.2] ρ) σ2 (wm again K):=by
 have#[i,j,k,acc,H,kp,z,J,Z,W,Y,hm]:=I;rw[nz ht]at hm;generalize L[t]=u at *;have#[i2,j2,k2]:=u;have hm:acc++(if i+k=i2/\j+k=j2 then mrg i j (k+k2) (L.drop (t+1)) else if k=0 then mrg i2 j2 k2 (L.drop (t+1)) else (i,j,k)::mrg i2 j2 k2 (L.drop (t+1)))=mrg 0 0 0 L:=hm;apply tF (i+k=i2/\j+k=j2) (fK (DK (yn z Z) rfl) (DK (yn J Z) rfl)) (λc=>?_) λc=>?_
 ·rw[br c]at hm;apply#[_,Z,_,rfl,ag _ _ #[i,j,k+k2,acc,#[H.r0,H.r1,H.r2,H.r16],kp,z,J,rfl,W,Nat.le_succ_of_le Y,hm]]
 ·rw[az c]at hm;apply xE H.r16 z J Z W (by unfold aw;(show tq (.l .A .Q) .e (.l .B (.n 400000)) (.l .C .B) (.k .A .C) hL ht Y)) ?_;apply tE [.int i2,.int j2,.int k2] rfl rfl (oK (mf (ag _ _ #[i2,j2,k2,acc++(if k=0 then [] else [(i,j,k)]),#[H.r0,H.r1,H.r2,H.r16],kp.cu hn,rfl,rfl,rfl,ay _ _ _,?_,?_])))
  ·rw[cv];by_cases c0:k=0
   ·rw[br c0];show acc.length+0<=_;(show cg (.k (.a .A .O) .P) .a .A Y)
   ·rw[az c0];show acc.length+1<=_;(show cg (.k .L .P) .a .A Y)
  ·rw[<- hm];by_cases c0:k=0
   ·rw[br c0,br c0,cy]
   ·rw[az c0,az c0,jq];rfl
def HY {C:Cal}{σ Z:St}{d:Addr}{f:Nat->Option V}{na nb:Nat}{acc:List T3}{ρ:Fr}{Q:V->St->Prop}(hI:σ.I x=some (d,f))(B:Kp σ Z)(H:R7 ρ x nl na nb)(hn:σ.L nl=none)(hl:acc.length<aw)(W:Z.L nl=some (acc.map tV))
  (h:∀c σ',Kp σ σ'->σ.L c=none->σ'.L c=some ((acc++[(na,nb,0)]).map mV)->Q (.L c) (σ'.ir x d (upd f 4 (.L c)))) :
  dt C (.cons (.expr (.bm .append (.l 16) %[.T %[.l 1,.l 2,.int 0|0]|0]))
   %[.a [(.attr (.l 0) 4)] (.M (.l 16)),.ret (.attr (.l 0) 4)|0]) ρ Z (mQ Q):=by
 apply oL (tV (na,nb,0)) H.r16 W (ev3 H.r1 H.r2 rfl) (by rw[ai];show hl) ?_;rw[show acc.map tV++[tV (na,nb,0)]=(acc++[(na,nb,0)]).map tV from by rw[dw];rfl];apply#[_,H.r16,nl,(acc++[(na,nb,0)]).map λt:T3=>[V.int t.1,V.int t.2.1,V.int t.2.2],rfl,(by rw[lp];show ay _ _ _),(by intro t ht;have#[u,_,rfl]:=bg.mp ht;rfl),λc O=>?_];have U:c≠nl:=λq=>by
  rw[q]at O;have:upd Z.L nl _ nl=none:=O;rw[ay]at this;cases this
 have Y:σ.L c=none:=by
  have:upd Z.L nl _ c=none:=O;rw[bh U]at this;show B.noL this
 rw[lp];have z:Kp σ ((Z.cu nl ((acc++[(na,nb,0)]).map tV)).cu c ((acc++[(na,nb,0)]).map mV)):=(B.cu hn).cu Y;have J:((Z.cu nl ((acc++[(na,nb,0)]).map tV)).cu c ((acc++[(na,nb,0)]).map mV)).I x=some (d,f):=(ez z.I x).trans hI;apply#[_,H.r0,x,d,f,rfl,J,_,H.r0,x,d,upd f 4 (.L c),_,rfl,ay _ _ _,ay _ _ _,h c _ z Y (ay _ _ _)]
def Q4 {P:Nat->Option Fn}(hP:P 6=some fn6){n:Nat}{σ:St}{la lb:V}{d:Addr}{f:Nat->Option V}{as bs:List Key}{F:Nat->Nat->Nat->Nat->T3->Prop}{Q:V->St->Prop}
  (z:F8 P n σ x as bs F) (hI:σ.I x=some (d,f)) (f1:f 1=some la) (f2:f 2=some lb) (f4:f 4=some .none) (cc:wd σ la=some (as.map Key.v)) (cb:wd σ lb=some (bs.map Key.v)) (hs:bs.length<400000) (ao:as.length<64)
  (h:∀σ' c L,Kp σ σ'->xr F 0 as.length 0 bs.length L->σ.L c=none->σ'.L c=some ((mrg 0 0 0 L++[(as.length,bs.length,0)]).map mV)->Q (.L c) (σ'.ir x d (upd f 4 (.L c)))):ef P (n+2) 6 [.obj x] σ Q:=by
 apply#[fn6,hP,av 1,av 1,?_];have h0:frameOf fn6 [.obj x] 0=some (.obj x):=rfl;generalize frameOf fn6 [.obj x]=ρ at h0;apply#[.obj x,h0,x,d,f,.none,rfl,hI,f4,?_];apply JO (C:=ef P (n+1)) (λ_ q=>cV h0 hI f1 q) cc (fk (iz ao) (by decide)) ?_;apply JO (C:=ef P (n+1)) (λ_ q=>cV h0 hI f2 q) cb (fk (iz hs) (by decide)) #[aq rfl,?_];apply#[_,rfl,rfl,?_];apply#[_,rfl,_,rfl,aq rfl,aq rfl,λql be=>?_];apply#[aq rfl,λml bd=>?_];have ar:ql≠ml:=λq=>by
  rw[<- q]at bd;have:upd σ.L ql _ ql=none:=bd;rw[ay]at this;cases this
 have N:QN σ ql ml:=#[ar,be,(bh (kz ar)).symm.trans bd];apply#[2*as.length+2,nN (IZ σ x ql ml as bs F) ?_ (2*as.length+2) (2*as.length+1) (qi _) ?_]
 ·rintro w ρ' σ' ⟨q,mb,H,rfl,S,hw,bR,J⟩ again ca;apply#[_,H.r3,_,S.q,?_];rcases List.eq_nil_or_concat q with rfl|⟨q,r,rfl⟩
  ·apply za ?_;have#[L,bL,pL]:=J [] .nil;rw[gK,cy]at pL;have W:=bL.ok λ_ _ _ _ _ h=>z.within h;have Z:L.length<64:=by have:=iA (lo:=0) W.1 W.2 (λ_ _=>dj _) (dj _);(show mn (.l .A (.n 64)) .b (.l .B (.n 64)) (.k (.a .O .A) .B) ao this)
   apply#[_,H.r4,(by show(σ'.L ml).isSome=true;rw[S.m];rfl),mb.map zT,(by rw[S.m,lp];rfl),(by rw[ai,<- pL.length_eq];show Z),rfl,?_];rw[N8 pL W.2 λt ht=>(W.1 t ht).2];have S1:=S.setM N L;generalize (σ'.cu ml (L.map mV))=σ1 at S1;apply#[aq rfl,λnl Y=>?_];have bv:ml≠nl:=λq=>by rw[<- q,S1.m]at Y;cases Y
   apply#[_,H.r4,L.map mV,(bh bv).trans S1.m,?_];apply pv (J0 σ1 x nl as.length bs.length L) ?_ ?_ #[0,0,0,[],#[H.r0,H.r1,H.r2,rfl],(Kp.refl _).cu Y,rfl,rfl,rfl,ay _ _ _,av _,rfl]
   ·intro t v ag σ2 hv I;have ht:t<L.length:=(ai (f:=mV) (as:=L))▸(cf.mp hv).1;rw[bw,cm ht]at hv;have zz:=af hv
    try clear hv
    have rfl:=zz;have I':=I;have#[_,_,_,_,_,kp,_]:=I';apply#[kp.L _ _ S1.m,λkk bM=>#[_,AR,rfl,CP Y (fy Z (by decide)) ht I bM]]
   ·intro ag σ2 zz;have#[i,j,k,acc,H2,kp,r13,r14,r15,bn,U,hm]:=zz;rw[ai]at hm U;rw[List.drop_length]at hm;apply#[kp.L _ _ S1.m,?_];have bl:=S1.kp.noL Y;apply xE H2.r16 r13 r14 r15 bn (by unfold aw;(show mn (.l .A .Q) .b (.l .B (.n 64)) .A Z U)) ?_;have hm:acc++(if k=0 then [] else [(i,j,k)])=mrg 0 0 0 L:=hm;have hl:(mrg 0 0 0 L).length<aw:=by
     rw[<- hm,cv];by_cases c0:k=0
     ·rw[br c0];show acc.length+0<_;unfold aw;(show mn (.l (.a .A .O) .Q) .b (.l .B (.n 64)) .A Z U)
     ·rw[az c0];show acc.length+1<_;unfold aw;(show mn (.l .L .Q) .b (.l .B (.n 64)) .A Z U)
    rw[hm];show HY hI ((S1.kp.trans kp).cu bl) H2 bl hl (ay _ _ _) λc bu k4 hc e=>h bu c L k4 bL hc e
  ·rw[List.concat_eq_append]at *;have:((q++[r]).map qV).isEmpty=false:=by rw[dw];cases q<;>rfl
   rw[this];apply bB ?_;show DE (by rw[hI];rfl) z (fy ao (by decide)) N H S hw bR J λw ag σ2 lt I=>ca w ag σ2 lt I
 ·apply#[[(0,as.length,0,bs.length)],[],#[h0,rfl,rfl,rfl,rfl],?_,#[((Kp.refl σ).cu be).cu N.m,(bh ar).trans (ay _ _ _),ay _ _ _],?_,?_,j6.start]
  ·simp[qw]
  ·simp[qw]
  ·intro r hr;rw[ax.mp hr];apply#[dj _,dj _,av _,av _]
end SM
end MP
end
section
namespace MP
namespace SM
set_option genInjectivity false
set_option genSizeOf false
open PySem
variable {σ:St}{db x sj:Addr}{alo blo i j:Nat}{as bs:List Key}{la lb:V}
abbrev qE (σ:St)(db:Addr):Prop:=∃es,σ.D db=some es/\∀k,es.lookup k=none\/∃c ps,es.lookup k=some (.L c)/\σ.L c=some ((ps:List Nat).map λj:Nat=>V.int j)/\ps.length<aw
def qE.keep {σ':St}(h:qE σ db)(Z:∀a xs,σ.L a=some xs->σ'.L a=some xs)(Y:∀a es,σ.D a=some es->σ'.D a=some es):qE σ' db:=by
 have#[es,U,W]:=h;apply#[es,Y _ _ U,λk=>(W k).imp_right λ⟨c,ps,I,J,O⟩=>#[c,ps,I,Z _ _ J,O]]
def qE.get {nl:Addr}(h:qE σ db)(Y:σ.L nl=some [])(k:Key):∃es c ps,σ.D db=some es/\(es.lookup k).getD (.L nl)=.L c/\σ.L c=some ((ps:List Nat).map λj:Nat=>V.int j)/\ps.length<aw:=by
 have#[es,Z,W]:=h;rcases W k with e|⟨c,ps,J,O,U⟩
 ·apply#[es,nl,[],Z,by rw[e];rfl,Y,aq rfl]
 ·apply#[es,c,ps,Z,by rw[J];rfl,O,U]
abbrev t9 (alo blo i:Nat)(es:List (Key×V)):Prop:=∀j:Nat,blo<=j->∃k:Nat,(es.lookup (.int ((j:Int)-1))).getD (.int 0)=.int k/\k+alo<=i/\k+blo<=j
def t9.nil (h:alo<=i):t9 alo blo i []:=λj Z=>#[0,rfl,by show cg (.k (.a .O .A) .B) .a .A h,by show cg (.k (.a .O .A) .B) .a .A Z]
def t9.put {k:Nat}{es:List (Key×V)}(h:t9 alo blo (i+1) es)(O:k+alo<=i)(W:k+blo<=j):t9 alo blo (i+1) (putD es (.int j) (.int ((k+1:Nat):Int))):=by
 intro Y Z;rw[eG];by_cases c:Y=j+1
 ·subst c;rw[br (by congr 1;(show oo (.ie (.s (.t .L) .U) (.t .A)) [[1],[1]]))];apply#[k+1,rfl,by show gz (.k (.a .L .B) .S) .a (.k .M .C) O,by show gz (.k (.a .L .B) .S) .a (.k .M .C) W]
 ·rw[az (λq=>c (by injection q;(show cg (.e .A .P) [[1,-1],[1,1]] (.ie (.s (.t .A) .U) (.t .B)) i_eq)))];show h Y Z
structure Gc where
 σ₀:St
 la:V
 lb:V
 db:Addr
 sj:Addr
 nl:Addr
 alo:Nat
 ahi:Nat
 blo:Nat
 bhi:Nat
public abbrev Gc.F (c:Gc)(ρ:Fr):Prop:=FF ρ c.la c.lb c.db c.sj c.alo c.ahi c.blo c.bhi
abbrev Gc.I (c:Gc)(i j k:Nat):Prop:=c.alo<=i/\i+k<=c.ahi/\c.blo<=j/\j+k<=c.bhi
inductive GI (c:Gc)(i:Nat)(cd nd:Addr)(es:List (Key×V))(t:Nat)(ρ:Fr)(σ:St):Prop
 |mk (bi bj bk:Nat) (fs:List (Key×V)) (len:fs.length<=t) (k:Kp c.σ₀ σ) (F:c.F ρ) (B:FB ρ bi bj bk) (hcd:σ.D cd=some es) (hnd:σ.D nd=some fs)
  (r13:ρ 13=some (.L c.nl)) (r14:ρ 14=some (.int i)) (r15:ρ 15=some (.eM cd)) (r16:ρ 16=some (.dct nd)) (row:t9 c.alo c.blo (i+1) fs) (sc:c.I bi bj bk):GI c i cd nd es t ρ σ
def M3 {C:Cal}{c:Gc}{t:Nat}{cd nd:Addr}{es:List (Key×V)}{ρ:Fr}{kk:Fr->St->Prop}{K:Fl->Fr->St->Prop}(ao:cd≠nd)(ag:c.σ₀.D nd=none)(hi:i<c.ahi)(ht:t<aw)(z:t9 c.alo c.blo i es)(I:GI c i cd nd es t ρ σ)(hk:∀ρ' σ',GI c i cd nd es (t+1) ρ' σ'->kk ρ' σ')(hf:∀ρ' σ',GI c i cd nd es (t+1) ρ' σ'->K .next ρ' σ') :
  dt C nU (upd ρ 17 (.int j)) σ (wm kk K):=by
 cases I;have F1:c.F (upd ρ 17 (.int (j:Int))):=F.up (by decide);have B1:FB (upd ρ 17 (.int (j:Int))) bi bj bk:=B.up (by decide);apply#[.int j,rfl,.int c.blo,F1.r3,?_];show(if decide ((j:Int)<c.blo)=true then _ else _);have same:GI c i cd nd es (t+1) (upd ρ 17 (.int (j:Int))) σ:=.mk bi bj bk fs (cg (.k .A .P) .a .A len) k F1 B1 hcd hnd r13 r14 r15 r16 row sc;by_cases c1:j<c.blo
 ·rw[br (by simpa using c1)];show hk _ _ same
 rw[az (by simpa using c1)];apply#[.int j,rfl,.int c.bhi,F1.r4,?_];show(if decide ((c.bhi:Int)<=j)=true then _ else _);by_cases c2:c.bhi<=j
 ·rw[br (by simpa using c2)];show hf _ _ same
 rw[az (by simpa using c2)];clear same;have#[m,hm,H,J]:=z j (cg .A .a (.g .B .A) c1);apply#[.eM cd,r15,.int j,rfl,es,.int ((j:Int)-1),hcd,rfl,?_];rw[hm];apply#[.dct nd,r16,.int j,rfl,fs,.int j,hnd,rfl,by show gr .B .b (.l .C .B) (.k .A .C) ht len,?_];show dt C _ (upd (upd ρ 17 (.int (j:Int))) 18 (V.int ((m+1:Nat):Int))) (σ.jr nd (putD fs (.int j) (V.int ((m+1:Nat):Int)))) _;have F2:c.F (upd (upd ρ 17 (.int (j:Int))) 18 (.int ((m+1:Nat):Int))):=F1.up (by decide);have B2:FB (upd (upd ρ 17 (.int (j:Int))) 18 (.int ((m+1:Nat):Int))) bi bj bk:=B1.up (by decide);have k2:Kp c.σ₀ (σ.jr nd (putD fs (.int j) (.int ((m+1:Nat):Int)))):=k.jr ag;have O:(σ.jr nd (putD fs (.int j) (.int ((m+1:Nat):Int)))).D cd=some es:=(bh ao).trans hcd;have W:(σ.jr nd (putD fs (.int j) (.int ((m+1:Nat):Int)))).D nd=some (putD fs (.int j) (.int ((m+1:Nat):Int))):=ay _ _ _;have Z:(putD fs (.int j) (.int ((m+1:Nat):Int))).length<=t+1:=fk rF (Nat.succ_le_succ len);have Y:=row.put H J;have r14:upd (upd ρ 17 (.int (j:Int))) 18 (.int ((m+1:Nat):Int)) 14=some (.int i):=r14;have r16:upd (upd ρ 17 (.int (j:Int))) 18 (.int ((m+1:Nat):Int)) 16=some (.dct nd):=r16;have r15:upd (upd ρ 17 (.int (j:Int))) 18 (.int ((m+1:Nat):Int)) 15=some (.eM cd):=r15;have r13:upd (upd ρ 17 (.int (j:Int))) 18 (.int ((m+1:Nat):Int)) 13=some (.L c.nl):=r13;have r17:upd (upd ρ 17 (.int (j:Int))) 18 (.int ((m+1:Nat):Int)) 17=some (.int j):=rfl;have r18:upd (upd ρ 17 (.int (j:Int))) 18 (.int ((m+1:Nat):Int)) 18=some (.int ((m+1:Nat):Int)):=rfl;generalize upd (upd ρ 17 (.int (j:Int))) 18 (.int ((m+1:Nat):Int))=ar at F2 B2 r13 r14 r15 r16 r17 r18 ⊢;generalize σ.jr nd (putD fs (.int j) (.int ((m+1:Nat):Int)))=σ2 at k2 O W ⊢;apply#[_,r18,.int bk,B2.r11,?_];show(if decide ((bk:Int)<((m+1:Nat):Int))=true then _ else _);by_cases c3:bk<m+1
 ·rw[br (cj (xv.mpr c3))];apply#[.int i,r14,_,r18,.int j,r17,_,r18,_,r18,aq rfl,_,rfl,rfl,?_];apply hk _ _ (.mk (i-m) (j-m) (m+1) _ Z k2 (((F2.up (by decide)).up (by decide)).up (by decide)) #[?_,?_,rfl] O W r13 r14 r15 r16 Y #[by show jm .A .d (.k (.a .C .A) .D) (.e (.a .B .C) .D) H (ae (gz .A .a (.k (.a .A .C) .B) H)),by show jm (.k (.a .A .P) .C) .b (.l .D .C) (.e .M .D) hi (ae (gz .A .a (.k (.a .A .C) .B) H)),by show jm .A .d (.k (.a .C .A) .D) (.e (.a .B .C) .D) J (ae (gz .A .a (.k (.a .A .C) .B) J)),by show jm (.k (.a .A .P) .C) .b (.j .C .D) (.e .M .D) c2 (ae (gz .A .a (.k (.a .A .C) .B) J))])
  ·show some (V.int ((i:Int)-((m+1:Nat):Int)+1))=_
   congr 2;(show gz (.ie (.a (.s (.t .A) (.t .P)) .U) (.t .C)) [[1,1],[1,-1]] (.e (.a .C .B) .A) (ae (gz .A .a (.k (.a .A .C) .B) H)))
  ·show some (V.int ((j:Int)-((m+1:Nat):Int)+1))=_
   congr 2;(show gz (.ie (.a (.s (.t .A) (.t .P)) .U) (.t .C)) [[1,1],[1,-1]] (.e (.a .C .B) .A) (ae (gz .A .a (.k (.a .A .C) .B) J)))
 ·rw[az (by rw[cw (λq=>c3 (xv.mp q))];decide)];show hk _ _ (.mk bi bj bk _ Z k2 F2 B2 O W r13 r14 r15 r16 Y sc)
inductive GO (c:Gc)(t:Nat)(ρ:Fr)(σ:St):Prop
 |mk (bi bj bk:Nat) (cd:Addr) (es:List (Key×V)) (k:Kp c.σ₀ σ) (F:c.F ρ) (r13:ρ 13=some (.L c.nl)) (B:FB ρ bi bj bk) (r12:ρ 12=some (.dct cd)) (hcd:σ.D cd=some es) (row:t9 c.alo c.blo (c.alo+t) es) (sc:c.I bi bj bk):GO c t ρ σ
structure Gk (c:Gc)(as:List Key):Prop where
 La:wd c.σ₀ c.la=some (as.map Key.v)
 T:qE c.σ₀ c.db
 n:c.σ₀.L c.nl=some []
 sa:as.length<=aw
 al:c.ahi<=as.length
def NY {C:Cal}{c:Gc}(ok:Gk c as){t:Nat}{ρ:Fr}{kk:Fr->St->Prop}{K:Fl->Fr->St->Prop}(ht:c.alo+t<c.ahi)(I:GO c t ρ σ)(hk:∀ρ' σ',GO c (t+1) ρ' σ'->kk ρ' σ') :
  dt C H6 (upd ρ 14 (.int ((c.alo+t:Nat):Int))) σ (wm kk K):=by
 cases I;apply#[_,r12,cd,rfl,by rw[hcd];rfl,λnd hnd=>?_];have W:cd≠nd:=λq=>by rw[q,hnd]at hcd;cases hcd
 have Y:=k.noD hnd;have al:=ok.al;have ea:as[c.alo+t]?=some as[c.alo+t]:=cm (jm (.l .M .C) .b (.l .M .D) (.k .D .C) ht al);have#[tb,l,ps,hD,hg,hc,ag]:=ok.T.get ok.n as[c.alo+t];have Z:Kp c.σ₀ (σ.jr nd []):=k.jr Y;apply#[.dct c.db,F.r7,(show((σ.jr nd []).D c.db).isSome=true by rw[Z.D _ _ hD];rfl),c.la,F.r5,.int ((c.alo+t:Nat):Int),rfl,?_];apply pI (uh Z.L ok.La) ok.sa rfl ea ?_;apply#[.L c.nl,r13,tb,as[c.alo+t],Z.D _ _ hD,rX _,?_];rw[hg];apply#[_,Z.L _ _ hc,?_];have fin:∀{z:Nat} {ρ':Fr} {σ':St},GI c (c.alo+t) cd nd es z ρ' σ'->dt C %[.a [(.v 12)] (.l 16)|0] ρ' σ' (wm kk K):=λI=>by
  cases I;apply#[_,r16,hk _ _ (.mk _ _ _ nd _ k_1 (F_1.up (by decide)) r13_1 (B_1.up (by decide)) rfl hnd_1 row_1 sc_1)]
 apply pv (λz ρ' σ'=>GI c (c.alo+t) cd nd es z ρ' σ') ?_ ?_ ?_
 ·intro z v ρ' σ' hv J;have O:=(cf.mp hv).1;rw[ai]at O;rw[bw]at hv;have#[j,e,rfl]:=gm.mp hv;have I2:=J;cases I2;apply#[k_1.L _ _ hc,λar ao=>M3 W Y ht (gr .B .b (.l .C .B) .H ag O) row J ao λρ' σ' I=>fin I]
 ·intro ρ' σ' J;have I2:=J;cases I2;apply#[k_1.L _ _ hc,fin J]
 ·show .mk bi bj bk [] (av _) Z (((F.up (by decide)).up (by decide)).up (by decide)) (((B.up (by decide)).up (by decide)).up (by decide)) ((bh W).trans hcd) (ay _ _ _) r13 rfl rfl rfl (.nil (n9 (.k .A (.a .M .U)) .f)) sc
def fI {as bs:List Key}{ok:Key->Bool}{alo blo:Nat}:∀{i j k:Nat},alo<=i->blo<=j->alo<=(eJ as bs ok alo blo i j k).1/\blo<=(eJ as bs ok alo blo i j k).2.1/\(eJ as bs ok alo blo i j k).1+(eJ as bs ok alo blo i j k).2.2=i+k/\(eJ as bs ok alo blo i j k).2.1+(eJ as bs ok alo blo i j k).2.2=j+k
 |0,j,k=>λY Z=>#[Y,Z,rfl,rfl]
 |i+1,0,k=>λY Z=>#[Y,Z,rfl,rfl]
 |i+1,j+1,k=>λY Z=>by
  rw[uY];split
  ·rename_i c;have:=fI (as:=as) (bs:=bs) (ok:=ok) (alo:=alo) (blo:=blo) (i:=i) (j:=j) (k:=k+1) (cg .A .a (.l .A .P) c.1) (cg .A .a (.l .A .P) c.2.1)
   (show#[(cg .A .a .A this.1),#[(cg .A .a .A this.2.1),#[(EN (.e .M (.a .S .D)) [[1,-1],[1,1]] (.e .M (.a .C (.a .D .U))) this.2.2.1),(EN (.e .M (.a .S .D)) [[1,-1],[1,1]] (.e .M (.a .C (.a .D .U))) this.2.2.2)]]])
  ·apply#[Y,Z,rfl,rfl]
def fH {ok:Key->Bool}{ahi bhi:Nat}:∀(n:Nat) {k:Nat},i+k<=ahi->j+k<=bhi->i+sG as bs ok ahi bhi n i j k<=ahi/\j+sG as bs ok ahi bhi n i j k<=bhi
 |0,k=>λW Y=>#[W,Y]
 |n+1,k=>λW Y=>by
  rw[uX];split
  ·show fH n (by(rename_i Z;show gz (.k (.a .A .P) .C) .a (.l .M .C) Z.1)) (by(rename_i Z;show gz (.k (.a .A .P) .C) .a (.l .M .C) Z.2.1))
  ·apply#[W,Y]
structure qH (σ:St)(x:Addr)(la lb:V)(db sj:Addr)(as bs js:List Key):Prop where
 I:∃d f,σ.I x=some (d,f)/\f 1=some la/\f 2=some lb/\f 7=some (.dct db)/\f 8=some (.set sj)
 La:wd σ la=some (as.map Key.v)
 Lb:wd σ lb=some (bs.map Key.v)
 T:qE σ db
 S:σ.S sj=some js
def qH.keep {σ':St}{js:List Key}(h:qH σ x la lb db sj as bs js)(k:Kp σ σ'):qH σ' x la lb db sj as bs js:=
 #[by rw[k.I];show h.I,uh k.L h.La,uh k.L h.Lb,h.T.keep k.L k.D,by rw[k.S];show h.S]
def Q5 {P:Nat->Option Fn}(hP:P 5=some fn5){n:Nat}{σ:St}{as bs js:List Key}{Q:V->St->Prop}{ahi bhi:Nat}
  (hM:qH σ x la lb db sj as bs js) (ha:∀k∈as,tg k) (hb:∀k∈bs,tg k) (hs:bs.length<aw) (ag:as.length<aw)
  (bn:alo<=ahi) (bR:blo<=bhi) (W:ahi<=as.length) (ao:bhi<=bs.length)
  (h:∀σ' i j k,Kp σ σ'->Within alo ahi blo bhi (i,j,k)->Q (mV (i,j,k)) σ'):ef P (n+1) 5 [.obj x,.int alo,.int ahi,.int blo,.int bhi] σ Q:=by
 apply#[fn5,hP,aq rfl,aq rfl,?_];have#[d,f,hI,f1,f2,f7,f8]:=hM.I;have h0:frameOf fn5 [.obj x,.int alo,.int ahi,.int blo,.int bhi] 0=some (.obj x):=rfl;have h1:frameOf fn5 [.obj x,.int alo,.int ahi,.int blo,.int bhi] 1=some (.int alo):=rfl;have h2:frameOf fn5 [.obj x,.int alo,.int ahi,.int blo,.int bhi] 2=some (.int ahi):=rfl;have h3:frameOf fn5 [.obj x,.int alo,.int ahi,.int blo,.int bhi] 3=some (.int blo):=rfl;have h4:frameOf fn5 [.obj x,.int alo,.int ahi,.int blo,.int bhi] 4=some (.int bhi):=rfl;generalize frameOf fn5 [.obj x,.int alo,.int ahi,.int blo,.int bhi]=ρ at h0 h1 h2 h3 h4;apply cV h0 hI f1 ?_;apply cV h0 hI f2 ?_;apply cV h0 hI f7 ?_;apply cV h0 hI f8 ?_;apply#[sj,rfl,by rw[hM.S];rfl,aq rfl,?_];apply#[_,rfl,rfl,?_];apply#[_,h2,?_];apply#[_,h4,?_];apply#[_,h1,_,h3,aq rfl,_,rfl,rfl,?_];apply λd0 ca=>?_;apply#[aq rfl,λnl bL=>?_];apply#[_,h1,_,h2,(alo:Int),(ahi:Int),rfl,rfl,K3 (fk bn W) ag,K3 W ag,?_];generalize Z:((σ.jr d0 []).cu nl [])=σ₀;have k0:Kp σ σ₀:=by
  rw[<- Z];show((Kp.refl σ).jr ca).cu (by show bL)
 have J:=hM.keep k0;have bM:σ₀.L nl=some []:=by rw[<- Z];show ay _ _ _
 have bu:σ₀.D d0=some []:=by rw[<- Z];show ay _ _ _
 have ok:Gk #[σ₀,la,lb,db,sj,nl,alo,ahi,blo,bhi] as:=#[J.La,J.T,bM,iz ag,W];apply pv (GO #[σ₀,la,lb,db,sj,nl,alo,ahi,blo,bhi]) ?_ ?_ ?_
 ·intro t v ρ' σ' hv I;have#[ht,rfl]:=nT hv;apply#[trivial,λk hk=>NY ok ht I hk]
 ·intro ρ' σ' I;have#[bi,bj,bk,cd,es,kk,F,cc,B,ch,ck,cb,bv]:=I;have#[w1,w2,w3,w4]:=bv;have w1:alo<=bi:=w1;have w2:bi+bk<=ahi:=w2;have w3:blo<=bj:=w3;have w4:bj+bk<=bhi:=w4;apply#[trivial,?_];have ar:=uh kk.L J.La;have O:=uh kk.L J.Lb;have zs:=iz hs;have z:=iz ag;have hS:σ'.S sj=some js:=by rw[kk.S];show J.S
  have bd:∀(ρ:Fr) (e:Ex) (j:Nat) (b:Key) (Q:Bool->St->Prop),ρ 8=some (.dY sj)->bs[j]?=some b->(∀Q:V->St->Prop,Q (.int j) σ'->wpE (ef P n) e ρ σ' Q)->ρ 6=some lb->Q (!decide (b∈js)) σ'->wpT (ef P n) (.not (.w 8 %[.sub (.l 6) e|0])) ρ σ' Q:=λρ e j b Q r8 H he r6 q=>by
   apply#[_,r8,_,r6,he _ ?_];show pI O zs rfl H #[js,b,hS,rX _,q]
  have bl:∀(ρ:Fr) (e:Ex) (j:Nat) (b:Key) (Q:Bool->St->Prop),ρ 8=some (.dY sj)->bs[j]?=some b->(∀Q:V->St->Prop,Q (.int j) σ'->wpE (ef P n) e ρ σ' Q)->ρ 6=some lb->Q (decide (b∈js)) σ'->wpT (ef P n) (.w 8 %[.sub (.l 6) e|0]) ρ σ' Q:=λρ e j b Q r8 H he r6 q=>by
   apply#[_,r8,_,r6,he _ ?_];show pI O zs rfl H #[js,b,hS,rX _,q]
  have left:∀(ρ:Fr) (j:Nat),ρ 10=some (.int ((j+1:Nat):Int))->∀Q:V->St->Prop,Q (.int j) σ'->wpE (ef P n) (.b .sub (.l 10) (.int 1)) ρ σ' Q:=λρ j r Q q=>by
   apply#[_,r,?_];have e:((j+1:Nat):Int)-1=(j:Int):=by(show oo (.ie (.s (.t .L) .U) (.t .A)) [[1],[1]])
   show Q (.int _) σ';rw[e];show q
  have right:∀(ρ:Fr) (j k:Nat),ρ 10=some (.int (j:Int))->ρ 11=some (.int (k:Int))->∀Q:V->St->Prop,Q (.int ((j+k:Nat):Int)) σ'->wpE (ef P n) (.b .add (.l 10) (.l 11)) ρ σ' Q:=λρ j k r r' Q q=>#[_,r,_,r',q];have#[l1,l2,l3,l4]:=fI (as:=as) (bs:=bs) (ok:=λc=>!decide (c∈js)) (k:=bk) w1 w3;apply JR (σ:=σ') (js:=js) (ok:=λc=>!decide (c∈js)) ar O ha hb z zs (λρ j b Q F Y H q=>bd ρ _ j b Q F.r8 H (left ρ j Y) F.r6 q) (i:=bi) (j:=bj) (k:=bk) (by(rename_i z3 z2 z1;show jm .A .b .F (.k (.a .A .D) .C) W z3)) (by(rename_i z1;show jm .A .b .F (.k (.a .A .D) .C) ao z1)) (λρ F B=>?_) F B;generalize eJ as bs (λc=>!decide (c∈js)) alo blo bi bj bk=p at l1 l2 l3 l4 B;have#[i1,j1,k1]:=p;dsimp only at l1 l2 l3 l4 B;have#[m1,m2]:=fH (as:=as) (bs:=bs) (ok:=λc=>!decide (c∈js)) (ahi:=ahi) (bhi:=bhi) (ahi-i1) (i:=i1) (j:=j1) (k:=k1) (by(rename_i z3 z2 z1;show qD (.k .M .C) .b (.k (.a .D .F) .C) (.e .M (.a .D .F)) z3 l3)) (by(rename_i z1;show qD (.k .M .C) .b (.k (.a .D .F) .C) (.e .M (.a .D .F)) z1 l4));apply JQ (σ:=σ') (js:=js) (ok:=λc=>!decide (c∈js)) (.inl rfl) ar O ha hb W ao z zs (λρ j k b Q F Y be H q=>bd ρ _ (j+k) b Q F.r8 H (right ρ j k Y be) F.r6 q) (λρ F B=>?_) F B;generalize sG as bs (λc=>!decide (c∈js)) ahi bhi (ahi-i1) i1 j1 k1=k2 at m1 m2 B;have#[n1,n2,n3,n4]:=fI (as:=as) (bs:=bs) (ok:=λc=>decide (c∈js)) (k:=k2) l1 l2;apply JR (σ:=σ') (js:=js) (ok:=λc=>decide (c∈js)) ar O ha hb z zs (λρ j b Q F Y H q=>bl ρ _ j b Q F.r8 H (left ρ j Y) F.r6 q) (i:=i1) (j:=j1) (k:=k2) (by(rename_i z6 z5 z4 z3 z2 z1;show Ar.a3 [] [_,_,_,_,_,_] .A .e .F (.k (.a .D .F) .C) (.e (.a .A .G) (.a .D .F)) W z6 l3)) (by(rename_i z4 z3 z2 z1;show Ar.a3 [] [_,_,_,_,_,_] .A .e .F (.k (.a .D .F) .C) (.e (.a .A .G) (.a .D .F)) ao z4 l4)) (λρ F B=>?_) F B;generalize eJ as bs (λc=>decide (c∈js)) alo blo i1 j1 k2=p at n1 n2 n3 n4 B;have#[i3,j3,k3]:=p;dsimp only at n1 n2 n3 n4 B;have#[o1,o2]:=fH (as:=as) (bs:=bs) (ok:=λc=>decide (c∈js)) (ahi:=ahi) (bhi:=bhi) (ahi-i3) (i:=i3) (j:=j3) (k:=k3) (qD (.k .M .C) .b (.k (.a .D .F) .C) (.e .M (.a .D .F)) m1 n3) (qD (.k .M .C) .b (.k (.a .D .F) .C) (.e .M (.a .D .F)) m2 n4);apply JQ (σ:=σ') (js:=js) (ok:=λc=>decide (c∈js)) (.inr rfl) ar O ha hb W ao z zs (λρ j k b Q F Y be H q=>bl ρ _ (j+k) b Q F.r8 H (right ρ j k Y be) F.r6 q) (λρ F B=>?_) F B;apply#[_,B.r9,_,B.r10,_,B.r11,?_];show h σ' i3 j3 _ (k0.trans kk) #[n1,o1,n2,o2]
 ·apply .mk alo blo 0 d0 [] (Kp.refl _) ?_ rfl #[rfl,rfl,rfl] rfl bu (.nil (gI _ _)) #[av _,bn,av _,bR];apply#[h1,h2,h3,h4,rfl,rfl,rfl,rfl]
def I3 {P:Nat->Option Fn}(W:P 5=some fn5){n:Nat}{js:List Key}(J:qH σ x la lb db sj as bs js)(O:∀k∈as,tg k)(hb:∀k∈bs,tg k)(U:bs.length<400000)(Y:as.length<400000):F8 P n σ x as bs λalo ahi blo bhi t=>Within alo ahi blo bhi t where
 call:=λσ' alo ahi blo bhi Q k Z h=>Q5 W (J.keep k) O hb (by unfold aw;(show fb (.l .A .Q) .a (.l .A (.n 400000)) U)) (by unfold aw;(show fb (.l .A .Q) .a (.l .A (.n 400000)) Y)) Z.1 Z.2.1 Z.2.2.1 Z.2.2.2 λσ2 i j kk k2 w=>h σ2 i j kk k2 w
 within:=λh=>h
end SM
end MP
end
section
namespace MP
open PySem
variable {σ:St}
structure Ext (σ σ':St):Prop where
 L:∀a xs,σ.L a=some xs->σ'.L a=some xs
 D:∀a es,σ.D a=some es->σ'.D a=some es
 S:∀a es,σ.S a=some es->σ'.S a=some es
 I:∀a es,σ.I a=some es->σ'.I a=some es
def Ext.refl (σ:St):Ext σ σ:=#[λ_ _ e=>e,λ_ _ e=>e,λ_ _ e=>e,λ_ _ e=>e]
def Kp.ext {σ':St}(h:Kp σ σ'):Ext σ σ':=#[h.L,h.D,λ_ _ e=>by rw[h.S];show e,λ_ _ e=>by rw[h.I];show e]
def Ext.noL {σ₁:St}(h:Ext σ σ₁){c:Addr}(Z:σ₁.L c=none):σ.L c=none:=by
 cases q:σ.L c with
 |none=>rfl
 |some xs=>rw[h.L _ _ q]at Z;cases Z
def AO {α:Type}{f g:Nat->Option α}(h:∀a x,f a=some x->g a=some x){c:Nat}{x:α}(Z:f c=none):∀a y,f a=some y->upd g c x a=some y:=λa y e=>by
 have:a≠c:=λq=>by rw[q,Z]at e;cases e
 rw[bh this];show h a y e
def Ext.cu {σ₁:St}(h:Ext σ σ₁){c:Addr}{xs:List V}(Z:σ.L c=none):Ext σ (σ₁.cu c xs):=#[AO h.L Z,h.D,h.S,h.I]
namespace SM
end SM
structure cC (x:Addr)(σ σ':St):Prop where
 L:∀a xs,σ.L a=some xs->σ'.L a=some xs
 D:∀a es,σ.D a=some es->σ'.D a=some es
 S:∀a es,σ.S a=some es->σ'.S a=some es
 I:∀a es,a≠x->σ.I a=some es->σ'.I a=some es
def Ext.x {σ σ':St}{x:Addr}(h:Ext σ σ'):cC x σ σ':=#[h.L,h.D,h.S,λa es _ e=>h.I a es e]
def cC.trans {x:Addr}{σ σ₁ σ₂:St}(h:cC x σ σ₁)(h':cC x σ₁ σ₂):cC x σ σ₂:=#[λ_ _ e=>h'.L _ _ (h.L _ _ e),λ_ _ e=>h'.D _ _ (h.D _ _ e),λ_ _ e=>h'.S _ _ (h.S _ _ e),λ_ _ n e=>h'.I _ _ n (h.I _ _ n e)]
def cC.ir {x d:Addr}{f:Nat->Option V}{σ σ₁:St}(h:cC x σ σ₁):cC x σ (σ₁.ir x d f):=#[h.L,h.D,h.S,λa es n e=>(bh n).trans (h.I a es n e)]
namespace SM
open PySem
def O5:=Str×Nat×Nat×Nat×Nat
abbrev oV (t:O5):V:=.T [.str t.1,.int t.2.1,.int t.2.2.1,.int t.2.2.2.1,.int t.2.2.2.2]
abbrev chg (i a j b:Nat):List O5:=if i<a/\j<b then [("replace",i,a,j,b)] else if i<a then [("delete",i,a,j,b)] else if j<b then [("insert",i,a,j,b)] else []
abbrev eql (a b s:Nat):List O5:=if s=0 then [] else [("equal",a,a+s,b,b+s)]
abbrev codes:Nat->Nat->List T3->List O5
 |_,_,[]=>[]
 |i,j,t::r=>chg i t.1 j t.2.1++(eql t.1 t.2.1 t.2.2++codes (t.1+t.2.2) (t.2.1+t.2.2) r)
def IT (i a j b:Nat):(chg i a j b).length<=1:=by
 unfold chg;split
 ·show av _
 ·split
  ·show av _
  ·split
   ·show av _
   ·show dj _
def I9 (a b s:Nat):(eql a b s).length<=1:=by
 unfold eql;split
 ·show dj _
 ·show av _
section
variable {C:Cal}{σ:St}{ρ:Fr}{K:Fl->Fr->St->Prop}{ss:jo}{al:Addr}{acc:List O5}{i j a b s:Nat}
def ev5 {O U W Y Z:Ex}{t:Str}(z:evV σ ρ O=some (.str t))(B:evV σ ρ U=some (.int i))(H:evV σ ρ W=some (.int a))(I:evV σ ρ Y=some (.int j))(J:evV σ ρ Z=some (.int b)) :
  evV σ ρ (.T %[O,U,W,Y,Z|0])=some (oV (t,i,a,j,b)):=by
 rw[aS,ic,z,ic,B,ic,H,ic,I,ic,J];rfl
structure R8o (ρ:Fr)(x al:Addr)(i j a b s:Nat):Prop where
 r0:ρ 0=some (.obj x)
 r1:ρ 1=some (.int i)
 r2:ρ 2=some (.int j)
 r3:ρ 3=some (.L al)
 r4:ρ 4=some (.int a)
 r5:ρ 5=some (.int b)
 r6:ρ 6=some (.int s)
def oQ {x:Addr}{t:Str}(H:R8o ρ x al i j a b s)(Z:ρ 7=some (.str t))(Y:Nat.ble t.cps.size aw=true)(W:(t.cps.size != 0)=true)(O:σ.L al=some (acc.map oV))(U:acc.length<aw)
  (h:dt C ss ρ (σ.cu al ((acc++[(t,i,a,j,b)]).map oV)) K) :
  dt C (.cons (.C (.l 7) %[.expr (.bm .append (.l 3) %[.T %[.l 7,.l 1,.l 4,.l 2,.l 5|0]|0])|0] .nil) ss) ρ σ K:=by
 apply#[_,Z,aq Y,?_];rw[W];apply bB (oL (oV (t,i,a,j,b)) H.r3 O (ev5 Z H.r1 H.r4 H.r2 H.r5) (by rw[ai];show U) (mf ?_));rw[dw]at h;show h
def AZ {t:Ex}{e:jo}(Z:ρ 7=some (.str ""))(h:dt C ss ρ σ K):dt C (.cons (.C (.l 7) e .nil) ss) ρ σ K:=by
 apply#[_,Z,dj _,?_];show za (mf h)
def IU {x:Addr}(H:R8o ρ x al i j a b s)(W:ρ 7=some (.str ""))(Z:σ.L al=some (acc.map oV))(Y:acc.length<aw)
  (h:∀ρ',R8o ρ' x al i j a b s->dt C ss ρ' (σ.cu al ((acc++chg i a j b).map oV)) K) :
  dt C (.cons (.C (.and (.c .lt (.l 1) (.l 4)) (.c .lt (.l 2) (.l 5))) (.cons (.a [(.v 7)] (.str "replace"))
 .nil) (.cons (.C (.c .lt (.l 1) (.l 4)) (.cons (.a [(.v 7)] (.str "delete"))
 .nil) (.cons (.C (.c .lt (.l 2) (.l 5)) (.cons (.a [(.v 7)] (.str "insert"))
 .nil) .nil)
 .nil))
 .nil))
 (.cons (.C (.l 7) (.cons (.expr (.bm .append (.l 3) %[.T %[.l 7,.l 1,.l 4,.l 2,.l 5|0]|0]))
 .nil) .nil) ss)) ρ σ K:=by
 have up:∀v,R8o (upd ρ 7 v) x al i j a b s:=λv=>#[H.r0,H.r1,H.r2,H.r3,H.r4,H.r5,H.r6];unfold chg at h;apply tF (i<a/\j<b) (fK (bW H.r1 H.r4) (bW H.r2 H.r5)) (λc=>?_) λc=>?_
 ·rw[br c]at h;show tD (.str "replace") rfl (mf (oQ (up _) rfl (by decide +kernel) (by decide +kernel) Z Y (h _ (up _))))
 ·rw[az c]at h;apply tF (i<a) (bW H.r1 H.r4) (λc=>?_) λc=>?_
  ·rw[br c]at h;show tD (.str "delete") rfl (oK (mf (oQ (up _) rfl (by decide +kernel) (by decide +kernel) Z Y (h _ (up _)))))
  ·rw[az c]at h;apply tF (j<b) (bW H.r2 H.r5) (λc=>?_) λc=>?_
   ·rw[br c]at h;show tD (.str "insert") rfl (oK (oK (mf (oQ (up _) rfl (by decide +kernel) (by decide +kernel) Z Y (h _ (up _))))))
   ·rw[az c,cy,zj Z]at h;show oK (oK (mf (AZ (t:=.none) W (h _ H))))
def IA {x:Addr}(H:R8o ρ x al i j a b s)(Z:σ.L al=some (acc.map oV))(Y:acc.length<aw)
  (h:∀ρ',ρ' 0=some (.obj x)->ρ' 1=some (.int (a+s:Nat))->ρ' 2=some (.int (b+s:Nat))->ρ' 3=some (.L al)->dt C ss ρ' (σ.cu al ((acc++eql a b s).map oV)) K) :
  dt C (.cons (.a [.T [1,2]] (.T %[.b .add (.l 4) (.l 6),.b .add (.l 5) (.l 6)|0]))
 (.cons (.C (.l 6) (.cons (.expr (.bm .append (.l 3) %[.T %[.str "equal",.l 4,.l 1,.l 5,.l 2|0]|0]))
 .nil) .nil) ss)) ρ σ K:=by
 apply tE [.int (a+s:Nat),.int (b+s:Nat)] ?_ rfl ?_
 ·rw[aS,ic,yn (a:=.l 4) (b:=.l 6) H.r4 H.r6,ic,yn (a:=.l 5) (b:=.l 6) H.r5 H.r6];rfl
 unfold eql at h;apply tF (s≠0) (hH (x:=6) (k:=s) H.r6) (λc=>?_) λc=>?_
 ·rw[az c,dw]at h;show oL (oV ("equal",a,a+s,b,b+s)) H.r3 Z (ev5 rfl H.r4 rfl H.r5 rfl) (by rw[ai];show Y) (mf (h _ H.r0 rfl rfl H.r3))
 ·rw[br (Classical.not_not.mp c),cy,zj Z]at h;show mf (h _ H.r0 rfl rfl H.r3)
end
inductive OY (x:Addr)(σ:St)(al:Addr)(Ls:List T3)(t:Nat)(ρ:Fr)(σ':St):Prop
 |mk (i j:Nat) (acc:List O5):ρ 0=some (.obj x)->ρ 1=some (.int i)->ρ 2=some (.int j)->ρ 3=some (.L al)->(∃ys,σ'=σ.cu al ys)->σ'.L al=some (acc.map oV)->acc.length<=2*t->acc++codes i j (Ls.drop t)=codes 0 0 Ls->OY x σ al Ls t ρ σ'
def LB:∀(L:List T3) (i j k:Nat),(mrg i j k L).length<=L.length+(if k=0 then 0 else 1):=by
 intro L;induction L with
 |nil =>
  intro i j k;dsimp only[mrg];by_cases Z:k=0
  ·rw[br Z];show dj _
  ·rw[az Z,az Z];show av _
 |cons t r J =>
  intro i j k;have#[H,I,k']:=t;dsimp only[mrg];rw[jh];split
  ·have:=J i j (k+k');by_cases Z:k=0
   ·try clear hI'
    subst Z;rw[br rfl];by_cases Y:0+k'=0
    ·rw[br Y]at this;(show cg (.k .A (.a .P .O)) .a (.k .A (.a .B .O)) this)
    ·rw[az Y]at this;(show cg (.k .A (.a .P .O)) .a (.k .A .P) this)
   ·rw[az Z];rw[az ((cp Z).elim (λW=>(cg (.u .M .O) .i (.l .A .O) W)) λW=>(cg (.u .M .O) .a .D W))]at this
    (show cg (.k .A (.a .P .U)) .a (.k .A .P) this)
  ·by_cases Z:k=0
   ·rw[br Z,br Z];have:=J H I k';by_cases Y:k'=0
    ·rw[br Y]at this;(show cg (.k .A (.a .P .O)) .a (.k .A (.a .B .O)) this)
    ·rw[az Y]at this;(show cg (.k .A (.a .P .O)) .a (.k .A .P) this)
   ·rw[az Z,az Z,jh];have:=J H I k';by_cases Y:k'=0
    ·rw[br Y]at this;(show cg (.k .L (.a .P .U)) .a (.k .A (.a .B .O)) this)
    ·rw[az Y]at this;(show cg (.k .L (.a .P .U)) .a (.k .A .P) this)
end SM
namespace R1
open SM
variable {P:Nat->Option Fn}{n:Nat}{x d la:Addr}{vb vc:V}{aj:Bool}{σ:St}{Q:V->St->Prop}{f:Nat->Option V}
def NX (Y:P 0=some fn0){vj Z:V}(W:σ.I x=some (d,λ_=>none))
  (h:ef P n 1 [.obj x,Z,vb] (σ.ir x d (upd (upd (upd (upd (λ_=>none) 0 vj) 1 .none) 2 .none) 3 (.bool aj))) λv σ=>v=.none/\Q .none σ):ef P (n+1) 0 [.obj x,vj,Z,vb,.bool aj] σ Q:=
 #[fn0,Y,av 5,gI 5 4,aU (iD vj rfl rfl W (c8 .none rfl rfl (qI (.bool aj) rfl rfl (bZ [Z,vb] rfl (by rw[jt];rfl) rfl h))))]
structure F0 (f:Nat->Option V)(vj:V)(la lb:Addr)(aj:Bool)(vb vc vf:V):Prop where
 f0:f 0=some vj
 f1:f 1=some (.L la)
 f2:f 2=some (.L lb)
 f3:f 3=some (.bool aj)
 f4:f 4=some vb
 f5:f 5=some vc
 f6:f 6=some vf
def F0.of {Z:Nat->Option V}{vj:V}{lb:Addr}{vf:V}(h:F0 f vj la lb aj vb vc vf)(k:∀m,m<7->Z m=f m):F0 Z vj la lb aj vb vc vf:=
 #[(k 0 (by decide)).trans h.f0,(k 1 (by decide)).trans h.f1,(k 2 (by decide)).trans h.f2,(k 3 (by decide)).trans h.f3,(k 4 (by decide)).trans h.f4,(k 5 (by decide)).trans h.f5,(k 6 (by decide)).trans h.f6]
def NL (h0:P 0=some fn0)(h1:P 1=some fn1)(h2:P 2=some fn2)(h3:P 3=some fn3)(z:P 4=some SM.pT){lb:Addr}{ys:List Int}{vj:V}{O:Int->Bool}(B:σ.I x=some (d,λ_=>none))(U:σ.L lb=some (ys.map V.int))(hz:Small ys)(W:ys.length<aw)(H:mE (ef P n) vj O σ)
  (h:∀σ' f db sj sp jn Y,F0 f vj la lb aj .none .none .none->cX σ σ' x d f ys aj O db sj sp jn Y->Q .none σ'):ef P (n+4) 0 [.obj x,vj,.L la,.L lb,.bool aj] σ Q:=by
 apply NX h0 B (rA h1 (by rw[jt];rfl) (C4 h2 jt rfl (show isNone (.L la)=false from rfl) #[rfl,by rw[jt];rfl,C3 h3 jt rfl (show isNone (.L lb)=false from rfl) (sX z jt (vj:=vj) (lb:=lb) (ys:=ys) rfl rfl rfl U hz W H λσ' db sj sp jn Y Z=>#[rfl,rfl,rfl,h σ' _ db sj sp jn Y ?_ #[Z.L,Z.I,Z.D,Z.S,Z.Sp,Z.ne,Z.J,Z.Pn]])]));apply#[rfl,rfl,rfl,rfl,rfl,rfl,rfl]
def seq1 (J:P 2=some fn2){Z:Addr}(Y:σ.I x=some (d,f))(O:f 1=some (.L Z))(h0:(σ.L Z).isSome=true)(H:(σ.L la).isSome=true)
  (W:la=Z->Q .none σ) (U:la≠Z->Q .none (σ.ir x d (upd (upd (upd f 1 (.L la)) 4 .none) 5 .none))):ef P (n+1) 2 [.obj x,.L la] σ Q:=by
 apply#[fn2,J,av 2,av 2,aU ?_];apply#[_,rfl,_,rfl,x,d,f,_,rfl,Y,O,H,h0,?_];by_cases c:la=Z
 ·rw[c,dg];show bB (W c)
 ·rw[ee c];show za (mf (iD (.L la) rfl rfl Y (c8 .none rfl rfl (mf (U c)))))
def PK (hP:P 3=some fn3)(B:P 4=some SM.pT){lb Z:Addr}{ys:List Int}{vj vf:V}{z:Int->Bool}(hI:σ.I x=some (d,f))(W:F0 f vj la Z aj vb vc vf)(h0:(σ.L Z).isSome=true)(U:σ.L lb=some (ys.map V.int))(hz:Small ys)(H:ys.length<aw)(hJ:mE (ef P n) vj z σ)
  (hs:lb=Z->Q .none σ) (hn:lb≠Z->∀σ' f' db sj sp jn O,F0 f' vj la lb aj .none .none .none->cX σ σ' x d f' ys aj z db sj sp jn O->Q .none σ'):ef P (n+2) 3 [.obj x,.L lb] σ Q:=by
 apply#[fn3,hP,av 2,av 2,aU ?_];apply#[_,rfl,_,rfl,x,d,f,_,rfl,hI,W.f2,by rw[U];rfl,h0,?_];by_cases c:lb=Z
 ·rw[c,dg];show bB (hs c)
 ·rw[ee c];apply za (mf (iD (.L lb) rfl rfl hI (c8 .none rfl rfl (qI .none rfl rfl (bZ [] rfl (by rw[jt];rfl) rfl ?_)))));apply sX B jt (vj:=vj) (lb:=lb) (ys:=ys) W.f0 rfl W.f3 U hz H hJ λσ' db sj sp jn O Y=>#[rfl,mf (hn c σ' _ db sj sp jn O ?_ #[Y.L,Y.I,Y.D,Y.S,Y.Sp,Y.ne,Y.J,Y.Pn])];apply#[W.f0,W.f1,rfl,W.f3,rfl,rfl,rfl]
abbrev yB (σ:St)(v:V):Prop:=v=.none\/∃a L,v=.L a/\σ.L a=some ((L:List T3).map mV)/\L≠[]/\L.length<=400000
def fU {ρ:Fr}{m:Nat}{v:V}(Z:σ.I x=some (d,f))(Y:f m=some v)(h0:ρ 0=some (.obj x):=by rfl):evV σ ρ (.attr (.l 0) m)=some v:=by
 show((ρ 0).bind λv=>(yF v).bind λa=>(σ.I a).bind λp=>p.2 m)=_;rw[h0];show((σ.I x).bind λp=>p.2 m)=_;rw[Z];show Y
def fC {a:Addr}{p:Prop}(h:V.L a=.none):p:=Bool.noConfusion (show false=true from bb isNone h)
def CL {a:Addr}{p:Prop}(h:V.none=.L a):p:=fC h.symm
def lV {ρ:Fr}{m:Nat}{v:V}(Z:σ.I x=some (d,f))(Y:f m=some v)(h0:ρ 0=some (.obj x):=by rfl):evT σ ρ (.c .isNot (.attr (.l 0) m) .none)=some (!isNone v):=by
 rw[pV,fU Z Y h0];rfl
def OQ (hP:P 6=some fn6)(ag:P 5=some fn5){la lb:V}{db sj:Addr}{as bs js:List Key}(H:qH σ x la lb db sj as bs js)(hI:σ.I x=some (d,f))(z:f 4=some vb)(hb0:yB σ vb)(ha:∀k∈as,tg k)(hb:∀k∈bs,tg k)(hs:bs.length<400000)(Z:as.length<64)
  (h:∀σ' c L,cC x σ σ'->σ'.I x=some (d,upd f 4 (.L c))->σ'.L c=some ((L:List T3).map mV)->L≠[]->L.length<=400000->(vb=.none->σ.L c=none)->(vb≠.none->vb=.L c)->Q (.L c) σ'):ef P (n+2) 6 [.obj x] σ Q:=by
 rcases hb0 with rfl|⟨a,L,rfl,hL,h1,h2⟩
 ·have#[d',f',J,f1,f2,f7,f8]:=H.I;have#[rfl,rfl]:d=d'/\f=f':=by rw[hI]at J;cases J;apply#[rfl,rfl]
  apply Q4 hP (I3 ag H ha hb hs (fy Z (by decide))) hI f1 f2 z H.La H.Lb hs Z λσ' c L k b hc e=>?_;have Y:=b.ok λ_ _ _ _ _ h=>h;have U:L.length<64:=by have:=iA (lo:=0) Y.1 Y.2 (λ_ _=>dj _) (dj _);(show mn (.l .A (.n 64)) .b (.l .B (.n 64)) (.k (.a .O .A) .B) Z this)
  have W:=LB L 0 0 0;rw[br rfl]at W;apply h _ c _ k.ext.x.ir jt e (λq=>by have:=bb List.length q;rw[cv]at this;simp at this) (by rw[cv,sk];(show mn (.k .L (.n 400000)) .b (.l .B (.n 64)) (.k .A (.a .B .O)) U W)) (λ_=>hc) λq=>absurd rfl q
 ·apply#[fn6,hP,av 1,av 1,aU (mD true (lV hI z) (bB (F7 (.L a) (fU hI z) ?_)))];have e:upd f 4 (.L a)=f:=by
   funext m
   by_cases q:m=4
   ·rw[q,ay,z]
   ·show bh q
  show h σ a L (Ext.refl σ).x (by rw[e];show hI) hL h1 h2 (λq=>fC q) λ_=>rfl
def QE (hP:P 7=some fn7)(bL:P 6=some fn6)(bM:P 5=some fn5){x:Addr}{la lb:V}{db sj:Addr}{as bs js:List Key}(hM:qH σ x la lb db sj as bs js)(hI:σ.I x=some (d,f))(f4:f 4=some vb)(f5:f 5=some vc)(hb0:yB σ vb)(bu:vc=.none\/∃a,vc=.L a)(ha:∀k∈as,tg k)(hb:∀k∈bs,tg k)(hs:bs.length<400000)(bn:as.length<64)
  (hk:∀a,vc=.L a->Q (.L a) σ)
  (hn:vc=.none->∀σ' c c' L,cC x σ σ'->σ'.I x=some (d,upd (upd f 5 (.L c)) 4 (.L c'))->σ.L c=none->(σ'.L c).isSome=true->σ'.L c'=some ((L:List T3).map mV)->L≠[]->L.length<=400000->(vb=.none->σ.L c'=none)->(vb≠.none->vb=.L c')->Q (.L c) σ'):ef P (n+3) 7 [.obj x] σ Q:=by
 rcases bu with rfl|⟨a,rfl⟩
 rotate_left
 ·apply#[fn7,hP,av 1,av 1,aU (mD true (lV hI f5) (bB (F7 (.L a) (fU hI f5) (hk a rfl))))]
 apply#[fn7,hP,av 1,av 1,?_];have h0:frameOf fn7 [.obj x] 0=some (.obj x):=rfl;generalize frameOf fn7 [.obj x]=ρ at h0;apply#[.obj x,h0,x,d,f,.none,rfl,hI,f5,?_];replace hn:=hn rfl;have#[d',f',be,f1,f2,f7,f8]:=hM.I;have#[rfl,rfl]:d=d'/\f=f':=by rw[hI]at be;cases be;apply#[rfl,rfl]
 apply#[aq rfl,λal ao=>?_];apply#[.obj x,h0,x,d,f,rfl,hI,?_];have ag:((σ.cu al []).ir x d (upd f 5 (.L al))).I x=some (d,upd f 5 (.L al)):=jt;have E2:cC x σ ((σ.cu al []).ir x d (upd f 5 (.L al))):=(((Ext.refl σ).cu ao).x).ir;have M2:qH ((σ.cu al []).ir x d (upd f 5 (.L al))) x la lb db sj as bs js:=#[#[d,_,jt,f1,f2,f7,f8],uh E2.L hM.La,uh E2.L hM.Lb,hM.T.keep E2.L E2.D,E2.S _ _ hM.S];have O:((σ.cu al []).ir x d (upd f 5 (.L al))).L al=some []:=ay _ _ _;have bd:yB ((σ.cu al []).ir x d (upd f 5 (.L al))) vb:=hb0.imp id λ⟨a,L,e,hL,r⟩=>#[a,L,e,E2.L _ _ hL,r];have ar:∀c,((σ.cu al []).ir x d (upd f 5 (.L al))).L c=none->σ.L c=none:=λc e=>by
  cases q:σ.L c with
  |none=>rfl
  |some xs=>rw[E2.L _ _ q]at e;cases e
 have W:∀(Y:St) (c:Addr) (L:List T3),cC x ((σ.cu al []).ir x d (upd f 5 (.L al))) Y->Y.L c=some (L.map mV)->L≠[]->c≠al:=λY c L E e h q=>by
  rw[q,E.L _ _ O]at e;cases L with
  |nil=>show h rfl
  |cons _ _=>cases e
 generalize ((σ.cu al []).ir x d (upd f 5 (.L al)))=σ2 at ag E2 M2 O bd ar W;apply#[.obj x,h0,x,rfl,by rw[ag];rfl,?_];apply OQ bL bM M2 ag f4 bd ha hb hs bn λY c Ls E3 bR hc h1 h2 g1 g2=>?_;have W:=W Y c Ls E3 hc h1;have H:=E3.L _ _ O;have E3:=E2.trans E3;apply#[_,hc,?_];apply pv (OY x Y al Ls) ?_ ?_ #[0,0,[],h0,rfl,rfl,rfl,#[[],(zj H).symm],H,dj _,rfl]
 ·intro t v ρ' σ' hv zz;have#[i,j,acc,r0,r1,r2,r3,#[ys,rfl],J,Z,e]:=zz;apply#[(bh W).trans hc,λkk bv=>?_];rw[bw]at hv;have#[u,hu,rfl]:=omap hv;have#[ht,bl]:=cf.mp hu;rw[nz ht,bl]at e;have#[a,z,s]:=u;apply#[_,AR (t:=(a,z,s)),rfl,?_];apply tD (.str "") rfl ?_;apply IU (x:=x) (al:=al) (i:=i) (j:=j) (a:=a) (b:=z) (s:=s) (acc:=acc) #[r0,r1,r2,r3,rfl,rfl,rfl] rfl J (by unfold aw;(show tq (.l .A .Q) [[1,2,1,2]] (.k .B (.n 400000)) (.k .A (.m 2 .C)) (.l .C .B) h2 Z ht)) λcb H2=>?_;have h1:=IT i a j z;apply IA H2 (acc:=acc++chg i a j z) (ay _ _ _) (by rw[cv];unfold aw;(show i9 (.l .M .Q) [[1,2,1,2,1]] (.k .C (.n 400000)) (.k .A (.m 2 .D)) (.l .D .C) (.k .B .U) h2 Z ht h1)) λca q0 q1 q2 q3=>?_;have h2:=I9 a z s;rw[gO,gO];apply mf (bv _ _ #[a+s,z+s,acc++chg i a j z++eql a z s,q0,q1,q2,q3,#[_,rfl],ay _ _ _,?_,?_])
  ·rw[cv,cv];(show rq (.k (.a .M .C) (.m 2 (.a .D .U))) .e (.k .A (.m 2 .D)) (.k .B .U) (.k .C .U) Z h1 h2)
  ·rw[<- e,jq,jq];rfl
 ·intro ρ' σ' zz;have#[i,j,acc,r0,r1,r2,r3,#[ys,rfl],J,Z,e]:=zz;apply#[(bh W).trans hc,?_];apply F7 (.L al) r3 ?_;apply hn _ al c Ls #[λa xs e1=>?_,E3.D,E3.S,E3.I] bR ao (by rw[J];rfl) ((bh W).trans hc) h1 h2 (λq=>ar _ (g1 q)) g2;have:a≠al:=λq=>by rw[q,ao]at e1;cases e1
  show(bh this).trans (E3.L a xs e1)
end R1
namespace R1
open SM
variable {zs ys:List Int}{es:List (Key×V)}{σ:St}{ρ:Fr}{x d lb:Addr}{f:Nat->Option V}{P:Nat->Option Fn}{n:Nat}{Q:V->St->Prop}
abbrev ue (es:List (Key×V))(zs:List Int):Prop:=∃ks:List Int,ks.Nodup/\es=ks.map (λk=>(Key.int k,V.int (zs.count k:Nat)))/\∀k,k∈ks↔k∈zs
def aC (y:Int):∀ks:List Int,(ks.map (λk=>(Key.int k,V.int (zs.count k:Nat)))).lookup (.int y)=if y∈ks then some (.int (zs.count y:Nat)) else none
 | []=>rfl
 |k::ks=>by
  rw[gv,jz];by_cases c:y=k
  ·subst c;rw[dg,br (.head _)]
  ·rw[ee (λq=>c (Key.int.inj q)),aC y ks];by_cases m:y∈ks
   ·rw[br m,br (.tail _ m)]
   ·rw[az m,az (λq=>(bz.mp q).elim c m)]
def ue.get (h:ue es zs)(y:Int):(es.lookup (.int y)).getD (.int 0)=.int (zs.count y:Nat):=by
 have#[ks,Y,rfl,Z]:=h;rw[aC];by_cases c:y∈ks
 ·rw[br c];rfl
 ·rw[az c,List.count_eq_zero.mpr λq=>c ((Z y).mpr q)];rfl
def ue.step (h:ue es zs)(y:Int):ue (putD es (.int y) (.int ((zs.count y:Nat)+1))) (zs++[y]):=by
 have#[ks,W,rfl,Y]:=h;have cnt:∀k,(zs++[y]).count k=zs.count k+if y=k then 1 else 0:=λk=>by
  rw[List.count_append,List.count_singleton];by_cases c:y=k
  ·rw[br c,c,dg];rfl
  ·rw[az c,ee c];rfl
 have Z:(ks.map (λk=>(Key.int k,V.int (zs.count k:Nat)))).any (λe=>e.1==Key.int y)=decide (y∈ks):=by
  rw[xk,aC];by_cases c:y∈ks
  ·rw[br c,cj c];rfl
  ·rw[az c,cw c];rfl
 unfold putD;rw[Z];by_cases c:y∈ks
 ·rw[cj c,br rfl];apply#[ks,W,?_,λk=>?_]
  ·rw[lp];apply ur λk _=>?_;show(if Key.int k=Key.int y then (Key.int y,V.int ((zs.count y:Nat)+1)) else (Key.int k,V.int (zs.count k:Nat)))=(Key.int k,V.int ((zs++[y]).count k:Nat));rw[cnt];by_cases e:k=y
   ·subst e;rw[br rfl,br rfl];rfl
   ·rw[az (λq=>e (Key.int.inj q)),az (λq=>e q.symm)];rfl
  ·rw[fh,ax,Y];apply#[.inl,λq=>q.elim id λe=>e▸(Y y).mp c]
 ·rw[cw c,az (by decide)];apply#[ks++[y],dT.mpr #[W,by simp,λa U b hb=>by rw[ax.mp hb];rintro rfl;show c U],?_,λk=>?_]
  ·rw[dw]
   congr 1
   ·apply ur λk hk=>?_;rw[cnt,az (λq:y=k=>c (by rw[q];show hk))];rfl
   ·rw[gv,List.map_nil,cnt,br rfl];rfl
  ·rw[fh,fh,Y]
def ue.len (h:ue es zs):es.length<=zs.length:=by
 have#[ks,W,rfl,Y]:=h;rw[ai];show W.length_le_of_subset λy Z=>(Y y).mp Z
abbrev J4 (es:List (Key×V)):Prop:=∀k v,es.lookup k=some v->∃i,v=.int i
def ue.all (h:ue es zs):J4 es:=λk v e=>by
 have#[ks,W,rfl,Y]:=h;cases k with
 |int y =>
  rw[aC]at e;split at e
  ·apply#[_,(af e).symm]
  ·cases e
 |str s =>
  have:∀ks:List Int,(ks.map (λk=>(Key.int k,V.int (zs.count k:Nat)))).lookup (.str s)=none:=λks=>by
   induction ks with
   |nil=>rfl
   |cons k ks Z=>rw[gv,jz,show((Key.str s==Key.int k)=false) from rfl];show Z
  rw[this]at e;cases e
def fill {C:Cal}{K:Fl->Fr->St->Prop}(h0:ρ 0=some (.obj x))(hI:σ.I x=some (d,f))(f2:f 2=some (.L lb))(O:σ.L lb=some (ys.map V.int))(hz:ys.length<aw)
  (h:∀ρ' σ' c es,ρ' 0=some (.obj x)->Kp (σ.ir x d (upd f 6 (.dct c))) σ'->σ.D c=none->σ'.D c=some es->ue es ys->K .next ρ' σ'):dt C JS ρ σ K:=by
 apply λc W=>#[.obj x,h0,x,d,f,rfl,hI,?_];have k0:Kp (σ.ir x d (upd f 6 (.dct c))) ((σ.jr c []).ir x d (upd f 6 (.dct c))):=#[λ_ _ e=>e,λa es e=>(bh (λq=>by rw[q]at e;rw[show σ.D c=some es from e]at W;cases W)).trans e,rfl,rfl];have J:((σ.jr c []).ir x d (upd f 6 (.dct c))).I x=some (d,upd f 6 (.dct c)):=jt;have H:((σ.jr c []).ir x d (upd f 6 (.dct c))).D c=some []:=ay _ _ _;apply#[_,h0,x,d,upd f 6 (.dct c),_,rfl,J,f2,_,k0.L _ _ O,?_];apply pv (λi ρ' σ'=>ρ' 0=some (.obj x)/\ρ' 1=some (.dct c)/\Kp (σ.ir x d (upd f 6 (.dct c))) σ'/\∃es,σ'.D c=some es/\ue es (ys.take i)) ?_ ?_ #[h0,rfl,k0,[],H,[],my,rfl,λk=>Iff.rfl]
 ·intro i v ρ' σ' hv U;have#[r0,r1,k,es,Y,Z]:=U;apply#[k.L _ _ O,λkk hk=>?_];rw[bw]at hv;have#[y,hy,rfl]:=omap hv;have hg:=Z.get y;have hl:=Z.len;rw[fq]at hl;apply#[_,r1,by show(σ'.D c).isSome=true;rw[Y];rfl,_,rfl,es,.int y,Y,rfl,?_];rw[hg];apply#[_,r1,_,rfl,es,.int y,Y,rfl,by show rq .B .e (.l .C .B) (.k .A .D) (.k .D .C) hz hl (Ar.nr _ _).2.1,?_];apply hk _ _ #[r0,r1,k.jr (by show W),_,ay _ _ _,?_];have z:=Z.step y;rw[show ys.take i++[y]=ys.take (i+1) from by rw[List.take_add_one,hy];rfl]at z;show z
 ·intro ρ' σ' U;have#[r0,r1,k,es,Y,Z]:=U;rw[ai,qj]at Z;apply#[k.L _ _ O,h ρ' σ' c es r0 k W Y Z]
def KU {C:Cal}{c:Addr}{y z:Int}{m:Nat}{K:Fl->Fr->St->Prop}(J:ρ 2=some (.int y))(O:ρ 3=some (.dct c))(Y:ρ 5=some (.int m))(Z:ρ 6=some (.int z))(B:σ.D c=some es)(I:es.length<aw)
  (h:∀ρ' (W:Nat),W<=m+1->(∀j,j≠5->ρ' j=ρ j)->ρ' 5=some (.int W)->K .next ρ' (σ.jr c (putD es (.int y) (.int (z-1))))) :
  dt C %[.a [(.sub (.l 3) (.l 2))] (.b .sub (.l 6) (.int 1)),.C (.c .gt (.l 6) (.int 0)) %[.a [(.v 5)] (.b .add (.l 5) (.int 1))|0] .nil|0] ρ σ K:=by
 apply#[_,Z,_,O,_,J,es,.int y,B,rfl,I,?_];apply#[_,Z,?_];show(if decide ((0:Int)<z)=true then _ else _);by_cases U:(0:Int)<z
 ·rw[br (cj U)];apply#[_,Y,h _ (m+1) (av _) (λj H=>bh H) (ay _ _ _)]
 ·rw[az (by rw[cw U];decide)];show h ρ m (rj _) (λ_ _=>rfl) Y
def ratio (U:P 12=some fnR){a b:Nat}(W:a<2^60)(hb:b<2^60)(h:Q .flo σ):ef P (n+1) 12 [.int a,.int b] σ Q:=by
 apply#[fnR,U,av 2,av 2,?_];apply#[_,rfl,?_];show(if ((b:Int) != 0)=true then _ else _);by_cases c:(b:Int)=0
 ·rw[az (by rw[c];decide)];show h
 ·rw[br (by simpa using c)];apply#[_,rfl,by show(lh c).elim (λY=>(cg (.l .A .R) .i (.il (.t .B) .O) Y)) λY=>((Ar.nab _).elim (λZ=>(mn (.l .A .R) .b (.l .B .R) (.ie (.t .A) (.t .B)) W Z.2)) λZ=>(cg (.l .A .R) .a (.ie (.t .A) (.g (.t .B))) Z.2)),_,rfl,by show(lh c).elim (λY=>(cg (.l .A .R) .i (.il (.t .B) .O) Y)) λY=>((Ar.nab _).elim (λZ=>(mn (.l .A .R) .b (.l .B .R) (.ie (.t .A) (.t .B)) hb Z.2)) λZ=>(cg (.l .A .R) .a (.ie (.t .A) (.g (.t .B))) Z.2)),c,h]
def kH (hP:P 12=some fnR){la b:Addr}{xs:List Int}{fs:List (Key×V)}(h0:ρ 0=some (.obj x))(hI:σ.I x=some (d,f))(f1:f 1=some (.L la))(f2:f 2=some (.L lb))(f6:f 6=some (.dct b))(Y:σ.L la=some (xs.map V.int))(ag:σ.L lb=some (ys.map V.int))(Z:xs.length<aw)(W:ys.length<aw)(hD:σ.D b=some fs)(hf:J4 fs)(h:∀σ',Kp σ σ'->Q .flo σ') :
  dt (ef P (n+1)) (.cons (.a [(.v 1)] (.attr (.l 0) 6))
 (.cons (.a [(.v 3)] .dct0)
 (.cons (.a [.T [4,5]] (.T %[.dhasOf (.l 3),.int 0|0]))
 (.cons (.each (.v 2) (.seq (.attr (.l 0) 1)) qB)
 (.cons (.ret (.call 12 %[.l 5,.b .add (.bf .len %[.attr (.l 0) 1|0]) (.bf .len %[.attr (.l 0) 2|0])|0]))
 .nil))))) ρ σ (mQ Q):=by
 apply tD (.dct b) (fU hI f6 h0) ?_;apply λc hc=>?_;have k0:Kp σ (σ.jr c []):=(Kp.refl σ).jr hc;apply#[_,rfl,c,rfl,by show((σ.jr c []).D c).isSome=true;rw[show(σ.jr c []).D c=some [] from ay _ _ _];rfl,aq rfl,_,rfl,rfl,?_];apply#[_,h0,x,d,f,_,rfl,hI,f1,_,Y,?_];apply pv (λi ρ' σ'=>ρ' 0=some (.obj x)/\ρ' 1=some (.dct b)/\ρ' 3=some (.dct c)/\ρ' 4=some (.dhas c)/\Kp σ σ'/\∃(es:List (Key×V)) (m:Nat),σ'.D c=some es/\J4 es/\es.length<=i/\ρ' 5=some (.int m)/\m<=i) ?_ ?_ #[h0,rfl,rfl,rfl,k0,[],0,ay _ _ _,λk v e=>(by cases e),av _,rfl,av _]
 ·intro i v ρ' σ' hv zz;have#[r0,r1,r3,r4,k,es,m,hE,hA,H,r5,J]:=zz;apply#[k.L _ _ Y,λkk hk=>?_];have hi:=(cf.mp hv).1;rw[ai]at hi;rw[bw]at hv;have#[y,hy,rfl]:=omap hv;have rest:∀z:Int,dt (ef P (n+1)) %[.a [(.sub (.l 3) (.l 2))] (.b .sub (.l 6) (.int 1)),.C (.c .gt (.l 6) (.int 0)) %[.a [(.v 5)] (.b .add (.l 5) (.int 1))|0] .nil|0] (upd (upd ρ' 2 (.int y)) 6 (.int z)) σ' (wm kk (λfl ρ σ=>zi (λρ σ=>dt (ef P (n+1)) %[.ret (.call 12 %[.l 5,.b .add (.bf .len %[.attr (.l 0) 1|0]) (.bf .len %[.attr (.l 0) 2|0])|0])|0] ρ σ (mQ Q)) (mQ Q) fl ρ σ)):=λz =>
   KU (c:=c) (es:=es) (m:=m) rfl r3 r5 rfl hE (rq .B .e (.l .C .B) (.k .A .D) (.l .D .C) Z H hi) λao m' h1 h2 h3=>hk _ _ ⟨(h2 0 (by decide)).trans r0,(h2 1 (by decide)).trans r1,(h2 3 (by decide)).trans r3,(h2 4 (by decide)).trans r4,k.jr hc,_,m',ay _ _ _,λq v e=>(by
    rw[eG]at e;split at e
    ·apply#[_,(af e).symm]
    ·show hA q v e),fk rF (cg (.k .L .P) .a .A H),h3,by show gr (.k .A .P) .b .F (.k .A .S) J h1⟩
  apply#[_,r4,_,rfl,es,.int y,hE,rfl,?_];show(if (es.lookup (.int y)).isSome=true then _ else _);cases e:es.lookup (.int y) with
  |some v =>
   have#[z,rfl]:=hA _ _ e;rw[br rfl];apply#[_,r3,_,rfl,es,.int y,_,hE,rfl,e,rest z]
  |none =>
   rw[az (by decide)];have O:=k.D _ _ hD;have#[z,hz]:∃z,(fs.lookup (.int y)).getD (.int 0)=.int z:=by
    cases q:fs.lookup (.int y) with
    |none=>refine#[0,rfl]
    |some v=>have#[z,rfl]:=hf _ _ q;apply#[z,rfl]
   apply#[_,r1,by show(σ'.D b).isSome=true;rw[O];rfl,_,rfl,fs,.int y,O,rfl,?_];rw[hz];show rest z
 ·intro ρ' σ' zz;have#[r0,r1,r3,r4,k,es,m,hE,hA,H,r5,J]:=zz;rw[ai]at H J;apply#[k.L _ _ Y,?_];have U:σ'.I x=some (d,f):=(ez k.I x).trans hI;apply#[_,r5,_,r0,x,d,f,_,rfl,U,f1,_,k.L _ _ Y,_,r0,x,d,f,_,rfl,U,f2,_,k.L _ _ ag,?_];rw[ai,ai];unfold aw at Z W;show ratio hP (mn (.l .A .R) .b (.l .B .Q) .A Z J) (mn (.l .M .R) .b (.l .A .Q) (.l .B .Q) Z W) (h σ' k)
def QD (hP:P 8=some fnQ)(Z:P 12=some fnR){la:Addr}{xs:List Int}{vf:V}(H:σ.I x=some (d,f))(f1:f 1=some (.L la))(f2:f 2=some (.L lb))(f6:f 6=some vf)(O:σ.L la=some (xs.map V.int))(W:σ.L lb=some (ys.map V.int))(U:xs.length<aw)(Y:ys.length<aw)
  (hv:vf=.none\/∃b B,vf=.dct b/\σ.D b=some B/\J4 B) (hk:vf≠.none->∀σ',Kp σ σ'->Q .flo σ')
  (hn:vf=.none->∀σ' c es,Kp (σ.ir x d (upd f 6 (.dct c))) σ'->σ.D c=none->σ'.D c=some es->ue es ys->Q .flo σ'):ef P (n+2) 8 [.obj x] σ Q:=by
 apply#[fnQ,hP,av 1,av 1,aU ?_];have h0:frameOf fnQ [.obj x] 0=some (.obj x):=rfl;generalize frameOf fnQ [.obj x]=ρ at h0;apply#[_,h0,x,d,f,vf,rfl,H,f6,?_];rcases hv with rfl|⟨b,B,rfl,hD,hA⟩
 ·apply fill h0 H f2 W Y λρ' σ' c es r0 k hc z hC=>?_;have J:σ'.I x=some (d,upd f 6 (.dct c)):=(ez k.I x).trans jt;show kH Z r0 J f1 f2 rfl (k.L _ _ O) (k.L _ _ W) U Y z hC.all λσ2 k2=>hn rfl σ2 c es (k.trans k2) hc (k2.D _ _ z) hC
 ·show kH Z h0 H f1 f2 f6 O W U Y hD hA λσ2 k2=>hk (λq=>by have:=bb isNone q;show Bool.noConfusion (show false=true from this)) σ2 k2
end R1
namespace R1
open SM
variable {σ:St}{ys:List Int}{y:Int}{C:Cal}{ρ:Fr}{lb c:Addr}{t:Nat}{p:Int->Bool}{Q:Bool->St->Prop}{K:Fl->Fr->St->Prop}
def nV {α:Type}{G:St->Prop}{T:V->Fr->List V->St->(Fr->List V->St->Prop)->Prop}(f:α->V)(p:α->Bool)(Inv:Fr->Prop)(H:G σ):∀{us:List α},(∀u∈us,∀ρ acc K',Inv ρ->acc.length<aw->(∀ρ',Inv ρ'->K' ρ' (acc++if p u=true then [f u] else []) σ)->T (f u) ρ acc σ K') ->
  ∀{ρ:Fr} {acc:List V} {K:Fr->List V->St->Prop},Inv ρ->acc.length+us.length<=aw->(∀ρ',Inv ρ'->K ρ' (acc++(us.filter p).map f) σ)->lC (us.map f) G T ρ acc σ K
 | [],_,ρ,acc,K=>λJ _ I=>#[H,by have:=I ρ J;rwa [aX,List.map_nil,cy]at this]
 |u::us,z,ρ,acc,K=>λJ Z I=>by
  rw[jh]at Z;apply#[H,z u (.head _) ρ acc _ J (gz .B .a (.k (.a .A .S) .B) Z) λρ' U=>nV f p Inv H (λv hv=>z v (.tail _ hv)) U ?_ λY W=>?_]
  ·rw[cv];split
   ·rw[sk];(show gz (.k (.a .L .B) .C) .a (.k (.a .A .P) .C) Z)
   ·rw[List.length_nil];(show gz (.k (.a (.a .A .O) .B) .C) .a (.k (.a .A .P) .C) Z)
  ·have:=I Y W;rw[uc]at this;by_cases c:p u=true
   ·rw[br c]at this ⊢
    rwa [jq]
   ·rw[az c]at this ⊢
    rwa [cy]
public abbrev kI (ys:List Int):List Key:=ys.map Key.int
public abbrev pos (ys:List Int)(y:Int):List Nat:=posOf (.int y) (kI ys)
def eZ:pos ys y≠[]↔y∈ys:=by
 apply#[λh=>?_,λh e=>?_]
 ·have#[j,Z]:=List.exists_mem_of_ne_nil _ h;have:=gS.mp Z;rw[bw]at this;have#[z,hz,e]:=gm.mp this;cases e;show cz hz
 ·have#[j,Z,Y]:=gp.mp h;have:j∈pos ys y:=gS.mpr (by rw[bw,cm Z,Y];rfl);rw[e]at this;cases this
def AL {Q:V->St->Prop}(h0:ρ 0=some (.L lb))(h6:ρ 6=some (.int y))(I:σ.L lb=some (ys.map V.int))(hz:ys.length<aw)(h:∀c,σ.L c=none->Q (.L c) (σ.cu c ((pos ys y).map λj:Nat=>V.int j))):wpE C AM ρ σ Q:=by
 apply#[_,h0,_,I,_,rfl,?_,?_]
 ·rw[ai];show JN hz
 have e0:uj 0 ((ys.map V.int).length:Nat)=(List.range ys.length).map λj:Nat=>V.int j:=by
  unfold uj;rw[ai,show((ys.length:Int)-0).toNat=ys.length by(show(Ar.ton _).elim (λZ=>(cg .G [[1,-1],[1,1]] (.ie (.t .A) (.s (.t .B) .O)) Z.2)) λZ=>(mn .G [[1,1,0],[1,0,1]] (.ik (.s (.t .B) .O) .O) (.e .A .O) Z.1 Z.2))];show ur λj _=>by rw[rl]
 rw[e0];apply nV (λj:Nat=>V.int j) (λj=>decide ((kI ys)[j]?=some (Key.int y))) (λρ=>ρ 2=some (.L lb)/\ρ 3=some (.int y)) trivial (λj U ρ' acc K' J z hk=>?_) #[h0,h6] (by rw[List.length_nil,oz];(show cg (.k (.a .O .A) .B) .a .B hz)) λρ' J=>?_
 rotate_left
 ·have e1:pos ys y=(List.range ys.length).filter λj=>decide ((kI ys)[j]?=some (Key.int y)):=by
   show(List.range (ys.map Key.int).length).filter _=_;rw[ai]
  rw[List.nil_append,<- e1];show h
 have U:=cI.mp U;have#[W,Y]:=J;have H:ys[j]?=some ys[j]:=cm U;apply#[_,W,_,rfl,_,.int ys[j],I,by rw[td];(show oo (.ik .O (.t .A)) .f),by rw[td,gw,bw,H];rfl,_,Y,?_];have et:decide ((kI ys)[j]?=some (Key.int y))=(ys[j]==y):=by
  rw[bw,H];show decide (some (Key.int ys[j])=some (Key.int y))=decide (ys[j]=y);show gu.mpr #[λe=>Key.int.inj (af e),λe=>by rw[e]]
 rw[et]at hk;show(if (ys[j]==y)=true then _ else _);by_cases c:(ys[j]==y)=true
 ·rw[br c]at hk;rw[br c];apply#[_,rfl,z,hk _ #[W,Y]]
 ·rw[az c,cy]at hk;rw[az c];show hk _ #[W,Y]
abbrev jkP (pk:Bool)(y:Int):Bool:=pk&&decide (y.fmod 3=0)
abbrev jK (pk:Bool)(ys:List Int)(y:Int):Bool:=jkP pk y&&decide (pos ys y≠[])
abbrev pK (pk au:Bool)(ys:List Int)(y:Int):Bool:=!jK pk ys y&&wt au ys y
abbrev plK (pk au:Bool)(ys:List Int)(y:Int):Bool:=!jK pk ys y&&(!wt au ys y&&decide (pos ys y≠[]))
abbrev up (t:Nat):List Int:=(List.range t).map λk:Nat=>(k:Int)
def FP (t:Nat):up (t+1)=up t++[(t:Int)]:=by unfold up;rw[List.range_succ,dw];rfl
def jQ:y∈up t↔0<=y/\y<t:=by
 unfold up;rw[bg];apply#[λ⟨k,hk,e⟩=>?_,λh=>#[y.toNat,cI.mpr ((Ar.ton _).elim (λZ=>(Ar.a2 [_] [_,_] .B .b (.il .A (.t .B)) (.ie (.t .A) .A) h.2 Z.2)) λZ=>(Ar.a3 [_] [_,_] .B .e (.ik .O .A) (.il .A (.t .B)) (.e .A .O) h.1 h.2 Z.2)),by show(Ar.ton _).elim (λZ=>(Ar.a1 [_] [_] (.ie (.t .A) .A) [[1,-1],[1,1]] (.ie (.t .A) .A) Z.2)) λZ=>(Ar.a3 [_] [_] (.ie (.t .A) .A) [[1,0,1,0],[1,1,0,1]] (.ik .O .A) (.ik .A .O) (.e .A .O) h.1 Z.1 Z.2)]];have:=cI.mp hk
 (show#[(Ar.a1 [_] [_] (.ik .O .A) .a (.ie (.t .A) .A) e),(Ar.a2 [_] [_,_] (.il .A (.t .A)) .k (.ie (.t .B) .A) (.l .B .A) e this)])
def AQ (t:Nat):(up t).Nodup:=by
 unfold up;show tH.mpr (List.nodup_range.imp λn e=>n (Int.ofNat_inj.mp e))
inductive NI (σ:St)(lb:Addr)(pk au:Bool)(ys:List Int)(c3 c4 d5:Addr)(t:Nat)(ρ:Fr)(σ':St):Prop
 |mk (es:List (Key×V)) (k:Kp σ σ') (r0:ρ 0=some (.L lb)) (r1:ρ 1=some (.bool pk)) (r2:ρ 2=some (.bool au)) (r3:ρ 3=some (.L c3)) (r4:ρ 4=some (.L c4)) (r5:ρ 5=some (.dct d5))
  (l3:σ'.L c3=some (((up t).filter (jK pk ys)).map V.int)) (l4:σ'.L c4=some (((up t).filter (pK pk au ys)).map V.int)) (hd:σ'.D d5=some es) (keys:es.map (·.1)=((up t).filter (plK pk au ys)).map Key.int)
  (pl:∀y w,es.lookup (.int y)=some w->∃c,w=.L c/\σ'.L c=some ((pos ys y).map λj:Nat=>V.int j)/\σ.L c=none/\c≠c3/\c≠c4):NI σ lb pk au ys c3 c4 d5 t ρ σ'
def nW:(up (t+1)).filter p=(up t).filter p++if p t=true then [(t:Int)] else []:=by
 rw[FP,List.filter_append,uc,aX]
def lE (h:p t=true):(up (t+1)).filter p=(up t).filter p++[(t:Int)]:=by rw[nW,br h]
def aR (h:p t=false):(up (t+1)).filter p=(up t).filter p:=by rw[nW,az (by rw[h];decide),cy]
def v8 (L:List Nat):PyData.eqv (.list (L.map λj:Nat=>PyData.int j)) (.list [])=decide (L=[]):=by
 cases L with
 |nil=>simp[PyData.eqv,PyData.eqvAll]
 |cons p L=>simp[PyData.eqv,PyData.eqvAll]
def CT {α Z:Type}{f:α->Option Z}{g:α->Z}{xs:List α}(h:∀x∈xs,f x=some (g x)):xs.mapM f=some (xs.map g):=by
 induction xs with
 |nil=>rfl
 |cons x r Y=>rw[List.mapM_cons,h x (.head _),Y λy W=>h y (.tail _ W)];rfl
def jG {n:Nat}{a:Addr}{L:List Nat}(h:σ.L a=some (L.map λj:Nat=>V.int j)):fQ σ (n+2) (.L a)=some (.list (L.map λj:Nat=>PyData.int j)):=by
 show((σ.L a).bind λxs=>(xs.mapM (fQ σ (n+1))).map PyData.list)=_;rw[h];show((L.map λj:Nat=>V.int j).mapM (fQ σ (n+1))).map PyData.list=_;rw[CT (g:=λv=>((vInt v).map PyData.int).getD .none)]
 ·rw[lp];rfl
 ·intro v hv;have#[t,_,rfl]:=bg.mp hv;cases n<;>rfl
def ne_nil {L:List Nat}(O:ρ 7=some (.L c))(U:σ.L c=some (L.map λj:Nat=>V.int j))(h:∀Y,σ.L Y=none->Q (decide (L≠[])) (σ.cu Y [])):wpT C (.c .ne (.l 7) (.L .nil)) ρ σ Q:=by
 apply#[_,O,aq rfl,λY Z=>?_];have W:c≠Y:=λq=>by rw[q,Z]at U;cases U
 apply#[_,_,jG (L:=L) ((bh W).trans U),jG (L:=[]) (ay _ _ _),?_];show Q (!PyData.eqv (.list (L.map λj:Nat=>PyData.int j)) (.list [])) _;rw[v8,<- decide_not];show h Y Z
abbrev c1E:Ex:=(.and (.l 1) (.and (.c .eq (.b .mod (.l 6) (.int 3)) (.int 0)) (.c .ne (.l 7) (.L .nil))))
abbrev c2E:Ex:=(.and (.l 2) (.and (.c .ge (.bf .len %[.l 0|0]) (.int 200)) (.c .gt (.b .mul (.int 100) (.b .sub (.bf .len %[.l 7|0]) (.int 1))) (.bf .len %[.l 0|0]))))
def OH {pk:Bool}(J:ρ 1=some (.bool pk))(O:ρ 6=some (.int y))(U:ρ 7=some (.L c))(W:σ.L c=some ((pos ys y).map λj:Nat=>V.int j))(h:∀σ',Kp σ σ'->Q (jK pk ys y) σ'):wpT C c1E ρ σ Q:=by
 apply#[_,J,?_];cases pk with
 |false=>show h σ (Kp.refl σ)
 |true =>
  apply#[_,O,(by decide:(3:Int)≠0),?_];show(if (y.fmod 3==0)=true then _ else _);by_cases Z:y.fmod 3=0
  ·rw[Z,dg,br rfl];apply ne_nil U W λI Y=>?_;have e:jK true ys y=decide (pos ys y≠[]):=by unfold jK jkP;rw[Z];rfl
   rw[<- e];show h _ ((Kp.refl σ).cu Y)
  ·rw[ee Z,az (by decide)];have e:jK true ys y=false:=by unfold jK jkP;rw[cw Z];rfl
   rw[<- e];show h σ (Kp.refl σ)
def OG {au:Bool}(h0:ρ 0=some (.L lb))(I:ρ 2=some (.bool au))(J:ρ 7=some (.L c))(Z:σ.L lb=some (ys.map V.int))(O:σ.L c=some ((pos ys y).map λj:Nat=>V.int j))(h:Q (wt au ys y) σ):wpT C c2E ρ σ Q:=by
 apply#[_,I,?_];cases au with
 |false=>show h
 |true =>
  apply#[_,h0,_,Z,?_];show(if decide ((200:Int)<=((ys.map V.int).length:Nat))=true then _ else _);rw[ai];by_cases Y:200<=ys.length
  ·rw[br (cj (fb (.ik (.n 200) (.t .A)) .a (.k (.n 200) .A) Y))];apply#[_,J,_,O,.inl (by decide),_,h0,_,Z,?_];rw[ai,ai];have e:wt true ys y=decide (((ys.length:Nat):Int)<100*(((pos ys y).length:Nat)-1)):=by
    unfold wt oX;rw[cj Y,Bool.true_and,Bool.true_and];show gu.mpr (#[λW=>(rq (.il (.t .A) (.m 100 (.s (.t .B) .U))) [[1,1,-1,100]] (.l .C (.n 100)) (.e (.a (.m 100 .D) .C) .A) (.l (.a .D .U) .B) (Ar.wg _ 100 (by decide)).1 (Ar.wg _ 100 (by decide)).2 W),λW=>(jm (.l .L .B) [[100,1,1]] (.e (.a (.m 100 .A) .C) .D) (.il (.t .D) (.m 100 (.s (.t .B) .U))) (Ar.wg _ 100 (by decide)).2 W)])
   rw[e]at h;show h
  ·rw[az (by rw[cw (fb (.ij (.n 200) (.t .A)) .a (.j (.n 200) .A) Y)];decide)];have e:wt true ys y=false:=by unfold wt oX;rw[cw Y];rfl
   rw[e]at h;show h
def oJ {e:Ex}{x:Nat}{ss:jo}(h:wpE C e ρ σ λv σ=>dt C ss (upd ρ x v) σ K):dt C (.cons (.a [.v x] e) ss) ρ σ K:=h
def yA {c:Ex}{t e:jo}{ss:jo}(h:wpT C c ρ σ λb σ=>if b then dt C t ρ σ (zi (λρ σ=>dt C ss ρ σ K) K) else dt C e ρ σ (zi (λρ σ=>dt C ss ρ σ K) K)):dt C (.cons (.C c t e) ss) ρ σ K:=h
def uF {σ':St}{ρ:Fr}{c3 c4 d5:Addr}{pk au:Bool}(ht:t<7)(bu:σ.L lb=some (ys.map V.int))(hz:ys.length<aw)(h3:σ.L c3=none)(h4:σ.L c4=none)(h5:σ.D d5=none)(bl:c3≠c4)(I:NI σ lb pk au ys c3 c4 d5 t ρ σ')(h:∀be σ2,NI σ lb pk au ys c3 c4 d5 (t+1) be σ2->K .next be σ2) :
  dt C uG (upd ρ 6 (.int (t:Nat))) σ' K:=by
 cases I;apply oJ (AL (ρ:=upd ρ 6 (.int (t:Nat))) (y:=(t:Nat)) r0 rfl (k.L _ _ bu) hz λc hc=>?_);have bn:σ.L c=none:=k.noL hc;have k1:Kp σ (σ'.cu c ((pos ys (t:Nat)).map λj:Nat=>V.int j)):=k.cu bn;have U:c≠c3:=λq=>by rw[q,l3]at hc;cases hc
 have e4:c≠c4:=λq=>by rw[q,l4]at hc;cases hc
 have z:(σ'.cu c ((pos ys (t:Nat)).map λj:Nat=>V.int j)).L c3=_:=(bh (kz U)).trans l3;have H:(σ'.cu c ((pos ys (t:Nat)).map λj:Nat=>V.int j)).L c4=_:=(bh (kz e4)).trans l4;have J:(σ'.cu c ((pos ys (t:Nat)).map λj:Nat=>V.int j)).L c=some ((pos ys (t:Nat)).map λj:Nat=>V.int j):=ay _ _ _;have ar:∀y w,es.lookup (.int y)=some w->∃Z,w=.L Z/\(σ'.cu c ((pos ys (t:Nat)).map λj:Nat=>V.int j)).L Z=some ((pos ys y).map λj:Nat=>V.int j)/\σ.L Z=none/\Z≠c3/\Z≠c4:=λy w e=>by
  have#[Z,e1,W,U]:=pl y w e;apply#[Z,e1,(bh (λq=>by rw[q,hc]at W;cases W)).trans W,U]
 have D1:(σ'.cu c ((pos ys (t:Nat)).map λj:Nat=>V.int j)).D d5=some es:=hd;generalize σ'.cu c ((pos ys (t:Nat)).map λj:Nat=>V.int j)=σ1 at k1 z H J ar D1 ⊢;clear k l3 l4 hd pl hc;have O:∀p:Int->Bool,((up t).filter p).length<=7:=λp=>by
  have h1:=nq p (up t);unfold up at h1 ⊢;rw[ai,oz]at h1
  (show mn (.k .A (.n 7)) .b (.l .B (.n 7)) .A ht h1)
 apply yA (OH (ρ:=upd (upd ρ 6 (.int (t:Nat))) 7 (.L c)) (y:=(t:Nat)) r1 rfl rfl J λσ2 k2=>?_);have z:=k2.L _ _ z;have H:=k2.L _ _ H;have J:=k2.L _ _ J;have D1:=k2.D _ _ D1;have k3:=k1.trans k2;have ao:∀y w,es.lookup (.int y)=some w->∃Z,w=.L Z/\σ2.L Z=some ((pos ys y).map λj:Nat=>V.int j)/\σ.L Z=none/\Z≠c3/\Z≠c4:=λy w e=>by
  have#[Z,e1,W,U]:=ar y w e;apply#[Z,e1,k2.L _ _ W,U]
 clear k1 k2 ar;cases ej:jK pk ys (t:Nat) with
 |true =>
  apply bB #[_,r3,by show(σ2.L c3).isSome=true;rw[z];rfl,_,rfl,_,z,by rw[ai];have:=O (jK pk ys);unfold aw;(show fb (.l .A .Q) .a (.k .A (.n 7)) this),rfl,?_];apply h _ _ (.mk es (k3.cu h3) r0 r1 r2 r3 r4 r5 ?_ ((bh (kz bl)).trans (by rw[aR (by unfold pK;rw[ej];rfl)];show H)) D1 (by rw[aR (by unfold plK;rw[ej];rfl)];show keys) λy w e=>?_)
  ·rw[lE ej,dw];show ay _ _ _
  ·have#[Z,e1,W,U,e4]:=ao y w e;apply#[Z,e1,(bh e4.1).trans W,U,e4]
 |false =>
  apply za ?_;apply yA (OG (ρ:=upd (upd ρ 6 (.int (t:Nat))) 7 (.L c)) (y:=(t:Nat)) r0 r2 rfl (k3.L _ _ bu) J ?_);cases ep:wt au ys (t:Nat) with
  |true =>
   apply bB #[_,r4,by show(σ2.L c4).isSome=true;rw[H];rfl,_,rfl,_,H,by rw[ai];have:=O (pK pk au ys);unfold aw;(show fb (.l .A .Q) .a (.k .A (.n 7)) this),rfl,?_];apply h _ _ (.mk es (k3.cu h4) r0 r1 r2 r3 r4 r5 ((bh bl).trans (by rw[aR ej];show z)) ?_ D1 (by rw[aR (by unfold plK;rw[ep,ej];rfl)];show keys) λy w e=>?_)
   ·rw[lE (by unfold pK;rw[ep,ej];rfl),dw];show ay _ _ _
   ·have#[Z,e1,W,U,e4]:=ao y w e;apply#[Z,e1,(bh e4.2).trans W,U,e4]
  |false =>
   apply za ?_;apply yA (ne_nil (ρ:=upd (upd ρ 6 (.int (t:Nat))) 7 (.L c)) rfl J λZ Y=>?_);have n3:Z≠c3:=λq=>by rw[q,z]at Y;cases Y
   have n4:Z≠c4:=λq=>by rw[q,H]at Y;cases Y
   have nc:Z≠c:=λq=>by rw[q,J]at Y;cases Y
   have k4:Kp σ (σ2.cu Z []):=k3.cu (k3.noL Y);have z:(σ2.cu Z []).L c3=_:=(bh (kz n3)).trans z;have H:(σ2.cu Z []).L c4=_:=(bh (kz n4)).trans H;have J:(σ2.cu Z []).L c=_:=(bh (kz nc)).trans J;have D1:(σ2.cu Z []).D d5=some es:=D1;have ag:∀y w,es.lookup (.int y)=some w->∃c1,w=.L c1/\(σ2.cu Z []).L c1=some ((pos ys y).map λj:Nat=>V.int j)/\σ.L c1=none/\c1≠c3/\c1≠c4:=λy w e=>by
    have#[c1,e1,W,U]:=ao y w e;apply#[c1,e1,(bh (λq=>by rw[q,Y]at W;cases W)).trans W,U]
   generalize σ2.cu Z []=bd at k4 z H J D1 ag ⊢;have bM:bd.L c3=some (((up (t+1)).filter (jK pk ys)).map V.int):=by rw[aR ej];show z
   have bL:bd.L c4=some (((up (t+1)).filter (pK pk au ys)).map V.int):=by rw[aR (by unfold pK;rw[ep,ej];rfl)];show H
   have bv:plK pk au ys (t:Nat)=decide (pos ys (t:Nat)≠[]):=by unfold plK;rw[ep,ej];rfl
   by_cases c0:pos ys (t:Nat)=[]
   ·have e0:decide (pos ys (t:Nat)≠[])=false:=cw (λq=>q c0);rw[e0];apply za (h _ _ (.mk es k4 r0 r1 r2 r3 r4 r5 bM bL D1 (by rw[aR (bv.trans e0)];show keys) ag))
   ·have e0:decide (pos ys (t:Nat)≠[])=true:=cj c0;rw[e0];have hn:es.lookup (.int (t:Nat))=none:=by
     cases q:es.lookup (.int (t:Nat)) with
     |none=>rfl
     |some w =>
      have h1:Key.int (t:Nat)∈es.map (·.1):=aP.mpr (by rw[q];rfl);rw[keys]at h1;have#[y,hy,e]:=bg.mp h1;cases e;have:=(jQ.mp (aW.mp hy).1).2
      (show False.elim (fb .ff .i (.il (.t .A) (.t .A)) this))
    have bR:es.length<=7:=by
     have:=bb List.length keys;rw[ai,ai]at this;rw[this];show O _
    apply bB #[_,rfl,_,r5,_,rfl,es,.int (t:Nat),D1,rfl,by unfold aw;(show fb (.l .A .Q) .a (.k .A (.n 7)) bR),?_];apply h _ _ (.mk (putD es (.int (t:Nat)) (.L c)) (k4.jr h5) r0 r1 r2 r3 r4 r5 bM bL (ay _ _ _) ?_ λy w e=>?_)
    ·rw[rE hn,dw,keys,lE (bv.trans e0),dw];rfl
    ·rw[eG]at e;by_cases q:Key.int y=Key.int (t:Nat)
     ·rw[br q]at e;cases q;cases e;apply#[c,rfl,J,bn,U,e4]
     ·rw[az q]at e;show ag y w e
end R1
namespace R1
open SM
variable {ys:List Int}
inductive w8 (σ:St)(ys:List Int)(pk au:Bool)(v:V)(σ':St):Prop
 |mk (s1 s2 d5:Addr) (jn pn ks:List Int) (es:List (Key×V)) (hv:v=.T [.set s1,.set s2,.dct d5]) (E:Ext σ σ') (hI:σ'.I=σ.I) (S1:σ'.S s1=some (jn.map Key.int)) (S2:σ'.S s2=some (pn.map Key.int)) (D:σ'.D d5=some es)
  (J:jn.Nodup/\∀y,y∈jn↔y∈ys/\jkP pk y=true) (Pn:pn.Nodup/\∀y,y∈pn↔y∈ys/\jkP pk y=false/\wt au ys y=true) (keys:es.map (·.1)=ks.map Key.int) (M:ks.Nodup/\∀y,y∈ks↔y∈ys/\jkP pk y=false/\wt au ys y=false)
  (pl:∀y w,es.lookup (.int y)=some w->∃c,w=.L c/\σ'.L c=some ((pos ys y).map λj:Nat=>V.int j)/\σ.L c=none):w8 σ ys pk au v σ'
def CE {au:Bool}{y:Int}(h:wt au ys y=true):y∈ys:=by
 apply eZ.mp λe=>?_;unfold wt oX at h;have#[_,h]:=band h;have#[_,h]:=band h;have:=ak h;rw[show posOf (Key.int y) (ys.map Key.int)=[] from e]at this;show ku _ this
def s8 {pk:Bool}{y:Int}(h:y∈ys):jK pk ys y=jkP pk y:=by
 unfold jK;rw[cj (eZ.mpr h),Bool.and_true]
def us7 {p:Int->Bool}:∃us:List Int,us.length<4000/\∀n∈(up 7).filter p,n∈us:=#[up 7,by decide,λn Z=>(aW.mp Z).1]
def JI {P:Nat->Option Fn}(hP:P 10=some fnN){n:Nat}{σ:St}{lb:Addr}{pk au:Bool}{Q:V->St->Prop}(hL:σ.L lb=some (ys.map V.int))(hz:ys.length<aw)(hr:∀y∈ys,0<=y/\y<7)(h:∀v σ',w8 σ ys pk au v σ'->Q v σ'):ef P (n+1) 10 [.L lb,.bool pk,.bool au] σ Q:=by
 apply#[fnN,hP,av 3,av 3,?_];have r0:frameOf fnN [.L lb,.bool pk,.bool au] 0=some (.L lb):=rfl;have r1:frameOf fnN [.L lb,.bool pk,.bool au] 1=some (.bool pk):=rfl;have r2:frameOf fnN [.L lb,.bool pk,.bool au] 2=some (.bool au):=rfl;generalize frameOf fnN [.L lb,.bool pk,.bool au]=ρ at r0 r1 r2;apply#[aq rfl,λc3 h3=>?_];apply#[aq rfl,λc4 h4=>?_];apply λd5 h5=>#[aq rfl,?_];have U:c3≠c4:=λq=>by
  rw[<- q]at h4;have:upd σ.L c3 [] c3=none:=h4;rw[ay]at this;cases this
 have ao:σ.L c4=none:=(bh (kz U)).symm.trans h4;have ag:σ.D d5=none:=h5;apply#[_,rfl,rfl,?_];have k0:Kp σ (((σ.cu c3 []).cu c4 []).jr d5 []):=(((Kp.refl σ).cu h3).cu ao).jr ag;apply#[7,rfl,by decide,?_];apply pv (NI σ lb pk au ys c3 c4 d5) ?_ ?_ (.mk [] k0 r0 r1 r2 rfl rfl rfl ((bh U).trans (ay _ _ _)) (ay _ _ _) (ay _ _ _) rfl λy w e=>by cases e)
 ·intro t v ρ' σ' hv I;have#[ht,rfl]:=nT (a:=0) (b:=7) hv;rw[tx]at ht;apply#[trivial,λkk hk=>?_];have e0:(((0:Nat)+t:Nat):Int)=(t:Nat):=by rw[tx]
  show dt _ uG (upd ρ' 6 (.int (((0:Nat)+t:Nat):Int))) σ' _;rw[e0];show uF ht hL hz h3 ao ag U I λbd σ2 I2=>hk _ _ I2
 ·intro ρ' σ' I;rw[show(uj 0 7).length=7 from rfl]at I;cases I;apply#[trivial,?_];apply#[_,r3,_,l3,us7,λjn nj mj s1 ar z=>?_];apply#[_,r4,_,l4,us7,λpn np mp s2 W Z=>?_];apply#[_,r5,aq rfl,?_];have hs:s1≠s2:=λq=>by
   rw[<- q]at W;have:upd σ'.S s1 _ s1=none:=W;rw[ay]at this;cases this
  have B:σ'.S s2=none:=(bh (kz hs)).symm.trans W;have e1:d5≠s1:=λq=>by rw[<- q,hd]at z;cases z
  have e2:d5≠s2:=λq=>by rw[<- q]at Z;have Z:σ'.D d5=none:=Z;rw[hd]at Z;cases Z
  apply h _ _ (.mk s1 s2 d5 jn pn _ es rfl #[λa xs e=>k.L a xs e,λa O e=>k.D a O e,λa O e=>?_,λa O e=>(ez k.I a).trans e] k.I ((bh hs).trans (ay _ _ _)) (ay _ _ _) hd #[nj,λy=>?_] #[np,λy=>?_] keys #[List.Nodup.sublist List.filter_sublist (AQ 7),λy=>?_] λy w e=>?_)
  ·rw[<- k.S]at e;have n1:a≠s1:=λq=>by rw[q,ar]at e;cases e
   have n2:a≠s2:=λq=>by rw[q,B]at e;cases e
   show(bh n2).trans ((bh n1).trans e)
  ·rw[mj,aW,jQ];apply#[λq=>?_,λq=>#[hr y q.1,by rw[s8 q.1];show q.2]];have Y:y∈ys:=eZ.mp (ak (band q.2).2);apply#[Y,(band q.2).1]
  ·rw[mp,aW,jQ];unfold pK;apply#[λq=>?_,λq=>#[hr y q.1,by rw[s8 q.1,q.2.1,q.2.2];rfl]];have#[H,J]:=band q.2;have Y:=CE J;rw[s8 Y]at H;apply#[Y,(dp _).mp H,J]
  ·rw[aW,jQ];unfold plK;apply#[λq=>?_,λq=>#[hr y q.1,by rw[s8 q.1,q.2.1,q.2.2,cj (eZ.mpr q.1)];rfl]];have#[H,J]:=band q.2;have#[J,q3]:=band J;have Y:=eZ.mp (ak q3);rw[s8 Y]at H;apply#[Y,(dp _).mp H,(dp _).mp J]
  ·have#[c,e3,e4,e5,_]:=pl y w e;apply#[c,e3,e4,e5]
end R1
variable {own own':Addr->Prop}{σ σ':St}{d sj sp db:Addr}{ys:List Int}{pk au:Bool}{v:V}
structure Kw (own own':Addr->Prop)(σ σ':St):Prop where
 L:∀a xs,¬own a->σ.L a=some xs->σ'.L a=some xs
 D:∀a es,σ.D a=some es->σ'.D a=some es
 S:∀a ks,σ.S a=some ks->σ'.S a=some ks
 o:∀a,own' a->own a\/σ.L a=none
def Ext.kw (h:Ext σ σ'):Kw own own σ σ':=#[λa xs _ e=>h.L a xs e,h.D,h.S,λa h=>.inl h]
def cC.kw {x:Addr}(h:cC x σ σ'):Kw own own σ σ':=#[λa xs _ e=>h.L a xs e,h.D,h.S,λa h=>.inl h]
def Kw.out (h:Kw own own' σ σ'){c:Addr}{xs:List V}(e:σ.L c=some xs)(n:¬own c):¬own' c:=λq=>(h.o c q).elim n λq=>by rw[e]at q;cases q
namespace R1
open SM
abbrev LG (σ:St)(t:Nat)(a:Addr):Prop:=∃xs:List Int,σ.L a=some (xs.map V.int)/\(∀x∈xs,0<=x/\x<7)/\xs.length<=201+128*t
def LG.some {t:Nat}{a:Addr}(h:LG σ t a):(σ.L a).isSome=true:=by have#[xs,e,_]:=h;rw[e];rfl
def C2 {xs:List Int}(h:∀x∈xs,0<=x/\x<7):Small xs:=#[up 7,by decide,λy Z=>jQ.mpr (h y Z)]
abbrev qc (r:Addr)(ps:List Addr)(a:Addr):Prop:=a=r\/a∈ps
abbrev Pl (σ:St)(own:Addr->Prop)(d:Addr)(ys ks:List Int):Prop:=∃es,σ.D d=some es/\es.map (·.1)=ks.map Key.int/\∀y w,es.lookup (.int y)=some w->∃c,w=.L c/\σ.L c=some ((pos ys y).map λj:Nat=>V.int j)/\¬own c
def Pl.keep {ks:List Int}(h:Pl σ own d ys ks)(k:Kw own own' σ σ'):Pl σ' own' d ys ks:=by
 have#[es,O,U,W]:=h;apply#[es,k.D _ _ O,U,λy w e=>?_];have#[c,J,Y,Z]:=W y w e;apply#[c,J,k.L _ _ Z Y,k.out Y Z]
def Pl.tabS {ks:List Int}(h:Pl σ own d ys ks)(hz:ys.length<aw):qE σ d:=by
 have#[es,U,W,Y]:=h;apply#[es,U,λk=>?_];cases e:es.lookup k with
 |none=>show .inl rfl
 |some w =>
  have Z:k∈es.map (·.1):=aP.mpr (by rw[e];rfl);rw[W]at Z;have#[y,_,rfl]:=bg.mp Z;have#[c,rfl,O,_]:=Y y w e;show .inr #[c,_,rfl,O,Nat.lt_of_le_of_lt (fk (nq _ _) (by rw[oz];unfold kI;rw[ai];show av _)) hz]
inductive MT (σ:St)(own:Addr->Prop)(sj sp db:Addr)(ys:List Int)(pk au:Bool):Prop
 |mk (jn pn ks:List Int) (S1:σ.S sj=some (jn.map Key.int)) (S2:σ.S sp=some (pn.map Key.int)) (J:jn.Nodup/\∀y,y∈jn↔y∈ys/\jkP pk y=true) (Pn:pn.Nodup/\∀y,y∈pn↔y∈ys/\jkP pk y=false/\wt au ys y=true)
  (D:Pl σ own db ys ks) (M:ks.Nodup/\∀y,y∈ks↔y∈ys/\jkP pk y=false/\wt au ys y=false):MT σ own sj sp db ys pk au
def MT.keep (h:MT σ own sj sp db ys pk au)(k:Kw own own' σ σ'):MT σ' own' sj sp db ys pk au:=by
 have#[jn,Z,ks,W,Y,J,U,D,M]:=h;apply#[jn,Z,ks,k.S _ _ W,k.S _ _ Y,J,U,D.keep k,M]
def JJ {x:Addr}{f:Nat->Option V}{jn pn:List Int}(h:cX σ σ' x d f ys au (jkP pk) db sj sp jn pn)(O:∀a,own a->(σ.L a).isSome=true):MT σ' own sj sp db ys pk au:=by
 have#[es,T,N]:=h.D;have#[ks,Z]:=sD T.sub;apply#[jn,pn,ks,h.S,h.Sp,h.J,h.Pn,#[es,T.D,Z,λy w e=>?_],nM (Z▸T.nd),λy=>?_]
 ·cases W:(sy (jkP pk) (Key.int y)||sy (wt au ys) (Key.int y)) with
  |true=>rw[T.out _ W]at e;cases e
  |false =>
   rcases T.here _ W with ⟨q,_⟩|⟨c,Y,U⟩
   ·rw[q]at e;cases e
   ·rw[Y]at e;cases e;apply#[c,rfl,U,λo=>by have:=O c o;rw[N _ c Y]at this;cases this]
 ·rw[<- pJ,<- Z,cP T];show y∈ys/\(jkP pk y||wt au ys y)=false↔_;rw[Bool.or_eq_false_iff]
inductive Told (σ:St)(own:Addr->Prop)(sj sp db:Addr)(v:V):Prop
 |mk (s1 s2 d5:Addr) (ys ks1 ks2 j1 j2 p1 p2:List Int) (hv:v=.T [.set s1,.set s2,.dct d5]) (hz:ys.length<aw) (Sj:σ.S sj=some (j1.map Key.int)) (S1:σ.S s1=some (j2.map Key.int)) (J:j1.Nodup/\j2.Nodup/\∀y,y∈j1↔y∈j2)
  (Sp:σ.S sp=some (p1.map Key.int)) (S2:σ.S s2=some (p2.map Key.int)) (Pn:p1.Nodup/\p2.Nodup/\∀y,y∈p1↔y∈p2) (D1:Pl σ own db ys ks1) (D2:Pl σ own d5 ys ks2) (M:ks1.Nodup/\ks2.Nodup/\∀y,y∈ks1↔y∈ks2):Told σ own sj sp db v
def Told.keep (h:Told σ own sj sp db v)(k:Kw own own' σ σ'):Told σ' own' sj sp db v:=by
 have#[U,W,d5,ys,Y,Z,B,H,I,O,z,hz,Sj,S1,J,Sp,S2,Pn,D1,D2,M]:=h;apply#[U,W,d5,ys,Y,Z,B,H,I,O,z,hz,k.S _ _ Sj,k.S _ _ S1,J,k.S _ _ Sp,k.S _ _ S2,Pn,D1.keep k,D2.keep k,M]
def wH (h:MT σ own sj sp db ys pk au)(N:w8 σ ys pk au v σ')(hz:ys.length<aw)(ho:∀a,own a->(σ.L a).isSome=true):Told σ' own sj sp db v:=by
 have#[z,B,d5,jn,pn,ks,es,hv,E,hI,T1,T2,D',H,Z,keys,I,pl]:=N;have#[U,Y,W,S1,S2,J,O,D,M]:=h.keep (own':=own) E.kw;apply#[z,B,d5,ys,W,ks,U,jn,Y,pn,hv,hz,S1,T1,#[J.1,H.1,λy=>(J.2 y).trans (H.2 y).symm],S2,T2,#[O.1,Z.1,λy=>(O.2 y).trans (Z.2 y).symm],D,#[es,D',keys,λy w e=>?_],M.1,I.1,λy=>(M.2 y).trans (I.2 y).symm];have#[c,e1,e2,e3]:=pl y w e;apply#[c,e1,e2,λo=>by have:=ho c o;rw[e3]at this;cases this]
def cR {as bs:List Int}(W:as.Nodup)(Y:bs.Nodup)(h:∀y,y∈as↔y∈bs):as.length=bs.length:=Nat.le_antisymm (W.length_le_of_subset λy Z=>(h y).mp Z) (Y.length_le_of_subset λy Z=>(h y).mpr Z)
def eqvAll_refl:∀L:List Nat,PyData.eqvAll (L.map λj:Nat=>PyData.int j) (L.map λj:Nat=>PyData.int j)=true
 | []=>by simp[PyData.eqvAll]
 |t::L=>by simp[PyData.eqvAll,PyData.eqv,eqvAll_refl L]
def M8 {a b:Addr}{U W:List Int}(h1:Pl σ own a ys U)(h2:Pl σ own b ys W)(M:U.Nodup/\W.Nodup/\∀y,y∈U↔y∈W):EqA σ (.dct a) (.dct b):=by
 have#[es,e1,J,e3]:=h1;have#[B,f1,f2,f3]:=h2;have Z:∀{O:List (Key×V)} {ks:List Int},O.map (·.1)=ks.map Key.int->∀e∈O,∃i,e.1=Key.int i/\i∈ks:=λ{O ks} h e Y=>by
  have:e.1∈ks.map Key.int:=h▸bg.mpr #[e,Y,rfl];have#[i,I,q]:=bg.mp this;apply#[i,q.symm,I]
 have len:∀{O:List (Key×V)} {ks:List Int},O.map (·.1)=ks.map Key.int->O.length=ks.length:=λ{O ks} h=>by
  have:=bb List.length h
  rwa [ai,ai]at this
 apply .inr (.inr #[a,b,es,B,rfl,rfl,e1,f1,λe Y=>?_,λe Y=>?_,?_,λe Y=>?_])
 ·have#[i,q,_]:=Z J e Y;apply#[i,q]
 ·have#[i,q,_]:=Z f2 e Y;apply#[i,q]
 ·rw[len J,len f2];show cR M.1 M.2.1 M.2.2
 ·have#[i,q,I]:=Z J e Y;have#[k,w]:=e;have q:k=Key.int i:=q;subst q;have z:es.lookup (.int i)=some w:=lookup_mem (J▸nK M.1) Y;have#[c,rfl,c1,_]:=e3 i w z;have hf:(B.lookup (.int i)).isSome=true:=aP.mp (by rw[f2];show bg.mpr #[i,(M.2.2 i).mp I,rfl]);have#[u,H]:=ba.mp hf;have#[c',rfl,c2,_]:=f3 i u H;apply#[_,_,_,H,jG c1,jG c2,?_];simp[PyData.eqv,eqvAll_refl]
def Told.eqS (h:Told σ own sj sp db v):EqS σ (.T [.set sj,.set sp,.dct db]) v:=by
 have#[s1,s2,d5,ys,ks1,ks2,j1,j2,p1,p2,rfl,hz,Sj,S1,J,Sp,S2,Pn,D1,D2,M]:=h;apply .inr #[_,_,rfl,rfl,rfl,λi x y Y Z=>?_]
 match i with
 |0 =>
  cases Y;cases Z;apply#[.inr (.inl #[sj,s1,j1,j2,rfl,rfl,Sj,S1,cR J.1 J.2.1 J.2.2,λy Z=>(J.2.2 y).mp Z]),λq=>Bool.noConfusion (show false=true from bb isNone q)]
 |1 =>
  cases Y;cases Z;apply#[.inr (.inl #[sp,s2,p1,p2,rfl,rfl,Sp,S2,cR Pn.1 Pn.2.1 Pn.2.2,λy Z=>(Pn.2.2 y).mp Z]),λq=>Bool.noConfusion (show false=true from bb isNone q)]
 |2 =>
  cases Y;cases Z;apply#[M8 D1 D2 M,λq=>Bool.noConfusion (show false=true from bb isNone q)]
 |i+3=>cases Y
abbrev b9 (σ:St)(v u:V):Prop:=(v=.none/\u=.none)\/∃a b es fs zs,v=.dct a/\u=.dct b/\σ.D a=some es/\σ.D b=some fs/\ue es zs/\ue fs zs
def b9.keep {u:V}(h:b9 σ v u)(k:Kw own own' σ σ'):b9 σ' v u:=h.imp id λ⟨a,b,es,Z,zs,O,U,W,Y,r⟩=>#[a,b,es,Z,zs,O,U,k.D _ _ W,k.D _ _ Y,r]
def ue.keys {es:List (Key×V)}{zs:List Int}(h:ue es zs):∀e∈es,∃i,e=(Key.int i,V.int (zs.count i:Nat)):=λe Z=>by
 have#[ks,W,rfl,Y]:=h;have#[k,_,rfl]:=bg.mp Z;apply#[k,rfl]
def b9.eqS {u:V}(h:b9 σ v u):EqS σ v u:=by
 rcases h with ⟨rfl,rfl⟩|⟨a,b,es,fs,zs,rfl,rfl,z,B,O,U⟩
 ·show .inl #[.inl #[rfl,rfl],λx q=>Bool.noConfusion (show true=false from bb isNone q)]
 ·apply .inl #[.inr (.inr #[a,b,es,fs,rfl,rfl,z,B,λe Z=>?_,λe Z=>?_,?_,λe Z=>?_]),λx q=>?_]
  ·have#[i,q]:=O.keys e Z;apply#[i,by rw[q]]
  ·have#[i,q]:=U.keys e Z;apply#[i,by rw[q]]
  ·have#[H,I,rfl,W]:=O;have#[k2,J,rfl,Y]:=U;rw[ai,ai];show cR I J λy=>(W y).trans (Y y).symm
  ·have#[H,I,rfl,W]:=O;have#[k2,J,rfl,Y]:=U;have#[k,hk,rfl]:=bg.mp Z;apply#[V.int (zs.count k:Nat),.int (zs.count k:Nat),.int (zs.count k:Nat),?_,rfl,rfl,by simp[PyData.eqv]];show List.lookup (Key.int k) _=_;rw[aC,br ((Y k).mpr ((W k).mp hk))]
  ·have:tL (V.dct a)=tL (V.set x):=bb tL q;cases this
end R1
namespace R1
open SM
variable {σ σ':St}{t u:Nat}{a r x:Addr}{ps:List Addr}{pk au:Bool}{ρ:Fr}{own:Addr->Prop}{v vj:V}
def LG.ke (h:LG σ t a)(k:∀b xs,σ.L b=Option.some xs->σ'.L b=Option.some xs):LG σ' t a:=by
 have#[xs,e,r]:=h;apply#[xs,k _ _ e,r]
def LG.mono (h:LG σ t a)(l:t<=u):LG σ u a:=by
 have#[xs,e,Y,Z]:=h;apply#[xs,e,Y,by show gr (.k .A (.a (.n 201) (.m 128 .B))) [[1,128,1]] .F (.k .A (.a (.n 201) (.m 128 .C))) l Z]
structure LH (it:Addr×List V)(σ:St)(t:Nat)(r:Addr)(ps:List Addr):Prop where
 R:σ.L r=Option.some (ps.map V.L)
 len:ps.length=3
 P:∀p∈ps,LG σ t p
 kept:σ.L it.1=Option.some it.2/\¬qc r ps it.1
def LH.ke (h:LH it σ t r ps)(k:∀b xs,σ.L b=Option.some xs->σ'.L b=Option.some xs):LH it σ' t r ps:=#[k _ _ h.R,h.len,λp Z=>(h.P p Z).ke k,k _ _ h.kept.1,h.kept.2]
def LH.mono (h:LH it σ t r ps)(l:t<=u):LH it σ u r ps:=#[h.R,h.len,λp Z=>(h.P p Z).mono l,h.kept]
def LH.isS (h:LH it σ t r ps)(o:qc r ps a):(σ.L a).isSome=true:=o.elim (λq=>by rw[q,h.R];rfl) λq=>(h.P a q).some
def LH.ne (h:LH it σ t r ps)(g:LG σ t a):a≠r:=by
 rintro rfl;have#[xs,e,_]:=g;have:=af (h.R.symm.trans e);have Z:=h.len;cases ps with
 |nil=>cases Z
 |cons p ps =>
  cases xs with
  |nil=>cases this
  |cons x xs =>
   have:=(List.cons.inj this).1;show Bool.noConfusion (show true=false from bb (λv=>(jP v).isSome) this)
def LH.at (h:LH it σ t r ps){i:Nat}(Y:i<3):∃p,ps[i]?=Option.some p/\p∈ps/\LG σ t p/\∀K:V->Prop,K (.L p)->jL (.L r) (.int i) σ K:=by
 have Z:=h.len;have e:ps[i]?=Option.some ps[i]:=cm (mn .B .d (.l .A (.n 3)) (.e .B (.n 3)) Y Z);apply#[_,e,cz e,h.P _ (cz e),λK k=>#[_,.L ps[i],h.R,by rw[td];(show oo (.ik .O (.t .A)) .f),?_,k]];rw[td,gw,bw,e];rfl
structure LM (σ:St)(x d:Addr)(f:Nat->Option V)(vj:V)(la lb:Addr)(au:Bool)(vb vc vf:V)(db sj sp:Addr):Prop where
 I:σ.I x=some (d,f)
 F:F0 f vj la lb au vb vc vf
 f7:f 7=some (.dct db)
 f8:f 8=some (.set sj)
 f9:f 9=some (.set sp)
structure FR1 (pk au:Bool)(r x la lb:Addr)(n8 v9 v10 v11:V)(ρ:Fr):Prop where
 r2:ρ 2=some (.bool pk)
 r3:ρ 3=some (.bool au)
 r4:ρ 4=some (.L r)
 r5:ρ 5=some (.L la)
 r6:ρ 6=some (.L lb)
 r7:ρ 7=some (.obj x)
 r8:ρ 8=some n8
 r9:ρ 9=some v9
 r10:ρ 10=some v10
 r11:ρ 11=some v11
def FR1.of {la lb:Addr}{Y Z v10 v11:V}{ρ':Fr}(h:FR1 pk au r x la lb Y Z v10 v11 ρ)(k:∀i,i<12->ρ' i=ρ i):FR1 pk au r x la lb Y Z v10 v11 ρ':=
 #[(k 2 (by decide)).trans h.r2,(k 3 (by decide)).trans h.r3,(k 4 (by decide)).trans h.r4,(k 5 (by decide)).trans h.r5,(k 6 (by decide)).trans h.r6,(k 7 (by decide)).trans h.r7,(k 8 (by decide)).trans h.r8,(k 9 (by decide)).trans h.r9,(k 10 (by decide)).trans h.r10,(k 11 (by decide)).trans h.r11]
abbrev yp (σ:St)(own:Addr->Prop)(v:V):Prop:=v=.none\/∃a L,v=.L a/\σ.L a=some ((L:List T3).map mV)/\L≠[]/\L.length<=400000/\¬own a
abbrev b8 (σ:St)(own:Addr->Prop)(v:V):Prop:=v=.none\/∃a,v=.L a/\(σ.L a).isSome=true/\¬own a
def yp.keep {own':Addr->Prop}(h:yp σ own v)(k:Kw own own' σ σ'):yp σ' own' v:=h.imp id λ⟨a,L,e,Y,U,W,Z⟩=>#[a,L,e,k.L _ _ Z Y,U,W,k.out Y Z]
def b8.keep {own':Addr->Prop}(h:b8 σ own v)(k:Kw own own' σ σ'):b8 σ' own' v:=h.imp id λ⟨a,e,W,Y⟩=>by
 have#[xs,Z]:=ba.mp W;apply#[a,e,by rw[k.L _ _ Y Z];rfl,k.out Z Y]
def yp.cod (h:yp σ own v):b8 σ own v:=h.imp id λ⟨a,L,e,Y,U,W,Z⟩=>#[a,e,by rw[Y];rfl,Z]
inductive LI (it:Addr×List V)(pk au:Bool)(r x:Addr)(vj:V)(t:Nat)(ρ:Fr)(σ:St):Prop
 |mk (la lb:Addr) (ps:List Addr) (d:Addr) (f:Nat->Option V) (vb vc vf vct n8:V) (db sj sp:Addr) (F:FR1 pk au r x la lb n8 vb vc vct ρ) (H:LH it σ t r ps) (M:LM σ x d f vj la lb au vb vc vf db sj sp) (A:LG σ t la) (B:LG σ t lb)
  (b:yp σ (qc r ps) vb) (c:b8 σ (qc r ps) vc) (T:Told σ (qc r ps) sj sp db n8) (N:b9 σ vf vct):LI it pk au r x vj t ρ σ
def LI.of {ρ':Fr}(h:LI it pk au r x vj t ρ σ)(k:∀i,i<12->ρ' i=ρ i):LI it pk au r x vj t ρ' σ:=by
 have#[la,lb,ps,d,f,vb,vc,vf,Z,Y,db,sj,sp,F,H,M,A,B,b,c,T,N]:=h;apply#[la,lb,ps,d,f,vb,vc,vf,Z,Y,db,sj,sp,F.of k,H,M,A,B,b,c,T,N]
def LI.mono (h:LI it pk au r x vj t ρ σ)(l:t<=u):LI it pk au r x vj u ρ σ:=by
 have#[la,lb,ps,d,f,vb,vc,vf,Z,Y,db,sj,sp,F,H,M,A,B,b,c,T,N]:=h;apply#[la,lb,ps,d,f,vb,vc,vf,Z,Y,db,sj,sp,F,H.mono l,M,A.mono l,B.mono l,b,c,T,N]
inductive AD (it:Addr×List V)(pk au:Bool)(r x:Addr)(vj:V)(t:Nat)(ρ:Fr)(σ:St):Prop
 |mk (fi se la lb:Addr) (ps:List Addr) (d:Addr) (f:Nat->Option V) (vb vc vf vct n8 v9 v10:V) (db sj sp:Addr) (F:FR1 pk au r x fi se n8 v9 v10 vct ρ) (r17:ρ 17=some (.L la)) (r18:ρ 18=some (.L lb)) (H:LH it σ t r ps) (M:LM σ x d f vj la lb au vb vc vf db sj sp) (Gf:LG σ t fi) (Gs:LG σ t se) (A:LG σ t la) (B:LG σ t lb)
  (b:yp σ (qc r ps) vb) (c:b8 σ (qc r ps) vc) (E1:la=fi->lb=se->v9=vb/\v10=vc) (E2:¬(la=fi/\lb=se)->vb=.none/\vc=.none) (E3:lb=se->Told σ (qc r ps) sj sp db n8/\b9 σ vf vct)
  (E4:lb≠se->vf=.none/\∃ys:List Int,σ.L lb=some (ys.map V.int)/\MT σ (qc r ps) sj sp db ys pk au):AD it pk au r x vj t ρ σ
def LI.ad (h:LI it pk au r x vj t ρ σ)(W:ρ 17=ρ 5)(Y:ρ 18=ρ 6):AD it pk au r x vj t ρ σ:=by
 have#[la,lb,ps,d,f,vb,vc,vf,Z,U,db,sj,sp,F,H,M,A,B,b,c,T,N]:=h;apply#[la,lb,la,lb,ps,d,f,vb,vc,vf,Z,U,vb,vc,db,sj,sp,F,W.trans F.r5,Y.trans F.r6,H,M,A,B,A,B,b,c,λ_ _=>#[rfl,rfl],λq=>absurd #[rfl,rfl] q,λ_=>#[T,N],λq=>absurd rfl q]
def Q2 {C:Cal}{i j:Nat}{b:Addr}{Q:Bool->St->Prop}(Y:ρ i=some (.L a))(Z:ρ j=some (.L b))(W:(σ.L a).isSome=true)(hb:(σ.L b).isSome=true)(h:Q (!(a==b)) σ):wpT C (.c .isNot (.l i) (.l j)) ρ σ Q:=#[_,Y,_,Z,W,hb,h]
def wR {K:Bool->Prop}(h:b8 σ own v)(k:K false):jO .isNot v v σ K:=by
 rcases h with rfl|⟨a,rfl,Z,_⟩
 ·show k
 ·apply#[Z,Z,?_];rw[dg];show k
def sC {xs ys:List Int}(h:xs.map V.int=ys.map V.int):xs=ys:=by
 induction xs generalizing ys with
 |nil=>cases ys with
  |nil=>rfl
  |cons y ys=>cases h
 |cons x xs Z=>cases ys with
  |nil=>cases h
  |cons y ys =>
   have#[W,Y]:=List.cons.inj h;rw[V.int.inj W,Z Y]
def AD.checked {P:Nat->Option Fn}(hP:P 10=some fnN){n:Nat}{ρ:Fr}{K:Fl->Fr->St->Prop}(h:AD it pk au r x vj t ρ σ)(ht:t<=64)(k:∀ρ' σ',LI it pk au r x vj t ρ' σ'->K .next ρ' σ'):dt (ef P (n+1)) E8 ρ σ K:=by
 have#[fi,J,la,lb,ps,d,f,vb,vc,vf,Y,O,v9,v10,db,sj,sp,F,U,W,H,M,Gf,Gs,A,B,b,c,E1,E2,E3,E4]:=h;have last:∀(ρ':Fr) (σ':St) (O Y:V),FR1 pk au r x la lb O vb vc Y ρ'->LH it σ' t r ps->LM σ' x d f vj la lb au vb vc vf db sj sp->LG σ' t la->LG σ' t lb->yp σ' (qc r ps) vb->b8 σ' (qc r ps) vc->Told σ' (qc r ps) sj sp db O->b9 σ' vf Y->dt (ef P (n+1)) (.cons (.C (.or (.c .isNot (.attr (.l 7) 1) (.l 5)) (.c .isNot (.attr (.l 7) 2) (.l 6))) %[.ret (.bool false)|0] .nil)
 (.cons (.C (.neS (.T %[.attr (.l 7) 8,.attr (.l 7) 9,.attr (.l 7) 7|0]) (.l 8)) %[.ret (.bool false)|0] .nil)
 (.cons (.C (.or (.c .isNot (.attr (.l 7) 4) (.l 9)) (.or (.c .isNot (.attr (.l 7) 5) (.l 10)) (.neS (.attr (.l 7) 6) (.l 11)))) %[.ret (.bool false)|0] .nil)
 .nil))) ρ' σ' K:=λρ' σ' O Y F H M A B b c T N=>by
  apply#[_,F.r7,x,d,f,_,rfl,M.I,M.F.f1,_,F.r5,A.some,A.some,?_];rw[dg];apply#[_,F.r7,x,d,f,_,rfl,M.I,M.F.f2,_,F.r6,B.some,B.some,?_];rw[dg];apply#[_,F.r7,x,d,f,_,rfl,M.I,M.f8,_,F.r7,x,d,f,_,rfl,M.I,M.f9,_,F.r7,x,d,f,_,rfl,M.I,M.f7,aq rfl,_,F.r8,T.eqS,?_];apply#[_,F.r7,x,d,f,_,rfl,M.I,M.F.f4,_,F.r9,wR b.cod (za ?_)];apply#[_,F.r7,x,d,f,_,rfl,M.I,M.F.f5,_,F.r10,wR c (za ?_)];apply#[_,F.r7,x,d,f,_,rfl,M.I,M.F.f6,_,F.r11,N.eqS,?_];show k _ _ #[la,lb,ps,d,f,vb,vc,vf,Y,O,db,sj,sp,F,H,M,A,B,b,c,T,N]
 have Z:∀ρ':Fr,FR1 pk au r x fi J O vb vc Y ρ'->ρ' 17=some (.L la)->ρ' 18=some (.L lb)->dt (ef P (n+1)) (.cons (.C (.c .isNot (.l 18) (.l 6)) %[.a [.T [8,11]] (.T %[.call 10 %[.l 18,.l 2,.l 3|0],.none|0])|0] .nil)
 (.cons (.a [(.T [5,6])] (.T %[.l 17,.l 18|0]))
 (.cons (.C (.or (.c .isNot (.attr (.l 7) 1) (.l 5)) (.c .isNot (.attr (.l 7) 2) (.l 6))) %[.ret (.bool false)|0] .nil)
 (.cons (.C (.neS (.T %[.attr (.l 7) 8,.attr (.l 7) 9,.attr (.l 7) 7|0]) (.l 8)) %[.ret (.bool false)|0] .nil)
 (.cons (.C (.or (.c .isNot (.attr (.l 7) 4) (.l 9)) (.or (.c .isNot (.attr (.l 7) 5) (.l 10)) (.neS (.attr (.l 7) 6) (.l 11)))) %[.ret (.bool false)|0] .nil)
 .nil))))) ρ' σ K:=λρ' F U W=>by
  apply yA (Q2 W F.r6 B.some Gs.some ?_);by_cases z:lb=J
  ·rw[z,dg];have#[T,N]:=E3 z;subst z;apply za (mf ?_);apply tE (ρ:=ρ') [.L la,.L lb] (by simp only[aS,ic,zy,wi,U,W];rfl) rfl ?_;show last _ _ O Y #[F.r2,F.r3,F.r4,rfl,rfl,F.r7,F.r8,F.r9,F.r10,F.r11] H M A B b c T N
  ·rw[ee z];have#[rfl,ys,hy,mt]:=E4 z;have#[ag,ar,hr,hl]:=B;have ao:ys=ag:=sC (af (hy.symm.trans ar));subst ao;have hz:ys.length<aw:=by unfold aw;(show mn (.l .A .Q) [[1,128,1]] (.k .B (.n 64)) (.k .A (.a (.n 201) (.m 128 .B))) ht hl)
   apply bB #[_,W,_,F.r2,_,F.r3,JI hP hy hz hr λv σ' N=>#[aq rfl,_,rfl,rfl,?_]];have T:=wH mt N hz λa o=>H.isS o;have#[s1,s2,d5,jn,pn,ks,es,hv,E,hI,_]:=N;apply tE (ρ:=gj [8,11] [v,.none] ρ') [.L la,.L lb] (by simp only[aS,ic,zy,wi];rw[show gj [8,11] [v,.none] ρ' 17=some (.L la) from U,show gj [8,11] [v,.none] ρ' 18=some (.L lb) from W];rfl) rfl ?_;show last _ _ v .none #[F.r2,F.r3,F.r4,rfl,rfl,F.r7,rfl,F.r9,F.r10,rfl] (H.ke E.L) #[by rw[hI];show M.I,M.F,M.f7,M.f8,M.f9] (A.ke E.L) ((show LG σ t lb from#[ys,hy,hr,hl]).ke E.L) (b.keep E.kw) (c.keep E.kw) T (.inl #[rfl,rfl])
 apply#[_,U,_,F.r5,A.some,Gf.some,?_];have reset:¬(la=fi/\lb=J)->∀ρ',ρ'=gj [9,10] [V.none,V.none] ρ->FR1 pk au r x fi J O vb vc Y ρ'/\ρ' 17=some (.L la)/\ρ' 18=some (.L lb):=by
  rintro q ρ' rfl;have#[e1,e2]:=E2 q;apply#[#[F.r2,F.r3,F.r4,F.r5,F.r6,F.r7,F.r8,by rw[e1];rfl,by rw[e2];rfl,F.r11],U,W]
 by_cases c1:la=fi
 ·rw[c1,dg];apply#[_,W,_,F.r6,B.some,Gs.some,?_];by_cases c2:lb=J
  ·rw[c2,dg];have#[rfl,rfl]:=E1 c1 c2;show Z ρ F U W
  ·rw[ee c2];have#[q1,q2,q3]:=reset (λq=>c2 q.2) _ rfl;apply#[aq rfl,_,rfl,rfl,Z _ q1 q2 q3]
 ·rw[ee c1];have#[q1,q2,q3]:=reset (λq=>c1 q.1) _ rfl;apply#[aq rfl,_,rfl,rfl,Z _ q1 q2 q3]
end R1
namespace R1
open SM
variable {d la lb one db sj sp:Addr}{vj vb vc vf:V}
def xJ {n:Nat}{pk:Bool}{σ:St}:mE (ef R1.P (n+1)) (bif pk then .clo 0 [] else .none) (jkP pk) σ:=by
 cases pk with
 |false=>show .inl #[rfl,λy=>rfl]
 |true =>
  apply .inr #[0,[],rfl,λy σ' Q hk h=>#[fnL,rfl,av 1,av 1,?_]];have Z:frameOf fnL (.int y::[]) 0=some (.int y):=rfl;show dt _ %[.ret rV|0] (frameOf fnL (.int y::[])) σ' _;generalize frameOf fnL (.int y::[])=ρ at Z;apply#[_,Z,(by decide:(3:Int)≠0),?_];have e:jkP true y=decide (y.fmod 3=0):=rfl;show(if (y.fmod 3 != 0)=true then Q (.int 0) σ' else Q (.int 5) σ');by_cases c:y.fmod 3=0
  ·rw[c,az (by decide)];apply h _ λσ K q=>?_;rw[e,cj c]at q;show q
  ·rw[br (by simpa using c)];apply h _ λσ K q=>?_;rw[e,cw c]at q;show q
def LG.gN {σ:St}{t:Nat}{a:Addr}(h:LG σ t a)(Z:t<=64):∃ys:List Int,σ.L a=Option.some (ys.map V.int)/\Small ys/\ys.length<aw/\∀y∈ys,0<=y/\y<7:=by
 have#[xs,e,r,l]:=h;apply#[xs,e,C2 r,by unfold aw;(show mn (.l .A .Q) [[1,128,1]] (.k .B (.n 64)) (.k .A (.a (.n 201) (.m 128 .B))) Z l),r]
def do1 {n:Nat}{σ:St}{t:Nat}{x:Addr}{f:Nat->Option V}{au:Bool}{Q:V->St->Prop}(M:LM σ x d f vj la lb au vb vc vf db sj sp)(A:LG σ t la)(O:LG σ t one)
  (k:∀Z f1 W Y,cC x σ Z->LM Z x d f1 vj one lb au W Y vf db sj sp->(one=la->W=vb/\Y=vc)->(one≠la->W=.none/\Y=.none)->Q .none Z):ef R1.P (n+1) 2 [.obj x,.L one] σ Q:=by
 apply seq1 rfl M.I M.F.f1 A.some O.some (λe=>?_) λe=>?_
 ·subst e;show k σ f vb vc (Ext.refl σ).x M (λ_=>#[rfl,rfl]) λq=>absurd rfl q
 ·apply k _ _ .none .none ((Ext.refl σ).x.ir) #[jt,#[M.F.f0,rfl,M.F.f2,M.F.f3,rfl,rfl,M.F.f6],M.f7,M.f8,M.f9] (λq=>absurd q e) λ_=>#[rfl,rfl]
def do2 {n:Nat}{σ:St}{t:Nat}{x:Addr}{f:Nat->Option V}{pk:Bool}{other:Addr}{au:Bool}{own:Addr->Prop}{Q:V->St->Prop}(M:LM σ x d f (bif pk then .clo 0 [] else .none) la lb au vb vc vf db sj sp)(B:LG σ t lb)(O:LG σ t other)(ht:t<=64)(ho:∀a,own a->(σ.L a).isSome=true)
  (ks:other=lb->Q .none σ)
  (kn:other≠lb->∀Z f1 U W Y ys,(∀a xs,σ.L a=some xs->Z.L a=some xs)->LM Z x d f1 (bif pk then .clo 0 [] else .none) la other au .none .none .none U W Y->Z.L other=some (ys.map V.int)->MT Z own W Y U ys pk au->Q .none Z):ef R1.P (n+3) 3 [.obj x,.L other] σ Q:=by
 have#[ys,hy,H,hz,_]:=O.gN ht;apply PK (n:=n+1) rfl rfl M.I M.F B.some hy H hz xJ ks λe σ' f' U W Y jn pn z J=>?_;have#[f2,I2,e7,g7,g8,g9]:=J.I;show kn e σ' f2 U W Y ys J.L #[I2,z.of e7,g7,g8,g9] (J.L _ _ hy) (JJ J ho)
def EU {pk au:Bool}{r x:Addr}{t:Nat}{ρ:Fr}{σ W:St}{other:Addr}{ps:List Addr}{f1:Nat->Option V}{Y Z U n8:V}(F:FR1 pk au r x la lb n8 vb vc U ρ)(ag:ρ 17=some (.L one))(z:ρ 18=some (.L lb))(H:LH it σ t r ps)(A:LG σ t la)(B:LG σ t lb)(O:LG σ t one)(b:yp σ (qc r ps) vb)(c:b8 σ (qc r ps) vc)(T:Told σ (qc r ps) sj sp db n8)(N:b9 σ vf U)
  (E:cC x σ W) (M:LM W x d f1 vj one lb au Y Z vf db sj sp) (J:one=la->Y=vb/\Z=vc) (I:one≠la->Y=.none/\Z=.none):AD it pk au r x vj t ρ W:=by
 apply#[la,lb,one,lb,ps,d,f1,Y,Z,vf,U,n8,vb,vc,db,sj,sp,F,ag,z,H.ke E.L,M,A.ke E.L,B.ke E.L,O.ke E.L,B.ke E.L,?_,?_,λq _=>?_,λq=>I λe=>q #[e,rfl],λ_=>#[T.keep E.kw,N.keep (E.kw (own:=qc r ps))],λq=>absurd rfl q]
 ·by_cases e:one=la
  ·rw[(J e).1];show b.keep E.kw
  ·show .inl (I e).1
 ·by_cases e:one=la
  ·rw[(J e).2];show c.keep E.kw
  ·show .inl (I e).2
 ·apply#[(J q).1.symm,(J q).2.symm]
def ET {pk au:Bool}{r x:Addr}{t:Nat}{ρ:Fr}{σ Z:St}{other:Addr}{ps:List Addr}{f1:Nat->Option V}{Y I:V}{ys:List Int}(F:FR1 pk au r x la lb I vb vc Y ρ)(J:ρ 17=some (.L one))(U:ρ 18=some (.L other))(H:LH it σ t r ps)(A:LG σ t la)(B:LG σ t lb)(O:LG σ t one)(O2:LG σ t other)(W:other≠lb)
  (E:∀a xs,σ.L a=some xs->Z.L a=some xs) (M:LM Z x d f1 vj one other au .none .none .none db sj sp) (z:Z.L other=some (ys.map V.int)) (mt:MT Z (qc r ps) sj sp db ys pk au):AD it pk au r x vj t ρ Z:=
 #[la,lb,one,other,ps,d,f1,.none,.none,.none,Y,I,vb,vc,db,sj,sp,F,J,U,H.ke E,M,A.ke E,B.ke E,O.ke E,O2.ke E,.inl rfl,.inl rfl,λ_ q=>absurd q W,λ_=>#[rfl,rfl],λq=>absurd q W,λ_=>#[rfl,ys,z,mt]]
section
variable {pk au:Bool}{r x:Addr}{t:Nat}{ρ:Fr}{σ:St}{i j:Nat}{K:Fl->Fr->St->Prop}
public abbrev zh (pk:Bool):V:=bif pk then .clo 0 [] else .none
def zZ (h:LI it pk au r x (zh pk) t ρ σ)(ht:t<=64)(W:i<3)(hj:j<3)(z:ρ 14=some (.int i))(J:ρ 15=some (.int j))(k:∀ρ' σ',AD it pk au r x (zh pk) t ρ' σ'->K .next ρ' σ'):dt (ef R1.P 6) vF ρ σ K:=by
 have#[la,lb,ps,d,f,vb,vc,vf,O,n8,db,sj,sp,F,H,M,A,B,b,c,T,N]:=h;have#[one,_,_,O1,g1]:=H.at W;have#[other,_,_,O2,g2]:=H.at hj;apply#[_,F.r4,_,z,g1 _ #[_,F.r4,_,J,g2 _ #[aq rfl,_,rfl,rfl,?_]]];have U:FR1 pk au r x la lb n8 vb vc O (gj [17,18] [V.L one,V.L other] ρ):=F.of λi W=>by
  show upd (upd ρ 17 _) 18 _ i=ρ i;rw[bh (fb (.u .A (.n 18)) .j (.l .A (.n 12)) W),bh (fb (.u .A (.n 17)) .j (.l .A (.n 12)) W)]
 have Y:gj [17,18] [V.L one,V.L other] ρ 17=some (.L one):=rfl;have Z:gj [17,18] [V.L one,V.L other] ρ 18=some (.L other):=rfl;show dt _ _ (gj [17,18] [V.L one,V.L other] ρ) _ _;generalize gj [17,18] [V.L one,V.L other] ρ=ρ' at U Y Z ⊢;apply bZ [.L one,.L other] U.r7 (by rw[M.I];rfl) (by simp only[ic,zy,wi,Y,Z];rfl) ?_;apply rA rfl (by rw[M.I];rfl) (do1 M A O1 λag f1 ar ao E M1 s1 s2=>#[rfl,by rw[M1.I];rfl,?_]);apply do2 M1 (B.ke E.L) (O2.ke E.L) ht (λa o=>(H.ke E.L).isS o) (λe=>?_) λe σ2 f2 bl be bd ys hL M2 hy mt=>?_
 ·subst e;apply#[rfl,rfl,mf (k _ _ (EU (other:=other) U Y Z H A B O1 b c T N E M1 s1 s2))]
 ·apply#[rfl,rfl,mf (k _ _ (ET U Y Z H A B O1 O2 e (λa xs q=>hL _ _ (E.L _ _ q)) M2 hy mt))]
def DU (h:LI it pk au r x (zh pk) t ρ σ)(O:i<3)(U:ρ 14=some (.int i))(Z:ρ 18=ρ 6)(k:∀ρ' σ',AD it pk au r x (zh pk) t ρ' σ'->K .next ρ' σ'):dt (ef R1.P 6) JZ ρ σ K:=by
 have#[la,lb,ps,d,f,vb,vc,vf,W,n8,db,sj,sp,F,H,M,A,B,b,c,T,N]:=h;have#[one,_,_,z,g1]:=H.at O;apply oJ #[_,F.r4,_,U,g1 _ ?_];have J:FR1 pk au r x la lb n8 vb vc W (upd ρ 17 (.L one)):=F.of λi O=>bh (fb (.u .A (.n 17)) .j (.l .A (.n 12)) O);have Y:upd ρ 17 (V.L one) 17=some (.L one):=rfl;have Z:upd ρ 17 (V.L one) 18=some (.L lb):=(show upd ρ 17 (V.L one) 18=ρ 18 from rfl).trans (Z.trans F.r6);show dt _ _ (upd ρ 17 (V.L one)) _ _;generalize upd ρ 17 (V.L one)=ρ' at J Y Z ⊢;apply bZ [.L one] J.r7 (by rw[M.I];rfl) (by simp only[ic,zy,wi,Y];rfl) ?_;show do1 M A z λag f1 ar ao E M1 s1 s2=>#[rfl,mf (k _ _ (EU (other:=lb) J Y Z H A B z b c T N E M1 s1 s2))]
def DT (h:LI it pk au r x (zh pk) t ρ σ)(ht:t<=64)(hj:j<3)(O:ρ 15=some (.int j))(Z:ρ 17=ρ 5)(k:∀ρ' σ',AD it pk au r x (zh pk) t ρ' σ'->K .next ρ' σ'):dt (ef R1.P 6) JY ρ σ K:=by
 have#[la,lb,ps,d,f,vb,vc,vf,U,n8,db,sj,sp,F,H,M,A,B,b,c,T,N]:=h;have#[other,_,_,J,g2]:=H.at hj;apply oJ #[_,F.r4,_,O,g2 _ ?_];have W:FR1 pk au r x la lb n8 vb vc U (upd ρ 18 (.L other)):=F.of λi hi=>bh (fb (.u .A (.n 18)) .j (.l .A (.n 12)) hi);have Y:upd ρ 18 (V.L other) 18=some (.L other):=rfl;have Z:upd ρ 18 (V.L other) 17=some (.L la):=(show upd ρ 18 (V.L other) 17=ρ 17 from rfl).trans (Z.trans F.r5);show dt _ _ (upd ρ 18 (V.L other)) _ _;generalize upd ρ 18 (V.L other)=ρ' at W Z Y ⊢;apply bZ [.L other] W.r7 (by rw[M.I];rfl) (by simp only[ic,zy,wi,Y];rfl) ?_;apply do2 M B J ht (λa o=>H.isS o) (λe=>?_) λe σ2 f2 ao ag z ys hL M2 hy mt=>?_
 ·subst e;apply#[rfl,mf (k _ _ (EU (other:=other) W Z Y H A B A b c T N (Ext.refl σ).x M (λ_=>#[rfl,rfl]) λq=>absurd rfl q))]
 ·apply#[rfl,mf (k _ _ (ET W Z Y H A B A J e hL M2 hy mt))]
end
end R1
namespace R1
open SM
section
variable {pk au:Bool}{r x:Addr}{t u:Nat}{ρ:Fr}{σ σ':St}{i j:Nat}{w:Int}{vj:V}{K:Fl->Fr->St->Prop}
def CX {la lb d:Addr}{ps Y:List Addr}{f:Nat->Option V}{vb vc vf Z W:V}{db sj sp:Addr}(F:FR1 pk au r x la lb W vb vc Z ρ)(M:LM σ x d f vj la lb au vb vc vf db sj sp)(A:LG σ t la)(B:LG σ t lb)
  (b:yp σ (qc r ps) vb) (c:b8 σ (qc r ps) vc) (T:Told σ (qc r ps) sj sp db W) (N:b9 σ vf Z) (k:Kw (qc r ps) (qc r Y) σ σ') (J:LH it σ' u r Y) (O:σ'.I=σ.I) (U:∀a,LG σ t a->LG σ' u a):LI it pk au r x vj u ρ σ':=
 #[la,lb,Y,d,f,vb,vc,vf,Z,W,db,sj,sp,F,J,#[(ez O x).trans M.I,M.F,M.f7,M.f8,M.f9],U _ A,U _ B,b.keep k,c.keep k,T.keep k,N.keep k]
def LK {p a:Addr}{zs:List Int}(hz:∀y∈zs,0<=y/\y<7)(W:zs.length<=201+128*u)(l:t<=u)(h:LG σ t a):LG (σ.cu p (zs.map V.int)) u a:=by
 by_cases e:a=p
 ·subst e;apply#[zs,ay _ _ _,hz,W]
 ·have#[xs,U,Y,Z]:=h;apply#[xs,(bh e).trans U,Y,by show gr (.k .A (.a (.n 201) (.m 128 .B))) [[1,128,1]] .F (.k .A (.a (.n 201) (.m 128 .C))) l Z]
def CW {la lb d p:Addr}{ps:List Addr}{f:Nat->Option V}{vb vc vf Z U:V}{db sj sp:Addr}{zs:List Int}(F:FR1 pk au r x la lb U vb vc Z ρ)(H:LH it σ t r ps)(M:LM σ x d f vj la lb au vb vc vf db sj sp)(A:LG σ t la)(B:LG σ t lb)
  (b:yp σ (qc r ps) vb) (c:b8 σ (qc r ps) vc) (T:Told σ (qc r ps) sj sp db U) (N:b9 σ vf Z) (E:Kp σ σ') (W:p∈ps) (hz:∀y∈zs,0<=y/\y<7) (z:zs.length<=201+128*u) (l:t<=u):LI it pk au r x vj u ρ (σ'.cu p (zs.map V.int)):=by
 have Y:r≠p:=kz (H.ne (H.P p W));have O:∀a,LG σ t a->LG (σ'.cu p (zs.map V.int)) u a:=λa g=>LK hz z l (g.ke E.L);apply CX F M A B b c T N #[λa xs n e=>(bh (λq=>n (by rw[q];show .inr W))).trans (E.L _ _ e),E.D,λa ks e=>by rw[show(σ'.cu p (zs.map V.int)).S=σ.S from E.S];show e,λa o=>.inl o] #[(bh Y).trans (E.L _ _ H.R),H.len,λq J=>O q (H.P q J),(bh λq=>H.kept.2 (by rw[q];show .inr W)).trans (E.L _ _ H.kept.1),H.kept.2] E.I O
def MC (h:LI it pk au r x vj t ρ σ)(z:t<=64)(hi:i<3)(Z:ρ 14=some (.int i))(k:∀σ',LI it pk au r x vj t ρ σ'->K .next ρ σ'):dt (ef R1.P 6) MD ρ σ K:=by
 have#[la,lb,ps,d,f,vb,vc,vf,U,n8,db,sj,sp,F,H,M,A,B,b,c,T,N]:=h;have#[p,_,hp,#[xs,W,J,Y],g1]:=H.at hi;apply#[_,F.r4,_,Z,g1 _ #[_,F.r4,_,Z,g1 _ #[_,W,by decide,by decide,?_]]];rw[ai];have e:((xs.length:Nat):Int).fdiv 2=((xs.length/2:Nat):Int):=by
  rw[ti _ (by decide)];rfl
 rw[e];apply#[_,W,by show oo (.ik .O (.t .A)) .f,by show rq (.il (.t .A) (.n (2^60))) [[2,128,1,1]] (.k .B (.n 64)) (.k .C (.a (.n 201) (.m 128 .B))) (.e (.a (.m 2 .A) .D) .C) z Y (Ar.wg _ 2 (by decide)).2,?_];rw[gw,<- List.map_take];show k _ (CW F H M A B b c T N (Kp.refl σ) hp (λy I=>J y (List.mem_of_mem_take I)) (by rw[fq];(show gr (.k .A (.a (.n 201) (.m 128 .B))) .b (.k .C (.a (.n 201) (.m 128 .B))) (.k .A .C) Y (Ar.nr _ _).2.1)) (av t))
def rep1 (m:Nat)(z:Int):(List.replicate m [V.int z]).flatten=(List.replicate m z).map V.int:=by
 induction m with
 |zero=>rfl
 |succ m Z=>rw[List.replicate_succ,dU,Z,List.replicate_succ];rfl
def PN (e:Int)(h0:0<=e)(Z:e<8):((2:Int)^e.toNat).toNat<=128/\((2:Int)^e.toNat).natAbs<2^60:=by
 have#[n,rfl]:=Int.eq_ofNat_of_zero_le h0;rw[gw];have:n<8:=by(show fb (.l .A (.n 8)) .a (.il (.t .A) (.n 8)) Z)
 clear h0 Z
 revert n
 decide
def HX (h:LI it pk au r x vj t ρ σ)(ht:t<=63)(hi:i<3)(r14:ρ 14=some (.int i))(r16:ρ 16=some (.int w))(k:∀σ',LI it pk au r x vj (t+1) ρ σ'->K .next ρ σ'):dt (ef R1.P 6) xO ρ σ K:=by
 have#[la,lb,ps,d,f,vb,vc,vf,vct,n8,db,sj,sp,F,H,M,A,B,b,cc,T,N]:=h;have#[p,_,hp,#[xs,U,r1,r2],g1]:=H.at hi;have z0:0<=w.fmod 7:=iF _ (by decide);have z1:w.fmod 7<7:=Int.fmod_lt_of_pos _ (by decide);have e0:0<=(w.fdiv 7).fmod 8:=iF _ (by decide);have e1:(w.fdiv 7).fmod 8<8:=Int.fmod_lt_of_pos _ (by decide);have#[J,m2]:=PN _ e0 e1;apply#[_,F.r4,_,r14,g1 _ #[by show(σ.L p).isSome=true;rw[U];rfl,_,r16,by decide,aq rfl,λc hc=>#[_,r16,by decide,by decide,by decide,e0,by show ph (.ik .A (.n 1000)) .a (.il .A (.n 8)) e1,by decide,?_]]];apply#[_,ay _ _ _,?_,m2,λO W=>?_]
 ·show 1*_<=aw;unfold aw;(show fb (.k (.m 1 .A) .Q) .a (.k .A (.n 128)) J)
 show ∃us ys,p≠O/\_/\_/\_/\_;have Y:σ.L O=none:=by
  have z:O≠c:=λq=>by
   rw[q]at W;have:upd σ.L c _ c=none:=W;rw[ay]at this;cases this
  show(bh z).symm.trans W
 have I:p≠c:=λq=>by rw[q,hc]at U;cases U
 have Z:p≠O:=λq=>by rw[q,Y]at U;cases U
 apply#[_,_,Z,(bh Z).trans ((bh I).trans U),ay _ _ _,?_,rfl,?_]
 ·rw[rep1,ai,ai,j9];unfold aw;(show tq (.k .M .Q) [[1,128,1,1]] (.k .C (.n 63)) (.k .A (.a (.n 201) (.m 128 .C))) (.k .B (.n 128)) ht r2 J)
 ·rw[rep1,<- dw];apply k _ (CW F H M A B b cc T N (((Kp.refl σ).cu hc).cu Y) hp (λy hy=>?_) ?_ (rj t))
  ·rcases fh.mp hy with q|q
   ·show r1 y q
   ·rw[(List.mem_replicate.mp q).2];apply#[z0,z1]
  ·rw[cv,j9];(show gr (.k .M (.a (.n 201) (.m 128 .S))) .b (.k .A (.a (.n 201) (.m 128 .C))) (.k .B (.n 128)) r2 J)
def IK (h:LI it pk au r x vj t ρ σ)(ht:t<=64)(hi:i<3)(r14:ρ 14=some (.int i))(k:∀σ',LI it pk au r x vj t ρ σ'->K .next ρ σ'):dt (ef R1.P 6) xZ ρ σ K:=by
 have#[la,lb,ps,d,f,vb,vc,vf,vct,n8,db,sj,sp,F,H,M,A,B,b,c,T,N]:=h;have#[p,ei,hp,#[xs,hx,r1,r2],g1]:=H.at hi;have hl:=H.len;apply#[_,F.r4,_,r14,g1 _ #[_,_,_,hx,rfl,rfl,by decide,?_,λa Z=>?_]]
 ·rw[ai];(show(Ar.nab _).elim (λU=>(tq (.l .A .R) [[1,128,1,1]] (.k .B (.n 64)) (.k .C (.a (.n 201) (.m 128 .B))) (.ie (.t .A) (.t .C)) ht r2 U.2)) λU=>(cg (.l .A .R) .a (.ie (.t .A) (.g (.t .B))) U.2))
 have e1:((xs.map V.int).take (du (xs.map V.int).length ((xs.map V.int).length:Nat))).drop (du (xs.map V.int).length 0)=xs.map V.int:=by
  have c1:∀n:Nat,du n (n:Int)=n:=λn=>by unfold du;rw[td,gw,Nat.min_self]
  have c2:∀n:Nat,du n 0=0:=λn=>by unfold du fc;simp
  rw[c1,c2,qj,cK]
 rw[e1];have Y:r≠a:=λq=>by have:=H.R;rw[q,Z]at this;cases this
 apply#[_,F.r4,_,r14,_,(bh Y).trans H.R,by rw[td];(show oo (.ik .O (.t .A)) .f),by rw[td,ai];(show mn (.il (.t .A) (.t .B)) .d (.l .A (.n 3)) (.e .B (.n 3)) hi hl),?_];rw[td,gw,<- List.map_set];have hG:∀q,LG σ t q->LG ((σ.cu a (xs.map V.int)).cu r ((ps.set i a).map V.L)) t q:=λq g=>by
  have J:=H.ne g;have#[ys,W,y2,y3]:=g;apply#[ys,(bh J).trans ((bh λe=>?_).trans W),y2,y3];rw[e,Z]at W;cases W
 have I:LG ((σ.cu a (xs.map V.int)).cu r ((ps.set i a).map V.L)) t a:=#[xs,(bh (kz Y)).trans (ay _ _ _),r1,r2];apply k _ (CX F M A B b c T N #[λq ys n e=>?_,λ_ _ e=>e,λ_ _ e=>e,λq o=>?_] #[ay _ _ _,by rw[List.length_set];show H.len,λq J=>?_,?_,λo=>?_] rfl hG)
 ·show(bh (λz=>n (.inl z))).trans ((bh λz=>by rw[z,Z]at e;cases e).trans e)
 ·rcases o with o|o
  ·show .inl (.inl o)
  ·rcases dD o with o|o
   ·show .inl (.inr o)
   ·show .inr (o▸Z)
 ·rcases dD J with o|o
  ·show hG q (H.P q o)
  ·show o▸I
 ·show(bh (λz=>H.kept.2 (.inl z))).trans ((bh λz=>by have:=H.kept.1;rw[z,Z]at this;cases this).trans H.kept.1)
 ·rcases o with o|o
  ·show H.kept.2 (.inl o)
  ·rcases dD o with o|o
   ·show H.kept.2 (.inr o)
   ·have:=H.kept.1;rw[o,Z]at this;cases this
end
end R1
namespace R1
open SM
section
variable {pk au:Bool}{r x:Addr}{t u:Nat}{ρ:Fr}{σ σ':St}{i j:Nat}{w:Int}{vj:V}{K:Fl->Fr->St->Prop}
def yp.ok {own:Addr->Prop}{v:V}(h:yp σ own v):yB σ v:=h.imp id λ⟨a,L,e,W,Y,Z,_⟩=>#[a,L,e,W,Y,Z]
def Told.tab {own:Addr->Prop}{sj sp db:Addr}{v:V}(T:Told σ own sj sp db v):qE σ db/\∃js,σ.S sj=some js:=by
 have#[I,O,d5,ys,Y,Z,j1,z,B,H,hv,hz,W,S1,J,Sp,S2,Pn,U,D2,M]:=T;apply#[U.tabS hz,_,W]
abbrev N5:jo:=(.cons (.a [(.v 9)] (.I (.c .is (.l 9) .none) (.attr (.l 7) 4) (.l 9)))
 (.cons (.a [(.v 10)] (.I (.c .is (.l 10) .none) (.attr (.l 7) 5) (.l 10)))
 (.cons (.C (.or (.c .is (.l 19) .none) (.c .isNot (.l 19) (.I (.c .eq (.l 14) (.int 0)) (.l 9) (.l 10)))) %[.ret (.bool false)|0] .nil)
 .nil)))
def wZ {C:Cal}{m a:Nat}{d:Addr}{f:Nat->Option V}{v Z:V}{ss:jo}(W:m=9\/m=10)(Y:ρ 7=some (.obj x))(rm:ρ m=some v)(hI:σ.I x=some (d,f))(fa:f a=some Z)(hv:v=.none\/v=Z)(k:dt C ss (upd ρ m Z) σ K):dt C (.cons (.a [(.v m)] (.I (.c .is (.l m) .none) (.attr (.l 7) a) (.l m))) ss) ρ σ K:=by
 apply oJ #[_,rm,?_];show(if isNone v=true then _ else _);cases e:isNone v with
 |true=>show bB #[_,Y,x,d,f,_,rfl,hI,fa,k]
 |false =>
  have:v=Z:=hv.elim (λq=>by rw[q]at e;cases e) id;subst this;show za #[_,rm,k]
def jT {C:Cal}{la lb d:Addr}{ps:List Addr}{f:Nat->Option V}{vb vc vf Z z v9 v10:V}{db sj sp a:Addr}(F:FR1 pk au r x la lb z v9 v10 Z ρ)(H:LH it σ t r ps)(M:LM σ x d f vj la lb au vb vc vf db sj sp)(A:LG σ t la)(B:LG σ t lb)
  (b:yp σ (qc r ps) vb) (c:b8 σ (qc r ps) vc) (T:Told σ (qc r ps) sj sp db z) (N:b9 σ vf Z) (h9:v9=.none\/v9=vb) (be:v10=.none\/v10=vc) (bd:ρ 17=ρ 5) (ar:ρ 18=ρ 6)
  (ao:ρ 14=some (.int i)) (ag:ρ 19=some (.L a)) (ha:(σ.L a).isSome=true) (hv:(i=0/\vb=.L a)\/(i≠0/\vc=.L a)) (k:∀ρ' σ',LI it pk au r x vj t ρ' σ'->ρ' 17=ρ' 5->ρ' 18=ρ' 6->K .next ρ' σ'):dt C N5 ρ σ K:=by
 apply wZ (.inl rfl) F.r7 F.r9 M.I M.F.f4 h9 (wZ (ρ:=upd ρ 9 vb) (.inr rfl) F.r7 F.r10 M.I M.F.f5 be ?_);have F':FR1 pk au r x la lb z vb vc Z (upd (upd ρ 9 vb) 10 vc):=#[F.r2,F.r3,F.r4,F.r5,F.r6,F.r7,F.r8,rfl,rfl,F.r11];have J:upd (upd ρ 9 vb) 10 vc 14=some (.int i):=ao;have Y:upd (upd ρ 9 vb) 10 vc 19=some (.L a):=ag;have U:upd (upd ρ 9 vb) 10 vc 17=upd (upd ρ 9 vb) 10 vc 5:=bd;have W:upd (upd ρ 9 vb) 10 vc 18=upd (upd ρ 9 vb) 10 vc 6:=ar;generalize upd (upd ρ 9 vb) 10 vc=ρ' at F' J Y U W;have fin:∀v,v=V.L a->jO .isNot (.L a) v σ λr=>(if r=true then dt C %[.ret (.bool false)|0] ρ' σ (zi (λρ σ=>dt C .nil ρ σ K) K) else dt C .nil ρ' σ (zi (λρ σ=>dt C .nil ρ σ K) K)):=by
  rintro v rfl;apply#[ha,ha,?_];show(if (!(a==a))=true then _ else _);rw[dg];show k ρ' σ #[la,lb,ps,d,f,vb,vc,vf,Z,z,db,sj,sp,F',H,M,A,B,b,c,T,N] U W
 apply#[_,Y,_,Y,_,J,?_];show(if ((i:Int)==0)=true then _ else _);by_cases e:i=0
 ·subst e;apply bB #[_,F'.r9,fin _ ?_];show(hv.resolve_right λq=>q.1 rfl).2
 ·rw[show((i:Int)==0)=false from ee ((cp e).elim (λq1=>(fb (.iu (.t .A) .O) .j (.l .A .O) q1)) λq1=>(fb (.iu (.t .A) .O) .a .D q1))];apply za #[_,F'.r10,fin _ ?_];show(hv.resolve_left λq=>e q.1).2
def DS (h:LI it pk au r x vj t ρ σ)(ht:t<=64){la lb:Addr}{xs ys:List Int}(r5:ρ 5=some (.L la))(r6:ρ 6=some (.L lb))(hx:σ.L la=some (xs.map V.int))(hy:σ.L lb=some (ys.map V.int))(hz:xs.length+ys.length<60)(r14:ρ 14=some (.int i))(Y:ρ 17=ρ 5)(Z:ρ 18=ρ 6)(k:∀ρ' σ',LI it pk au r x vj t ρ' σ'->ρ' 17=ρ' 5->ρ' 18=ρ' 6->K .next ρ' σ'):dt (ef R1.P 6) JX ρ σ K:=by
 have#[ao,ag,ps,d,f,vb,vc,vf,vct,n8,db,sj,sp,F,H,M,A,B,b,c,T,N]:=h;obtain rfl:la=ao:=by have:=r5.symm.trans F.r5;cases this;rfl
 obtain rfl:lb=ag:=by have:=r6.symm.trans F.r6;cases this;rfl
 have#[tb,js,ar]:=T.tab;have km:∀zs:List Int,zs.map V.int=(zs.map Key.int).map Key.v:=λzs=>by rw[lp];rfl
 have J:∀zs:List Int,∀q∈zs.map Key.int,tg q:=λzs q hq=>by have#[y,_,rfl]:=bg.mp hq;trivial
 have MA:qH σ x (.L la) (.L lb) db sj (xs.map Key.int) (ys.map Key.int) js:=#[#[d,f,M.I,M.F.f1,M.F.f2,M.f7,M.f8],by rw[<- km];show hx,by rw[<- km];show hy,tb,ar];apply oJ #[_,r14,?_];show(if ((i:Int)==0)=true then _ else _);by_cases e:i=0
 ·subst e;apply bB #[_,F.r7,x,rfl,by rw[M.I];rfl,?_];apply OQ (n:=4) rfl rfl MA M.I M.F.f4 b.ok (J xs) (J ys) (by rw[ai];(show cg (.l .A (.n 400000)) .a (.l (.a .B .A) (.n 60)) hz)) (by rw[ai];(show cg (.l .A (.n 64)) .a (.l .M (.n 60)) hz)) λσ' a L E hI hL h1 h2 g1 g2=>?_;have own:¬qc r ps a:=by
   rcases b with q|⟨a',L',q,W,_,_,q4⟩
   ·have:=g1 q;intro o;have o:=H.isS o;rw[this]at o;cases o
   ·have:=(g2 (by rw[q];show λz=>fC z)).symm.trans q;cases this;show q4
  apply jT (ρ:=upd ρ 19 (.L a)) (F.of λi hi=>bh (fb (.u .A (.n 19)) .j (.l .A (.n 12)) hi)) (H.ke E.L) #[hI,#[M.F.f0,M.F.f1,M.F.f2,M.F.f3,rfl,M.F.f5,M.F.f6],M.f7,M.f8,M.f9] (A.ke E.L) (B.ke E.L) (.inr #[a,L,rfl,hL,h1,h2,own]) (c.keep E.kw) (T.keep E.kw) (N.keep (E.kw (own:=qc r ps))) ?_ (.inr rfl) Y Z r14 rfl (by rw[hL];rfl) (.inl #[rfl,rfl]) k;by_cases q:vb=.none
  ·show .inl q
  ·show .inr (g2 q)
 ·rw[show((i:Int)==0)=false from ee ((cp e).elim (λW=>(fb (.iu (.t .A) .O) .j (.l .A .O) W)) λW=>(fb (.iu (.t .A) .O) .a .D W))];apply za #[_,F.r7,x,rfl,by rw[M.I];rfl,?_];apply QE (n:=3) rfl rfl rfl MA M.I M.F.f4 M.F.f5 b.ok (c.imp id λ⟨a,q,_⟩=>#[a,q]) (J xs) (J ys) (by rw[ai];(show cg (.l .A (.n 400000)) .a (.l (.a .B .A) (.n 60)) hz)) (by rw[ai];(show cg (.l .A (.n 64)) .a (.l .M (.n 60)) hz)) (λa q=>?_) λq σ' a a' L E hI ha hs hL h1 h2 g1 g2=>?_
  ·apply jT (ρ:=upd ρ 19 (.L a)) (F.of λi hi=>bh (fb (.u .A (.n 19)) .j (.l .A (.n 12)) hi)) H M A B b c T N (.inr rfl) (.inr rfl) Y Z r14 rfl ?_ (.inr #[e,q]) k;rcases c with z|⟨a2,z,z1,_⟩
   ·show CL (z.symm.trans q)
   ·have:=z.symm.trans q;cases this;show z1
  ·have own:¬qc r ps a':=by
    rcases b with q|⟨a2,L',q,W,_,_,q4⟩
    ·have:=g1 q;intro o;have o:=H.isS o;rw[this]at o;cases o
    ·have:=(g2 (by rw[q];show λz=>fC z)).symm.trans q;cases this;show q4
   have U:¬qc r ps a:=λo=>by have o:=H.isS o;rw[ha]at o;cases o
   apply jT (ρ:=upd ρ 19 (.L a)) (F.of λi hi=>bh (fb (.u .A (.n 19)) .j (.l .A (.n 12)) hi)) (H.ke E.L) #[hI,#[M.F.f0,M.F.f1,M.F.f2,M.F.f3,rfl,rfl,M.F.f6],M.f7,M.f8,M.f9] (A.ke E.L) (B.ke E.L) (.inr #[a',L,rfl,hL,h1,h2,own]) (.inr #[a,rfl,hs,U]) (T.keep E.kw) (N.keep (E.kw (own:=qc r ps))) ?_ (.inl q) Y Z r14 rfl hs (.inr #[e,rfl]) k;by_cases q:vb=.none
   ·show .inl q
   ·show .inr (g2 q)
end
end R1
namespace R1
open SM
def xP {α:Type}{G:St->Prop}{T:V->Fr->List V->St->(Fr->List V->St->Prop)->Prop}(g f:α->V)(Inv:Fr->Prop){σ:St}(I:G σ):∀{us:List α},(∀u∈us,∀ρ acc z,Inv ρ->acc.length<aw->(∀ρ',Inv ρ'->z ρ' (acc++[f u]) σ)->T (g u) ρ acc σ z) ->
  ∀{ρ:Fr} {acc:List V} {K:Fr->List V->St->Prop},Inv ρ->acc.length+us.length<=aw->(∀ρ',Inv ρ'->K ρ' (acc++us.map f) σ)->lC (us.map g) G T ρ acc σ K
 | [],_,ρ,acc,K=>λU _ J=>#[I,by have:=J ρ U;rwa [List.map_nil,cy]at this]
 |u::us,H,ρ,acc,K=>λU O J=>by
  rw[jh]at O;apply#[I,H u (.head _) ρ acc _ U (gz .B .a (.k (.a .A .S) .B) O) λρ' W=>xP g f Inv I (λv hv=>H v (.tail _ hv)) W ?_ λZ Y=>?_]
  ·rw[cv,sk];(show gz (.k (.a .L .B) .C) .a (.k (.a .A .P) .C) O)
  ·have:=J Z Y;rw[gv]at this
   rwa [jq]
def rJ (zs:List Int):∀(us Z:List Int),Z.Nodup->∃ks:List Int,ks.Nodup/\List.foldl t8 (Z.map λk=>(Key.int k,V.int (zs.count k:Nat))) (us.map λu=>V.T [.int u,.int (zs.count u:Nat)])=ks.map (λk=>(Key.int k,V.int (zs.count k:Nat)))/\∀k,k∈ks↔k∈Z\/k∈us
 | [],Z,h=>#[Z,h,rfl,λk=>#[.inl,λq=>q.elim id λq=>(by cases q)]]
 |u::us,Z,h=>by
  have Y:(Z.map (λk=>(Key.int k,V.int (zs.count k:Nat)))).any (λe=>e.1==Key.int u)=decide (u∈Z):=by
   rw[xk,aC];by_cases c:u∈Z
   ·rw[br c,cj c];rfl
   ·rw[az c,cw c];rfl
  have H:t8 (Z.map λk=>(Key.int k,V.int (zs.count k:Nat))) (V.T [.int u,.int (zs.count u:Nat)])=(if u∈Z then Z else Z++[u]).map λk=>(Key.int k,V.int (zs.count k:Nat)):=by
   show putD _ (.int u) _=_;unfold putD;rw[Y];by_cases c:u∈Z
   ·rw[cj c,br rfl,br c,lp];apply ur λk _=>?_;show(if Key.int k=Key.int u then (Key.int u,V.int (zs.count u:Nat)) else (Key.int k,V.int (zs.count k:Nat)))=(Key.int k,V.int (zs.count k:Nat));by_cases e:k=u
    ·subst e;rw[br rfl]
    ·rw[az (λq=>e (Key.int.inj q))]
   ·rw[cw c,az (by decide),az c,dw];rfl
  have W:(if u∈Z then Z else Z++[u]).Nodup:=by
   by_cases c:u∈Z
   ·rw[br c];show h
   ·rw[az c];show dT.mpr #[h,by simp,λa U b hb=>by rw[ax.mp hb];rintro rfl;show c U]
  have#[ks,I,J,O]:=rJ zs us _ W;apply#[ks,I,?_,λk=>?_]
  ·rw[gv,List.foldl_cons,H];show J
  ·rw[O];by_cases c:u∈Z
   ·rw[br c];apply#[λq=>q.imp id λq=>.tail _ q,λq=>q.elim .inl λq=>(bz.mp q).elim (λq=>.inl (q▸c)) .inr]
   ·rw[az c,fh,ax,bz,or_assoc]
def zA {zs us:List Int}(h:∀k,k∈us↔k∈zs):ue (yx (us.map λu=>V.T [.int u,.int (zs.count u:Nat)])) zs:=by
 have#[ks,W,Y,Z]:=rJ zs us [] my;apply#[ks,W,Y,λk=>(Z k).trans #[λq=>q.elim (λq=>by cases q) λq=>(h k).mp q,λq=>.inr ((h k).mpr q)]]
section
variable {pk au:Bool}{r x:Addr}{t u:Nat}{ρ:Fr}{σ σ':St}{i j:Nat}{w:Int}{vj:V}{K:Fl->Fr->St->Prop}
def counts {C:Cal}{lb:Addr}{ys:List Int}(r6:ρ 6=some (.L lb))(hL:σ.L lb=some (ys.map V.int))(hs:Small ys)(hz:ys.length<aw)(k:∀c es σ',Ext σ σ'->σ'.I=σ.I->σ'.D c=some es->ue es ys->K .next (upd ρ 11 (.dct c)) σ') :
  dt C %[.dcomp2 11 [(2,6)] (.seq (.bx .cu (.l 6))) (.v 1) (.l 1) (.bm .count (.l 2) %[.l 1|0])|0] ρ σ K:=by
 apply#[_,r6,ys,hL,hs,λms nd mm s U ag=>?_];apply#[_,ay _ _ _,λo Z hk H=>?_];have hint:∀q∈Z,∃i,q=Key.int i:=λq J=>by
  have#[y,_,rfl]:=bg.mp ((hk q).mp J);apply#[y,rfl]
 have#[us,rfl]:∃us:List Int,Z=us.map Key.int:=by
  clear hk H;induction Z with
  |nil=>refine#[[],rfl]
  |cons q qs ih =>
   have#[us,rfl]:=ih λq J=>hint q (.tail _ J);have#[i,rfl]:=hint q (.head _);apply#[i::us,rfl]
 have Y:∀y,y∈us↔y∈ys:=λy=>by
  rw[<- mm];have:=hk (Key.int y);rw[bg,bg]at this;apply#[λq=>?_,λq=>?_]
  ·have#[z,hz,e]:=this.mp #[y,q,rfl];cases e;show hz
  ·have#[z,hz,e]:=this.mpr #[y,q,rfl];cases e;show hz
 have W:us.length<=ys.length:=by
  rw[ai,ai]at H;rw[H];show nd.length_le_of_subset λy hy=>(mm y).mp hy
 have em:(us.map Key.int).map Key.v=us.map V.int:=by rw[lp];rfl
 rw[em];apply xP V.int (λu=>V.T [.int u,.int (ys.count u:Nat)]) (λρ=>ρ 2=some (.L lb)) (ay _ _ _) (λy hy ρ' acc K' hi ha hk=>?_) r6 (by rw[List.length_nil];(show gr (.k (.a .O .A) .B) .b (.l .C .B) (.k .A .C) hz W)) λρ' hi=>?_
 ·apply#[_,rfl,_,hi,by show(σ.L lb).isSome=true;rw[hL];rfl,_,rfl,ys,hL,#[_,rfl],ha,hk _ hi]
 ·intro c hc;rw[List.nil_append];apply k c _ _ #[λ_ _ e=>e,λa es e=>?_,λa es e=>?_,λ_ _ e=>e] rfl (ay _ _ _) (zA Y)
  ·show(bh (λq=>by rw[q,show σ.D c=none from hc]at e;cases e)).trans e
  ·show(bh (λq=>by rw[q,U]at e;cases e)).trans e
def DQ (h:LI it pk au r x vj t ρ σ)(ht:t<=64)(J:ρ 17=ρ 5)(O:ρ 18=ρ 6)(k:∀ρ' σ',LI it pk au r x vj t ρ' σ'->ρ' 17=ρ' 5->ρ' 18=ρ' 6->K .next ρ' σ'):dt (ef R1.P 6) DR ρ σ K:=by
 have#[la,lb,ps,d,f,vb,vc,vf,Z,n8,db,sj,sp,F,H,M,A,B,b,c,T,N]:=h;have#[xs,hx,_,ag,_]:=A.gN ht;have#[ys,hy,hs,U,_]:=B.gN ht;apply#[_,F.r7,x,rfl,by rw[M.I];rfl,?_];apply QD (n:=4) rfl rfl M.I M.F.f1 M.F.f2 M.F.f6 hx hy ag U ?_ (λhv σ' W=>?_) λhv σ' c6 es W hc hE hC=>?_
 ·rcases N with q|⟨a,b',es,fs,zs,z,e2,e3,e4,c1,c2⟩
  ·show .inl q.1
  ·show .inr #[a,es,z,e3,c1.all]
 ·have E:=W.ext;have hn:isNone Z=false:=by
   rcases N with q|⟨a,b',es,fs,zs,z,e2,e3,e4,c1,c2⟩
   ·show absurd q.1 hv
   ·rw[e2];rfl
  apply#[_,F.r11,?_];show(if isNone Z=true then _ else _);rw[hn];apply za (mf (k _ _ (CX F M A B b c T N E.kw (H.ke E.L) W.I λa g=>g.ke E.L) J O))
 ·have hn:Z=.none:=by
   rcases N with q|⟨a,b',es,fs,zs,z,e2,e3,e4,c1,c2⟩
   ·show q.2
   ·rw[hv]at z;show Bool.noConfusion (show true=false from bb isNone z)
  have E:cC x σ σ':=(Ext.refl σ).x.ir.trans W.ext.x;have I':σ'.I x=some (d,upd f 6 (.dct c6)):=(ez W.I x).trans jt;subst hn;apply#[_,F.r11,?_];apply counts F.r6 (E.L _ _ hy) hs U λc' be σ2 Y ao ar bd=>k _ _ #[la,lb,ps,d,upd f 6 (.dct c6),vb,vc,.dct c6,.dct c',n8,db,sj,sp,#[F.r2,F.r3,F.r4,F.r5,F.r6,F.r7,F.r8,F.r9,F.r10,rfl],?_,#[?_,#[M.F.f0,M.F.f1,M.F.f2,M.F.f3,M.F.f4,M.F.f5,rfl],M.f7,M.f8,M.f9],?_,?_,?_,?_,?_,?_] J O
  ·show H.ke λa xs e=>Y.L _ _ (E.L _ _ e)
  ·rw[ao];show I'
  ·show A.ke λa xs e=>Y.L _ _ (E.L _ _ e)
  ·show B.ke λa xs e=>Y.L _ _ (E.L _ _ e)
  ·show(b.keep E.kw).keep Y.kw
  ·show(c.keep E.kw).keep Y.kw
  ·show(T.keep E.kw).keep Y.kw
  ·show .inr #[c6,c',es,be,ys,rfl,rfl,Y.D _ _ hE,ar,hC,bd]
end
end R1
namespace R1
open SM
section
variable {pk au:Bool}{r x:Addr}{t:Nat}{ρ:Fr}{σ:St}{i j m:Nat}{w:Int}{K:Fl->Fr->St->Prop}
def eqI {a b:Nat}{p q:Prop}(W:a=b->p)(Y:a≠b->q):if ((a:Int)==(b:Int))=true then p else q:=by
 by_cases e:a=b
 ·subst e;rw[dg,br rfl];show W rfl
 ·rw[ee (show(a:Int)≠b by show(cp e).elim (λZ=>(cg (.iu (.t .A) (.t .B)) .j .B Z)) λZ=>(cg (.iu (.t .A) (.t .B)) .a (.l .B .A) Z)),az (by decide)];show Y e
def DP (h:LI it pk au r x (zh pk) t ρ σ)(ht:t<=63)(hi:i<3)(hj:j<3)(hm:m<8)(Z:ρ 13=some (.int m))(W:ρ 14=some (.int i))(I:ρ 15=some (.int j))(ag:ρ 16=some (.int w))(O:ρ 17=ρ 5)(U:ρ 18=ρ 6)(k:∀ρ' σ',AD it pk au r x (zh pk) (t+1) ρ' σ'->K .next ρ' σ'):wpS (ef R1.P 6) JW ρ σ K:=by
 have J:=h.mono (rj t);have Y:t+1<=64:=by(show fb (.k .L (.n 64)) .a (.k .A (.n 63)) ht)
 have kl:∀ρ' σ',LI it pk au r x (zh pk) (t+1) ρ' σ'->ρ' 17=ρ' 5->ρ' 18=ρ' 6->K .next ρ' σ':=λρ' σ' q a b=>k _ _ (q.ad a b)
 have z:∀σ',LI it pk au r x (zh pk) (t+1) ρ σ'->K .next ρ σ':=λσ' q=>kl _ _ q O U
 apply#[_,Z,?_];show(if decide ((m:Int)<2)=true then dt (ef R1.P 6) vF ρ σ K else _);by_cases c0:(m:Int)<2
 ·rw[br (cj c0)];show zZ J Y hi hj W I k
 rw[az (by rw[cw c0];decide)];apply#[_,Z,eqI (b:=2) (λ_=>DU J hi W U k) λc2=>?_];apply#[_,Z,eqI (b:=3) (λ_=>DT J Y hj I O k) λc3=>?_];have h5:∀K':Fl->Fr->St->Prop,(∀ρ σ,K .next ρ σ->K' .next ρ σ)->dt (ef R1.P 6) (.cons (.C (.c .eq (.l 13) (.int 5)) DR (.cons (.C (.and (.c .eq (.l 13) (.int 6)) (.c .eq (.l 15) (.int 2))) MD (.cons (.C (.c .eq (.l 13) (.int 6)) xO (.cons (.C (.c .eq (.l 13) (.int 7)) xZ .nil)
 .nil))
 .nil))
 .nil))
 .nil) ρ σ K':=by
  intro K' hK;have kl:∀ρ' σ',LI it pk au r x (zh pk) (t+1) ρ' σ'->ρ' 17=ρ' 5->ρ' 18=ρ' 6->K' .next ρ' σ':=λρ' σ' q a b=>hK _ _ (kl _ _ q a b)
  have z:∀σ',LI it pk au r x (zh pk) (t+1) ρ σ'->K' .next ρ σ':=λσ' q=>hK _ _ (z _ q)
  apply#[_,Z,eqI (b:=5) (λ_=>DQ J Y O U kl) λc5=>?_];apply#[_,Z,eqI (b:=6) (λc6=>#[_,I,eqI (b:=2) (λ_=>MC J Y hi W z) λ_=>?_]) λc6=>?_]
  ·subst c6;apply#[_,Z,?_];show HX h ht hi W ag z
  ·show dt (ef R1.P 6) %[.C (.c .eq (.l 13) (.int 6)) xO %[.C (.c .eq (.l 13) (.int 7)) xZ .nil|0]|0] ρ σ _;apply#[_,Z,eqI (b:=6) (λq=>absurd q c6) λ_=>?_];apply#[_,Z,eqI (b:=7) (λ_=>IK J Y hi W z) λc7=>?_];show z _ J
 have#[la,lb,ps,d,f,vb,vc,vf,ao,n8,db,sj,sp,F,H,M,A,B,b,c,T,N]:=id J;have#[xs,hx,_]:=A.gN Y;have#[ys,hy,_]:=B.gN Y;apply#[_,Z,eqI (b:=4) (λ_=>?_) λc4=>?_]
 ·apply#[_,F.r5,_,hx,_,F.r6,_,hy,?_];show(if decide (((xs.map V.int).length:Nat)+((ys.map V.int).length:Nat)<(60:Int))=true then _ else _);rw[ai,ai];by_cases c0:((xs.length:Nat)+(ys.length:Nat):Int)<60
  ·rw[br (cj c0)];show DS J Y F.r5 F.r6 hx hy (cg (.l .M (.n 60)) .a (.il (.a (.t .A) (.t .B)) (.n 60)) c0) W O U kl
  ·rw[az (by rw[cw c0];decide)];show h5 _ λ_ _ q=>q
 ·show h5 _ λ_ _ q=>q
def FT (h:LI it pk au r x (zh pk) t ρ σ)(ht:t<=63)(Y:ρ 12=some (.int w))(k:∀ρ' σ',LI it pk au r x (zh pk) (t+1) ρ' σ'->K .next ρ' σ'):dt (ef R1.P 6) wG ρ σ K:=by
 have Z:∀z b:Int,0<b->∃n:Nat,z.fmod b=n/\(n:Int)<b:=λz b hb=>by
  have h0:0<=z.fmod b:=iF _ hb;have h1:z.fmod b<b:=Int.fmod_lt_of_pos _ hb;apply#[(z.fmod b).toNat,by show(Ar.ton _).elim (λW=>(Ar.a1 [_] [_] (.ie .A (.t .A)) [[1,1],[1,-1]] (.ie (.t .A) .A) W.2)) λW=>(Ar.a3 [_] [_] (.ie .A (.t .A)) [[1,1,0,1],[1,0,1,0]] (.ik .O .A) (.ik .A .O) (.e .A .O) h0 W.1 W.2),by show(Ar.ton _).elim (λW=>(Ar.a2 [_,_] [_] (.il (.t .A) .A) .b (.il .B .A) (.ie (.t .A) .B) h1 W.2)) λW=>(xj (.il (.t .A) .A) .b (.il .O .A) (.e .A .O) hb W.2)]
 have#[m,em,hm]:=Z w 8 (by decide);have#[i,ei,hi]:=Z (w.fdiv 8) 3 (by decide);have#[j,ej,hj]:=Z (w.fdiv 24) 3 (by decide);apply#[_,Y,by decide,_,Y,by decide,by decide,by decide,_,Y,by decide,by decide,by decide,_,Y,by decide,by decide,aq rfl,_,rfl,rfl,?_];rw[em,ei,ej];have h2:LI it pk au r x (zh pk) t (gj [13,14,15,16] [V.int m,V.int i,V.int j,V.int (w.fdiv 72)] ρ) σ:=h.of λq J=>by
  show upd (upd (upd (upd ρ 13 _) 14 _) 15 _) 16 _ q=ρ q;rw[bh (fb (.u .A (.n 16)) .j (.l .A (.n 12)) J),bh (fb (.u .A (.n 15)) .j (.l .A (.n 12)) J),bh (fb (.u .A (.n 14)) .j (.l .A (.n 12)) J),bh (fb (.u .A (.n 13)) .j (.l .A (.n 12)) J)]
 have ao:gj [13,14,15,16] [V.int m,V.int i,V.int j,V.int (w.fdiv 72)] ρ 13=some (.int m):=rfl;have ag:gj [13,14,15,16] [V.int m,V.int i,V.int j,V.int (w.fdiv 72)] ρ 14=some (.int i):=rfl;have H:gj [13,14,15,16] [V.int m,V.int i,V.int j,V.int (w.fdiv 72)] ρ 15=some (.int j):=rfl;have I:gj [13,14,15,16] [V.int m,V.int i,V.int j,V.int (w.fdiv 72)] ρ 16=some (.int (w.fdiv 72)):=rfl;show dt _ _ (gj [13,14,15,16] [V.int m,V.int i,V.int j,V.int (w.fdiv 72)] ρ) _ _;generalize gj [13,14,15,16] [V.int m,V.int i,V.int j,V.int (w.fdiv 72)] ρ=U at h2 ao ag H I ⊢;have#[la,lb,ps,d,f,vb,vc,vf,ar,n8,db,sj,sp,F,_]:=id h2;apply tE [.L la,.L lb] (by simp only[aS,ic,zy,wi,F.r5,F.r6];rfl) rfl ?_;have h3:LI it pk au r x (zh pk) t (gj [17,18] [V.L la,V.L lb] U) σ:=h2.of λq J=>by
  show upd (upd U 17 _) 18 _ q=U q;rw[bh (fb (.u .A (.n 18)) .j (.l .A (.n 12)) J),bh (fb (.u .A (.n 17)) .j (.l .A (.n 12)) J)]
 apply DP (i:=i) (j:=j) (m:=m) (w:=w.fdiv 72) h3 ht (fb (.l .A (.n 3)) .a (.il (.t .A) (.n 3)) hi) (fb (.l .A (.n 3)) .a (.il (.t .A) (.n 3)) hj) (fb (.l .A (.n 8)) .a (.il (.t .A) (.n 8)) hm) ao ag H I F.r5.symm F.r6.symm λρ' σ' a=>?_;show a.checked (n:=5) rfl (fb (.k .L (.n 64)) .a (.k .A (.n 63)) ht) k
end
end R1
end MP
end
section
namespace MP
open PySem PyProof.Rows PySem.W
abbrev yj (G:Stc)(h:Heap)(f c:Addr)(kk:Nat):Stc:=
 {G with hb:=eD h λa=>(G.hb.get? a).isSome||(decide (a=f)||decide (a=c)),clo:=λk cs a=>G.clo k cs a\/(k=kk/\cs=[]/\a=f)}
section
variable {G:Stc}{σ:St}{env:Env}{ρ:Fr}{h₀ h:Heap}{f c:Addr}{kk:Nat}
def gW (R:Rel G σ h)(a:Addr)(o:Obj)(e:G.hb.get? a=some o):(yj G h f c kk).hb.get? a=some o:=by
 show(eD h _).get? a=_;rw[aM,e];show R.base a o e
def fD (fn:h₀.objs.size<=f)(U:h₀.objs.size<=c){a:Addr}(W:G.hb.get? a=none)(Y:(h₀.get? a).isSome=true):(yj G h f c kk).hb.get? a=none:=by
 have Z:a<h₀.objs.size:=by have#[o,e]:=ba.mp Y;show fw e
 show(eD h _).get? a=_;rw[aM,W,cw (gb (fy Z fn)),cw (gb (fy Z U))];rfl
def CZ (fn:h₀.objs.size<=f)(cn:h₀.objs.size<=c)(W:Rel G σ h₀)(R:Rel G σ h):Rel (yj G h f c kk) σ h:=by
 have hb:=gW (f:=f) (c:=c) (kk:=kk) R;have Y:∀k cs a,G.clo k cs a->(yj G h f c kk).clo k cs a:=λ_ _ _ q=>.inl q;apply#[λa xs e=>?_,λa es e=>?_,R.S,λa dd g e=>?_,R.Z,R.Ll,R.Dl,R.inj,R.apart,R.sep,λb U=>?_,λb o e=>?_]
 ·have#[ws,n,H,vs]:=R.L a xs e;apply#[ws,n,H,VRs.turn (G:=G) (G2:=yj G h f c kk) rfl hb Y vs]
 ·have#[ds,hd,dr]:=R.D a es e;apply#[ds,hd,DRs.turn (G:=G) (G2:=yj G h f c kk) rfl hb Y dr]
 ·have#[x,#[m,J,z,B],y]:=R.I a dd g e;apply#[x,#[m,J,λi x q=>OV.turn (G:=G) (G2:=yj G h f c kk) rfl hb Y (z i x q),B],y]
 ·have#[o,O]:=W.lz U;show fD fn cn (R.new b U) (by rw[O];rfl)
 ·have e:(eD h _).get? b=some o:=e;rw[aM]at e;cases q:((G.hb.get? b).isSome||(decide (b=f)||decide (b=c))) with
  |true=>rw[q]at e;show e
  |false=>rw[q]at e;cases e
def HN (fn:h₀.objs.size<=f)(U:h₀.objs.size<=c)(Z:FR G σ env ρ h₀)(R:Rel G σ h)(F:FR G σ env ρ h):FR (yj G h f c kk) σ env ρ h:=by
 have hb:=gW (f:=f) (c:=c) (kk:=kk) R;have Y:∀k cs a,G.clo k cs a->(yj G h f c kk).clo k cs a:=λ_ _ _ q=>.inl q;have#[m,I,O]:=F.ns;apply#[#[m,I,λi x e=>OV.turn (G:=G) (G2:=yj G h f c kk) rfl hb Y (O i x e)],λi x k e hk=>?_,F.inj,F.loc,F.notfrz,?_,F.allc]
 ·have#[cc,w,W,h2,h3,z,B,H]:=F.cells i x k e hk;apply#[cc,w,W,h2,OV.turn (G:=G) (G2:=yj G h f c kk) rfl hb Y h3,z,B,λq=>?_];have#[ag,w',g1,#[o,g2,_],_]:=Z.cells i x k e hk;have rfl:=af (W.symm.trans g1);show fD fn U (H q) (by rw[g2];rfl)
 ·have#[m,#[o,es,ep,J,_],_]:=Z.ns;show fD fn U F.new (by rw[J];rfl)
end
structure w9 (ps:Arguments)(lsc:Scope):Prop where
 kind:lsc.kind=.function
 co:lsc.isCoroutine=false
 gen:lsc.isGenerator=false
 names:lsc.names=[(xNm,NameKind.«local»)]
 plain:ui ps=true
 args:ps.args.map (·.arg)=[xNm]
 dflt:ps.defaults=[]
 kwd:ps.kw_defaults=[]
section
variable {G:Stc}{A:Around}{E:QqV}{s:Shared}{env:Env}{ρ:Fr}{σ:St}
structure tC (G G2:Stc)(kk:Nat)(f:Addr):Prop where
 prog:G2.prog=G.prog
 w:G2.w=G.w
 cM:G2.cM=G.cM
 cS:G2.cS=G.cS
 attrs:G2.attrs=G.attrs
 gl:G2.gl=G.gl
 cap:G2.cap=G.cap
 clo:∀k cs a,G2.clo k cs a↔G.clo k cs a\/(k=kk/\cs=[]/\a=f)
 hb:∀a o,G.hb.get? a=some o->G2.hb.get? a=some o
def zV {ps:Arguments}{e:Expr}{Z:Scope}{p2:Pos}{c P:Addr}{mg:Str->Option Value}{kk:Nat}{pl:Array Value}{Q:QqV}(L:w9 ps Z)(eo:yo env)(F:FR G σ env ρ s.heap)(R:Rel G σ s.heap)(ar:G.hb.NoLimit)
  (I:F6 G σ env s.heap mg c P pl) (ht:TriplesOk pl.toList) (cb:codeAmong p2 pl.toList=none)
  (k:∀G2 f s' U,tC G G2 kk f->mC G2 f 1 [] Z e->FR G2 σ env ρ s'.heap->Rel G2 σ s'.heap->VR G2 s'.heap (.clo kk []) (.ref f)->s'.heap.get? P=some (tabObj (pl++#v[rawInt p2.line,rawInt p2.col,.ref U]))->G2.hb.get? P=none->(∀a o,a≠P->s.heap.get? a=some o->s'.heap.get? a=some o)->w7 s s'->Q (.ref f) s') :
  wpAny G.M A (eval (.Lambda ps e Z p2) env) Q E s:=by
 have#[hg,z,C,hP,ch,hB,bv,cn,ct]:=I;have ck:closureFor Z env=pure []:=by
  have bu:∀n,(n,NameKind.free)∈Z.names->(env.cells.lookup n).isSome=true:=λn hn=>by
   rw[L.names]at hn;cases ax.mp hn
  rw[dN bu,L.names];rfl
 apply kla_eval (zY L.dflt L.kwd) (kla_makeFunction (clos:=[]) ck eo.globals hg z C hP ht cb ch hB λU bL h' tk bl O cd ao J=>?_);generalize B:kla_obj "<lambda>" (env.qual ++ "<lambda>") ps e Z [] ((mg "__name__").getD .none) U bL=Y;have bn:Y.cls=.type "function":=by rw[<- B]
 have be:Y.data=.func (kla_fn "<lambda>" (env.qual ++ "<lambda>") ps e Z [] ((mg "__name__").getD .none) (.ref U) bL):=by rw[<- B]
 have W:∀a o,a≠P->s.heap.get? a=some o->(h'.push Y).get? a=some o:=λa o hn e=>ah _ (bl a o hn e);have cl:¬Frz (tabObj pl):=by
  rintro (⟨_,_,_,h⟩|⟨h|h,_⟩|⟨_,h⟩)<;>cases h
 have H:gf s.heap (h'.push Y):=λa o e f=>W a o (λhm=>cl (af (e.symm.trans ((bb s.heap.get? hm).trans hP))▸f)) e;have F1:FR G σ env ρ (h'.push Y):=F.but (show ∀a o,a∉[P]->s.heap.get? a=some o->(h'.push Y).get? a=some o from λa o hn e=>W a o (λq=>hn (ax.mpr q)) e) H λa ha=>by have rfl:=ax.mp ha;show ct
 have R1:Rel G σ (h'.push Y):=R.same (λa o e dm=>W a o (λhm=>cn (hm▸dm)) e) (λa o e f=>H a o e f) λa o e=>W a o (λhm=>by
  rw[hm,bv]at e;cases e) (R.base a o e)
 have fn:s.heap.objs.size<=h'.objs.size:=fk O (iz cd);have R2:=CZ (kk:=kk) fn O R R1;have F2:=HN (kk:=kk) fn O F R1 F1;have ag:=gW (f:=h'.objs.size) (c:=U) (kk:=kk) R1;have bM:∀a o,(a=h'.objs.size\/a=U)->(h'.push Y).get? a=some o->(yj G (h'.push Y) h'.objs.size U kk).hb.get? a=some o:=λa o hq e=>by
  show(eD _ _).get? a=_;rw[aM,e];rcases hq with rfl|rfl<;>simp
 have bd:(yj G (h'.push Y) h'.objs.size U kk).hb.get? h'.objs.size=some Y:=bM _ _ (.inl rfl) (bc _ (by rw[<- B];rfl));apply k (yj G (h'.push Y) h'.objs.size U kk) h'.objs.size _ U #[rfl,rfl,rfl,rfl,rfl,rfl,rfl,λ_ _ _=>Iff.rfl,ag] ?_ F2 R2 #[h'.objs.size,Y,rfl,.inr #[rfl,rfl,rfl],bd,bn] (ah _ J) (fD (kk:=kk) fn O bv (by rw[hP];rfl)) W .rfl;apply#[ar.keeps ag,L.kind,L.co,L.gen,?_,Y,_,bd,be,rfl,rfl,rfl,rfl,?_,L.plain,?_,?_,rfl,λi x q=>?_,λi j x y cc q1 q2 _ _=>?_,λp hp=>?_,λi x kk q hk=>?_]
 ·rw[L.names];simp
 ·have#[cx,oc,vs,tt,e2,ca,hd,bR]:=ao;clear k W ag F2 J R2 be;cases e2;apply#[U,oc,vs,tt,rfl,bM _ _ (.inr rfl) (ah _ ca),hd,bR]
 ·rw[L.args,L.names];rfl
 ·have:=bb List.length L.args;simpa using this
 ·rw[L.names]at q
  match i with
  |0=>cases q
  |i+1=>cases q
 ·rw[L.names]at q1
  match i with
  |0=>cases q1
  |i+1=>cases q1
 ·cases hp
 ·rw[L.names]at q
  match i with
  |0=>show Nat.zero_lt_one
  |i+1=>cases q
end
abbrev oN (C:Cal)(cT:Ex)(args:Exs)(kk:Nat)(ρ:Fr)(σ:St)(K:Bool->Addr->St->Prop):Prop:=
 wpT C cT ρ σ λb σ=>xy C args ρ σ λvs σ=>∀a d,σ.I a=none->C 0 (.obj a::(bif b then .clo kk [] else .none)::vs) (σ.ir a d λ_=>none) λv σ=>v=.none/\K b a σ
section
variable {G:Stc}{C:Cal}{sc:Scope}{d:Nat}{A:Around}{E:QqV}{s:Shared}{env:Env}{ρ:Fr}{σ:St}{T:Tab}
def rP {args:Exs}{l:List Expr}{v0:V}{w0:Value}{Z:St}{W:Shared}{p3:Pos}{K:Addr->St->Prop}{Q:QqV}(O:TabOk G T C d)(h2:noStar (pd T args sc l)=true)(h3:gT T args sc l=true)(c1:Cx G sc d A env ρ Z W)
  {hb0:Heap} (hB:∀a o,hb0.get? a=some o->G.hb.get? a=some o) (vr:VR G W.heap v0 w0) (hw:xy C args ρ Z λvs σ=>∀a d,σ.I a=none->C 0 (.obj a::v0::vs) (σ.ir a d λ_=>none) λv σ=>v=.none/\K a σ)
  (k:∀(a:Addr) (σ2:St) (Y:Shared),K a σ2->Rel G σ2 Y.heap->Go [] Z W σ2 Y->Q (.ref a) Y) :
  wpAny G.M A (spliced (backTo p3 (starEach (pd T args sc l) env))) (λws Y=>(∀a o,hb0.get? a=some o->Y.heap.get? a=some o)/\wpAny G.M A (call (.ref G.cS) (w0::ws)) Q E Y) E W:=by
 apply kD (dG O args sc l h2 h3 c1 hw) λvs σ2 Y ws q H r x=>#[λa o g=>r.base a o (hB a o g),?_];have#[fi,z,M]:=O.init;have d3:=O.d3;apply kq (oB (Q:=λv σ=>(yF v).elim False λa=>K a σ) O.cal (fb .C .a (.k (.n 3) .A) d3) z M c1.ao q (.cons (vr.mono x.frz) H) r) λv J s3 w U B r2 x2=>?_;cases e:yF v with
 |none=>rw[e]at U;show U.elim
 |some a =>
  rw[e]at U;have rfl:=oO e;have rfl:=B;show k a J s3 U r2 (x.trans x2)
def uZ {ps:Arguments}{e x B z:Expr}{Z:Scope}{W:Str}{p1 p2 p3 p4 ip:Pos}{ivar:Nat}{kd:NameKind}{c P:Addr}{mg:Str->Option Value}{kk:Nat}{pl:Array Value}{cT:Ex}{args:Exs}{l:List Expr}{K:Bool->Addr->St->Prop}{Q:Flow->Shared->Prop}(L:w9 ps Z)(hT:rt G C sc d cT B)(hN:dk G C sc d .none z)(Y:Cx G sc d A env ρ σ s)(ar:G.hb.NoLimit)
  (U:env.scope.names[ivar]?=some (W,kd)) (J:∀G2:Stc,G2.cap=G.cap->Own G2 W kd) (I:∀σ1 s1,Rel G σ1 s1.heap->Go [] σ s σ1 s1->F6 G σ1 env s1.heap mg c P pl) (ht:TriplesOk pl.toList) (bR:codeAmong p2 pl.toList=none)
  (T1:TabOk G T C d) (T2:∀G2 f,tC G G2 kk f->mC G2 f 1 [] Z e->TabOk G2 T C d) (h1:glob T sc (kh x) (.ref T.cS)=true) (h2:noStar (pd T args sc l)=true) (h3:gT T args sc l=true)
  (hc:vh (.Call (nm x) (.IfExp B (.Lambda ps e Z p2) z ip::pd T args sc l) [] p3)=true) (bM:swp env.scope [.Name W p1] (.Call (nm x) (.IfExp B (.Lambda ps e Z p2) z ip::pd T args sc l) [] p3)=some none)
  (h:oN C cT args kk ρ σ K)
  (k1:∀G2 f a σ2 s2 c',K true a σ2->tC G G2 kk f->mC G2 f 1 [] Z e->FR G2 σ2 env (upd ρ ivar (.obj a)) s2.heap->Rel G2 σ2 s2.heap->s2.heap.get? P=some (tabObj (pl++#v[rawInt p2.line,rawInt p2.col,.ref c']))->¬σ2.dom P->s2.gens=s.gens->s2.os=s.os->Q .next s2)
  (k2:∀a σ2 s2,K false a σ2->FR G σ2 env (upd ρ ivar (.obj a)) s2.heap->Rel G σ2 s2.heap->Go (envX env) σ s σ2 s2->Q .next s2) :
  wpAny G.M A (exec (.Assign [.Name W p1] (.Call (nm x) (.IfExp B (.Lambda ps e Z p2) z ip::pd T args sc l) [] p3) p4) env) Q E s:=by
 have hw:=jW bM rfl (by unfold Env.blockKind;rw[Y.eo.kind];rfl);have K1:=T1.g;rw[exec_Assign];apply aa (er ?_);rw[ry hc];apply aa (ab ?_);rw[az (by decide)];have#[g1,g2,g3]:=qu T1 h1;have#[fi,ch,M]:=T1.init;have#[N,mN,of,X,_]:=id M.here;apply aa (Call_ (kg T1.g Y.eo Y.R (by rw[Y.es];show g1) g2 (T1.cS▸g3) ?_));have ag:starEach (Expr.IfExp B (.Lambda ps e Z p2) z ip::pd T args sc l) env=(false,eval (.IfExp B (.Lambda ps e Z p2) z ip) env)::starEach (pd T args sc l) env:=rfl;apply callWith_cls X (spliced_more (IfExp_ (kE (hT Y h) λb σ1 s1 q r x1=>?_)) ag) ag (jb h2 p3 env);cases b with
 |true =>
  have F1:=Y.F.evo x1.e;have I1:=I σ1 s1 r x1;have be:=I1.Pd;have ca:=I1.PX;apply zV (kk:=kk) L Y.eo F1 r ar I1 ht bR λG2 f s' c' D LA F2 R2 vr O cb cd sm=>?_;have TB:=T2 G2 f D LA;have c2:Cx G2 sc d A env ρ σ1 s':=#[Y.ao,Y.es,Y.eo,F2,R2];have e9:=D.hb;have#[cc,w2,bd,bn,cl,bu,bl,ck,H]:=G2;have#[g1,g2,g3,g4,g5,g6,g7,g8,g9]:=id D;dsimp only at g1 g2 g3 g4 g5 g6 g7 g8 g9;subst g1 g2 g4 g7;apply rP (G:=#[G.prog,G.w,bd,bn,G.cS,bu,bl,G.cap,H]) (hb0:=G.hb) TB h2 h3 c2 e9 vr q λa σ2 s2 qk r2 x2=>?_;show wpAny G.M A _ Q E s2;rw[hw];apply aa (ab ?_);show wpAny G.M A (do (assign (.Name W p1) env (.ref a));pure Flow.next) _ _ _;apply aa (assign_Name (ug (G:=#[G.prog,G.w,bd,bn,G.cS,bu,bl,G.cap,H]) (v:=.obj a) Y.eo (F2.evo x2.e) r2 U (J _ rfl) (.obj a) λs3 F3 R3 x3=>ab ?_));have bv:¬σ2.dom P:=λdm=>by
   rcases x2.e.dom P dm with q|q
   ·show be q
   ·rw[O]at q;cases q
  show k1 _ f a σ2 s3 c' qk D LA F3 R3 (x3.keep _ _ (x2.keep _ _ O be (λh=>nomatch h)) bv ca) bv (x3.g.trans (x2.g.trans (sm.1.trans x1.g))) (x3.o.trans (x2.o.trans (sm.2.trans x1.o)))
 |false =>
  apply kq (hN (Y.go r x1) (show wpE C .none ρ σ1 (λv σ'=>v=.none/\σ'=σ1) from#[rfl,rfl])) λv σ2 s2 w p vr r2 x2=>?_;have#[rfl,rfl]:=p;apply rP (hb0:=G.hb) T1 h2 h3 (Y.go r2 (x1.trans x2)) (λ_ _ e=>e) vr q λa bL s3 qk r3 x3=>?_;show wpAny G.M A _ Q E s3;rw[hw];apply aa (ab ?_);show wpAny G.M A (do (assign (.Name W p1) env (.ref a));pure Flow.next) _ _ _;have xx:=(x1.trans x2).trans x3;apply aa (assign_Name (ug (v:=.obj a) Y.eo (Y.F.evo xx.e) r3 U (J G rfl) (.obj a) λs4 F4 R4 x4=>ab ?_));show k2 a bL s4 qk F4 R4 (xx.wide.trans x4)
end
end MP
end
section
namespace MP
open PySem
namespace R1
open SM
abbrev KT (fl:Fl)(_:Fr)(_:St):Prop:=fl=.ret (.bool true)
def HL {pk au:Bool}{r x c:Addr}{ws:List Int}{ρ:Fr}{σ:St}(hz:ws.length<=63)(h:LI (c,ws.map V.int) pk au r x (zh pk) 0 ρ σ):mU (ws.map V.int) (λτ=>τ.L c=some (ws.map V.int)) (λv ρ σ k=>pz (.v 12) v σ ρ λρ=>dt (ef R1.P 6) wG ρ σ (wm k λJ ρ σ=>zi (λρ σ=>dt (ef R1.P 6) %[.ret (.bool true)|0] ρ σ KT) KT J ρ σ)) ρ σ
  λρ σ=>zi (λρ σ=>dt (ef R1.P 6) %[.ret (.bool true)|0] ρ σ KT) KT .next ρ σ:=by
 have kept:∀{t:Nat} {ρ:Fr} {σ:St},LI (c,ws.map V.int) pk au r x (zh pk) t ρ σ->σ.L c=some (ws.map V.int):=λh=>by
  have#[la,lb,ps,d,f,vb,vc,vf,Y,I,db,sj,sp,F,H,_]:=h;show H.kept.1
 apply pv (λt ρ σ=>LI (c,ws.map V.int) pk au r x (zh pk) t ρ σ) (λt v ρ σ Z h=>#[kept h,λkk hk=>?_]) (λρ σ h=>#[kept h,rfl]) h;rw[bw]at Z;have#[w,W,rfl]:=omap Z;have U:=(cf.mp W).1;show dt (ef R1.P 6) wG (upd ρ 12 (.int w)) σ _;show FT (h.of λi O=>bh (fb (.u .A (.n 12)) .j (.l .A (.n 12)) O)) (mn (.k .A (.n 63)) .b (.k .B (.n 63)) .B hz U) rfl λρ' σ' h'=>hk _ _ h'
def H4 {ns:List Int}{pk au:Bool}{r x d:Addr}{ps:List Addr}{la lb:Addr}{ys:List Int}{f:Nat->Option V}{db sj sp:Addr}{ρ:Fr}{σ:St}(W:ns.length<=63)(r0:ρ 0=some (.ro ns))(r2:ρ 2=some (.bool pk))(r3:ρ 3=some (.bool au))(r4:ρ 4=some (.L r))(r5:ρ 5=some (.L la))(r6:ρ 6=some (.L lb))(r7:ρ 7=some (.obj x))
  (hR:σ.L r=some (ps.map V.L)) (hl:ps.length=3) (hP:∀p∈ps,LG σ 0 p) (M:LM σ x d f (zh pk) la lb au .none .none .none db sj sp) (A:LG σ 0 la) (B:LG σ 0 lb) (hy:σ.L lb=some (ys.map V.int)) (mt:MT σ (qc r ps) sj sp db ys pk au):dt (ef R1.P 6) aY ρ σ KT:=by
 have#[bv,bl,_,hz,hr]:=B.gN (by decide);have rfl:=sC (af (hy.symm.trans bl));have ho:∀a,qc r ps a->(σ.L a).isSome=true:=λa o=>o.elim (λq=>by rw[q,hR];rfl) λq=>(hP a q).some;apply#[_,r6,_,r2,_,r3,JI (n:=5) rfl hy hz hr λv σ1 N=>#[aq rfl,_,rfl,rfl,?_]];have T:=wH mt N hz ho;have#[s1,s2,d5,jn,pn,ks,es,hv,E,hI,_]:=N;have F:FR1 pk au r x la lb v .none .none .none (gj [8,9,10,11] [v,.none,.none,.none] ρ):=#[r2,r3,r4,r5,r6,r7,rfl,rfl,rfl,rfl];have g0:gj [8,9,10,11] [v,.none,.none,.none] ρ 0=some (.ro ns):=r0;show dt _ _ (gj [8,9,10,11] [v,.none,.none,.none] ρ) _ _;generalize gj [8,9,10,11] [v,.none,.none,.none] ρ=bu at F g0 ⊢;apply#[aq rfl,λY h1=>#[_,g0,?_]];apply#[_,_,by unfold aw;(show fb (.k .A .Q) .a (.k .A (.n 63)) W),rfl,rfl,by decide,by decide,λZ h2=>?_];have J:Y≠Z:=λq=>by
  rw[<- q]at h2;have:upd σ1.L Y _ Y=none:=h2;rw[ay]at this;cases this
 have ao:σ1.L Z=none:=(bh (kz J)).symm.trans h2;apply#[_,_,(bh J).trans (ay _ _ _),ay _ _ _,?_,λc3 h3=>?_]
 ·rw[ai,ix,fq];show 1+_<=aw;unfold aw;(show tq (.k (.a .U .A) .Q) .e (.k .B (.n 63)) .F (.k .A .C) W (Ar.nr _ _).2.1 (Nat.sub_le _ _))
 have bd:c3≠Z:=λq=>by
  rw[q]at h3;have:upd (upd σ1.L Y _) Z _ Z=none:=h3;rw[ay]at this;cases this
 have be:c3≠Y:=λq=>by
  rw[q]at h3;have:upd (upd σ1.L Y _) Z _ Y=none:=h3;rw[bh J,ay]at this;cases this
 have H:σ1.L c3=none:=by
  have:upd (upd σ1.L Y _) Z _ c3=none:=h3
  rwa [bh bd,bh be]at this
 have E3:=((E.cu (E.noL h1) (xs:=[V.int 12])).cu (E.noL ao) (xs:=((ns.take (du ns.length 63)).drop (du ns.length 1)).map V.int)).cu (E.noL H) (xs:=[V.int 12]++((ns.take (du ns.length 63)).drop (du ns.length 1)).map V.int);have ar:Ext σ1 _:=(((Ext.refl σ1).cu h1 (xs:=[V.int 12])).cu ao (xs:=((ns.take (du ns.length 63)).drop (du ns.length 1)).map V.int)).cu H (xs:=[V.int 12]++((ns.take (du ns.length 63)).drop (du ns.length 1)).map V.int);have ew:[V.int 12]++((ns.take (du ns.length 63)).drop (du ns.length 1)).map V.int=(12::(ns.take (du ns.length 63)).drop (du ns.length 1)).map V.int:=rfl;have ag:(12::(ns.take (du ns.length 63)).drop (du ns.length 1)).length<=63:=by
  rw[jh,ix,fq];have Y:du ns.length 63<=ns.length:=Nat.min_le_left _ _;have Z:ns.length=0\/1<=du ns.length 1:=by
   by_cases q:ns.length=0
   ·show .inl q
   ·apply .inr ?_;unfold du fc;rw[az (by decide)];show Nat.le_min.mpr #[by show(cp q).elim (λz=>(fb .C .i (.l .A .O) z)) λz=>(fb .C .a .D z),by decide]
  rcases Z with Z|Z<;>(first|show fb (.k .L (.n 63)) .a (.e .A .O) (nk (gr .A .b (.e .C .O) (.k .A .C) Z (Ar.nr _ _).2.1)) Ar.y|show Ar.sub _ _ (λz p1=>(i9 (.k .L (.n 63)) [[1,1,1,1,1]] (.k .B (.n 63)) (.k .U .C) (.k .D .B) (.e (.a .A .C) .D) W Z (Ar.nr _ _).2.1 p1)) λz p1=>(fb (.k .L (.n 63)) .a (.e .A .O) p1)|omega)
 have bn:=(ay (((σ1.cu Y [V.int 12]).cu Z (((ns.take (du ns.length 63)).drop (du ns.length 1)).map V.int)).L) c3 ([V.int 12]++((ns.take (du ns.length 63)).drop (du ns.length 1)).map V.int));rw[ew]at E3 ar bn ⊢;apply#[_,ay _ _ _,?_];apply HL (r:=r) (x:=x) (pk:=pk) (au:=au) ag #[la,lb,ps,d,f,.none,.none,.none,.none,v,db,sj,sp,F,#[E3.L _ _ hR,hl,λp hp=>(hP p hp).ke E3.L,ay _ _ _,λo=>?_],#[?_,M.F,M.f7,M.f8,M.f9],A.ke E3.L,B.ke E3.L,.inl rfl,.inl rfl,T.keep ar.kw,.inl #[rfl,rfl]]
 ·have:=ho _ o;rw[E.noL H]at this;cases this
 ·show(ez hI x).trans M.I
def PZ {Z:St}{ns:List Int}(ag:ns.length<=63):dt (ef R1.P 6) R1.mR (frameOf #[1,[],R1.mR] [.ro ns]) Z λfl ρ σ=>fl=.next/\oN (ef R1.P 6) R1.cT R1.oF 0 ρ σ λb a σ=>dt (ef R1.P 6) R1.aY (upd ρ 7 (.obj a)) σ KT:=by
 have r0:frameOf #[1,[],R1.mR] [.ro ns] 0=some (.ro ns):=rfl;generalize frameOf #[1,[],R1.mR] [.ro ns]=ρ at r0;apply oJ #[_,r0,by unfold aw;(show fb (.k .A .Q) .a (.k .A (.n 63)) ag),?_];have first:∀Q:V->St->Prop,(∀w:Int,Q (.int w) Z)->(if (!ns.isEmpty)=true then wpE (ef R1.P 6) (.sub (.l 0) (.int 0)) ρ Z Q else wpE (ef R1.P 6) (.int 0) ρ Z Q):=λQ h=>by
  cases ns with
  |nil=>show h 0
  |cons n ns=>refine#[_,r0,n,by unfold aw;(show fb (.k .A .Q) .a (.k .A (.n 63)) ag),by show(0:Int)<=fc _ ((0:Nat):Int);rw[td];(show EO (.ik .O (.t .O)) .f),rfl,h n]
 apply first _ λw=>?_
 have g0:upd ρ 1 (.int w) 0=some (.ro ns):=r0;have g1:upd ρ 1 (.int w) 1=some (.int w):=rfl;show dt _ _ (upd ρ 1 (.int w)) _ _;generalize upd ρ 1 (.int w)=J at g0 g1 ⊢;apply#[_,g1,by decide,_,g1,by decide,by decide,by decide,aq rfl,_,rfl,rfl,?_];generalize (w.fmod 2==1)=pk;generalize ((w.fdiv 2).fmod 2==0)=au;have f0:gj [2,3] [V.bool pk,V.bool au] J 0=some (.ro ns):=g0;have f2:gj [2,3] [V.bool pk,V.bool au] J 2=some (.bool pk):=rfl;have f3:gj [2,3] [V.bool pk,V.bool au] J 3=some (.bool au):=rfl;show dt _ _ (gj [2,3] [V.bool pk,V.bool au] J) _ _;generalize gj [2,3] [V.bool pk,V.bool au] J=ao at f0 f2 f3 ⊢;apply#[aq rfl,λY h0=>#[aq rfl,λW h1=>#[aq rfl,λc2 h2=>#[_,ay _ _ _,by decide,by decide,λc3 h3=>#[aq rfl,λr hr=>?_]]]]];have e3:(List.replicate (201:Int).toNat [V.int 1]).flatten=(List.replicate 201 (1:Int)).map V.int:=rep1 201 1;rw[e3]at hr ⊢;have bn:W≠Y:=λq=>by
  rw[q]at h1;have:upd Z.L Y [] Y=none:=h1;rw[ay]at this;cases this
 have bv:Z.L Y=none:=h0;have#[σ2,B]:∃σ2,σ2=((Z.cu Y []).cu W [V.int 0,V.int 1,V.int 2]).cu c2 [V.int 1]:=#[_,rfl];have L1:((Z.cu Y []).cu W [V.int 0,V.int 1,V.int 2]).L W=some [V.int 0,V.int 1,V.int 2]:=ay _ _ _;have L0:((Z.cu Y []).cu W [V.int 0,V.int 1,V.int 2]).L Y=some []:=(bh (kz bn)).trans (ay _ _ _);have be:c2≠W:=λq=>by rw[q]at h2;rw[show((Z.cu Y []).cu W [V.int 0,V.int 1,V.int 2]).L W=none from h2]at L1;cases L1
 have bl:c2≠Y:=λq=>by rw[q]at h2;rw[show((Z.cu Y []).cu W [V.int 0,V.int 1,V.int 2]).L Y=none from h2]at L0;cases L0
 have M1:σ2.L W=some [V.int 0,V.int 1,V.int 2]:=by rw[B];show(bh (kz be)).trans L1
 have M0:σ2.L Y=some []:=by rw[B];show(bh (kz bl)).trans L0
 have h3:σ2.L c3=none:=by rw[B];show h3
 have hr:(σ2.cu c3 ((List.replicate 201 (1:Int)).map V.int)).L r=none:=by rw[B];show hr
 show dt _ _ (upd ao 4 (.L r)) ((((((Z.cu Y []).cu W [V.int 0,V.int 1,V.int 2]).cu c2 [V.int 1])).cu c3 ((List.replicate 201 (1:Int)).map V.int)).cu r [V.L Y,V.L W,V.L c3]) _;rw[<- B];have ar:W≠c3:=λq=>by rw[<- q,M1]at h3;cases h3
 have bd:Y≠c3:=λq=>by rw[<- q,M0]at h3;cases h3
 have N1:(σ2.cu c3 ((List.replicate 201 (1:Int)).map V.int)).L W=some [V.int 0,V.int 1,V.int 2]:=(bh ar).trans M1;have N0:(σ2.cu c3 ((List.replicate 201 (1:Int)).map V.int)).L Y=some []:=(bh bd).trans M0;have N3:(σ2.cu c3 ((List.replicate 201 (1:Int)).map V.int)).L c3=some ((List.replicate 201 (1:Int)).map V.int):=ay _ _ _;generalize σ2.cu c3 ((List.replicate 201 (1:Int)).map V.int)=z at hr N1 N0 N3 ⊢;have O:∀a xs,z.L a=some xs->(z.cu r [V.L Y,V.L W,V.L c3]).L a=some xs:=λa xs e=>(bh (λq=>by rw[q,hr]at e;cases e)).trans e;have OR:(z.cu r [V.L Y,V.L W,V.L c3]).L r=some ([Y,W,c3].map V.L):=ay _ _ _;have N1:=O _ _ N1;have N0:=O _ _ N0;have N3:=O _ _ N3;generalize z.cu r [V.L Y,V.L W,V.L c3]=U at OR N1 N0 N3 ⊢;apply#[_,rfl,_,_,OR,by show(0:Int)<=fc 3 0;decide,rfl,_,rfl,_,_,OR,by show(0:Int)<=fc 3 1;decide,rfl,aq rfl,_,rfl,rfl,rfl,?_];apply#[_,f2,_,rfl,_,rfl,_,f3,λx d hx=>?_];have H:∀y∈([0,1,2]:List Int),0<=y/\y<7:=by decide
 apply NL (n:=2) (ys:=[0,1,2]) rfl rfl rfl rfl rfl jt N1 (C2 H) (by decide) xJ λσ' f db sj sp jn pn bu hc=>#[rfl,?_];have G0:LG U 0 Y:=#[[],N0,λ_ h=>(by cases h),by decide];have G1:LG U 0 W:=#[[0,1,2],N1,H,by decide];have G3:LG U 0 c3:=#[List.replicate 201 1,N3,λy hy=>by rw[(List.mem_replicate.mp hy).2];decide,by rw[j9];decide];have GP:∀p∈[Y,W,c3],LG U 0 p:=λp hp=>by
  rcases bz.mp hp with rfl|hp
  ·show G0
  ·rcases bz.mp hp with rfl|hp
   ·show G1
   ·rw[ax.mp hp];show G3
 have hL:∀a xs,U.L a=some xs->σ'.L a=some xs:=λa xs e=>hc.L _ _ e;have#[f',I',e7,g7,g8,g9]:=hc.I;apply H4 (r:=r) (x:=x) (d:=d) (ps:=[Y,W,c3]) (la:=Y) (lb:=W) (ys:=[0,1,2]) (f:=f') (db:=db) (sj:=sj) (sp:=sp) ag f0 f2 f3 rfl rfl rfl rfl (hL _ _ OR) rfl (λp hp=>(GP p hp).ke hL) #[I',bu.of e7,g7,g8,g9] (G0.ke hL) (G1.ke hL) (hL _ _ N1) (JJ hc λa o=>?_);rcases o with rfl|o
 ·show(U.L _).isSome=true;rw[OR];rfl
 ·show(GP a o).some
end R1
end MP
end
section
open PySem PySem.W PyProof.Rows
set_option maxHeartbeats 0
namespace Mine
open MP
variable {env:Env}{hb:Heap}
abbrev st0:MP.St:=#[λ_=>none,λ_=>none,λ_=>none,λ_=>none,λ_=>none]
def PL (G:Stc):Rel G st0 G.hb:=by
 apply#[λ_ _ e=>?_,λ_ _ e=>?_,λ_ _ e=>?_,λ_ _ _ e=>?_,λ_ _ e=>?_,λ_ _ e=>?_,λ_ _ e=>?_,λ_ _ _ _ _ e=>?_,λ_ _ _ e=>?_,λ_ _ _ _ _ _ e=>?_,λb d=>?_,λ_ _ e=>e]
 all_goals first|cases e|skip
 unfold MP.St.dom at d;simp[st0]at d
def NB (G:Stc){h:Heap}(hk:∀b o,G.hb.get? b=some o->h.get? b=some o):Rel G st0 h:=by
 have R:=PL G;apply#[λ_ _ e=>(by cases e),λ_ _ e=>(by cases e),λ_ _ e=>(by cases e),λ_ _ _ e=>(by cases e),λ_ _ e=>(by cases e),R.Ll,R.Dl,R.inj,R.apart,R.sep,R.new,hk]
def ao0:AOk callerA 16:=#[rfl,by decide,by decide]
section
variable {P:Params}{h:Heap}
def PD {v:Value}{x:WData}(W:Well P h v x)(Z:WShape.has [] x .int=true):∃i t,v=.int i t/\x=.int i:=by
 cases W with
 |int i t=>refine#[i,t,rfl,rfl]
 |_=>show Bool.noConfusion (show false=true from Z)
def MZ {v:Value}{x:WData}(W:Well P h v x)(Z:WShape.has [] x (.list .int)=true):∃a vs xs,v=.ref a/\x=.list xs/\h.get? a=some {cls:=.type "list",data:=.seq vs.toArray}/\WellAll P h vs xs/\WShape.hasItems [] xs .int=true:=by
 cases W with
 | @list a vs xs e Y=>refine#[a,vs,xs,rfl,rfl,e,Y,(zf _).symm.trans (show(WShape.hasItems [] xs .int||false)=true from Z)]
 |_=>show Bool.noConfusion (show false=true from Z)
def FH {vs:List Value}{xs:List WData}(W:WellAll P h vs xs):(vs=[]/\xs=[])\/∃v us x ys,vs=v::us/\xs=x::ys/\Well P h v x/\WellAll P h us ys:=by
 cases W with
 |nil=>show .inl #[rfl,rfl]
 |cons W Z=>show .inr #[_,_,_,_,rfl,rfl,W,Z]
def ints_of {vs:List Value}:∀{xs:List WData},WellAll P h vs xs->WShape.hasItems [] xs .int=true->∃ns:List Int,xs=ns.map WData.int/\IntsAre vs ns:=by
 induction vs with
 |nil =>
  intro xs W Z;rcases FH W with ⟨_,rfl⟩|⟨_,_,_,_,e,_⟩
  ·apply#[[],rfl,.nil]
  ·cases e
 |cons v vs Y =>
  intro xs W Z;rcases FH W with ⟨e,_⟩|⟨_,_,x,ys,e,rfl,H,J⟩
  ·cases e
  ·cases e;have#[O,U]:=MP.band (show(WShape.has [] x .int&&WShape.hasItems [] ys .int)=true from Z);clear Z;have#[ns,rfl,I]:=Y J U;have#[i,t,rfl,rfl]:=PD H O;apply#[i::ns,rfl,.cons i t I]
def IX {args:List WData}{vals:List Value}(W:WellAll P h vals args)(Z:WShape.hasAll [] args [.list .int]=true):∃(l:Addr) (vs:List Value) (ns:List Int),vals=[.ref l]/\args=[.list (ns.map WData.int)]/\h.get? l=some {cls:=.type "list",data:=.seq vs.toArray}/\IntsAre vs ns:=by
 rcases FH W with ⟨_,rfl⟩|⟨v,us,x,ys,rfl,rfl,H,Y⟩
 ·cases Z
 ·have#[J,O]:=MP.band (show(WShape.has [] x (.list .int)&&WShape.hasAll [] ys [])=true from Z);rcases FH Y with ⟨rfl,rfl⟩|⟨_,_,_,_,_,rfl,_⟩
  ·have#[a,vs,xs,rfl,rfl,e,Y,Z]:=MZ H J;have U:=ints_of Y Z;clear Z;have#[ns,rfl,I]:=U;apply#[_,_,ns,rfl,rfl,e,I]
  ·show Bool.noConfusion (show false=true from O)
end
def NC (xs:List WData)(h:rw1.pre.holds [] {args:=[.list xs]}=true):xs.length<=63:=by
 have e:rw1.pre=.and (.not (.lt (.lit (.int 63)) (.len (.arg 0)))) (.lit (.bool true)):=by rfl
 rw[e]at h;have Y:WTm.value [] (.lt (.lit (.int 63)) (.len (.arg 0))) {args:=[.list xs]}=(less? (.int 63) (.int xs.length)).map WData.bool:=by rfl
 have O:less? (.int 63) (.int xs.length)=some (decide ((63:Int)<xs.length)):=by first|rfl|simp[less?]
 rw[O]at Y;by_cases Z:(63:Int)<xs.length
 ·have W:WTm.value [] (.not (.lt (.lit (.int 63)) (.len (.arg 0)))) {args:=[.list xs]}=some (.bool false):=by
   show(match WTm.value [] (.lt (.lit (.int 63)) (.len (.arg 0))) {args:=[.list xs]} with|some (.bool b)=>some (WData.bool (!b))|_=>none)=_;rw[Y];simp[Z]
  have U:WTm.value [] (.and (.not (.lt (.lit (.int 63)) (.len (.arg 0)))) (.lit (.bool true))) {args:=[.list xs]}=some (.bool false):=by
   show(match WTm.value [] (.not (.lt (.lit (.int 63)) (.len (.arg 0)))) {args:=[.list xs]} with
    |some (.bool false)=>some (WData.bool false)
    |some (.bool true)=>some (.bool true)
    |_=>none)=_
   rw[W]
  unfold WTm.holds at h;rw[U]at h;cases h
 ·(show fb (.k .A (.n 63)) .a (.ig (.n 63) (.t .A)) Z)
def KX:(λ(x y:List WData)=>rw1.row.claim.post x (WData.bool true) y)=λx y=>true:=by kernel_rfl
def zv {h:Heap}{a:Addr}{o:Obj}(e:(frees h).get? a=some o):a≠253/\h.get? a=some o:=by
 unfold frees at e;by_cases c:a=253
 ·subst c;have Z:(h.update 253 λ_=>{cls:=.none,data:=.freed}).get? 253=none:=by
   unfold Heap.update Heap.get?;dsimp only;rw[Array.getElem?_modify];cases h.objs[(253:Nat)]?<;>rfl
  rw[Z]at e;cases e
 ·apply#[c,(lg _ _ (kz c)).symm.trans e]
def fF {h:Heap}{a:Addr}{o:Obj}(c:a≠253)(e:h.get? a=some o):(frees h).get? a=some o:=(lg _ _ (kz c)).trans e
def nX:(xs ys:List Stmt)->execs (xs++ys) env=(execs xs env>>=λf=>match f with|.next=>execs ys env|f=>pure f)
 | [],ys=>by
  rw[List.nil_append];show(pure_bind (m:=Sem) Flow.next (λf=>match f with|.next=>execs ys env|f=>pure f)).symm
 |x::xs,ys=>by
  rw[List.cons_append,execs_cons,execs_cons,bind_assoc];apply bb _ (funext λf=>?_);cases f with
  |next=>show nX xs ys
  |_=>show(pure_bind _ _).symm
def zU {M:Model}{A:Around}{E:QqV}(xs ys:List Stmt){s:Shared}{Q:Flow->Shared->Prop}(h:wpAny M A (execs xs env) (λf s'=>f=.next/\wpAny M A (execs ys env) Q E s') E s):wpAny M A (execs (xs++ys) env) Q E s:=by
 rw[nX];apply aa (bt h (λf s' q=>?_) λ_ _ x=>x);have#[rfl,q]:=q;show q
public abbrev noc:Nat->List V->Addr->Prop:=λ_ _ _=>False
def NR {l:Arguments×Expr×Scope×Pos}(h:LP l=true):w9 l.1 l.2.2.1/\okE R1.tab R1.rV l.2.2.1 l.2.1=true:=by
 unfold LP at h;have#[B,h]:=MP.band h;have#[H,h]:=MP.band h;have#[I,h]:=MP.band h;have#[J,h]:=MP.band h;have#[O,h]:=MP.band h;have#[U,h]:=MP.band h;have#[W,h]:=MP.band h;have#[Y,Z]:=MP.band h;apply#[#[ak B,(dp _).mp H,(dp _).mp I,ak J,O,ak U,ub.mp W,ub.mp Y],Z]
structure F5 (h0:Heap):Prop where
 e0:h0.isNs mainGlobals=true
 code:∀h:Heap,(∀b o,h0.get? b=some o->h.get? b=some o)->CodeHd h 255 253
 built:∀h:Heap,(∀b o,h0.get? b=some o->h.get? b=some o)->h.BuiltinsAt (h0.nsMap mainGlobals) 253
def F5.NU {h0 h:Heap}(L:F5 h0){G:Stc}{σ:MP.St}{pl:Array Value}(R:Rel G σ h)(hk:∀b o,h0.get? b=some o->G.hb.get? b=some o)(Y:env.code=.ref 255)(Z:h.get? 253=some (tabObj pl))(hb:G.hb.get? 253=none)(hd:¬σ.dom 253)(W:253∉envX env):F6 G σ env h (h0.nsMap mainGlobals) 255 253 pl:=
 have k:=λb o e=>R.base b o (hk b o e)
 #[(tj L.e0).keeps k,Y,L.code h k,Z,by decide,L.built h k,hb,hd,W]
def LL {h0:Heap}(e0:h0.isNs mainGlobals=true)(l3:codeOk h0=true)(l4:q8 h0=true):F5 h0/\∃o fd W Y,h0.get? 256=some o/\o.data=.func fd/\fd.code=.ref 255/\h0.get? 255=some W/\W.cls=.type "code"/\W.data=.fields Y/\Y[11]?=some (.ref 253):=by
 unfold codeOk at l3;have#[H,Z]:=MP.band l3;have#[O,bl,H]:=MP.any_some H;have#[J,B,ag]:=jB bl;have U:J.data=.func O:=hV ag;have H:O.code=.ref 255:=ak H;have#[W,z,Z]:=MP.any_some Z;have#[m3,Z]:=MP.band Z;have#[Y,ao,Z]:=MP.any_some Z;unfold K0 at Z;have#[v1,Z]:=MP.band Z;have#[v2,Z]:=MP.band Z;have#[v3,Z]:=MP.band Z;have#[v4,Z]:=MP.band Z;have#[v5,v6]:=MP.band Z;have ar:W.data=.fields Y:=dM ao;unfold q8 at l4;have#[n1,I]:=MP.band l4;have#[om,be,I]:=MP.any_some I;have#[n3,I]:=MP.band I;have#[n4,n5]:=MP.band I;have bd:om.data=.plain:=by
  cases hq:om.data<;>first|show rfl|(rw[hq]at n5;show Bool.noConfusion (show false=true from n5))
 apply#[#[e0,λh k=>#[W,Y,_,_,_,_,_,_,_,k _ _ z,ak m3,ar,ak v1,ak v2,ak v3,ak v4,ak v5,ak v6,by decide],λh k=>#[4,om,ak n1,by decide,by decide,by decide,k _ _ be,ak n3,ak n4,bd]],J,O,W,Y,B,U,H,z,ak m3,ar,ak v1]
def EM {w:World}{h0:Heap}{clo:Nat->List V->Addr->Prop}{kk:Nat}{f:Addr}{G2:Stc}(D:tC (GG w h0 hb clo) G2 kk f):G2=GG w h0 G2.hb G2.clo:=by
 have#[pr,w2,J,z,B,ag,I,H,O]:=G2;have#[g1,g2,g3,U,W,Y,Z,_,_]:=D;dsimp only at g1 g2 g3 U W Y Z;subst g1 g2 g3 U W Y Z;rfl
section
variable {w:World}{h0:Heap}(ob:Obs w.params h0)
include ob
def JE {clo:Nat->List V->Addr->Prop}(hk:∀b o,h0.get? b=some o->hb.get? b=some o){e:Expr}{sc:Scope}{f:Addr}{G2:Stc}(Y:∀k cs a,¬clo k cs a)(D:tC (GG w h0 hb clo) G2 0 f)(L:mC G2 f 1 [] sc (reE R1.tab R1.rV sc e))(h:okE R1.tab R1.rV sc e=true):qF (GG w h0 G2.hb G2.clo) R1.tab R1.P:=by
 have W:∀b o,h0.get? b=some o->G2.hb.get? b=some o:=λb o e=>D.hb _ _ (hk b o e);have Z:=D.clo;rw[EM D]at L;show JD (clo:=G2.clo) ob W λk cs a q=>by
  rcases (Z k cs a).mp q with q|⟨rfl,rfl,rfl⟩
  ·show absurd q (Y _ _ _)
  ·apply#[1,_,_,R1.rV,rfl,L,h,rfl]
def JA {clo:Nat->List V->Addr->Prop}(hk:∀b o,h0.get? b=some o->hb.get? b=some o)(Y:qF (GG w h0 hb clo) R1.tab R1.P){x:Scope×List Stmt}(O:j4 R1.tab x.1 R1.aY (x.2.drop 5)=true){A:Around}{E:QqV}{ρ:Fr}{σ:MP.St}{s:Shared}(z:Cx (GG w h0 hb clo) x.1 15 A env ρ σ s)(q:dt (ef R1.P 6) R1.aY ρ σ R1.KT) :
  wpAny (GG w h0 hb clo).M A (execs (eY R1.tab x.1 R1.aY (x.2.drop 5)) env) (λf s'=>f=.ret (.bool true)/\s'.os=s.os/\s'.gens=s.gens/\∃σ',Rel (GG w h0 hb clo) σ' s'.heap/\Evo (envX env) σ s.heap σ' s'.heap) E s:=by
 have#[I,J]:=jI Y 6;have T:TabOk (GG w h0 hb clo) R1.tab (ef R1.P 6) 15:=Y.base.tab I J (by decide);apply bt (iK T R1.aY _ O z q) (λf s4 lf=>?_) λ_ _ q=>q;have#[B,W,Z,H,U,F4,R4,x4]:=lf;obtain rfl:B=.ret (.bool true):=U;have#[w,rfl,vr]:=H;obtain rfl:w=.bool true:=vr;apply#[rfl,x4.o,x4.g,Z,R4,x4.e]
end
def Q9 (cS:∀ns:List Int,ns.length<=63->dt (ef R1.P 6) R1.mR (frameOf #[1,[],R1.mR] [.ro ns]) st0 λfl ρ σ=>fl=.next/\oN (ef R1.P 6) R1.cT R1.oF 0 ρ σ λb a σ=>dt (ef R1.P 6) R1.aY (upd ρ 7 (.obj a)) σ R1.KT):rw1.Holds:=by
 apply head λd ev hd w s₀ s₁ mg mb Gr bL a o pm cd doc dV kV ho dr hcd el cA W args vals as cc cM H bd cb=>?_;clear cb H cM el hcd dr ho;have#[ob,en]:=PU w;have dc:∀b o,(H1 w).get? b=some o->s₁.heap.get? b=some o:=bL;have Y:(WShape.hasAll [] args [.list .int]&&rw1.pre.holds [] {args:=args})=true:=cc;rw[dh]at Y;have#[l,vs,ns,rfl,rfl,hl,I]:=IX bd Y.1;have cB:ns.length<=63:=by
  simpa using NC _ Y.2
 have hP:s₁.heap.get? 253=some (tabObj #v[]):=dc _ _ en;have hk:∀b o,(frees (H1 w)).get? b=some o->(frees s₁.heap).get? b=some o:=λb o e=>fF (zv e).1 (dc _ _ (zv e).2);generalize frees (H1 w)=h0 at ob hk;have df:∀b o,h0.get? b=some o->s₁.heap.get? b=some o:=λb o e=>(zv (hk b o e)).2;have e0:=(rN ob).1;have ha:a=256:=by
  have e1:=Gr.T.g.eq_nsMap;have e4:=gl8 ob "law" (.ref 256) (by decide +kernel);have e2:=((tj e0).keeps df).eq_nsMap;have e3:d.name=("law":Str):=by
   have:(defOf qv rw1.row.name).map (λp=>p.1.name)=some ("law":Str):=by kernel_rfl
   rw[hd]at this;show af this
  rw[e1,<- e2,e3]at cA;unfold HZ at e4;rw[cA]at e4;cases e4;rfl
 subst ha;have ca:=HM (hb:=frees s₁.heap) ob hk;have e1:=ob.law;unfold CY at e1;have#[l1,e1]:=MP.band e1;have#[Z,e1]:=MP.band e1;have#[l3,l4]:=MP.band e1;have ct:∀k cs a,¬noc k cs a:=λ_ _ _ q=>q;have#[x,hx,FA,ed]:=DI (G:=GG w h0 (frees s₁.heap) noc) hk ca l1;have hB:=ob.lawB;rw[hx]at hB Z;have eb:=bb Prod.snd (af hB);have Z:LN x=true:=Z;unfold LN at Z;have#[c1,Z]:=MP.band Z;have#[c2,Z]:=MP.band Z;have#[c3,Z]:=MP.band Z;have#[c4,Z]:=MP.band Z;have#[c5,Z]:=MP.band Z;have#[c6,c7]:=MP.band Z;have#[LO,bM]:=NR c3;have#[LW,dL,et,oc,eu,ch,be,m1,eg,cn,cl,ck]:=LL e0 l3 l4;have bv:=JD (clo:=noc) ob hk λk cs a (q:False)=>q.elim;have#[dv,da]:=jI bv 6;have T0:TabOk (GG w h0 (frees s₁.heap) noc) R1.tab (ef R1.P 6) 15:=bv.base.tab dv da (by decide);have base:Rel (GG w h0 (frees s₁.heap) noc) st0 s₁.heap:=NB _ λb o e=>(zv e).2;have ei:(frees s₁.heap).get? l=some {cls:=.type "list",data:=.seq vs.toArray}:=fF (λq=>by
  subst q;rw[hP]at hl;cases hl) hl
 apply mq (sU (G:=GG w h0 (frees s₁.heap) noc) (b:=R1.mR) (σ:=st0) (vs:=[.ro ns]) (d:=15) FA (λA' E' env s' cx bl x' hX=>?_) ao0 base %[.ro ei I|0] (av 1) (av 1));have B:env.code=.ref 255:=by
  rw[bl dL et (hk _ _ ch) be];show m1
 have U:253∉envX env:=λq=>by
  have:=hX _ q;rw[hP]at this;cases this
 have bR:∀b,¬st0.dom b:=λb J=>by
  unfold MP.St.dom at J;simp[st0]at J
 have ea:(frees s₁.heap).get? 253=none:=by
  cases hq:(frees s₁.heap).get? 253 with
  |none=>rfl
  |some o=>show absurd rfl (zv hq).1
 rw[eb];apply zU _ _ (bt (iK T0 R1.mR x.2 ed cx (cS ns cB)) (λf s2 lf=>?_) λ_ _ q=>q);have#[fl,ρ,σ,fr,q,Fb,Rb,x2]:=lf;have#[rfl,q]:=q;cases fr;apply#[rfl,?_];have xx:=x'.trans x2;have z:=xx.keep _ _ hP (bR _) U;have dy:∀b,σ.dom b->s₁.heap.get? b=none:=λb J=>(xx.dom b J).resolve_left (bR b);have ag:¬σ.dom 253:=λJ=>by
  have:=dy _ J;rw[hP]at this;cases this
 have ew:∀b o,h0.get? b=some o->(GG w h0 (frees s₁.heap) noc).hb.get? b=some o:=hk;have fin:∀(f:Flow) (O:Shared),f=.ret (.bool true)->O.os=s₁.os->AllBare O.gens->(∀b o,b≠253->s₁.heap.get? b=some o->O.heap.get? b=some o)->(∃ps,O.heap.get? 253=some (tabObj ps))->GoodWG rw1.row.claim (classAt s₀.heap) (ExcName.means s₀.heap) [.list (ns.map WData.int)] s₁ (.ok f) O:=by
  intro f O rfl ho hg kept zz;have#[ps,dx]:=zz;apply#[.inl #[.bool true,.bool true,[],rfl,λcls=>rfl,.bool true,?_,λ_=>#[my,λa h=>nomatch h]],#[λb o e=>?_,λb o e=>?_],ho,hg]
  ·show ez (ez KX _) _
  ·by_cases c:b=253
   ·subst c;have rfl:=af (hP.symm.trans e);apply .inr (.inl #[#[255,oc,eu,df _ _ eg,cn,cl,ck],rfl,#v[],ps,rfl,?_]);rw[dx,Array.empty_append]
   ·show .inl (kept b o c e)
  ·by_cases c:b=253
   ·subst c;apply#[_,dx]
   ·apply#[o,kept b o c e]
 apply nv ?_;apply uZ (C:=ef R1.P 6) (d:=15) (T:=R1.tab) (args:=R1.oF) (kk:=0) (ivar:=7) (kd:=.«local») (c:=255) (P:=253) (mg:=h0.nsMap mainGlobals) (pl:=#v[]) (K:=λb a σ=>dt (ef R1.P 6) R1.aY (upd ρ 7 (.obj a)) σ R1.KT) LO (gM T0 R1.cT x.1 _ rfl c4) (iw T0 .none x.1 _ rfl) (cx.at Fb Rb) ca (by rw[cx.es];show ak c2) (λ_ _=>#[rfl,λh=>nomatch h]) (λσ1 s1 r x1=>?_) trivial rfl T0 (λG2 f D LA=>?_) c5 c6 c7 rfl rfl q
  (λG2 f a σ1 s3 c' q D LA F3 R3 bn bu hg ho=>?_) λa σ1 s3 q F3 R3 x3=>?_
 ·apply LW.NU r hk B (x1.e.keep _ _ z ag λh=>nomatch h) ea (λJ=>?_) U;rcases x1.e.dom _ J with q|q
  ·show ag q
  ·rw[z]at q;cases q
 ·have ar:=JE ob hk ct D LA bM;have#[em,ej]:=jI ar 6;rw[EM D];show ar.base.tab em ej (by decide)
 ·have ar:=JE ob hk ct D LA bM;have e2:=EM D;have kb:∀b o,(frees s₁.heap).get? b=some o->G2.hb.get? b=some o:=D.hb;rw[e2]at F3 R3;show wpAny (GG w h0 G2.hb G2.clo).M A' (execs (eY R1.tab x.1 R1.aY (x.2.drop 5)) env) _ _ _;apply bt (JA ob (λb o e=>kb b o (hk b o e)) ar c1 #[cx.ao,cx.es,cx.eo,F3,R3] q) (λf O l=>?_) λ_ _ q=>q;have#[l1,Z,l3,dz,R6,x6]:=l;subst l1;show fin _ O rfl (Z.trans (ho.trans xx.o)) (.of_eq (l3.trans (hg.trans (xx.g.trans W)))) (λb o hn e=>R6.base b o (kb b o (fF hn e))) #[_,x6.keep _ _ bn bu U]
 ·have bu:¬σ1.dom 253:=λJ=>by
   rcases x3.e.dom _ J with q|q
   ·show ag q
   ·rw[z]at q;cases q
  have bn:=x3.e.keep _ _ z ag U;show wpAny (GG w h0 (frees s₁.heap) noc).M A' (execs (eY R1.tab x.1 R1.aY (x.2.drop 5)) env) _ _ _;apply bt (JA ob hk bv c1 (cx.at F3 R3) q) (λf O l=>?_) λ_ _ q=>q;have#[l1,Z,l3,dz,R6,x6]:=l;subst l1;show fin _ O rfl (Z.trans (x3.o.trans xx.o)) (.of_eq (l3.trans (x3.g.trans (xx.g.trans W)))) (λb o hn e=>R6.base b o (fF hn e)) #[_,x6.keep _ _ bn bu U]
end Mine
end
section
open PySem PySem.W PyProof.Rows
namespace Mine
def Q6:rw1.Holds:=Q9 λns h=>MP.R1.PZ h
end Mine
end
end Mine.Internal
theorem PySem.Challenge.cw_dm0056_01_holds : PySem.Challenge.rw_dm0056_01.Holds :=
 Mine.Internal.Mine.Q6
