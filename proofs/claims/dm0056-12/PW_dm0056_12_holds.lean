import PyProof.Rows.All
import Wide.All
import OpenK.AllK
import Wide.FinOn
import Open.Tops
import Wide.BytesRules
import PyProof.DictItems
import KE.KDictList
import PyProof.Draws
import PyProof.EnumMake
import KE.KBytesWalk
import KE.KLam
import PyProof.Rows.SortWalk
import PyProof.Rows.SortShell
import KE.KSortTup
import PyProof.Rows.MinMaxN
import PyProof.Rows.SumAny
import PyProof.RulesDelMore
import KE.BytesMake
import PyProof.Rows.StrJoin2
import PyProof.ListStr
import PyProof.CollectStr
import PyProof.TupleOfSeq
import PyProof.StrCalls3
import PyProof.Rows.StrSigns2
import KE.KSortKey
import OpenK.KWalk
import PySem.Challenge.RW_dm0056_12
set_option Elab.async false
set_option linter.all false
set_option tactic.hygienic false
set_option maxRecDepth 100000
set_option compiler.extract_closed false
set_option genCtorIdx false
namespace Mine.Internal
namespace Aq
open Lean
def T(s:String)(l:List Syntax):Syntax:=.node .none (.str `Lean.Parser.Tactic s) l.toArray
def M(s:String)(l:List Syntax):Syntax:=.node .none (.str `Lean.Parser.Term s) l.toArray
def R(s:String)(l:List Syntax):Syntax:=.node .none (.str `Lean.Parser.Tactic.rcasesPat s) l.toArray
def L(l:List Syntax):Syntax:=.node .none `null l.toArray
def a(s:String):Syntax:=.atom .none s
def id(s:String):Syntax:=mkIdent (.str .anonymous s)
def is(s:String)(x:Syntax):Bool:=x.getKind==.str `Lean.Parser.Term s
def mp(f:Syntax->Syntax)(l:List Syntax):List Syntax:=l.foldr (λx r=>f x::r) []
def fm(f:Nat->List Syntax)(n:Nat):List Syntax:=(List.range n).foldr (λi r=>f i++r) []
def sp(s:String)(l:List Syntax):Syntax:=L (l.foldr (λx r=>if r.isEmpty then [x] else x::a s::r) [])
def ar(x:Syntax):List Syntax:=x.getSepArgs.toList
def qs(l:List Syntax):Syntax:=T "tacticSeq" [T "tacticSeq1Indented" [sp ";" l]]
def qp(l:List Syntax):Syntax:=T "paren" [a "(",qs l,a ")"]
def qz(l:List Syntax):Syntax:=T "first" [a "first",L (mp (λx=>.node .none `group (.mk [a "|",qs [x]])) (l++[T "fail" [a "fail",L []]]))]
def qh:Syntax:=M "syntheticHole" [a "?",a "_"]
def ap(f:Syntax)(l:List Syntax):Syntax:=M "app" [f,L l]
def re(x:Syntax):Syntax:=T "refine" [a "refine",x]
def qr(s:String)(l:List Syntax):Syntax:=re (ap (mkIdent (.str `Ar s)) l)
def us:String:="e2_0 e2_1 i2_1 e3_0 e3_1 i3_1 e3_2 i3_2 e4_0 e4_1 i4_1 e4_2 i4_2 e4_3 i4_3 e5_0 e5_1 i5_1 e5_2 i5_2 e5_3 i5_3 e5_4 e6_1 e6_2 i6_2 e6_3 i6_3 e6_4 i6_4 e6_5 i6_5 e7_0 i7_1 e7_2 i7_2 e7_3 i7_3 e7_4 i7_4 e8_2 i8_2 e8_3 i8_3 e8_4 i8_4 e9_0 e9_2 e9_3 i9_3 e9_4 i9_4 e9_5 i9_5 e9_7 i9_7 e9_8"
def ql(c:String)(n j:Nat)(l:List Syntax):List Syntax:=
 let x:=c++toString n++"_"++toString (n-j)
 if (us.splitOn " ").contains x then [qr x l] else []
def it(l:List Syntax):Syntax:=T "intro" [a "intro",L l]
def ty(x:Syntax):Syntax:=T "tacticTry_" [a "try",qs [x]]
def cl(x:Syntax):Syntax:=ty (T "clear" [a "clear",L [x]])
def sw(x:Syntax):Syntax:=T "show" [a "show",x]
def ho:Syntax:=M "hole" [a "_"]
def pt(j m:Nat):Syntax:=Nat.repeat (λt=>ap (id "Exists") [M "fun" [a "fun",M "basicFun" [L [ho],L [],a "=>",t]]]) j (Nat.repeat (λt=>ap (id "And") [ho,t]) (m-1) ho)
def mm(o:Option Syntax):MacroM Syntax:=o.elim Macro.throwUnsupported pure
def f1(x:Syntax):Option Syntax:=if x[3].getNumArgs>0||x[1][0].getNumArgs>0 then none else some (qp (mp (λr=>qz [qr (if r[0].getNumArgs==0 then "rwm" else "rwn") [ap r[1] [M "ellipsis" [a ".."]],qh],T "rewriteSeq" [a "rewrite",x[1],T "rwRuleSeq" [a "[",L [r],a "]"],x[3]]]) (ar x[2][1])++[ty (T "withReducible" [a "with_reducible",qs [T "tacticRfl" [a "rfl"]]])]))
def ob(r z:Syntax):Syntax:=T "obtain" [a "obtain",L [r],L [],L [a ":=",L [z]]]
def ot(r:Syntax):Syntax:=
 let y:=r[0][0][0]
 if r[1].getNumArgs==0&&r[0][0].getNumArgs==1&&y.getKind== `Lean.Parser.Tactic.rcasesPat.one&&y[0].getId != `rfl then it [y[0]] else qp [it [id "ζ"],ob r[0] (id "ζ")]
def f2(x:Syntax):Option Syntax:=
 let p:=x[1][0][0]
 let q:=ar p[0][1]
 let n:=q.length
 let t:=x[3][1][0]
 if p.getNumArgs != 1||x[2].getNumArgs != 0||n<2 then none else
 let k:=min n 9
 some (qp (qz (fm (λj=>ql "e" k (j+1) [t,qh]) k)::(if t.isIdent then [cl t] else [])++mp ot (if n<10 then q else q.take 8)++(if n<10 then [] else [qp [it [id "ζ"],ob (x[1][0].setArg 0 (p.setArg 0 (p[0].setArg 1 (sp "," (q.drop 8))))) (id "ζ")]])))
def f3(x:Syntax):Option Syntax:=
 let l:=ar x[1][1]
 let n:=l.length
 if !(is "anonymousCtor" x[1]||x[1].getKind== `«term#[_,]»)||n<2 then none else
 some (qp [sw (ap (id "Exists") [ho]),qz (fm (λi=>
  let k:=9-i
  let b:=l.take (k-1)
  if k==n||2<k&&k<n&&!b.any λs=>(s.find? (is "syntheticHole")).isSome then fm (λj=>mp (λs=>qp (sw (pt (k-j-1) (j+1))::s::(if k==n then [] else [x.setArg 1 (x[1].setArg 1 (sp "," (l.drop (k-1))))]))) (ql "i" k (j+1) (if k==n then l else b++[qh]))) (k-1) else []) 8)])
def f4(x:Syntax):Option Syntax:=
 let y:=x[1][0][1]
 let z:=id "ζ"
 let w:=id "ξ"
 let c (z:Syntax):Syntax:=x.setArg 1 (x[1].setArg 0 (x[1][0].setArg 1 z))
 let g (f:String) (v l:List Syntax):Syntax:=qp (qr f [y,qh]::cl y::it v::l)
 if !y.isIdent||x[1].getNumArgs != 1||x[1][0][0].getNumArgs+x[2].getNumArgs+x[3].getNumArgs != 0 then none else
 some (qz [g "x8" [z] [T "subst" [a "subst",L [z]]],qr "x0" [y],qr "x1" [y],g "x2" [z] [c z],g "x3" [z,w] [c z,c w],qr "x4" [y],qr "x5" [y]])
def dt(s:String):Syntax:=M "dotIdent" [a ".",id s]
def pa:Nat->Syntax->Syntax:=Nat.rec (λs=>s) λ_ f s=>T "rcasesPatMed" [L [if s.getKind== `«term#[_,]» then R "tuple" [a "⟨",sp "," (mp (λr=>T "rcasesPatLo" [f r,L []]) (ar s[1])),a "⟩"] else if is "hole" s then R "ignore" [s] else R "one" [s]]]
end Aq
open Lean in
local macro_rules (kind:=Lean.Parser.Tactic.show)
 |x=>Aq.mm (some (Aq.qz [Aq.T "exact" [Aq.a "exact",x[1]],Aq.re (Aq.M "typeAscription" [Aq.M "hygienicLParen" [Aq.a "(",.node .none `hygieneInfo (.mk [mkIdent .anonymous])],Aq.qh,Aq.a ":",Aq.L [x[1]],Aq.a ")"])]))
open Lean in
local macro_rules (kind:=Lean.Parser.Tactic.rwSeq)
 |x=>Aq.mm (Aq.f1 x)
open Lean in
local macro_rules (kind:=Lean.Parser.Tactic.obtain)
 |x=>Aq.mm (Aq.f2 x)
open Lean in
local macro_rules (kind:=Lean.Parser.Tactic.refine)
 |x=>Aq.mm (Aq.f3 x)
open Lean in
local macro_rules (kind:=Lean.Parser.Tactic.cases)
 |x=>Aq.mm (Aq.f4 x)
open Lean in
local macro_rules (kind:=Lean.Parser.Tactic.apply)
 |x=>Aq.mm (some (Aq.re x[1]))
open Lean in
local macro_rules (kind:=«term%[_|_]»)
 |x=>Aq.mm (if x[3].isNatLit? == some 0 then some ((Aq.ar x[1]).foldr (λe r=>Aq.ap (Aq.dt "cons") [e,r]) (Aq.dt "nil")) else none)
open Lean in
local macro_rules (kind:=Lean.Parser.Tactic.tacticHave__)
 |x=>
  let d:=x[2][0]
  let b:=d[0].getKind== `«term#[_,]»
  Aq.mm (if b||d[0][0].getId== `rfl then some (Aq.T "obtain" [Aq.a "obtain",Aq.L [Aq.pa 9 (if b then d[0] else d[0][0])],Aq.L d[2][0].getArgs.toList,Aq.L [Aq.a ":=",Aq.L [d[4]]]]) else none)
open Lean in
local macro_rules (kind:=Vector.«term#v[_,]»)
 |x=>Aq.mm (some (Aq.ap (mkIdent `List.toArray) [.node .none `«term[_]» (.mk [Aq.a "[",x[1],Aq.a "]"])]))
open Lean in
def Ar.st(x:Syntax):Syntax:=
 let y:=x.rewriteBottomUp λs=>match s with
 |.node _ k a=>.node .none k a
 |.atom _ v=>.atom .none v
 |.ident _ r v p=>.ident .none r v p
 |s=>s
 let d:=y[1]
 let f:=d.getKind== `Lean.Parser.Command.definition
 let a:=d.getKind== `Lean.Parser.Command.abbrev
 let m k l:=((y.setArg 0 ((y[0].setArg 2 mkNullNode).setArg 4 (mkNullNode (.mk [mkNode `Lean.Parser.Command.noncomputable (.mk [mkAtom "noncomputable"])])))).setArg 1 (mkNode k (.mk ([d[0],d[1],d[2],d[3]]++l))))
 if y[0][1].getNumArgs+y[0][4].getNumArgs != 0 then y
 else if f&&d[2][1].getNumArgs != 0&&!(d[2][0].getNumArgs==0&&[`N,`E,`P].contains d[2][1][0][1].getId) then y.setArg 1 (mkNode `Lean.Parser.Command.theorem (.mk [d[0],d[1],mkNode `Lean.Parser.Command.declSig (.mk [d[2][0],d[2][1][0]]),d[3]]))
 else if f||a&&y[0][2].getNumArgs != 0 then m `Lean.Parser.Command.abbrev []
 else if a then m `Lean.Parser.Command.definition [mkNullNode] else y
open Lean in
local macro_rules (kind:=Lean.Parser.Command.declaration)
 |x=>if x.getPos?.isNone||x[1][1][0].getId.getRoot==`PySem then Macro.throwUnsupported else return Ar.st x
open Lean in
local macro_rules (kind:=«term#[_,]»)
 |x=>return mkNode `Lean.Parser.Term.anonymousCtor #[mkAtom "⟨",x[1],mkAtom "⟩"]
def QqV:=PySem.Value->PySem.Shared->Prop
set_option bootstrap.genMatcherCode false
namespace Mine.Z
abbrev aa:=@Nat.sub_add_cancel
abbrev ab:=@PySem.wpAny_bind
abbrev ae:=@PySem.wpAny_pure
abbrev af:=@Option.some.inj
abbrev ah:=@List.mem_singleton
abbrev ak:=@PySem.Heap.get?_push_of_some
abbrev aq:=@List.length_map
abbrev au:=@Nat.lt_or_gt_of_ne
abbrev av:=@Nat.le_refl
abbrev aw:=@if_neg
abbrev bb:=@List.getElem?_eq_getElem
abbrev bg:=@List.append_assoc
abbrev bh:=@Nat.le_of_ble_eq_true
abbrev bq:=@List.length_append
abbrev br:=@of_decide_eq_true
abbrev bw:=@List.mem_cons
abbrev bz:=@Nat.zero_le
abbrev cc:=@congrArg
abbrev cf:=@if_pos
abbrev cg:=@List.drop_eq_getElem_cons
abbrev cn:=@PyProof.Rows.wpS_bind
abbrev cp:=@List.getElem?_map
abbrev cq:=@PySem.Heap.get?_push_size
abbrev cu:=@List.getElem?_eq_some_iff
abbrev cv:=@Option.isSome_iff_exists
abbrev cw:=@List.size_toArray
abbrev cy:=@PySem.wpAny_holding
abbrev cz:=@PyProof.Rows.wpS_pure
abbrev dg:=@decide_eq_false
abbrev dh:=@List.mem_append
abbrev di:=@PySem.wpAny_mono
abbrev dj:=@List.mem_append_left
abbrev dk:=@List.append_nil
abbrev dp:=@List.mem_append_right
abbrev dt:=@List.mem_of_getElem?
abbrev du:=@List.getElem_mem
abbrev dw:=@PySem.builtinLookup_eq_fast
abbrev ee:=@List.mem_map
abbrev ek:=@List.take_append_drop
abbrev er:=@List.mem_iff_getElem
abbrev et:=@List.length_take
abbrev ew:=@List.getElem?_append_left
abbrev fc:=@decide_eq_true
abbrev fe:=@Bool.and_eq_true
abbrev fg:=@List.take_succ_eq_append_getElem
abbrev fo:=@PySem.wpAny_of_eq
abbrev fq:=@beq_iff_eq
abbrev fu:=@Bool.false_eq_true
abbrev fw:=@Array.getElem?_eq_getElem
abbrev fx:=@Option.bind_eq_some_iff
abbrev fy:=@Bool.false_ne_true
abbrev gc:=@PySem.typeLookup_type
abbrev gf:=@List.length_drop
abbrev gh:=@PySem.Heap.SameBut.update
abbrev gj:=@Option.map_eq_some_iff
abbrev gk:=@List.map_append
abbrev gm:=@Array.length_toList
abbrev gq:=@List.map_map
abbrev gr:=@Option.some.injEq
abbrev gu:=@Int.toNat_natCast
abbrev gv:=@List.take_length
abbrev gw:=@Nat.le_of_lt
abbrev gy:=@PySem.wpAny_call_entry
abbrev ic:=@List.getElem?_append_right
abbrev ip:=@List.length_cons
abbrev iq:=@Nat.lt_of_lt_of_le
abbrev iw:=@PySem.Heap.get?_update_self
abbrev ix:=@PySem.Obj.data_mapFields
abbrev iy:=@PySem.Heap.size_push
abbrev jd:=@PySem.Heap.lt_size
abbrev je:=@PySem.wpAny_standAt
abbrev jf:=@Nat.le_trans
abbrev jg:=@PySem.wpAny_newObj_type
abbrev jk:=@Nat.lt_of_succ_lt
abbrev jl:=@Bool.not_eq_true'
abbrev jo:=@Nat.lt_or_eq_of_le
abbrev jq:=@Nat.lt_irrefl
abbrev jv:=@List.getD_eq_getElem?_getD
abbrev jy:=@PySem.isSubtype_type
abbrev jz:=@Nat.ne_of_lt
abbrev kc:=@List.pairwise_cons
abbrev kn:=@List.length_singleton
abbrev kq:=@PySem.F.slot_tuple_iterator_next
abbrev kr:=@Int.le_trans
abbrev ku:=@Classical.not_and_iff_not_or_not
abbrev lh:=@List.pairwise_singleton
abbrev lp:=@List.all_eq_true
abbrev lq:=@PySem.wpAny_rule
abbrev lu:=@congrFun
abbrev mi:=@PySem.wpAny_setField
abbrev mj:=@if_false
abbrev mr:=@List.map_cons
abbrev mv:=@PySem.wpAny_callSpecial?_slot
abbrev mw:=@Nat.zero_add
abbrev mx:=@Nat.succ.inj
abbrev my:=@Nat.lt_or_ge
abbrev mz:=@List.reverse_perm
abbrev nc:=@List.length_range
abbrev nh:=@List.getElem_take
abbrev nj:=@Array.getElem?_eq_some_iff
abbrev nk:=@PyProof.Rows.wpS_mono
abbrev nt:=@List.getElem?_eq_none
abbrev nu:=@PySem.Heap.get?_update_other
abbrev nv:=@Array.getElem?_toList
abbrev oh:=@Nat.le_add_right
abbrev om:=@PySem.wpAny_field
abbrev oq:=@PySem.Obj.isFreed_of_fields
abbrev ou:=@List.pairwise_append
abbrev ow:=@List.exists_cons_of_length_eq_add_one
abbrev oz:=@Nat.sub_le
abbrev pe:=@Nat.not_lt_zero
abbrev pj:=@PySem.wpAny_seqItems
abbrev pk:=@PySem.Heap.get?_none_of_le
abbrev pv:=@List.idxOf_lt_length_of_mem
abbrev qa:=@Prod.mk.inj
abbrev qb:=@List.mem_reverse
abbrev qj:=@PySem.F.args_tuple_iterator_next_1
abbrev qk:=@List.forIn_nil
abbrev qq:=@PySem.F.entry_tuple_iterator_next
abbrev qu:=@List.forIn_cons
abbrev ru:=@Nat.not_lt
abbrev rz:=@PyProof.Rows.wpS_forRange
abbrev sf:=@PySem.codeAny_builtin
abbrev sg:=@beq_eq_false_iff_ne
abbrev te:=@PySem.wpAny_loadPart_at
abbrev tf:=@Nat.lt_succ_self
abbrev tg:=@Nat.add_sub_cancel_left
abbrev ti:=@List.not_mem_nil
abbrev tj:=@List.lookup_eq_none_iff
abbrev tn:=@List.drop_length
abbrev tq:=@PySem.Around.under_plainId
abbrev ug:=@PySem.wpAny_call
abbrev ui:=@List.eq_nil_of_length_eq_zero
abbrev uq:=@Int.lt_or_gt_of_ne
abbrev uw:=@PySem.wpAny_execs_cons
abbrev vf:=@Prod.mk.injEq
abbrev vl:=@Nat.le_of_lt_succ
abbrev wd:=@PySem.codeAny_of_tree
abbrev we:=@PyProof.Rows.callWith_type
abbrev wg:=@List.mem_of_mem_take
abbrev wi:=@decide_eq_decide
abbrev wj:=@Nat.le_of_not_lt
abbrev wk:=@Int.zero_add
abbrev wo:=@PySem.wpAny_truthy_bool
abbrev wq:=@Option.isNone_iff_eq_none
abbrev wt:=@PySem.Obj.cls_mapFields
abbrev wu:=@List.pairwise_iff_getElem
abbrev xd:=@List.getElem?_eq_none_iff
abbrev xf:=@Classical.byContradiction
abbrev xy:=@PySem.wpAny_load
abbrev ya:=@beq_false_of_ne
abbrev ye:=@PySem.wpAny_typeOf
abbrev yf:=@PySem.wpAny_askSetting
abbrev yg:=@Option.isSome_none
abbrev ym:=@Nat.lt_add_of_pos_right
abbrev yn:=@Nat.exists_eq_add_of_le
abbrev yo:=@List.length_eq_zero_iff
abbrev yp:=@List.getElem?_cons_succ
abbrev zq:=@PySem.wpAny_attempt
abbrev zr:=@if_true
abbrev zu:=@List.mem_range
abbrev zv:=@List.drop_zero
abbrev zw:=@PySem.wpAny_updateSeq
abbrev zx:=@PySem.wpAny_specialOf
abbrev zy:=@PySem.Heap.Ns.of_isNs
abbrev cN:=@Nat.eq_of_beq_eq_true
abbrev cO:=@List.Perm.append_left
abbrev cZ:=@Nat.succ_ne_zero
abbrev d4:=@List.cons_append
abbrev d6:=@Bool.not_true
abbrev dR:=@PySem.wpAny_setState_of
abbrev dS:=@Nat.le_succ
abbrev dT:=@List.mem_of_mem_drop
abbrev dU:=@PySem.Calls.spliced_nil
abbrev eL:=@Nat.min_eq_left
abbrev eM:=@Bool.or_eq_true
abbrev eW:=@List.length_reverse
abbrev eX:=@List.getElem?_range
abbrev eY:=@List.filterMap_cons
abbrev fC:=@PySem.wpAny_isInstance
abbrev fD:=@PySem.entryFor_of_tree
abbrev fE:=@PySem.call_meets
abbrev fF:=@Ne.symm
abbrev fG:=@Int.le_of_eq
abbrev gA:=@of_decide_eq_false
abbrev gB:=@le_of_le_of_eq
abbrev gC:=@PySem.codeAny_call_builtin
abbrev gD:=@Option.none_or
abbrev gE:=@Nat.lt_of_le_of_lt
abbrev gF:=@Nat.eq_zero_or_pos
abbrev gG:=@Array.ext_getElem?
abbrev hY:=@PySem.wpAny_setEntries_of
abbrev hZ:=@decide_eq_true_eq
abbrev i4:=@bne_self_eq_false
abbrev i5:=@Nat.lt_trichotomy
abbrev i6:=@Nat.le_succ_of_le
abbrev i7:=@List.reverse_cons
abbrev i8:=@List.getElem_drop
abbrev i9:=@List.flatMap_cons
abbrev iA:=@Classical.not_not
abbrev iS:=@not_or
abbrev iU:=@PySem.F.slot_list_append
abbrev iW:=@Nat.add_assoc
abbrev iX:=@Bool.or_false
abbrev iY:=@PyProof.Rows.wpS_modify
abbrev jU:=@PySem.wpAny_loadPart
abbrev jV:=@decide_eq_false_iff_not
abbrev jW:=@beq_self_eq_true
abbrev jX:=@Nat.succ_le_succ
abbrev jY:=@Nat.not_lt_of_le
abbrev jZ:=@List.lookup_cons
abbrev kA:=@List.isEmpty_iff
abbrev kB:=@List.flatten_nil
abbrev kC:=@List.ext_getElem
abbrev kD:=@PySem.Code.quiet_builtin
abbrev lI:=@Nat.lt_of_succ_lt_succ
abbrev lJ:=@List.pairwise_lt_range
abbrev lK:=@PySem.Calls.call_function_entry
abbrev lL:=@Array.getElem?_eq_none
abbrev mJ:=@PySem.wpAny_pyIter_list
abbrev mY:=@PySem.signature?_of
abbrev mZ:=@PySem.plainId_quiet
abbrev n0:=@Nat.sub_eq_zero_of_le
abbrev n4:=@List.getElem?_toArray
abbrev qC:=@Bool.and_eq_true_iff
abbrev sJ:=@List.ne_and_not_mem_of_not_mem_cons
abbrev uJ:=@PyProof.Rows.wpS_get
abbrev xB:=@List.nodup_append
abbrev J2:=@PySem.slot_list_getitem
end Mine.Z
open Mine.Z
section
namespace Ar
set_option genSizeOf false
set_option genInjectivity false
inductive N where
 |v (i:Nat)
 |n (k:Nat)
 |a (x y:N)
 |m (k:Nat) (x:N)
 |r (x:N) (k:Nat)
inductive E where
 |v (i:Nat)
 |n (k:Int)
 |a (x y:E)
 |s (x y:E)
 |m (k:Int) (x:E)
 |r (x:E) (k:Int)
 |g (x:E)
 |t (x:N)
set_option genCtorIdx true in
inductive R where
 |lt|le|eq|ge|gt|ne
inductive P where
 |i (r:R) (x y:E)
 |n (r:R) (x y:N)
 |ff
structure Q where
 r:R
 x:E
 y:E
public abbrev hd (d:α):List α->α
 | []=>d
 |x::_=>x
public abbrev tl:List α->List α
 | []=>[]
 |_::l=>l
public abbrev nth (d:α):Nat->List α->α
 |0=>hd d
 |i+1=>λl=>nth d i (tl l)
public abbrev N.d (k:List Nat):N->Nat
 |.v i=>nth 0 i k
 |.n c=>c
 |.a x y=>x.d k+y.d k
 |.m c x=>c*x.d k
 |.r x c=>x.d k*c
public abbrev E.d (c:List Int)(k:List Nat):E->Int
 |.v i=>nth 0 i c
 |.n j=>j
 |.a x y=>x.d c k+y.d c k
 |.s x y=>x.d c k-y.d c k
 |.m i x=>i*x.d c k
 |.r x i=>x.d c k*i
 |.g x=>- x.d c k
 |.t x=>(x.d k:Int)
public abbrev R.i (a b:Int):R->Prop
 |.lt=>a<b
 |.le=>a<=b
 |.eq=>a=b
 |.ge=>¬a<b
 |.gt=>¬a<=b
 |.ne=>¬a=b
public abbrev R.n (a b:Nat):R->Prop
 |.lt=>a<b
 |.le=>a<=b
 |.eq=>a=b
 |.ge=>¬a<b
 |.gt=>¬a<=b
 |.ne=>¬a=b
public abbrev P.h (c:List Int)(k:List Nat):P->Prop
 |.i r x y=>r.i (x.d c k) (y.d c k)
 |.n r x y=>r.n (x.d k) (y.d k)
 |.ff=>False
def R.n_i {a b:Nat}:(r:R)->r.n a b->r.i (a:Int) (b:Int)
 |.lt=>Int.ofNat_lt.mpr
 |.le=>Int.ofNat_le.mpr
 |.eq=>λh=>cc _ h
 |.ge=>λh e=>h (Int.ofNat_lt.mp e)
 |.gt=>λh e=>h (Int.ofNat_le.mp e)
 |.ne=>λh e=>h (Int.ofNat.inj e)
def R.i_n {a b:Nat}:(r:R)->r.i (a:Int) (b:Int)->r.n a b
 |.lt=>Int.ofNat_lt.mp
 |.le=>Int.ofNat_le.mp
 |.eq=>λh=>Int.ofNat.inj h
 |.ge=>λh e=>h (Int.ofNat_lt.mpr e)
 |.gt=>λh e=>h (Int.ofNat_le.mpr e)
 |.ne=>λh e=>h (cc _ e)
def ad {a b c d:Int}(h:a=c)(e:b=d):a+b=c+d:=h▸e▸rfl
def sb {a b c d:Int}(h:a=c)(e:b=d):a-b=c-d:=h▸e▸rfl
def aac (a b c d:Int):a+b+(c+d)=a+c+(b+d):=by omega
def T8 {a b:Int}(h:a<0)(e:b<=0):a+b<0:=Int.add_neg_of_neg_of_nonpos h e
def ltd {a b:Int}(h:a<b):0<=b-a+-1:=by omega
abbrev S:List Int->(Nat->Int)->Int
 | []=>λ_=>0
 |y::l=>λf=>f 0*y+S l λj=>f (j+1)
abbrev dl (i j:Nat):Int:=bif Nat.beq i j then 1 else 0
def IY:(l:List Int)->(f g:Nat->Int)->S l (λj=>f j+g j)=S l f+S l g
 | [],_,_=>rfl
 |y::l,f,g=>(ad (Int.add_mul (f 0) (g 0) y) (IY l (λj=>f (j+1)) λj=>g (j+1))).trans (aac _ _ _ _)
def IX (i:Int):(l:List Int)->(f:Nat->Int)->S l (λj=>i*f j)=i*S l f
 | [],_=>(Int.mul_zero i).symm
 |y::l,f=>(ad (Int.mul_assoc i (f 0) y) (IX i l λj=>f (j+1))).trans (Int.mul_add ..).symm
def lE:(l:List Int)->S l (λ_=>0)=0
 | []=>rfl
 |y::l=>(ad (Int.zero_mul y) (lE l)).trans (wk 0)
def BR:(i:Nat)->(l:List Int)->S l (dl i)=nth 0 i l
 |0,[]=>rfl
 |0,y::l=>(ad (Int.one_mul y) (lE l)).trans (Int.add_zero y)
 |i+1,[]=>BR i []
 |i+1,y::l=>(ad (Int.zero_mul y) (BR i l)).trans (wk _)
abbrev up:List Nat->List Int
 | []=>[]
 |x::l=>(x:Int)::up l
def y1:(i:Nat)->(l:List Nat)->nth 0 i (up l)=(nth 0 i l:Nat)
 |0,[]=>rfl
 |0,_::_=>rfl
 |i+1,[]=>y1 i []
 |i+1,_::l=>y1 i l
structure L where
 k:Int
 c:Nat->Int
 n:Nat->Int
abbrev L.d (c k:List Int)(l:L):Int:=l.k+(S c l.c+S k l.n)
abbrev L.add (l m:L):L:=#[l.k+m.k,λj=>l.c j+m.c j,λj=>l.n j+m.n j]
abbrev L.scl (i:Int)(l:L):L:=#[i*l.k,λj=>i*l.c j,λj=>i*l.n j]
abbrev L.num (i:Int):L:=#[i,λ_=>0,λ_=>0]
def L.wK {c k:List Int}(l m:L):(l.add m).d c k=l.d c k+m.d c k:=
 (cc (l.k+m.k+·) ((ad (IY ..) (IY ..)).trans (aac _ _ _ _))).trans (aac _ _ _ _)
def L.pG {c k:List Int}(i:Int)(l:L):(l.scl i).d c k=i*l.d c k:=
 (cc (i*l.k+·) ((ad (IX ..) (IX ..)).trans (Int.mul_add ..).symm)).trans (Int.mul_add ..).symm
def L.wJ {c k:List Int}(i:Int):(L.num i).d c k=i:=
 (cc (i+·) ((ad (lE c) (lE k)).trans (wk 0))).trans (Int.add_zero i)
abbrev N.l:N->L
 |.v i=>#[0,λ_=>0,dl i]
 |.n c=>.num c
 |.a x y=>x.l.add y.l
 |.m c x=>x.l.scl c
 |.r x c=>x.l.scl c
abbrev E.l:E->L
 |.v i=>#[0,dl i,λ_=>0]
 |.n j=>.num j
 |.a x y=>x.l.add y.l
 |.s x y=>x.l.add (y.l.scl (-1))
 |.m i x=>x.l.scl i
 |.r x i=>x.l.scl i
 |.g x=>x.l.scl (-1)
 |.t x=>x.l
def N.l_d {c:List Int}{k:List Nat}:(x:N)->x.l.d c (up k)=(x.d k:Nat)
 |.v i=>(wk _).trans ((ad (lE c) ((BR i (up k)).trans (y1 i k))).trans (wk _))
 |.n i=>L.wJ (i:Int)
 |.a x y=>(L.wK x.l y.l).trans ((ad (N.l_d x) (N.l_d y)))
 |.m i x=>(L.pG i x.l).trans ((cc ((i:Int)*·) (N.l_d x)))
 |.r x i=>(L.pG i x.l).trans ((cc ((i:Int)*·) (N.l_d x)).trans (Int.mul_comm ..))
def rB {c k:List Int}(x y:L):(x.add (y.scl (-1))).d c k=x.d c k-y.d c k:=
 (L.wK ..).trans (cc (x.d c k+·) ((L.pG ..).trans (Int.neg_one_mul _)))
def E.l_d {c:List Int}{k:List Nat}:(x:E)->x.l.d c (up k)=x.d c k
 |.v i=>(wk _).trans ((ad (BR i c) (lE (up k))).trans (Int.add_zero _))
 |.n i=>L.wJ i
 |.a x y=>(L.wK x.l y.l).trans ((ad (E.l_d x) (E.l_d y)))
 |.s x y=>(rB x.l y.l).trans ((sb (E.l_d x) (E.l_d y)))
 |.m i x=>(L.pG i x.l).trans ((cc (i*·) (E.l_d x)))
 |.r x i=>(L.pG i x.l).trans ((cc (i*·) (E.l_d x)).trans (Int.mul_comm ..))
 |.g x=>(L.pG (-1) x.l).trans ((Int.neg_one_mul _).trans (cc (- ·) (E.l_d x)))
 |.t x=>N.l_d x
abbrev R.l (x y:L):R->L
 |.lt=>(y.add (x.scl (-1))).add (.num (-1))
 |.le=>y.add (x.scl (-1))
 |.eq=>y.add (x.scl (-1))
 |.ge=>x.add (y.scl (-1))
 |.gt=>(x.add (y.scl (-1))).add (.num (-1))
 |.ne=>.num 0
def less {c k:List Int}{x y:L}(h:x.d c k<y.d c k):0<=((y.add (x.scl (-1))).add (.num (-1))).d c k:=
 gB (ltd h) ((L.wK ..).trans (ad (rB y x) (L.wJ (-1)))).symm
def R.l_d {c k:List Int}{x y:L}:(r:R)->r.i (x.d c k) (y.d c k)->0<=(r.l x y).d c k
 |.lt=>λh=>less h
 |.le=>λh=>gB (Int.sub_nonneg_of_le h) (rB y x).symm
 |.eq=>λh=>gB (Int.sub_nonneg_of_le (fG h)) (rB y x).symm
 |.ge=>λh=>gB (Int.sub_nonneg_of_le (Int.not_lt.mp h)) (rB x y).symm
 |.gt=>λh=>less (Int.not_le.mp h)
 |.ne=>λ_=>fG (L.wJ 0).symm
def R.TK {a b Y Z:Int}(r:R)(W:a=Y)(X:b=Z)(h:r.i Y Z):r.i a b:=by subst W X;show h
abbrev Q.h (c:List Int)(k:List Nat)(q:Q):Prop:=q.r.i (q.x.d c k) (q.y.d c k)
abbrev Q.l (q:Q):L:=q.r.l q.x.l q.y.l
def Q.l_d {c:List Int}{k:List Nat}{q:Q}(h:q.h c k):0<=q.l.d c (up k):=
 R.l_d q.r (R.TK q.r (E.l_d q.x) (E.l_d q.y) h)
abbrev R.e:R->Bool
 |.eq=>true
 |_=>false
def R.e_d {a b:Int}:(r:R)->r.e=true->r.i a b->r=.eq/\a=b
 |.eq=>λ_ h=>#[rfl,h]
 |.lt=>λe=>Bool.noConfusion e
 |.le=>λe=>Bool.noConfusion e
 |.ge=>λe=>Bool.noConfusion e
 |.gt=>λe=>Bool.noConfusion e
 |.ne=>λe=>Bool.noConfusion e
def Q.e_d {c:List Int}{k:List Nat}{q:Q}(e:q.r.e=true)(h:q.h c k):q.l.d c (up k)=0:=by
 have#[r,x,y]:=q;have#[rfl,h]:=R.e_d r e h;show(rB y.l x.l).trans ((sb (E.l_d y) (E.l_d x)).trans (Int.sub_eq_zero_of_eq h.symm))
abbrev P.q:P->Q
 |.i r x y=>#[r,x,y]
 |.n r x y=>#[r,.t x,.t y]
 |.ff=>#[.ne,.n 0,.n 0]
def P.to {c:List Int}{k:List Nat}:{p:P}->p.h c k->p.q.h c k
 |.i _ _ _=>id
 |.n r _ _=>R.n_i r
 |.ff=>False.elim
def P.of {c:List Int}{k:List Nat}:(p:P)->p.q.h c k->p.h c k
 |.i _ _ _=>id
 |.n r _ _=>R.i_n r
 |.ff=>λh=>h rfl
abbrev sum:List Q->List Int->L
 | []=>λ_=>.num 0
 |q::qs=>λms=>(q.l.scl (ms.headD 0)).add (sum qs ms.tail)
abbrev good:List Q->List Int->Bool
 | []=>λ_=>true
 |q::qs=>λms=>(q.r.e||decide (0<=ms.headD 0))&&good qs ms.tail
abbrev All (c:List Int)(k:List Nat):List Q->Prop
 | []=>True
 |q::qs=>q.h c k/\All c k qs
def band {a b:Bool}:(a&&b)=true->a=true/\b=true:=(fe a b).mp
def N0 {c:List Int}{k:List Nat}:(qs:List Q)->(Z:List Int)->good qs Z=true->All c k qs->0<=(sum qs Z).d c (up k)
 | []=>λ_ _ _=>fG (L.wJ 0).symm
 |q::qs=>λZ Y h=>gB
   (Int.add_nonneg (((eM ..).mp (band Y).1).elim
    (λe=>fG ((cc (Z.headD 0*·) (Q.e_d e h.1)).trans (Int.mul_zero _)).symm)
    (λe=>Int.mul_nonneg (br e) (Q.l_d h.1))) (N0 qs Z.tail (band Y).2 h.2))
   ((L.wK ..).trans (ad (L.pG ..) rfl)).symm
abbrev zero:List Int->(Nat->Int)->Bool
 | []=>λ_=>true
 |_::l=>λf=>decide (f 0=0)&&zero l λj=>f (j+1)
abbrev OJ:List Nat->(Nat->Int)->Bool
 | []=>λ_=>true
 |_::l=>λf=>decide (f 0<=0)&&OJ l λj=>f (j+1)
def E0:(l:List Int)->(f:Nat->Int)->zero l f=true->S l f=0
 | []=>λ_ _=>rfl
 |y::l=>λf h=>(ad ((cc (·*y) (br (band h).1)).trans (Int.zero_mul y)) (E0 l _ (band h).2)).trans (wk 0)
def GQ:(l:List Nat)->(f:Nat->Int)->OJ l f=true->S (up l) f<=0
 | []=>λ_ _=>Int.le_refl _
 |y::l=>λf h=>Int.add_le_add (Int.mul_nonpos_of_nonpos_of_nonneg (br (band h).1) (Int.natCast_nonneg y)) (GQ l _ (band h).2)
abbrev ok (c:List Int)(k:List Nat)(qs:List Q)(ms:List Int):Bool:=
 good qs ms&&(decide ((sum qs ms).k<0)&&(zero c (sum qs ms).c&&OJ k (sum qs ms).n))
def T6 {c:List Int}{k:List Nat}{qs:List Q}{Z:List Int}(h:ok c k qs Z=true)(W:All c k qs):False:=
 have X:=band (band h).2;have Y:=band X.2
 Int.not_lt.mpr (N0 qs Z (band h).1 W) (T8 (br X.1) (kr (fG ((ad (E0 c _ Y.1) rfl).trans (wk _))) (GQ k _ Y.2)))
abbrev R.OM:R->List R
 |.lt=>[.ge]
 |.le=>[.gt]
 |.eq=>[.lt,.gt]
 |.ge=>[.lt]
 |.gt=>[.le]
 |.ne=>[.eq]
def R.neg {a b:Int}:(r:R)->(∀s,s∈r.OM->¬s.i a b)->r.i a b
 |.lt=>λh=>Decidable.not_not.mp (h .ge (.head _))
 |.le=>λh=>Decidable.not_not.mp (h .gt (.head _))
 |.eq=>λh=>Int.le_antisymm (Decidable.not_not.mp (h .gt (.tail _ (.head _)))) (Int.not_lt.mp (h .lt (.head _)))
 |.ge=>λh=>h .lt (.head _)
 |.gt=>λh=>h .le (.head _)
 |.ne=>λh=>h .eq (.head _)
abbrev oks (c:List Int)(k:List Nat)(x y:E)(qs:List Q):List R->List (List Int)->Bool
 | []=>λ_=>true
 |r::rs=>λms=>ok c k (#[r,x,y]::qs) (ms.headD [])&&oks c k x y qs rs ms.tail
def N1 {c:List Int}{k:List Nat}{x y:E}{qs:List Q}(X:All c k qs):(Y:List R)->(Z:List (List Int))->oks c k x y qs Y Z=true->∀s,s∈Y->¬s.i (x.d c k) (y.d c k)
 |_,_,h,_,.head _=>λW=>T6 (band h).1 #[W,X]
 |_,Z,h,s,.tail _ m=>N1 X _ Z.tail (band h).2 s m
abbrev chk (c:List Int)(k:List Nat)(g:P)(ps:List P)(ms:List (List Int)):Bool:=
 oks c k g.q.x g.q.y (ps.map P.q) g.q.r.OM ms
def main {c:List Int}{k:List Nat}{g:P}(Z:List P){Y:List (List Int)}(h:chk c k g Z Y=true)(X:All c k (Z.map P.q)):g.h c k:=
 P.of g (R.neg g.q.r (N1 X g.q.r.OM Y h))
def M:=List (List Int)
def a0 (c:List Int)(k:List Nat)(g:P)(Z:M)(Y:chk c k g [] Z=true:=by show Ar.y):g.h c k:=main [] Y trivial
def a1 (c:List Int)(k:List Nat)(g:P)(Y:M)(Z:P)(W:Z.h c k)(X:chk c k g [Z] Y=true:=by show Ar.y):g.h c k:=main [Z] X #[P.to W,trivial]
def a2 (c:List Int)(k:List Nat)(g:P)(X:M)(Y Z:P)(T:Y.h c k)(U:Z.h c k)(W:chk c k g [Y,Z] X=true:=by show Ar.y):g.h c k:=main [Y,Z] W #[P.to T,P.to U,trivial]
def a3 (c:List Int)(k:List Nat)(g:P)(W:M)(X Y Z:P)(K:X.h c k)(O:Y.h c k)(T:Z.h c k)(U:chk c k g [X,Y,Z] W=true:=by show Ar.y):g.h c k:=main [X,Y,Z] U #[P.to K,P.to O,P.to T,trivial]
def a4 (c:List Int)(k:List Nat)(g:P)(U:M)(W X Y Z:P)(I:W.h c k)(J:X.h c k)(K:Y.h c k)(O:Z.h c k)(T:chk c k g [W,X,Y,Z] U=true:=by show Ar.y):g.h c k:=main [W,X,Y,Z] T #[P.to I,P.to J,P.to K,P.to O,trivial]
def a5 (c:List Int)(k:List Nat)(g:P)(T:M)(U W X Y Z:P)(G:U.h c k)(H:W.h c k)(I:X.h c k)(J:Y.h c k)(K:Z.h c k)(O:chk c k g [U,W,X,Y,Z] T=true:=by show Ar.y):g.h c k:=main [U,W,X,Y,Z] O #[P.to G,P.to H,P.to I,P.to J,P.to K,trivial]
def a6 (c:List Int)(k:List Nat)(g:P)(O:M)(T U W X Y Z:P)(C:T.h c k)(D:U.h c k)(G:W.h c k)(H:X.h c k)(I:Y.h c k)(J:Z.h c k)(K:chk c k g [T,U,W,X,Y,Z] O=true:=by show Ar.y):g.h c k:=main [T,U,W,X,Y,Z] K #[P.to C,P.to D,P.to G,P.to H,P.to I,P.to J,trivial]
def a7 (c:List Int)(k:List Nat)(g:P)(K:M)(O T U W X Y Z:P)(A:O.h c k)(B:T.h c k)(C:U.h c k)(D:W.h c k)(G:X.h c k)(H:Y.h c k)(I:Z.h c k)(J:chk c k g [O,T,U,W,X,Y,Z] K=true:=by show Ar.y):g.h c k:=main [O,T,U,W,X,Y,Z] J #[P.to A,P.to B,P.to C,P.to D,P.to G,P.to H,P.to I,trivial]
def a8 (c:List Int)(k:List Nat)(g:P)(J:M)(K O T U W X Y Z:P)(x:K.h c k)(z:O.h c k)(A:T.h c k)(B:U.h c k)(C:W.h c k)(D:X.h c k)(G:Y.h c k)(H:Z.h c k)(I:chk c k g [K,O,T,U,W,X,Y,Z] J=true:=by show Ar.y):g.h c k:=main [K,O,T,U,W,X,Y,Z] I #[P.to x,P.to z,P.to A,P.to B,P.to C,P.to D,P.to G,P.to H,trivial]
def y:true=true:=rfl
def N.A:N:=.v 0
def E.A:E:=.v 0
def N.B:N:=.v 1
def E.B:E:=.v 1
def N.C:N:=.v 2
def E.C:E:=.v 2
def N.D:N:=.v 3
def E.D:E:=.v 3
def N.F:N:=.v 4
def N.G:N:=.v 5
def N.H:N:=.v 6
def N.I:N:=.v 7
def N.J:N:=.v 8
def N.K:N:=.v 9
def N.O:N:=.n 0
def E.O:E:=.n 0
def N.U:N:=.n 1
def E.U:E:=.n 1
def N.W:N:=.n 2
def E.W:E:=.n 2
public abbrev P.l (x y:N):P:=.n .lt x y
public abbrev P.il (x y:E):P:=.i .lt x y
public abbrev P.k (x y:N):P:=.n .le x y
public abbrev P.ik (x y:E):P:=.i .le x y
public abbrev P.e (x y:N):P:=.n .eq x y
public abbrev P.ie (x y:E):P:=.i .eq x y
public abbrev P.g (x y:N):P:=.n .ge x y
public abbrev P.ig (x y:E):P:=.i .ge x y
public abbrev P.j (x y:N):P:=.n .gt x y
public abbrev P.ij (x y:E):P:=.i .gt x y
public abbrev P.u (x y:N):P:=.n .ne x y
public abbrev P.iu (x y:E):P:=.i .ne x y
public abbrev E.ng (k:Int):E:=.n (-k)
def QH (x y:Nat):x<=x-y+y:=Nat.sub_le_iff_le_add.mp (av _)
def imp {a b:Prop}(h:a->b):¬a\/b:=(Classical.em a).elim (λx=>.inr (h x)) .inl
def cU (x k:Nat)(h:0<k):x%k<k/\k*(x/k)+x%k=x:=#[Nat.mod_lt x h,Nat.div_add_mod x k]
def jt (x y:Nat):min x y<=x/\min x y<=y/\(x<=min x y\/y<=min x y):=#[Nat.min_le_left x y,Nat.min_le_right x y,(Nat.le_total x y).imp (λh=>Nat.le_min.mpr #[av x,h]) λh=>Nat.le_min.mpr #[h,av y]]
def ton (x:Int):(0<=x/\(x.toNat:Int)=x)\/(x<=0/\x.toNat=0):=
 (Int.le_total 0 x).elim (λh=>.inl #[h,Int.toNat_of_nonneg h]) λh=>.inr #[h,Int.toNat_of_nonpos h]
def nab (x:Int):(0<=x/\(x.natAbs:Int)=x)\/(x<=0/\(x.natAbs:Int)=-x):=
 (Int.le_total 0 x).elim (λh=>.inl #[h,Int.natAbs_of_nonneg h]) λh=>.inr #[h,Int.ofNat_natAbs_of_nonpos h]
def sub {p:Prop}(x y:Nat)(Y:y<=x->x-y+y=x->p)(Z:x<=y->x-y=0->p):p:=
 (Nat.le_total y x).elim (λh=>Y h (aa h)) λh=>Z h (n0 h)
@[elab_as_elim] theorem rwm {Z:Sort u}{a b:Z}{p:Z->Prop}(h:a=b)(q:p b):p a:=Eq.rec (motive:=λx _=>p x) q h.symm
@[elab_as_elim] theorem rwn {Z:Sort u}{a b:Z}{p:Z->Prop}(h:b=a)(q:p b):p a:=Eq.rec (motive:=λx _=>p x) q h
def x0 {Z:Type u}{x:Z}{p:Prop}(h:none=some x):p:=Option.noConfusion rfl (heq_of_eq h)
def x1 {Z:Type u}{x:Z}{p:Prop}(h:some x=none):p:=x0 h.symm
def x2 {Z:Type u}{x y:Z}{p:Prop}(h:some x=some y)(k:x=y->p):p:=k (af h)
def x3 {Y:Type u}{Z:Type v}{a b:Y}{c d:Z}{p:Prop}(h:(a,c)=(b,d))(k:a=b->c=d->p):p:=k (cc Prod.fst h) (cc Prod.snd h)
def x4 {p:Prop}(h:false=true):p:=Bool.noConfusion h
def x5 {p:Prop}(h:true=false):p:=Bool.noConfusion h
def x8 {Z:Type u}{a b:Z}{p:Prop}(h:a=b)(k:a=b->p):p:=k h
section
variable {r:Prop}
def e2_0 {p q:Prop}(h:p/\q)(k:p->q->r):r:=k h.1 h.2
def e2_1 {p:A->Prop}(h:∃a,p a)(k:∀a,p a->r):r:=h.elim λa g=>k a g
def i2_1 {p:A->Prop}(a:A)(h:p a):∃a,p a:=#[a,h]
def e3_0 {p q s:Prop}(h:p/\q/\s)(k:p->q->s->r):r:=k h.1 h.2.1 h.2.2
def e3_1 {p q:A->Prop}(h:∃a,p a/\q a)(k:∀a,p a->q a->r):r:=h.elim λa g=>k a g.1 g.2
def i3_1 {p q:A->Prop}(a:A)(h:p a)(i:q a):∃a,p a/\q a:=#[a,h,i]
def e3_2 {p:A->B->Prop}(h:∃a b,p a b)(k:∀a b,p a b->r):r:=h.elim λa g=>g.elim λb g=>k a b g
def i3_2 {p:A->B->Prop}(a:A)(b:B)(h:p a b):∃a b,p a b:=#[a,b,h]
def e4_0 {p q s t:Prop}(h:p/\q/\s/\t)(k:p->q->s->t->r):r:=k h.1 h.2.1 h.2.2.1 h.2.2.2
def e4_1 {p q s:A->Prop}(h:∃a,p a/\q a/\s a)(k:∀a,p a->q a->s a->r):r:=h.elim λa g=>k a g.1 g.2.1 g.2.2
def i4_1 {p q s:A->Prop}(a:A)(h:p a)(i:q a)(j:s a):∃a,p a/\q a/\s a:=#[a,h,i,j]
def e4_2 {p q:A->B->Prop}(h:∃a b,p a b/\q a b)(k:∀a b,p a b->q a b->r):r:=h.elim λa g=>g.elim λb g=>k a b g.1 g.2
def i4_2 {p q:A->B->Prop}(a:A)(b:B)(h:p a b)(i:q a b):∃a b,p a b/\q a b:=#[a,b,h,i]
def e4_3 {p:A->B->C->Prop}(h:∃a b c,p a b c)(k:∀a b c,p a b c->r):r:=h.elim λa g=>g.elim λb g=>g.elim λc g=>k a b c g
def i4_3 {p:A->B->C->Prop}(a:A)(b:B)(c:C)(h:p a b c):∃a b c,p a b c:=#[a,b,c,h]
def e5_0 {p q s t u:Prop}(h:p/\q/\s/\t/\u)(k:p->q->s->t->u->r):r:=k h.1 h.2.1 h.2.2.1 h.2.2.2.1 h.2.2.2.2
def e5_1 {p q s t:A->Prop}(h:∃a,p a/\q a/\s a/\t a)(k:∀a,p a->q a->s a->t a->r):r:=h.elim λa g=>k a g.1 g.2.1 g.2.2.1 g.2.2.2
def i5_1 {p q s t:A->Prop}(a:A)(h:p a)(i:q a)(j:s a)(l:t a):∃a,p a/\q a/\s a/\t a:=#[a,h,i,j,l]
def e5_2 {p q s:A->B->Prop}(h:∃a b,p a b/\q a b/\s a b)(k:∀a b,p a b->q a b->s a b->r):r:=h.elim λa g=>g.elim λb g=>k a b g.1 g.2.1 g.2.2
def i5_2 {p q s:A->B->Prop}(a:A)(b:B)(h:p a b)(i:q a b)(j:s a b):∃a b,p a b/\q a b/\s a b:=#[a,b,h,i,j]
def e5_3 {p q:A->B->C->Prop}(h:∃a b c,p a b c/\q a b c)(k:∀a b c,p a b c->q a b c->r):r:=h.elim λa g=>g.elim λb g=>g.elim λc g=>k a b c g.1 g.2
def i5_3 {p q:A->B->C->Prop}(a:A)(b:B)(c:C)(h:p a b c)(i:q a b c):∃a b c,p a b c/\q a b c:=#[a,b,c,h,i]
def e5_4 {p:A->B->C->D->Prop}(h:∃a b c d,p a b c d)(k:∀a b c d,p a b c d->r):r:=h.elim λa g=>g.elim λb g=>g.elim λc g=>g.elim λd g=>k a b c d g
def e6_1 {p q s t u:A->Prop}(h:∃a,p a/\q a/\s a/\t a/\u a)(k:∀a,p a->q a->s a->t a->u a->r):r:=h.elim λa g=>k a g.1 g.2.1 g.2.2.1 g.2.2.2.1 g.2.2.2.2
def e6_2 {p q s t:A->B->Prop}(h:∃a b,p a b/\q a b/\s a b/\t a b)(k:∀a b,p a b->q a b->s a b->t a b->r):r:=h.elim λa g=>g.elim λb g=>k a b g.1 g.2.1 g.2.2.1 g.2.2.2
def i6_2 {p q s t:A->B->Prop}(a:A)(b:B)(h:p a b)(i:q a b)(j:s a b)(l:t a b):∃a b,p a b/\q a b/\s a b/\t a b:=#[a,b,h,i,j,l]
def e6_3 {p q s:A->B->C->Prop}(h:∃a b c,p a b c/\q a b c/\s a b c)(k:∀a b c,p a b c->q a b c->s a b c->r):r:=h.elim λa g=>g.elim λb g=>g.elim λc g=>k a b c g.1 g.2.1 g.2.2
def i6_3 {p q s:A->B->C->Prop}(a:A)(b:B)(c:C)(h:p a b c)(i:q a b c)(j:s a b c):∃a b c,p a b c/\q a b c/\s a b c:=#[a,b,c,h,i,j]
def e6_4 {p q:A->B->C->D->Prop}(h:∃a b c d,p a b c d/\q a b c d)(k:∀a b c d,p a b c d->q a b c d->r):r:=h.elim λa g=>g.elim λb g=>g.elim λc g=>g.elim λd g=>k a b c d g.1 g.2
def i6_4 {p q:A->B->C->D->Prop}(a:A)(b:B)(c:C)(d:D)(h:p a b c d)(i:q a b c d):∃a b c d,p a b c d/\q a b c d:=#[a,b,c,d,h,i]
def e6_5 {p:A->B->C->D->F->Prop}(h:∃a b c d f,p a b c d f)(k:∀a b c d f,p a b c d f->r):r:=h.elim λa g=>g.elim λb g=>g.elim λc g=>g.elim λd g=>g.elim λf g=>k a b c d f g
def i6_5 {p:A->B->C->D->F->Prop}(a:A)(b:B)(c:C)(d:D)(f:F)(h:p a b c d f):∃a b c d f,p a b c d f:=#[a,b,c,d,f,h]
def e7_0 {p q s t u v w:Prop}(h:p/\q/\s/\t/\u/\v/\w)(k:p->q->s->t->u->v->w->r):r:=k h.1 h.2.1 h.2.2.1 h.2.2.2.1 h.2.2.2.2.1 h.2.2.2.2.2.1 h.2.2.2.2.2.2
def i7_1 {p q s t u v:A->Prop}(a:A)(h:p a)(i:q a)(j:s a)(l:t a)(m:u a)(n:v a):∃a,p a/\q a/\s a/\t a/\u a/\v a:=#[a,h,i,j,l,m,n]
def e7_2 {p q s t u:A->B->Prop}(h:∃a b,p a b/\q a b/\s a b/\t a b/\u a b)(k:∀a b,p a b->q a b->s a b->t a b->u a b->r):r:=h.elim λa g=>g.elim λb g=>k a b g.1 g.2.1 g.2.2.1 g.2.2.2.1 g.2.2.2.2
def i7_2 {p q s t u:A->B->Prop}(a:A)(b:B)(h:p a b)(i:q a b)(j:s a b)(l:t a b)(m:u a b):∃a b,p a b/\q a b/\s a b/\t a b/\u a b:=#[a,b,h,i,j,l,m]
def e7_3 {p q s t:A->B->C->Prop}(h:∃a b c,p a b c/\q a b c/\s a b c/\t a b c)(k:∀a b c,p a b c->q a b c->s a b c->t a b c->r):r:=h.elim λa g=>g.elim λb g=>g.elim λc g=>k a b c g.1 g.2.1 g.2.2.1 g.2.2.2
def i7_3 {p q s t:A->B->C->Prop}(a:A)(b:B)(c:C)(h:p a b c)(i:q a b c)(j:s a b c)(l:t a b c):∃a b c,p a b c/\q a b c/\s a b c/\t a b c:=#[a,b,c,h,i,j,l]
def e7_4 {p q s:A->B->C->D->Prop}(h:∃a b c d,p a b c d/\q a b c d/\s a b c d)(k:∀a b c d,p a b c d->q a b c d->s a b c d->r):r:=h.elim λa g=>g.elim λb g=>g.elim λc g=>g.elim λd g=>k a b c d g.1 g.2.1 g.2.2
def i7_4 {p q s:A->B->C->D->Prop}(a:A)(b:B)(c:C)(d:D)(h:p a b c d)(i:q a b c d)(j:s a b c d):∃a b c d,p a b c d/\q a b c d/\s a b c d:=#[a,b,c,d,h,i,j]
def e8_2 {p q s t u v:A->B->Prop}(h:∃a b,p a b/\q a b/\s a b/\t a b/\u a b/\v a b)(k:∀a b,p a b->q a b->s a b->t a b->u a b->v a b->r):r:=h.elim λa g=>g.elim λb g=>k a b g.1 g.2.1 g.2.2.1 g.2.2.2.1 g.2.2.2.2.1 g.2.2.2.2.2
def i8_2 {p q s t u v:A->B->Prop}(a:A)(b:B)(h:p a b)(i:q a b)(j:s a b)(l:t a b)(m:u a b)(n:v a b):∃a b,p a b/\q a b/\s a b/\t a b/\u a b/\v a b:=#[a,b,h,i,j,l,m,n]
def e8_3 {p q s t u:A->B->C->Prop}(h:∃a b c,p a b c/\q a b c/\s a b c/\t a b c/\u a b c)(k:∀a b c,p a b c->q a b c->s a b c->t a b c->u a b c->r):r:=h.elim λa g=>g.elim λb g=>g.elim λc g=>k a b c g.1 g.2.1 g.2.2.1 g.2.2.2.1 g.2.2.2.2
def i8_3 {p q s t u:A->B->C->Prop}(a:A)(b:B)(c:C)(h:p a b c)(i:q a b c)(j:s a b c)(l:t a b c)(m:u a b c):∃a b c,p a b c/\q a b c/\s a b c/\t a b c/\u a b c:=#[a,b,c,h,i,j,l,m]
def e8_4 {p q s t:A->B->C->D->Prop}(h:∃a b c d,p a b c d/\q a b c d/\s a b c d/\t a b c d)(k:∀a b c d,p a b c d->q a b c d->s a b c d->t a b c d->r):r:=h.elim λa g=>g.elim λb g=>g.elim λc g=>g.elim λd g=>k a b c d g.1 g.2.1 g.2.2.1 g.2.2.2
def i8_4 {p q s t:A->B->C->D->Prop}(a:A)(b:B)(c:C)(d:D)(h:p a b c d)(i:q a b c d)(j:s a b c d)(l:t a b c d):∃a b c d,p a b c d/\q a b c d/\s a b c d/\t a b c d:=#[a,b,c,d,h,i,j,l]
def e9_0 {p q s t u v w k J:Prop}(h:p/\q/\s/\t/\u/\v/\w/\k/\J)(k:p->q->s->t->u->v->w->k->J->r):r:=k h.1 h.2.1 h.2.2.1 h.2.2.2.1 h.2.2.2.2.1 h.2.2.2.2.2.1 h.2.2.2.2.2.2.1 h.2.2.2.2.2.2.2.1 h.2.2.2.2.2.2.2.2
def e9_2 {p q s t u v w:A->B->Prop}(h:∃a b,p a b/\q a b/\s a b/\t a b/\u a b/\v a b/\w a b)(k:∀a b,p a b->q a b->s a b->t a b->u a b->v a b->w a b->r):r:=h.elim λa g=>g.elim λb g=>k a b g.1 g.2.1 g.2.2.1 g.2.2.2.1 g.2.2.2.2.1 g.2.2.2.2.2.1 g.2.2.2.2.2.2
def e9_3 {p q s t u v:A->B->C->Prop}(h:∃a b c,p a b c/\q a b c/\s a b c/\t a b c/\u a b c/\v a b c)(k:∀a b c,p a b c->q a b c->s a b c->t a b c->u a b c->v a b c->r):r:=h.elim λa g=>g.elim λb g=>g.elim λc g=>k a b c g.1 g.2.1 g.2.2.1 g.2.2.2.1 g.2.2.2.2.1 g.2.2.2.2.2
def i9_3 {p q s t u v:A->B->C->Prop}(a:A)(b:B)(c:C)(h:p a b c)(i:q a b c)(j:s a b c)(l:t a b c)(m:u a b c)(n:v a b c):∃a b c,p a b c/\q a b c/\s a b c/\t a b c/\u a b c/\v a b c:=#[a,b,c,h,i,j,l,m,n]
def e9_4 {p q s t u:A->B->C->D->Prop}(h:∃a b c d,p a b c d/\q a b c d/\s a b c d/\t a b c d/\u a b c d)(k:∀a b c d,p a b c d->q a b c d->s a b c d->t a b c d->u a b c d->r):r:=h.elim λa g=>g.elim λb g=>g.elim λc g=>g.elim λd g=>k a b c d g.1 g.2.1 g.2.2.1 g.2.2.2.1 g.2.2.2.2
def i9_4 {p q s t u:A->B->C->D->Prop}(a:A)(b:B)(c:C)(d:D)(h:p a b c d)(i:q a b c d)(j:s a b c d)(l:t a b c d)(m:u a b c d):∃a b c d,p a b c d/\q a b c d/\s a b c d/\t a b c d/\u a b c d:=#[a,b,c,d,h,i,j,l,m]
def e9_5 {p q s t:A->B->C->D->F->Prop}(h:∃a b c d f,p a b c d f/\q a b c d f/\s a b c d f/\t a b c d f)(k:∀a b c d f,p a b c d f->q a b c d f->s a b c d f->t a b c d f->r):r:=h.elim λa g=>g.elim λb g=>g.elim λc g=>g.elim λd g=>g.elim λf g=>k a b c d f g.1 g.2.1 g.2.2.1 g.2.2.2
def i9_5 {p q s t:A->B->C->D->F->Prop}(a:A)(b:B)(c:C)(d:D)(f:F)(h:p a b c d f)(i:q a b c d f)(j:s a b c d f)(l:t a b c d f):∃a b c d f,p a b c d f/\q a b c d f/\s a b c d f/\t a b c d f:=#[a,b,c,d,f,h,i,j,l]
def e9_7 {p q:A->B->C->D->F->G->H->Prop}(h:∃a b c d f y z,p a b c d f y z/\q a b c d f y z)(k:∀a b c d f y z,p a b c d f y z->q a b c d f y z->r):r:=h.elim λa g=>g.elim λb g=>g.elim λc g=>g.elim λd g=>g.elim λf g=>g.elim λy g=>g.elim λz g=>k a b c d f y z g.1 g.2
def i9_7 {p q:A->B->C->D->F->G->H->Prop}(a:A)(b:B)(c:C)(d:D)(f:F)(y:G)(z:H)(h:p a b c d f y z)(i:q a b c d f y z):∃a b c d f y z,p a b c d f y z/\q a b c d f y z:=#[a,b,c,d,f,y,z,h,i]
def e9_8 {p:A->B->C->D->F->G->H->I->Prop}(h:∃a b c d f y z o,p a b c d f y z o)(k:∀a b c d f y z o,p a b c d f y z o->r):r:=h.elim λa g=>g.elim λb g=>g.elim λc g=>g.elim λd g=>g.elim λf g=>g.elim λy g=>g.elim λz g=>g.elim λo g=>k a b c d f y z o g
end
public abbrev M.i:M:=[[1]]
public abbrev M.a:M:=[[1,1]]
public abbrev M.k:M:=[[0,1]]
public abbrev M.r:M:=[[1,-1]]
public abbrev M.b:M:=[[1,1,1]]
public abbrev M.c:M:=[[0,1,1]]
public abbrev M.n:M:=[[1],[1]]
public abbrev M.d:M:=[[1,1,-1]]
public abbrev M.m:M:=[[1,-1,1]]
public abbrev M.e:M:=[[1,1,1,1]]
public abbrev M.l:M:=[[0,1,1,1]]
public abbrev M.q:M:=[[1,1,1,-1]]
public abbrev M.y:M:=[[1,1,-1,1]]
public abbrev M.s:M:=[[1,0],[1,1]]
public abbrev M.w:M:=[[1,1,1,1,1]]
public abbrev M.g:M:=[[1,1],[1,-1]]
public abbrev M.j:M:=[[1,-1],[1,1]]
public abbrev M.f:M:=[[1,0,1],[1,1,0]]
public abbrev M.p:M:=[[0,1,1],[0,1,1]]
public abbrev M.t:M:=[[1,0,0],[1,1,1]]
public abbrev M.z:M:=[[1,1,-1],[1,0,1]]
def N.a8:N:=.n 62
public abbrev M.u:M:=[[1,-1,1],[1,1,-1]]
public abbrev M.v:M:=[[1,1,-1],[1,-1,1]]
def E.L:E:=.t .A
def E.P:E:=.t .B
def E.S:E:=.t .C
def N.aQ:N:=.n 300
public abbrev M.h:M:=[[1,1,0,1],[1,0,1,0]]
def N.a3:N:=.n 400000
def N.T:N:=.n 1000000
public abbrev M.o:M:=[[1,-1,1,-1],[1,1,-1,1]]
public abbrev M.x:M:=[[1,1,-1,-1],[1,-1,1,1]]
def E.M:E:=.n (2^63)
def E.Q:E:=.n (2^64)
def N.aJ:N:=.n (2^24)
def N.a6:N:=.m 2 .B
def N.aN:N:=.m 2 .A
def P.A:P:=.k .A .B
def N.L:N:=.a .A .B
def P.B:P:=.l .A .B
def N.M:N:=.a .A .U
def N.P:N:=.a .B .U
def P.C:P:=.l .O .A
def P.D:P:=.e .A .B
def N.Q:N:=.a .B .C
def P.G:P:=.l .A .C
def N.R:N:=.a .C .D
def P.H:P:=.k .C .B
def P.I:P:=.k .U .A
def N.S:N:=.a .C .U
def P.K:P:=.k .A .C
def P.L:P:=.l .C .B
def P.M:P:=.e .A .O
def N.V:N:=.a .A .C
def N.X:N:=.a .D .F
def P.S:P:=.l .B .D
def P.U:P:=.l .B .A
def N.Y:N:=.a .D .U
def N.Z:N:=.a .A .D
def P.V:P:=.l .O .B
def P.Y:P:=.k .B .A
def N.a0:N:=.a .F .U
def N.a1:N:=.a .O .U
def P.a0:P:=.l .U .A
def P.a2:P:=.l .C .D
def P.a5:P:=.l .O .C
def N.a5:N:=.a .B .F
def P.a9:P:=.k .A .D
def P.aD:P:=.l .B .C
def N.a7:N:=.a .G .H
def N.a9:N:=.a .B .A
def P.aH:P:=.k .C .D
def N.aA:N:=.a .G .U
def P.aL:P:=.k .C .A
def N.aB:N:=.a .F .G
def P.aS:P:=.e .B .C
def P.aT:P:=.e .D .O
def P.aV:P:=.l .D .C
def N.aC:N:=.a .C .B
def N.aF:N:=.a .B .D
def P.b1:P:=.e .C .O
def P.b2:P:=.e .F .O
def P.b3:P:=.l .A .O
def P.b4:P:=.e .B .O
def P.b9:P:=.e .B .A
def P.bB:P:=.k .B .C
def P.bC:P:=.k .D .C
def N.aI:N:=.a .D .C
def E.R:E:=.s .A .B
def P.bK:P:=.k .D .F
def P.bL:P:=.k .D .B
def P.bM:P:=.k .F .C
def P.bQ:P:=.e .C .D
def P.bR:P:=.g .A .B
def P.bY:P:=.u .A .B
def N.aL:N:=.a .A .F
def N.aM:N:=.a .A .W
def P.c0:P:=.l .A .U
def P.a3:P:=.ie .A .B
def P.a6:P:=.ik .O .A
def P.a7:P:=.ig .A .B
def P.aA:P:=.il .A .B
def P.aQ:P:=.ik .A .O
def P.aR:P:=.il .B .A
def P.b8:P:=.ie .C .D
def P.bJ:P:=.il .O .A
def P.c6:P:=.ie .B .A
def P.aJ:P:=.k .A (.n 63)
def P.b7:P:=.k .A .a8
def P.c3:P:=.l .A (.n 37)
def P.c4:P:=.k .B (.n 37)
def P.bW:P:=.l .A (.n 256)
def P.aP:P:=.ie .L .A
def P.aY:P:=.l .B .a3
def P.c2:P:=.l .A .a3
def P.a1:P:=.k .A .T
def P.aZ:P:=.l .A .T
def P.R:P:=.l .A (.n (2^60))
def P.aX:P:=.k .A (.n 16777216)
def P.bU:P:=.l .A (.n (2^40))
def P.c8:P:=.il .A .M
def N.aK:N:=.a (.m 2 .C) .U
def N.aP:N:=.a .a6 .U
def P.F:P:=.k .L .C
def P.J:P:=.l .L .C
def P.O:P:=.e (.a .D .A) .C
def P.Q:P:=.k .A .P
def P.T:P:=.k .M .B
def P.W:P:=.l .M .B
def P.X:P:=.e .L .C
def P.Z:P:=.e .M .C
def N.a2:N:=.a .M .B
def N.a4:N:=.a .A .P
def P.a8:P:=.e .M .B
def P.aB:P:=.e .A .P
def P.aC:P:=.l .A .P
def P.aF:P:=.e (.a .C .A) .B
def P.aG:P:=.e .A .Q
def P.aM:P:=.k .R .B
def P.aN:P:=.e (.a .G .A) .C
def P.aW:P:=.k .X .C
def N.aD:N:=.a .L .U
def P.b0:P:=.k .Z .C
def P.bA:P:=.k .C .P
def N.aH:N:=.a .B .S
def P.bF:P:=.k .L .D
def P.bG:P:=.k .U .L
def P.bI:P:=.e (.a .D .G) .F
def P.bN:P:=.e .Q .D
def P.bP:P:=.e .P .A
def P.bT:P:=.e .R .F
def P.bX:P:=.k .A .L
def P.bZ:P:=.e .Z .C
def P.c1:P:=.k .A .Q
def P.c5:P:=.e .a5 .D
def P.cA:P:=.l (.a .C .A) .D
def P.cC:P:=.k .A (.a .B .O)
def P.cF:P:=.k (.a .F .C) .D
def P.cG:P:=.e (.a .G .A) .D
def P.b6:P:=.ik (.g .M) .A
def P.aK:P:=.e .B (.a .A (.n 3))
def P.bV:P:=.ie .L (.g .P)
def N.aG:N:=.r (.a (.r .B 63) .C) 63
def P.c7:P:=.e (.a .a6 .F) .G
def P.N:P:=.k .a4 .C
def P.a4:P:=.l (.a .M .U) .B
def P.aI:P:=.k .M .P
def P.bD:P:=.k .L .R
def P.bH:P:=.k (.a .A .Q) .D
def P.bS:P:=.k .a2 .C
def P.cB:P:=.k .A (.a .P .O)
def P.cD:P:=.k (.a .A .S) .B
def P.c9:P:=.k (.a (.a .A .G) .H) .X
def P.aU:P:=.ie (.s (.t .M) .U) .L
def P.b5:P:=.l (.a (.a .A (.m 3 .P)) (.n 20)) .C
end Ar
namespace Mine.Z
abbrev fj:=λ{k0}=>@Ar.a1 [] [k0]
abbrev pz:=λ{c0}=>@Ar.a1 [c0] []
abbrev qg:=λ{k0}=>@Ar.a0 [] [k0]
abbrev jQ:=λ{c0 k0 k1}=>@Ar.a2 [c0] [k0,k1]
abbrev az:=λ{k0 k1}=>@Ar.a1 [] [k0,k1]
abbrev wZ:=λ{c0 k0}=>@Ar.a1 [c0] [k0]
abbrev NH:=λ{c0 k0}=>@Ar.a3 [c0] [k0]
abbrev sd:=λ{k0 k1 k2}=>@Ar.a3 [] [k0,k1,k2]
abbrev jc:=λ{k0 k1}=>@Ar.a2 [] [k0,k1]
abbrev qt:=λ{k0 k1 k2 k3}=>@Ar.a3 [] [k0,k1,k2,k3]
abbrev gz:=λ{k0 k1 k2}=>@Ar.a1 [] [k0,k1,k2]
abbrev u9:=λ{k0 k1 k2 k3 k4 k5}=>@Ar.a5 [] [k0,k1,k2,k3,k4,k5]
abbrev um:=λ{k0 k1 k2 k3 k4}=>@Ar.a2 [] [k0,k1,k2,k3,k4]
abbrev fb:=λ{k0 k1 k2}=>@Ar.a2 [] [k0,k1,k2]
abbrev zR:=λ{k0 k1 k2 k3 k4}=>@Ar.a4 [] [k0,k1,k2,k3,k4]
abbrev uv:=λ{c0 c1}=>@Ar.a1 [c0,c1] []
abbrev gp:=λ{k0 k1 k2 k3}=>@Ar.a2 [] [k0,k1,k2,k3]
abbrev jP:=λ{k0 k1 k2 k3 k4 k5}=>@Ar.a4 [] [k0,k1,k2,k3,k4,k5]
abbrev pP:=λ{c0}=>@Ar.a0 [c0] []
abbrev uu:=λ{k0 k1 k2 k3 k4}=>@Ar.a3 [] [k0,k1,k2,k3,k4]
abbrev cX:=λ{k0 k1}=>@Ar.a0 [] [k0,k1]
abbrev hJ:=λ{c0 c1 c2}=>@Ar.a2 [c0,c1,c2] []
abbrev PU:=λ{k0 k1 k2 k3 k4 k5}=>@Ar.a6 [] [k0,k1,k2,k3,k4,k5]
abbrev eH:=@Ar.a0 [] []
abbrev mU:=λ{k0 k1 k2 k3}=>@Ar.a4 [] [k0,k1,k2,k3]
abbrev mW:=λ{k0 k1 k2 k3}=>@Ar.a1 [] [k0,k1,k2,k3]
abbrev lC:=λ{k0 k1 k2 k3 k4 k5}=>@Ar.a3 [] [k0,k1,k2,k3,k4,k5]
abbrev IS:=λ{k0 k1 k2 k3 k4 k5 k6}=>@Ar.a5 [] [k0,k1,k2,k3,k4,k5,k6]
abbrev IT:=λ{k0 k1 k2 k3 k4}=>@Ar.a5 [] [k0,k1,k2,k3,k4]
abbrev uB:=λ{k0}=>@Ar.a2 [] [k0]
abbrev uA:=λ{k0 k1 k2 k3 k4 k5 k6}=>@Ar.a2 [] [k0,k1,k2,k3,k4,k5,k6]
abbrev MM:=λ{k0 k1 k2 k3 k4 k5 k6}=>@Ar.a3 [] [k0,k1,k2,k3,k4,k5,k6]
abbrev SD:=@Ar.a1 [] []
abbrev S6:=λ{k0 k1 k2 k3 k4 k5 k6 k7 k8 k9}=>@Ar.a6 [] [k0,k1,k2,k3,k4,k5,k6,k7,k8,k9]
abbrev TN:=λ{k0 k1 k2 k3 k4 k5 k6 k7 k8 k9 k10}=>@Ar.a7 [] [k0,k1,k2,k3,k4,k5,k6,k7,k8,k9,k10]
abbrev dK:=λ{c0 k0}=>@Ar.a2 [c0] [k0]
abbrev TR:=λ{k0 k1 k2 k3 k4}=>@Ar.a1 [] [k0,k1,k2,k3,k4]
abbrev TO:=λ{k0 k1 k2 k3 k4 k5 k6 k7 k8 k9}=>@Ar.a7 [] [k0,k1,k2,k3,k4,k5,k6,k7,k8,k9]
abbrev SE:=λ{c0 c1 c2}=>@Ar.a0 [c0,c1,c2] []
abbrev jR:=λ{c0 c1 c2 c3}=>@Ar.a2 [c0,c1,c2,c3] []
abbrev wY:=λ{c0 c1}=>@Ar.a2 [c0,c1] []
abbrev S8:=λ{k0 k1 k2 k3 k4 k5 k6 k7 k8}=>@Ar.a5 [] [k0,k1,k2,k3,k4,k5,k6,k7,k8]
abbrev PV:=λ{k0 k1 k2 k3 k4 k5 k6}=>@Ar.a4 [] [k0,k1,k2,k3,k4,k5,k6]
abbrev PW:=λ{k0 k1}=>@Ar.a3 [] [k0,k1]
abbrev S7:=λ{k0 k1 k2 k3 k4 k5 k6}=>@Ar.a6 [] [k0,k1,k2,k3,k4,k5,k6]
abbrev TP:=λ{k0 k1 k2 k3 k4 k5 k6 k7}=>@Ar.a7 [] [k0,k1,k2,k3,k4,k5,k6,k7]
abbrev TM:=λ{k0 k1 k2 k3 k4 k5 k6 k7}=>@Ar.a8 [] [k0,k1,k2,k3,k4,k5,k6,k7]
abbrev TQ:=λ{k0 k1 k2 k3 k4 k5 k6}=>@Ar.a7 [] [k0,k1,k2,k3,k4,k5,k6]
abbrev NG:=λ{c0 k0 k1}=>@Ar.a3 [c0] [k0,k1]
abbrev SA:=λ{c0 c1 k0}=>@Ar.a1 [c0,c1] [k0]
abbrev S9:=λ{c0 c1 k0}=>@Ar.a3 [c0,c1] [k0]
abbrev IU:=λ{c0 c1 k0}=>@Ar.a2 [c0,c1] [k0]
end Mine.Z
end
section
set_option tactic.hygienic true
set_option backward.match.sparseCases false
namespace MP
set_option genSizeOf false
set_option genInjectivity false
open PySem
structure EV where
 ks:List Expr
 s:Str
 k:Nat
 op:BoolOp
 g:List Comprehension×Scope
 b:Option Expr×Option Expr
 c:Const
abbrev vk (ks:List Expr):EV:=#[ks,"",0,.And,([],default),(none,none),.none]
abbrev v0:EV:=vk []
abbrev vw (x:Expr):EV:=Expr.casesOn (motive_1:=λ_=>EV) x
 (λop xs _=>#[xs,"",0,op,([],default),(none,none),.none])
 (λ_ _ _=>v0)
 (λl _ r _=>vk [l,r])
 (λ_ y _=>vk [y])
 (λ_ _ _ _=>v0)
 (λu y z _=>vk [u,y,z])
 (λ_ _ _=>v0)
 (λ_ _ _=>v0)
 (λy gs sc _=>#[[y],"",0,.And,(gs,sc),(none,none),.none])
 (λy gs sc _=>#[[y],"",0,.And,(gs,sc),(none,none),.none])
 (λy z gs sc _=>#[[y,z],"",0,.And,(gs,sc),(none,none),.none])
 (λ_ _ _ _=>v0)
 (λ_ _=>v0)
 (λ_ _=>v0)
 (λ_ _=>v0)
 (λl _ r _=>vk (l::r))
 (λf xs _ _=>vk (f::xs))
 (λ_ _ _ _=>v0)
 (λ_ _=>v0)
 (λc k _=>#[[],"",k,.And,([],default),(none,none),c])
 (λy _ _=>vk [y])
 (λy z _=>vk [y,z])
 (λ_ _=>v0)
 (λy _=>#[[],y,0,.And,([],default),(none,none),.none])
 (λxs _=>vk xs)
 (λxs k _=>#[xs,"",k,.And,([],default),(none,none),.none])
 (λl h st _=>#[st.toList,"",0,.And,([],default),(l,h),.none])
abbrev fB (k:Nat)(x:Expr):Bool:=Nat.beq x.ctorIdx k
abbrev kids (x:Expr):List Expr:=(vw x).ks
abbrev kid (i:Nat)(x:Expr):Expr:=(kids x).getD i default
abbrev mh (x:Expr):Str:=(vw x).s
abbrev exK (x:Expr):Nat:=(vw x).k
abbrev BD (x:Expr):Str:=match (vw x).c with
 |.str t=>t
 |_=>""
structure SV where
 es:List Expr
 b:List Stmt
 c:List Stmt
abbrev s0:SV:=#[[],[],[]]
abbrev sw (x:Stmt):SV:=Stmt.casesOn (motive_2:=λ_=>SV) x
 (λ_ _ _ _ _ _ _ _ _ _=>s0)
 (λ_ _ _ _ _ _ _ _ _ _=>s0)
 (λ_ _ _ b _ _ _ _ _ _ _=>#[[],b,[]])
 (λe _=>#[e.toList,[],[]])
 (λts _=>#[ts,[],[]])
 (λts e _=>#[e::ts,[],[]])
 (λ_ _ _ _ _ _ _=>s0)
 (λt _ e _=>#[[e,t],[],[]])
 (λ_ _ _ _ _=>s0)
 (λt e b _ _=>#[[e,t],b,[]])
 (λ_ _ _ _ _=>s0)
 (λe b _ _=>#[[e],b,[]])
 (λe b c _=>#[[e],b,c])
 (λ_ _ _=>s0)
 (λ_ _ _=>s0)
 (λ_ _ _=>s0)
 (λ_ _ _=>s0)
 (λ_ _ _ _ _=>s0)
 (λ_ _ _ _ _=>s0)
 (λ_ _ _=>s0)
 (λ_ _=>s0)
 (λ_ _ _ _=>s0)
 (λ_ _=>s0)
 (λ_ _=>s0)
 (λe _=>#[[e],[],[]])
 (λ_=>s0)
 (λ_=>s0)
 (λ_=>s0)
abbrev f9 (x:Stmt):List Expr:=(sw x).es
abbrev st0 (x:Stmt):Expr:=(f9 x).headD default
end MP
end
section
set_option backward.match.sparseCases false
open PySem PySem.W PyProof.Rows
set_option maxHeartbeats 0
namespace Mine
public abbrev pw:Program:=PySem.Challenge.pw_dm0056_12
public abbrev an:Option Value:=some (Value.ref 6)
public abbrev p0:Pos:=#[0,0,0,0]
public abbrev TB:String->Option Builtin:=PySem.W.Fast.tw14364793385576792824
def goT:=PySem.W.Fast.tw10295753902157049106
def QL:=PySem.W.Fast.tw10110043849684766642
public abbrev OK:Builtin:=PySem.W.Fast.tw4202317264376624991
public abbrev B0:List Frame:=[topFrame p0]
abbrev kZ (x:Stmt):Str:=MP.BD (MP.st0 ((MP.sw x).b.headD default))
abbrev TH (d:Str)(x:Stmt):Stmt:=.Expr (.Constant (.str d) (MP.exK (MP.st0 x)) (MP.st0 x).pos) x.pos
abbrev M4 (d:Str):Stmt->Stmt
 |.ClassDef n b k bo dl tp sc ts bd sa pos=>.ClassDef n b k (bo.modify 0 (TH d)) dl tp sc ts bd sa pos
 |s=>s
abbrev ND (i:Nat)(d:Str)(p:Program):Program:={p with main:={p.main with body:=p.main.body.modify i (M4 d)}}
abbrev Ds:{s:String // kZ (pw.main.body.getD 5 default)=Str.ofString s}:=#[_,rfl]
abbrev NC:{cs:List Char // String.ofList cs=Ds.1}:=#[_,rfl]
abbrev RO:Str:=#[(PySem.W.R.mapR Char.toNat NC.1).toArray]
def M5:kZ (pw.main.body.getD 5 default)=RO:=by
 rw[Ds.2,<- NC.2,Fast.ofString_ofList,PySem.W.R.mapR_eq];rfl
abbrev pwF:Program:=ND 5 RO pw
def OD:pwF=pw:=by
 have h:ND 5 (kZ (pw.main.body.getD 5 default)) pw=pw:=by kernel_rfl
 rw[M5]at h;show h
abbrev S0 (w:World)(os:OsState):Shared:=#[boot_heap w.params,#[[]],boot_drawn,boot_toks,os]
public abbrev bE:List Stmt:=behindTheImports pw
public abbrev bF:List Stmt:=behindTheImports pwF
def RZ:bF=bE:=cc behindTheImports OD
public abbrev LZ:Env:={scope:=pw.main.scope,locals:=mainNs,globals:=mainNs,cells:=[],code:=Value.ref 13,frame:=some 14}
public abbrev cE:Code:=Code.body bE LZ
abbrev X0 (w:World)(os:OsState):Option (Shared×Thread):=topGo TB pw w 11 an 12 (S0 w os) (topStub pw)
abbrev ob (w:World)(os:OsState)(i:Nat):Obj:=((X0 w os).elim (S0 w os) (·.1)).heap.objs.toList.getD i default
abbrev T4 (w:World)(os:OsState):BT:=
 .node (ob w os 0)
  (.node (ob w os 1) (.node (ob w os 3) (.node (ob w os 7) .nil .nil) (.node (ob w os 11) .nil .nil)) (.node (ob w os 5) (.node (ob w os 9) .nil .nil) (.node (ob w os 13) .nil .nil)))
  (.node (ob w os 2) (.node (ob w os 4) (.node (ob w os 8) .nil .nil) (.node (ob w os 12) .nil .nil)) (.node (ob w os 6) (.node (ob w os 10) .nil .nil) (.node (ob w os 14) .nil .nil)))
abbrev S4 (w:World)(os:OsState):SharedT:={tree:=T4 w os,n:=15,life:={},gens:=#[[]],drawn:={},toks:=187,os:=os}
def pre:(λw os=>topGo TB pw w 11 an 12 (S0 w os) (topStub pw))=λw os=>some ((S4 w os).abs,#[denote TB cE,cE,p0,B0]):=by kernel_rfl
def blk:(λw os=>segRun TB pw w 11 an 1 1 (S4 w os).abs (blockOf bE LZ cE p0 B0))=λw os=>some (Flow.next,(S4 w os).abs,cE,p0):=by kernel_rfl
def fin:(λw c q s=>topRun TB pw w 11 an 2 s #[doneF .next,c,q,B0])=λw c q s=>some s:=by kernel_rfl
end Mine
end
section
set_option backward.match.sparseCases false
open PySem PySem.W PyProof.Rows
set_option maxHeartbeats 0
namespace Mine
abbrev BA (as:Array Nat)(p:Nat->Bool)(start stop:Nat):Bool:=
 match Nat.beq start 0,Nat.beq stop as.size with
 |true,true=>PySem.W.R.anyR as.toList p
 |_,_=>Array.any as p start stop
def yW:@Array.any Nat=BA:=by
 funext as p start stop
 unfold BA;split
 ·rename_i Y Z;have U:=cN Y;have X:=cN Z;subst U X;rw[<- PySem.W.R.anyR_eq,Array.any_toList]
 ·rfl
abbrev th0:Thread:=piecesOf bF LZ cE p0 B0
abbrev XA (w:World)(os:OsState):Option (SharedT×Thread):=goT TB pw w 11 an 1 1966 (S4 w os) th0
abbrev sA (w:World)(os:OsState):SharedT:=(XA w os).elim (S4 w os) (·.1)
abbrev tA (w:World)(os:OsState):Thread:=(XA w os).elim th0 (·.2)
abbrev iO (t:Thread):Args:=match t.code with|.builtin _ a=>a|_=>{}
def atA:(λw os=>((XA w os).isSome,(tA w os).cur))=λw os=>(true,OK (iO (tA w os))):=by kernel_rfl
end Mine
end
section
set_option backward.match.sparseCases false
namespace MP
set_option genSizeOf false
open PySem
set_option genCtorIdx true in
inductive Key where
 |int (i:Int)
 |str (s:Str)
 deriving DecidableEq
variable {α:Type}{i:Addr}{f:Addr->Prop}{vs:List V}
inductive V where
 |none
 |bool (b:Bool)
 |int (i:Int)
 |str (s:Str)
 |L (a:Addr)
 |dct (a:Addr)
 |set (a:Addr)
 |obj (a:Addr)
 |T (xs:List V)
 |mt (xs:List V)
 |iN (a:Addr)
 |j9 (a:Addr)
 |clo (k:Nat) (cs:List V)
 |ro (ns:List Int)
 |bys (b:Array UInt8)
abbrev V.qN:V->Option Key
 |.int i=>some (.int i)
 |.str s=>some (.str s)
 |_=>Option.none
abbrev Key.v:Key->V
 |.int i=>.int i
 |.str s=>.str s
structure St where
 L:Addr->Option (List V)
 D:Addr->Option (List (Key×V))
 S:Addr->Option (List Key)
 I:Addr->Option (Addr×(Nat->Option V))
 Z:Addr->Option Obj
def Fr:=Nat->Option V
abbrev upd {α:Type}(f:Nat->Option α)(i:Nat)(v:α):Nat->Option α:=λj=>if j=i then some v else f j
def cj (f:Nat->Option α)(i:Nat)(v:α):upd f i v i=some v:=by simp[upd]
def fh {f:Nat->Option α}{i j:Nat}{v:α}(h:j≠i):upd f i v j=f j:=by simp[upd,h]
abbrev St.eh (σ:St)(a:Addr)(xs:List V):St:={σ with L:=upd σ.L a xs}
abbrev clr {α:Type}(f:Nat->Option α)(i:Nat):Nat->Option α:=λj=>if j=i then none else f j
def jM {f:Nat->Option α}{i j:Nat}{v:α}(h:clr f i j=some v):j≠i/\f j=some v:=by
 unfold clr at h;by_cases q:j=i
 ·rw[cf q]at h;cases h
 ·rw[aw q]at h;apply#[q,h]
abbrev St.ua (σ:St)(a:Addr)(es:List (Key×V)):St:={σ with D:=upd σ.D a es,Z:=clr σ.Z a}
abbrev St.uj (σ:St)(a:Addr)(ks:List Key):St:={σ with S:=upd σ.S a ks,Z:=clr σ.Z a}
abbrev St.ki (σ:St)(a:Addr)(d:Addr)(f:Nat->Option V):St:={σ with I:=upd σ.I a (d,f)}
abbrev St.dom (σ:St)(b:Addr):Prop:=(σ.L b).isSome\/(σ.D b).isSome\/(σ.S b).isSome\/(σ.I b).isSome\/(σ.Z b).isSome\/∃a f,σ.I a=some (b,f)
set_option genInjectivity false
set_option genCtorIdx true in
inductive Bop where
 |add|sub|mul|fdiv|mod|pow
set_option genCtorIdx true in
inductive Cop where
 |eq|ne|lt|le|gt|ge|is|isNot|isIn|notIn
set_option genCtorIdx true in
inductive BM where
 |append
 |pop
 |insert|extend
 |sort
 |index|count|get|setdefault|add
set_option genCtorIdx true in
inductive BF where
 |len
 |set
 |sorted
set_option genCtorIdx true in
inductive BX where
 |chr|bytes|tupS|lstS|sortedS
inductive Tg where
 |v (x:Nat)
 |T (xs:List Nat)
mutual
inductive Ex where
 |none
 |bool (b:Bool)
 |int (i:Int)
 |str (s:Str)
 |l (x:Nat)
 |b (op:Bop) (a b:Ex)
 |neg (a:Ex)
 |not (a:Ex)
 |and (a b:Ex)
 |or (a b:Ex)
 |c (op:Cop) (a b:Ex)
 |I (c a b:Ex)
 |L (es:Exs)
 |T (es:Exs)
 |dct0
 |call (f:Nat) (es:Exs)
 |meth (e:Ex) (m:Nat) (es:Exs)
 |attr (e:Ex) (a:Nat)
 |g (e:Ex)
 |h (e:Ex)
 |bm (k:BM) (e:Ex) (es:Exs)
 |bf (k:BF) (es:Exs)
 |w (f:Nat) (es:Exs)
 |sub (e i:Ex)
 |slc (e lo hi:Ex)
 |K (fv:List (Nat×Nat)) (it:It) (t:Tg) (cs:Exs) (more:Gens)
 |scomp (fv:List (Nat×Nat)) (it:It) (t:Tg) (cs:Exs) (more:Gens)
 |join (e:Ex)
 |bx (k:BX) (e:Ex)
 |lrng (a b:Ex)
 |n (es:Exs)
 |N (a b c:Ex)
 |M (e:Ex)
 |dead
inductive Exs where
 |nil
 |cons (e:Ex) (es:Exs)
inductive It where
 |rng1 (e:Ex)
 |rng2 (a b:Ex)
 |enum (e:Ex)
 |seq (e:Ex)
inductive Gens where
 |elt (e:Ex)
 |eltK (e:Ex)
 |cons (it:It) (t:Tg) (cs:Exs) (more:Gens)
end
inductive Tgt where
 |v (x:Nat)
 |attr (o:Ex) (a:Nat)
 |sub (o i:Ex)
 |T (xs:List Nat)
mutual
inductive Stm where
 |a (ts:List Tgt) (e:Ex)
 |aug (x:Nat) (op:Bop) (e:Ex)
 |expr (e:Ex)
 |C (c:Ex) (t e:pq)
 |loop (c:Ex) (b:pq)
 |each (t:Tg) (it:It) (b:pq)
 |ret (e:Ex)
 |brk
 |cont
 |pass
 |dead
inductive pq where
 |nil
 |cons (s:Stm) (ss:pq)
end
set_option genCtorIdx true in
inductive Fl where
 |next|brk|cont
 |ret (v:V)
abbrev l0 (σ:St):Nat->V->Option PyData
 |_,.none=>some .none
 |_,.bool b=>some (.bool b)
 |_,.int i=>some (.int i)
 |_,.str s=>if PyData.strOk s then some (.str s) else Option.none
 |n+1,.T xs=>(xs.mapM (l0 σ n)).map .tuple
 |n+1,.L a=>(σ.L a).bind λxs=>(xs.mapM (l0 σ n)).map .list
 |_,_=>Option.none
abbrev ba:Nat:=1000000
abbrev HG (a b:Int):Prop:=a.natAbs<2^60\/b.natAbs<2^60
abbrev vInt:V->Option Int
 |.int i=>some i|_=>none
abbrev vStr:V->Option Str
 |.str i=>some i|_=>none
abbrev mL:V->Option Addr
 |.L i=>some i|_=>none
abbrev JD:V->Option Addr
 |.dct i=>some i|_=>none
abbrev NS:V->Option Addr
 |.obj i=>some i|_=>none
abbrev vRo:V->Option (List Int)
 |.ro i=>some i|_=>none
abbrev NP:V->Option (List V)
 |.T i=>some i|_=>none
def jx {x:α}{p:Prop}(h:none=some x):p:=by cases h
def tw {v:V}{i:Int}(h:vInt v=some i):v=.int i:=by
 cases v<;>first|show cc _ (af h)|show jx h
def gH {v:V}{i:Str}(h:vStr v=some i):v=.str i:=by
 cases v<;>first|show cc _ (af h)|show jx h
def j3 {v:V}(h:mL v=some i):v=.L i:=by
 cases v<;>first|show cc _ (af h)|show jx h
def JC {v:V}(h:JD v=some i):v=.dct i:=by
 cases v<;>first|show cc _ (af h)|show jx h
def A5 {v:V}(h:NS v=some i):v=.obj i:=by
 cases v<;>first|show cc _ (af h)|show jx h
def NR {v:V}{i:List Int}(h:vRo v=some i):v=.ro i:=by
 cases v<;>first|show cc _ (af h)|show jx h
def JB {v:V}{i:List V}(h:NP v=some i):v=.T i:=by
 cases v<;>first|show cc _ (af h)|show jx h
abbrev yj (v:V)(f:Int->Prop):Prop:=match v with
 |.int i=>f i
 |_=>False
def rv {v:V}{f:Int->Prop}(h:yj v f):∃i,v=.int i/\f i:=by
 cases v<;>first|refine⟨_,rfl,h⟩|show False.elim h
abbrev onStr (v:V)(f:Str->Prop):Prop:=match v with
 |.str i=>f i
 |_=>False
def AO {v:V}{f:Str->Prop}(h:onStr v f):∃i,v=.str i/\f i:=by
 cases v<;>first|refine⟨_,rfl,h⟩|show False.elim h
abbrev yi (v:V)(f:Addr->Prop):Prop:=match v with
 |.L i=>f i
 |_=>False
def uc {v:V}(h:yi v f):∃i,v=.L i/\f i:=by
 cases v<;>first|refine⟨_,rfl,h⟩|show False.elim h
abbrev rO (v:V)(f:Addr->Prop):Prop:=match v with
 |.dct i=>f i
 |_=>False
def jB {v:V}(h:rO v f):∃i,v=.dct i/\f i:=by
 cases v<;>first|refine⟨_,rfl,h⟩|show False.elim h
abbrev onSet (v:V)(f:Addr->Prop):Prop:=match v with
 |.set i=>f i
 |_=>False
def AP {v:V}(h:onSet v f):∃i,v=.set i/\f i:=by
 cases v<;>first|refine⟨_,rfl,h⟩|show False.elim h
abbrev on0 (vs:List V)(p:Prop):Prop:=match vs with
 | []=>p
 |_::_=>False
abbrev on1 (vs:List V)(f:V->Prop):Prop:=match vs with
 | []=>False
 |v::r=>on0 r (f v)
abbrev on2 (vs:List V)(f:V->V->Prop):Prop:=match vs with
 | []=>False
 |v::r=>on1 r (f v)
abbrev on3 (vs:List V)(f:V->V->V->Prop):Prop:=match vs with
 | []=>False
 |v::r=>on2 r (f v)
def AQ {p:Prop}(h:on0 vs p):vs=[]/\p:=by
 cases vs
 ·apply#[rfl,h]
 ·show False.elim h
def ze {f:V->Prop}(h:on1 vs f):∃v,vs=[v]/\f v:=by
 cases vs with
 |nil=>show False.elim h
 |cons v r=>have#[rfl,h]:=AQ (p:=f v) h;apply#[v,rfl,h]
def o8 {f:V->V->Prop}(h:on2 vs f):∃v u,vs=[v,u]/\f v u:=by
 cases vs with
 |nil=>show False.elim h
 |cons v r=>have#[u,rfl,h]:=ze (f:=f v) h;apply#[v,u,rfl,h]
def QP {f:V->V->V->Prop}(h:on3 vs f):∃v u z,vs=[v,u,z]/\f v u z:=by
 cases vs with
 |nil=>show False.elim h
 |cons v r=>have#[u,z,rfl,h]:=o8 (f:=f v) h;apply#[v,u,z,rfl,h]
abbrev xC (op:Bop)(a b:Int)(σ:St)(Q:V->St->Prop):Prop:=match op with
 |.add=>Q (.int (a+b)) σ
 |.sub=>Q (.int (a-b)) σ
 |.mul=>HG a b/\Q (.int (a*b)) σ
 |.fdiv=>b≠0/\b.natAbs<2^60/\Q (.int (a.fdiv b)) σ
 |.mod=>b≠0/\Q (.int (a.fmod b)) σ
 |.pow=>0<=b/\b<=1000/\a.natAbs<2^64/\Q (.int (a^b.toNat)) σ
abbrev itemsOf (a:V)(σ:St):Option (List V):=match mL a with
 |some l=>σ.L l
 |none=>(vRo a).map λns=>ns.map V.int
abbrev MY (a:V)(b:Addr)(σ:St)(Q:V->St->Prop):Prop:=∃xs ys,itemsOf a σ=some xs/\σ.L b=some ys/\xs.length+ys.length<=ba/\∀c,σ.L c=Option.none->Q (.L c) (σ.eh c (xs++ys))
abbrev MV (a:Addr)(n:Int)(σ:St)(Q:V->St->Prop):Prop:=∃xs,σ.L a=some xs/\xs.length*n.toNat<=ba/\n.natAbs<2^60/\∀c,σ.L c=Option.none->Q (.L c) (σ.eh c ((List.replicate n.toNat xs).flatten))
abbrev lN (op:Bop)(a b:V)(σ:St)(Q:V->St->Prop):Prop:=match vInt a,vInt b with
 |some i,some j=>xC op i j σ Q
 |none,some n=>match op,mL a with
  |.mul,some l=>MV l n σ Q
  |_,_=>False
 |none,none=>match op,mL b with
  |.add,some m=>MY a m σ Q
  |_,_=>False
 |_,_=>False
def uR {op:Bop}{a b:V}{σ:St}{Q:V->St->Prop}(h:lN op a b σ Q):(∃i j,a=.int i/\b=.int j/\xC op i j σ Q)\/(op=.mul/\∃l n,a=.L l/\b=.int n/\MV l n σ Q)\/(op=.add/\∃m,b=.L m/\MY a m σ Q):=by
 unfold lN at h;cases O:vInt a with
 |some i =>
  cases U:vInt b with
  |some j=>rw[O,U]at h;show .inl #[i,j,tw O,tw U,h]
  |none=>rw[O,U]at h;show h.elim
 |none =>
  cases U:vInt b with
  |some j =>
   rw[O,U]at h;cases W:mL a with
   |none=>rw[W]at h;cases op<;>show h.elim
   |some l =>
    rw[W]at h;cases op with
    |mul=>show .inr (.inl #[rfl,l,j,j3 W,tw U,h])
    |_=>show h.elim
  |none =>
   rw[O,U]at h;cases W:mL b with
   |none=>rw[W]at h;cases op<;>show h.elim
   |some m =>
    rw[W]at h;cases op with
    |add=>show .inr (.inr #[rfl,m,j3 W,h])
    |_=>show h.elim
abbrev A3 (a b:V)(σ:St)(K:Bool->Prop):Prop:=∃d e,l0 σ 6 a=some d/\l0 σ 6 b=some e/\K (PyData.eqv d e)
abbrev uO (a b:V)(σ:St)(K:Bool->Prop):Prop:=match vInt a with
 |some i=>match vInt b with
  |some j=>K (i==j)
  |none=>A3 a b σ K
 |none=>match vStr a with
  |some x=>match vStr b with
   |some y=>K (x==y)
   |none=>A3 a b σ K
  |none=>A3 a b σ K
def nG {a b:V}{σ:St}{K:Bool->Prop}(h:uO a b σ K):(∃i j,a=.int i/\b=.int j/\K (i==j))\/(∃x y,a=.str x/\b=.str y/\K (x==y))\/A3 a b σ K:=by
 unfold uO at h;cases O:vInt a with
 |some i =>
  rw[O]at h;cases W:vInt b with
  |some j=>rw[W]at h;show .inl #[i,j,tw O,tw W,h]
  |none=>rw[W]at h;show .inr (.inr h)
 |none =>
  rw[O]at h;cases U:vStr a with
  |none=>rw[U]at h;show .inr (.inr h)
  |some x =>
   rw[U]at h;cases W:vStr b with
   |some y=>rw[W]at h;show .inr (.inl #[x,y,gH U,gH W,h])
   |none=>rw[W]at h;show .inr (.inr h)
abbrev isNone:V->Bool
 |.none=>true
 |_=>false
abbrev MX (b:Addr)(v:V)(σ:St)(K:Bool->Prop):Prop:=match v with
 |.L a=>(σ.L a).isSome/\(σ.L b).isSome/\K (a==b)
 |.none=>K false
 |_=>False
abbrev J4 (v w:V)(σ:St)(K:Bool->Prop):Prop:=match w with
 |.none=>K (isNone v)
 |.L b=>MX b v σ K
 |_=>False
abbrev J5 (a b:V)(σ:St)(K:Bool->Prop):Prop:=yj a λi=>yi b λl=>∃ns:List Int,σ.L l=some (ns.map V.int)/\K (ns.contains i)
abbrev T5 (op:Cop)(a b:Int)(K:Bool->Prop):Prop:=match op with
 |.lt=>K (decide (a<b))
 |.le=>K (decide (a<=b))
 |.gt=>K (decide (b<a))
 |.ge=>K (decide (b<=a))
 |_=>False
abbrev MW (op:Cop)(a b:V)(K:Bool->Prop):Prop:=yj a λi=>yj b λj=>T5 op i j K
abbrev nH:Cop->V->V->St->(Bool->Prop)->Prop
 |.eq,a,b,σ,K=>uO a b σ K
 |.ne,a,b,σ,K=>uO a b σ λr=>K (!r)
 |.is,a,b,σ,K=>J4 a b σ K
 |.isNot,a,b,σ,K=>J4 a b σ λr=>K (!r)
 |.isIn,a,b,σ,K=>J5 a b σ K
 |.notIn,a,b,σ,K=>J5 a b σ λr=>K (!r)
 |op,a,b,σ,K=>MW op a b K
abbrev vn:V->St->(Bool->Prop)->Prop
 |.none,_,K=>K false
 |.bool b,_,K=>K b
 |.int i,_,K=>K (i != 0)
 |.str s,_,K=>s.cps.size<=ba/\K (s.cps.size != 0)
 |.L a,σ,K=>∃xs,σ.L a=some xs/\K (!xs.isEmpty)
 |.ro ns,_,K=>ns.length<=ba/\K (!ns.isEmpty)
 |.clo _ _,_,K=>K true
 |_,_,_=>False
abbrev jj (n:Nat)(i:Int):Int:=if i<0 then i+n else i
abbrev kg (n:Nat)(i:Int):Nat:=min n (jj n i).toNat
abbrev wh (s:Str):List V:=s.cps.toList.map λc=>V.str #[#v[c]]
abbrev qU (b:Array UInt8):List V:=b.toList.map λc=>V.int c.toNat
abbrev ub (σ:St):V->Option (List V)
 |.L a=>σ.L a
 |.T xs=>some xs
 |.str s=>some (wh s)
 |.bys b=>some (qU b)
 |_=>Option.none
abbrev qZ (a b:V)(σ:St)(K:V->Prop):Prop:=match a with
 |.str s=>yj b λi=>∃c,s.cps.size<=ba/\0<=jj s.cps.size i/\s.cps[(jj s.cps.size i).toNat]?=some c/\K (.str #[#v[c]])
 |.bys x=>yj b λi=>∃c,x.size<=ba/\0<=i/\x[i.toNat]?=some c/\K (.int c.toNat)
 |.L a=>yj b λi=>∃xs v,σ.L a=some xs/\0<=jj xs.length i/\xs[(jj xs.length i).toNat]?=some v/\K v
 |.ro ns=>yj b λi=>∃n,ns.length<=ba/\0<=jj ns.length i/\ns[(jj ns.length i).toNat]?=some n/\K (.int n)
 |.T xs=>yj b λi=>∃v,i.natAbs<2^60/\0<=jj xs.length i/\xs[(jj xs.length i).toNat]?=some v/\K v
 |.dct a=>∃es kk v,σ.D a=some es/\b.qN=some kk/\es.lookup kk=some v/\K v
 |_=>False
abbrev jH (d:Nat):V->Option Int
 |.none=>some d
 |.int i=>some i
 |_=>Option.none
abbrev A1 (a lo hi:V)(σ:St)(Q:V->St->Prop):Prop:=match a with
 |.L a=>∃xs i j,σ.L a=some xs/\jH 0 lo=some i/\jH xs.length hi=some j/\i.natAbs<2^60/\j.natAbs<2^60 /\
   ∀c,σ.L c=Option.none->Q (.L c) (σ.eh c ((xs.take (kg xs.length j)).drop (kg xs.length i)))
 |.ro ns=>∃i j,ns.length<=ba/\jH 0 lo=some i/\jH ns.length hi=some j/\i.natAbs<2^60/\j.natAbs<2^60 /\
   ∀c,σ.L c=Option.none->Q (.L c) (σ.eh c (((ns.take (kg ns.length j)).drop (kg ns.length i)).map V.int))
 |_=>False
abbrev putD (es:List (Key×V))(k:Key)(v:V):List (Key×V):=
 if es.any (λe=>e.1==k) then es.map (λe=>if e.1=k then (k,v) else e) else es++[(k,v)]
abbrev lg:List Int->List Int->Bool
 |a::as,b::bs=>if a=b then lg as bs else decide (a<b)
 |_,_=>false
abbrev iT (t:List Int):V:=.T (t.map V.int)
abbrev tI (t:Int×Int×Int):V:=.T [.int t.1,.int t.2.1,.int t.2.2]
abbrev mtV (t:Int×Int×Int):V:=.mt [.int t.1,.int t.2.1,.int t.2.2]
abbrev leT (s t:Int×Int×Int):Bool:=!lg [t.1,t.2.1,t.2.2] [s.1,s.2.1,s.2.2]
abbrev Q9 (k:BM)(v:V)(vs:List V)(σ:St)(Q:V->St->Prop):Prop:=match k with
 |.append=>yi v λa=>on1 vs λx=>∃xs,σ.L a=some xs/\xs.length<ba/\Q .none (σ.eh a (xs++[x]))
 |.pop=>yi v λa=>on0 vs (∃xs x,σ.L a=some (xs++[x])/\Q x (σ.eh a xs))
 |.insert=>False
 |.extend=>yi v λa=>on1 vs λx=>yi x λb=>∃xs ys,a≠b/\σ.L a=some xs/\σ.L b=some ys/\xs.length+ys.length<=ba/\Q .none (σ.eh a (xs++ys))
 |.sort=>yi v λa=>on0 vs (∃ts:List (Int×Int×Int),σ.L a=some (ts.map mtV)/\Q .none (σ.eh a ((ts.mergeSort leT).map mtV)))
 |.index=>yi v λa=>on1 vs λx=>yj x λi=>∃ns:List Int,σ.L a=some (ns.map V.int)/\i∈ns/\Q (.int (ns.idxOf i)) σ
 |.count=>False
 |.get=>rO v λa=>on2 vs λk d=>∃es kk,σ.D a=some es/\k.qN=some kk/\Q ((es.lookup kk).getD d) σ
 |.setdefault=>rO v λa=>on2 vs λk d=>∃es kk,σ.D a=some es/\k.qN=some kk/\es.length<ba/\Q ((es.lookup kk).getD d) (σ.ua a (if (es.lookup kk).isSome then es else es++[(kk,d)]))
 |.add=>False
abbrev RW (k:BM)(v:V)(σ:St):Prop:=match k with
 |.get=>rO v λa=>(σ.D a).isSome=true
 |.setdefault=>rO v λa=>(σ.D a).isSome=true
 |.add=>onSet v λa=>(σ.S a).isSome=true
 |_=>yi v λa=>(σ.L a).isSome=true
abbrev EA (v:V)(σ:St)(Q:V->St->Prop):Prop:=match v with
 |.str s=>s.cps.size<=ba/\Q (.int s.cps.size) σ
 |.bys b=>b.size<=ba/\Q (.int b.size) σ
 |.L a=>∃xs,σ.L a=some xs/\Q (.int xs.length) σ
 |.T xs=>xs.length<=ba/\Q (.int xs.length) σ
 |.ro ns=>ns.length<=ba/\Q (.int ns.length) σ
 |.dct a=>∃es,σ.D a=some es/\Q (.int es.length) σ
 |_=>False
abbrev zo (ns:List Int):Array UInt8:=(ns.map λn=>n.toNat.toUInt8).toArray
abbrev C6 (k:BF)(vs:List V)(σ:St)(Q:V->St->Prop):Prop:=match k with
 |.len=>on1 vs λv=>EA v σ Q
 |.set=>on0 vs (∀c,σ.S c=Option.none->σ.D c=Option.none->Q (.set c) (σ.uj c []))
 |.sorted=>on1 vs λv=>yi v λa=>∃(ts:List (List Int)) (k:Nat),k≠0/\σ.L a=some (ts.map iT)/\(∀t∈ts,t.length=k)/\∀ts':List (List Int),ts'.Perm ts->ts'.Pairwise (λx y=>lg y x=false)->∀c,σ.L c=Option.none->Q (.L c) (σ.eh c (ts'.map iT))
abbrev JE:V->St->Option (List V)
 |.T vs,_=>some vs
 |.mt vs,_=>some vs
 |.L a,σ=>σ.L a
 |_,_=>Option.none
abbrev ji:List Nat->List V->Fr->Fr
 |x::xs,v::vs,ρ=>ji xs vs (upd ρ x v)
 |_,_,ρ=>ρ
abbrev su:Tg->V->St->Fr->(Fr->Prop)->Prop
 |.v x,v,_,ρ,K=>K (upd ρ x v)
 |.T xs,v,σ,ρ,K=>∃vs,JE v σ=some vs/\xs.length=vs.length/\K (ji xs vs ρ)
abbrev pn (a b:Int):List V:=(List.range (b-a).toNat).map λi:Nat=>V.int (a+i)
def Cal:=Nat->List V->St->(V->St->Prop)->Prop
abbrev PX (f:V)(vs:List V)(C:Cal)(nclo:Nat)(σ:St)(Q:V->St->Prop):Prop:=match f with
 |.iN a=>on2 vs λk d=>∃es kk,σ.D a=some es/\k.qN=some kk/\Q ((es.lookup kk).getD d) σ
 |.j9 a=>on1 vs λk=>∃ks kk,σ.S a=some ks/\k.qN=some kk/\Q (.bool (decide (kk∈ks))) σ
 |.clo k cs=>C (nclo+k) (vs++cs) σ Q
 |_=>False
abbrev eE (fv:List (Nat×Nat))(ρ:Fr):Fr:=λi=>(fv.lookup i).bind ρ
abbrev kT:List V->(St->Prop)->(V->Fr->List V->St->(Fr->List V->St->Prop)->Prop)->Fr->List V->St->(Fr->List V->St->Prop)->Prop
 | [],G,_,ρ,acc,σ,K=>G σ/\K ρ acc σ
 |v::vs,G,T,ρ,acc,σ,K=>G σ/\T v ρ acc σ λρ acc σ=>kT vs G T ρ acc σ K
abbrev MU (v:V)(σ:St)(K:List V->(St->Prop)->St->Prop):Prop:=match v with
 |.L a=>∃xs,σ.L a=some xs/\K xs (λτ=>τ.L a=some xs) σ
 |.T xs=>K xs (λ_=>True) σ
 |_=>False
abbrev x7 (ks:List Key)(v:V):List Key:=match v.qN with
 |some k=>if k∈ks then ks else ks++[k]
 |none=>ks
abbrev keysOf (acc:List V):List Key:=acc.foldl x7 []
abbrev C5 (k:BX)(v:V)(σ:St)(Q:V->St->Prop):Prop:=match k with
 |.chr=>yj v λi=>0<=i/\i<256/\Q (.str #[#v[i.toNat]]) σ
 |.bytes=>yi v λa=>∃ns:List Int,σ.L a=some (ns.map V.int)/\(∀n∈ns,0<=n/\n<256)/\Q (.bys (zo ns)) σ
 |.tupS=>onStr v λs=>s.cps.size<=ba/\Q (.T (wh s)) σ
 |.lstS=>onStr v λs=>s.cps.size<=ba/\∀c,σ.L c=Option.none->Q (.L c) (σ.eh c (wh s))
 |.sortedS=>onSet v λa=>∃ns:List Int,σ.S a=some (ns.map Key.int)/\∀ms:List Int,(∀x,x∈ms↔x∈ns)->ms.length=ns.length->∀c,σ.L c=Option.none->Q (.L c) (σ.eh c (ms.map V.int))
mutual
noncomputable def wpE (C:Cal):Ex->Fr->St->(V->St->Prop)->Prop
 |.none,_,σ,Q=>Q .none σ
 |.bool b,_,σ,Q=>Q (.bool b) σ
 |.int i,_,σ,Q=>Q (.int i) σ
 |.str s,_,σ,Q=>Q (.str s) σ
 |.l x,ρ,σ,Q=>∃v,ρ x=some v/\Q v σ
 |.b op a b,ρ,σ,Q=>wpE C a ρ σ λva σ=>wpE C b ρ σ λvb σ=>lN op va vb σ Q
 |.neg a,ρ,σ,Q=>wpE C a ρ σ λv σ=>∃i,v=.int i/\Q (.int (-i)) σ
 |.not a,ρ,σ,Q=>wpE C a ρ σ λv σ=>vn v σ λb=>Q (.bool !b) σ
 |.and a b,ρ,σ,Q=>wpE C a ρ σ λv σ=>vn v σ λt=>if t then wpE C b ρ σ Q else Q v σ
 |.or a b,ρ,σ,Q=>wpE C a ρ σ λv σ=>vn v σ λt=>if t then Q v σ else wpE C b ρ σ Q
 |.c op a b,ρ,σ,Q=>wpE C a ρ σ λva σ=>wpE C b ρ σ λvb σ=>nH op va vb σ λr=>Q (.bool r) σ
 |.I c a b,ρ,σ,Q=>wpT C c ρ σ λt σ=>if t then wpE C a ρ σ Q else wpE C b ρ σ Q
 |.L es,ρ,σ,Q=>vo C es ρ σ λvs σ=>vs.length<=ba/\∀c,σ.L c=Option.none->Q (.L c) (σ.eh c vs)
 |.T es,ρ,σ,Q=>vo C es ρ σ λvs σ=>vs.length<=ba/\Q (.T vs) σ
 |.dct0,_,σ,Q=>∀c,σ.D c=Option.none->Q (.dct c) (σ.ua c [])
 |.call f es,ρ,σ,Q=>vo C es ρ σ λvs σ=>C f vs σ Q
 |.meth e m es,ρ,σ,Q=>wpE C e ρ σ λv σ=>∃a,v=.obj a/\(σ.I a).isSome/\vo C es ρ σ λvs σ=>C m (v::vs) σ Q
 |.attr e x,ρ,σ,Q=>wpE C e ρ σ λv σ=>∃a d f u,v=.obj a/\σ.I a=some (d,f)/\f x=some u/\Q u σ
 |.g e,ρ,σ,Q=>wpE C e ρ σ λv σ=>∃a,v=.dct a/\(σ.D a).isSome/\Q (.iN a) σ
 |.h e,ρ,σ,Q=>wpE C e ρ σ λv σ=>∃a,v=.set a/\(σ.S a).isSome/\Q (.j9 a) σ
 |.bm k e es,ρ,σ,Q=>wpE C e ρ σ λv σ=>RW k v σ/\vo C es ρ σ λvs σ=>Q9 k v vs σ Q
 |.bf k es,ρ,σ,Q=>vo C es ρ σ λvs σ=>C6 k vs σ Q
 |.w f es,ρ,σ,Q=>∃v,ρ f=some v/\vo C es ρ σ λvs σ=>PX v vs C 1000 σ Q
 |.sub e i,ρ,σ,Q=>wpE C e ρ σ λv σ=>wpE C i ρ σ λj σ=>qZ v j σ λr=>Q r σ
 |.slc e lo hi,ρ,σ,Q=>wpE C e ρ σ λv σ=>wpE C lo ρ σ λa σ=>wpE C hi ρ σ λb σ=>A1 v a b σ Q
 |.K fv it t cs more,ρ,σ,Q=>sL C it ρ σ λvs G σ =>
   kT vs G (λv ρ' acc σ K=>su t v σ ρ' λρ'=>aE C cs ρ' σ λok σ=>if ok then kF C more ρ' acc σ K else K ρ' acc σ) (eE fv ρ) [] σ
    λ_ acc σ=>∀c,σ.L c=Option.none->Q (.L c) (σ.eh c acc)
 |.scomp fv it t cs more,ρ,σ,Q=>sL C it ρ σ λvs G σ =>
   kT vs G (λv ρ' acc σ K=>su t v σ ρ' λρ'=>aE C cs ρ' σ λok σ=>if ok then kF C more ρ' acc σ K else K ρ' acc σ) (eE fv ρ) [] σ
    λ_ acc σ=>∀c,σ.S c=Option.none->σ.D c=Option.none->Q (.set c) (σ.uj c (keysOf acc))
 |.bx k e,ρ,σ,Q=>wpE C e ρ σ λv σ=>C5 k v σ Q
 |.lrng a b,ρ,σ,Q=>wpE C a ρ σ λv σ=>wpE C b ρ σ λu σ=>yj v λm=>yj u λn=>m.natAbs<2^40/\n.natAbs<2^40/\n-m<=ba/\∀c,σ.L c=Option.none->Q (.L c) (σ.eh c (pn m n))
 |.join e,ρ,σ,Q=>wpE C e ρ σ λv σ=>yi v λa=>∃cs:List Nat,σ.L a=some (cs.map λc=>V.str #[#v[c]])/\Q (.str #[cs.toArray]) σ
 |.n es,ρ,σ,Q=>vo C es ρ σ λvs σ=>∀a d,σ.I a=Option.none->C 0 (.obj a::vs) (σ.ki a d λ_=>Option.none) λv σ=>v=.none/\Q (.obj a) σ
 |.N a b c,ρ,σ,Q=>wpE C a ρ σ λx σ=>wpE C b ρ σ λy σ=>wpE C c ρ σ λz σ=>Q (.mt [x,y,z]) σ
 |.M e,ρ,σ,Q=>wpE C e ρ σ λv σ=>∃a,∃ts:List (List V),v=.L a/\σ.L a=some (ts.map V.T)/\(∀t∈ts,t.length=3)/\∀c,σ.L c=Option.none->Q (.L c) (σ.eh c (ts.map V.mt))
 |.dead,_,_,_=>False
noncomputable def wpT (C:Cal):Ex->Fr->St->(Bool->St->Prop)->Prop
 |.not a,ρ,σ,Q=>wpT C a ρ σ λb σ=>Q (!b) σ
 |.and a b,ρ,σ,Q=>wpT C a ρ σ λt σ=>if t then wpT C b ρ σ Q else Q false σ
 |.or a b,ρ,σ,Q=>wpT C a ρ σ λt σ=>if t then Q true σ else wpT C b ρ σ Q
 |.c op a b,ρ,σ,Q=>wpE C a ρ σ λva σ=>wpE C b ρ σ λvb σ=>nH op va vb σ λr=>Q r σ
 |.I c a b,ρ,σ,Q=>wpT C c ρ σ λt σ=>if t then wpT C a ρ σ Q else wpT C b ρ σ Q
 |.l x,ρ,σ,Q=>∃v,ρ x=some v/\vn v σ λb=>Q b σ
 |.int i,_,σ,Q=>Q (i != 0) σ
 |.bool b,_,σ,Q=>Q b σ
 |.attr e x,ρ,σ,Q=>wpE C e ρ σ λv σ=>∃a d f u,v=.obj a/\σ.I a=some (d,f)/\f x=some u/\vn u σ λb=>Q b σ
 |.w f es,ρ,σ,Q=>∃v,ρ f=some v/\vo C es ρ σ λvs σ=>PX v vs C 1000 σ λr σ=>vn r σ λb=>Q b σ
 |.sub e i,ρ,σ,Q=>wpE C e ρ σ λv σ=>wpE C i ρ σ λj σ=>qZ v j σ λr=>vn r σ λb=>Q b σ
 |.b op a b,ρ,σ,Q=>wpE C a ρ σ λva σ=>wpE C b ρ σ λvb σ=>lN op va vb σ λr σ=>vn r σ λb=>Q b σ
 |_,_,_,_=>False
noncomputable def vo (C:Cal):Exs->Fr->St->(List V->St->Prop)->Prop
 |.nil,_,σ,Q=>Q [] σ
 |.cons e es,ρ,σ,Q=>wpE C e ρ σ λv σ=>vo C es ρ σ λvs σ=>Q (v::vs) σ
noncomputable def aE (C:Cal):Exs->Fr->St->(Bool->St->Prop)->Prop
 |.nil,_,σ,Q=>Q true σ
 |.cons e es,ρ,σ,Q=>wpT C e ρ σ λb σ=>if b then aE C es ρ σ Q else Q false σ
noncomputable def sL (C:Cal):It->Fr->St->(List V->(St->Prop)->St->Prop)->Prop
 |.rng1 e,ρ,σ,K=>wpE C e ρ σ λv σ=>∃n:Int,v=.int n/\n.natAbs<2^40/\K (pn 0 n) (λ_=>True) σ
 |.rng2 a b,ρ,σ,K=>wpE C a ρ σ λv σ=>wpE C b ρ σ λu σ=>∃m n:Int,v=.int m/\u=.int n/\m.natAbs<2^40/\n.natAbs<2^40/\K (pn m n) (λ_=>True) σ
 |.enum e,ρ,σ,K=>wpE C e ρ σ λv σ=>∃xs,ub σ v=some xs/\xs.length<=ba/\K (xs.zipIdx.map λp=>V.T [.int p.2,p.1]) (λτ=>ub τ v=some xs) σ
 |.seq e,ρ,σ,K=>wpE C e ρ σ λv σ=>MU v σ K
noncomputable def kF (C:Cal):Gens->Fr->List V->St->(Fr->List V->St->Prop)->Prop
 |.elt e,ρ,acc,σ,K=>wpE C e ρ σ λv σ=>acc.length<ba/\K ρ (acc++[v]) σ
 |.eltK e,ρ,acc,σ,K=>wpE C e ρ σ λv σ=>(∃i,v=.int i)/\acc.length<4000/\K ρ (acc++[v]) σ
 |.cons it t cs more,ρ,acc,σ,K=>sL C it ρ σ λvs G σ =>
   kT vs G (λv ρ acc σ K=>su t v σ ρ λρ=>aE C cs ρ σ λok σ=>if ok then kF C more ρ acc σ K else K ρ acc σ) ρ acc σ K
end
abbrev C1 (u k v:V)(σ:St)(K:St->Prop):Prop:=rO u λa=>∃es kk,σ.D a=some es/\k.qN=some kk/\es.length<ba/\K (σ.ua a (putD es kk v))
abbrev MT (C:Cal):Tgt->V->Fr->St->(Fr->St->Prop)->Prop
 |.v x,v,ρ,σ,K=>K (upd ρ x v) σ
 |.attr o a,v,ρ,σ,K=>wpE C o ρ σ λu σ=>∃x d f,u=.obj x/\σ.I x=some (d,f)/\K ρ (σ.ki x d (upd f a v))
 |.sub o i,v,ρ,σ,K=>wpE C o ρ σ λu σ=>wpE C i ρ σ λj σ=>C1 u j v σ λσ=>K ρ σ
 |.T xs,v,ρ,σ,K=>su (.T xs) v σ ρ λρ=>K ρ σ
abbrev kE (C:Cal):List Tgt->V->Fr->St->(Fr->St->Prop)->Prop
 | [],_,ρ,σ,K=>K ρ σ
 |t::ts,v,ρ,σ,K=>MT C t v ρ σ λρ σ=>kE C ts v ρ σ K
abbrev NO (a b:Addr)(σ:St)(Q:V->St->Prop):Prop:=∃xs ys,a≠b/\σ.L a=some xs/\σ.L b=some ys/\xs.length+ys.length<=ba/\Q (.L a) (σ.eh a (xs++ys))
abbrev MZ (op:Bop)(v u:V)(σ:St)(Q:V->St->Prop):Prop:=match v with
 |.L a=>yi u λb=>match op with
  |.add=>NO a b σ Q
  |_=>False
 |.int a=>yj u λb=>xC op a b σ Q
 |_=>False
abbrev AZ (T:(Fr->St->Prop)->Fr->St->Prop):Nat->Fr->St->Prop
 |0,_,_=>False
 |n+1,ρ,σ=>T (AZ T n) ρ σ
abbrev yS:List V->(St->Prop)->(V->Fr->St->(Fr->St->Prop)->Prop)->Fr->St->(Fr->St->Prop)->Prop
 | [],G,_,ρ,σ,K=>G σ/\K ρ σ
 |v::vs,G,T,ρ,σ,K=>G σ/\T v ρ σ λρ σ=>yS vs G T ρ σ K
abbrev nL (again:Fr->St->Prop)(K:Fl->Fr->St->Prop):Fl->Fr->St->Prop
 |.next,ρ,σ=>again ρ σ
 |fl,ρ,σ=>K fl ρ σ
abbrev yh (again:Fr->St->Prop)(K:Fl->Fr->St->Prop):Fl->Fr->St->Prop
 |.next,ρ,σ=>again ρ σ
 |.cont,ρ,σ=>again ρ σ
 |.brk,ρ,σ=>K .next ρ σ
 |.ret v,ρ,σ=>K (.ret v) ρ σ
mutual
noncomputable def wpS (C:Cal):Stm->Fr->St->(Fl->Fr->St->Prop)->Prop
 |.a ts e,ρ,σ,K=>wpE C e ρ σ λv σ=>kE C ts v ρ σ λρ σ=>K .next ρ σ
 |.aug x op e,ρ,σ,K=>∃v,ρ x=some v/\wpE C e ρ σ λu σ=>MZ op v u σ λr σ=>K .next (upd ρ x r) σ
 |.expr e,ρ,σ,K=>wpE C e ρ σ λv σ=>v=.none/\K .next ρ σ
 |.C c t e,ρ,σ,K=>wpT C c ρ σ λb σ=>if b then gx C t ρ σ K else gx C e ρ σ K
 |.loop c b,ρ,σ,K=>∃n,AZ (λagain ρ σ=>wpT C c ρ σ λt σ=>if t then gx C b ρ σ (yh again K) else K .next ρ σ) n ρ σ
 |.each t it b,ρ,σ,K=>sL C it ρ σ λvs G σ=>yS vs G (λv ρ σ k=>su t v σ ρ λρ=>gx C b ρ σ (yh k K)) ρ σ λρ σ=>K .next ρ σ
 |.ret e,ρ,σ,K=>wpE C e ρ σ λv σ=>K (.ret v) ρ σ
 |.brk,ρ,σ,K=>K .brk ρ σ
 |.cont,ρ,σ,K=>K .cont ρ σ
 |.pass,ρ,σ,K=>K .next ρ σ
 |.dead,_,_,_=>False
noncomputable def gx (C:Cal):pq->Fr->St->(Fl->Fr->St->Prop)->Prop
 |.nil,ρ,σ,K=>K .next ρ σ
 |.cons s ss,ρ,σ,K=>wpS C s ρ σ (nL (λρ σ=>gx C ss ρ σ K) K)
end
structure Fn where
 n:Nat
 dflt:List V
 body:pq
abbrev iO (f:Fn)(vs:List V):List V:=vs++f.dflt.drop (f.dflt.length-(f.n-vs.length))
abbrev frameOf (f:Fn)(vs:List V):Fr:=λi=>(iO f vs)[i]?
abbrev sU (Q:V->St->Prop):Fl->Fr->St->Prop
 |.ret v,_,σ=>Q v σ
 |.next,_,σ=>Q .none σ
 |_,_,_=>False
abbrev jm (P:Nat->Option Fn):Nat->Cal
 |0,_,_,_,_=>False
 |d+1,f,vs,σ,Q=>∃fn,P f=some fn/\vs.length<=fn.n/\fn.n<=vs.length+fn.dflt.length/\gx (jm P d) fn.body (frameOf fn vs) σ (sU Q)
end MP
end
section
namespace MP
open PySem PyProof.Rows
variable {led:Bool}{t:SetTable}{xs:Array Nat}{j:Nat}
abbrev jS (l:List Nat):Prop:=l.Pairwise (·<·)
structure Tbl (led:Bool)(t:SetTable):Prop where
 led:t.led=led
 nod:t.dummies=#v[]
 rise:jS t.place.toList
def aO (h:t.led=led)(n:Nat):Tbl led (t.standIn n):=⟨h,rfl,by
 show jS (Array.range n).toList;rw[Array.toList_range];show lJ⟩
def jS.at (h:jS xs.toList){i x y:Nat}(hi:xs[i]?=some x)(U:xs[j]?=some y)(W:i<j):x<y:=by
 have#[a,J]:=nj.mp hi;have#[b,O]:=nj.mp U;have:=wu.mp h i j (by simpa using a) (by simpa using b) W;simp only[Array.getElem_toList]at this;rw[J,O]at this;show this
def pO (h:jS xs.toList):∀(f lo hi:Nat),lo<=hi->hi<=xs.size->hi-lo<=f->(∀i x,xs[i]?=some x->i<lo->x<j)->(∀i x,xs[i]?=some x->hi<=i->j<=x) ->
  SetTable.below.go xs j f lo hi<=xs.size/\(∀i x,xs[i]?=some x->i<SetTable.below.go xs j f lo hi->x<j)/\∀i x,xs[i]?=some x->SetTable.below.go xs j f lo hi<=i->j<=x
 |0=>λlo hi h1 J h3 z I=>#[jf h1 J,z,λi x e q=>I i x e (jf (Nat.sub_eq_zero_iff_le.mp (Nat.le_zero.mp h3)) q)]
 |f+1=>λlo hi h1 J h3 z I=>by
  dsimp only[SetTable.below.go];by_cases c:lo<hi
  ·rw[cf c];have O:lo<=(lo+hi)/2:=by(show qt .A [[2,1,1,-1]] .G (.l .D .W) (.e (.a .a6 .D) .V) c (Ar.cU _ 2 (by decide)).1 (Ar.cU _ 2 (by decide)).2)
   have U:(lo+hi)/2<hi:=by(show gp .B [[2,1,1]] .L (.e (.a .aN .D) .aC) c (Ar.cU _ 2 (by decide)).2)
   have hm:(lo+hi)/2<xs.size:=iq U J;have eg:xs.getD ((lo+hi)/2) j=xs[(lo+hi)/2]:=by simp[Array.getD,hm]
   have es:xs[(lo+hi)/2]?=some xs[(lo+hi)/2]:=fw hm;rw[eg];by_cases d:xs[(lo+hi)/2]<j
   ·rw[cf d];apply pO h f _ hi U J (jP .A [[1,1,1,-1,1]] .bA .bK (.e .R .G) (.e (.a .A .a0) .G) h3 O (aa (fb .A .b .K .L O U)) (aa (az .T .a .B U))) (λi x e q=>?_) I;rcases jo (vl q) with q|rfl
    ·show Nat.lt_trans (h.at e es q) d
    ·rw[es]at e;cases e;show d
   ·rw[aw d];apply pO h f lo _ O (gw hm) (jP .A [[1,1,1,-1,1]] .bA (.l .D .F) (.e (.a .C .G) .F) (.e (.a .A .G) .D) h3 U (aa (fb .A .b .K .L O U)) (aa (az .A .a .A O))) z (λi x e q=>?_);rcases jo q with q|rfl
    ·show jf (wj d) (gw (h.at es e q))
    ·rw[es]at e;cases e;show wj d
  ·rw[aw c];apply#[jf h1 J,z,λi x e q=>I i x e (jf (wj c) q)]
def below_at (h:jS xs.toList)(j:Nat):SetTable.below xs j<=xs.size/\(∀i x,xs[i]?=some x->i<SetTable.below xs j->x<j)/\∀i x,xs[i]?=some x->SetTable.below xs j<=i->j<=x:=
 pO h xs.size 0 xs.size (bz _) (av _) (av _) (λi x e q=>absurd q (pe _)) λi x e q=>by
  have#[a,_]:=nj.mp e;show absurd a (ru.mpr q)
def zO (h:jS xs.toList){k x:Nat}(hk:xs[k]?=some x):SetTable.below xs (x+1)=k+1:=by
 have#[b1,b2,b3]:=below_at h (x+1);have#[O,_]:=nj.mp hk;rcases i5 (SetTable.below xs (x+1)) (k+1) with c|c|c
 ·show absurd (b3 k x hk (vl c)) (Nat.not_le.mpr (tf x))
 ·show c
 ·have W:k+1<xs.size:=iq c b1;have e:=fw W;have:=b2 (k+1) _ e c;have:=h.at hk e (tf k)
  (rename_i U;show qt .aB [[1,1,0,0],[0,0,1,1]] (.l .P .A) (.l .C .Y) .aV c U this)
def zN (h:jS xs.toList):SetTable.below xs 0=0:=by
 have#[b1,b2,b3]:=below_at h 0;rcases gF (SetTable.below xs 0) with c|c
 ·show c
 ·have e:=fw (iq c b1);show absurd (b2 0 _ e c) (pe _)
def qO (h:jS xs.toList)(hn:xs[SetTable.below xs j]?≠some j):jS (SetTable.insertAt xs (SetTable.below xs j) j).toList:=by
 have#[b1,b2,b3]:=below_at h j;rw[SetTable.toList_insertAt];have U:∀i (hi:i<xs.toList.length),xs[i]?=some xs.toList[i]:=λi hi=>by
  rw[Array.getElem_toList];show fw (by simpa using hi)
 unfold jS;rw[ou];apply#[List.Pairwise.sublist (List.take_sublist _ _) h,kc.mpr #[λy z=>?_,List.Pairwise.sublist (List.drop_sublist _ _) h],λx hx y z=>?_]
 ·have#[i,hi,rfl]:=er.mp z;rw[i8];have W:SetTable.below xs j+i<xs.toList.length:=by rw[gf]at hi;(show Ar.sub _ _ (λq1 I=>(gp .J .b .S .O hi I)) λq1 I=>(gp .J .c .S .aT hi I))
  rcases jo (b3 _ _ (U _ W) (oh _ _)) with c|c
  ·show c
  ·exfalso
   rcases gF i with rfl|hp
   ·show hn ((U _ W).trans (cc some c.symm))
   ·have h0:SetTable.below xs j<xs.toList.length:=by(show gz .B .a (.l .V .B) W)
    have:=h.at (U _ h0) (U _ W) (az (.l .A .L) .a .V hp);have:=b3 _ _ (U _ h0) (av _)
    (rename_i z1;show sd .ff [[0,-1,1,1]] .D .L .K c z1 this)
 ·have#[i,hi,rfl]:=er.mp hx;rw[et]at hi;have W:i<xs.toList.length:=by(show fb .B .b .G .H hi (Ar.jt _ _).2.1)
  rw[nh];have ag:=b2 _ _ (U i W) (fb .B .b .G .H hi (Ar.jt _ _).1);rcases bw.mp z with rfl|z
  ·show ag
  ·have zz:=er.mp z;clear z;have#[k,hk,rfl]:=zz;rw[i8];have ai:SetTable.below xs j+k<xs.toList.length:=by rw[gf]at hk;(show Ar.sub _ _ (λq1 I=>(gp .J .b .S .O hk I)) λq1 I=>(gp .J .c .S .aT hk I))
   show h.at (U i W) (U _ ai) (gp (.l .A .Q) .b (.l .A .D) .bL hi (Ar.jt _ _).1)
def has_none (j:Nat):SetTable.has #v[] j=false:=rfl
def vH (hd:t.dummies=#v[]){f:Nat->Int}{h:Int}(U:∀i,(f i==h)=false):∀(n:Nat) (p:SetTable.Probe) (m:SetTable.Met),p.dummy=none->SetTable.probe.go t f h n p=some m ->
  ∃j,m=.empty j none/\t.place[SetTable.below t.place j]?≠some j
 |0=>λp m W e=>by cases e
 |n+1=>λp m W e=>by
  dsimp only[SetTable.probe.go]at e;unfold SetTable.slot at e;rw[hd,has_none]at e;by_cases c:(t.place[SetTable.below t.place p.j]?==some p.j)=true
  ·simp only[c,zr,U]at e;apply vH hd U n _ m ?_ e;unfold SetTable.advance;split
   ·show W
   ·show W
  ·simp only[c]at e;simp at e;apply#[p.j,by rw[<- e,W],λq=>c (by rw[q];show jW _)]
def w9 (hd:t.dummies=#v[]){h:Int}{r:Nat×Bool}(e:t.freeSlot h=some r):r.2=false/\t.place[SetTable.below t.place r.1]?≠some r.1:=by
 unfold SetTable.freeSlot SetTable.probe at e;cases q:SetTable.probe.go t (λ_=>h+1) h (10*SetTable.turns t.mask) (t.probeStart h) with
 |none=>rw[q]at e;cases e
 |some m =>
  have#[j,rfl,W]:=vH hd (λi=>by simp;(show pP (.iu (.a .A .U) .A) .i)) _ _ _ rfl q;rw[q]at e;cases e;apply#[rfl,W]
def yF (H:Tbl led t)(es:Array (Int×Value))(h:Int)(x:Value):Tbl led (layNew t es h x).2.1/\(layNew t es h x).2.2.1=false:=by
 unfold layNew;cases e:t.freeSlot h with
 |none=>refine#[aO H.led _,rfl]
 |some r =>
  have#[U,W]:=w9 H.nod e;apply#[?_,U];show Tbl led ((t.put r.1).1.orStandIn _);unfold SetTable.orStandIn;split
  ·apply#[H.led,?_,qO H.rise W];show(if SetTable.has t.dummies r.1=true then _ else t.dummies)=#v[];rw[H.nod];rfl
  ·show aO H.led _
def zl {α:Type}(f:Nat->Option α):∀(l:List Nat),jS l->jS ((l.filterMap λj=>(f j).map (j,·)).map (·.1))
 | []=>λ_=>.nil
 |a::l=>λh=>by
  have#[B,U]:=kc.mp h;rw[eY];cases e:f a with
  |none=>show zl f l U
  |some b =>
   apply kc.mpr #[λy W=>?_,zl f l U];have O:=ee.mp W;clear W;have#[p,J,rfl]:=O;have#[j,I,e]:=List.mem_filterMap.mp J;cases q:f j with
   |none=>rw[q]at e;cases e
   |some c=>rw[q]at e;cases e;show B j I
def sV (H:Tbl led t)(es:Array (Int×Value))(n:Nat):Tbl led (relayAll t es n).2.1:=by
 unfold relayAll SetTable.relaid SetTable.laid;cases SetTable.layClean (SetTable.sizeAbove n-1) (es.map (·.1)) with
 |none=>show aO H.led _
 |some o =>
  show Tbl led (if _=true then _ else _:Array (Int×Value)×SetTable×Bool).2.1;split
  ·apply#[H.led,rfl,?_];show jS (List.toArray _).toList;show zl (λj=>o.getD j none) _ lJ
  ·show aO H.led _
end MP
end
section
namespace MP
set_option genSizeOf false
set_option genInjectivity false
open PySem
structure Stc where
 prog:Program
 w:World
 hb:Heap
 cM:Addr
 cS:Addr
 attrs:List Str
 gl:Str->Option Value
 cap:Str->Bool
 clo:Nat->List V->Addr->Prop
abbrev Frz (o:Obj):Prop:=
 (o.cls≠.type "list"/\∃xs n,o.data=.seq xs n)\/((o.cls=.type "builtin_function_or_method"\/o.cls=.type "method-wrapper")/\∃vs,o.data=.fields vs)\/∃fd,o.data=.func fd
mutual
noncomputable def VR (G:Stc)(h:Heap):V->Value->Prop
 |.none=>λw=>w=.none
 |.bool b=>λw=>w=.bool b
 |.int i=>λw=>∃t,w=.int i t
 |.str s=>λw=>∃t,w=.str s t
 |.L a=>λw=>w=.ref a
 |.dct a=>λw=>w=.ref a
 |.set a=>λw=>w=.ref a
 |.obj a=>λw=>w=.ref a
 |.T xs=>λw=>∃a ws n,w=.ref a/\IsT h a ws.toArray n/\VRs G h xs ws
 |.mt xs=>λw=>∃a ws n dd,w=.ref a/\h.get? a=some {cls:=.ref G.cM,dict:=dd,data:=.seq ws.toArray n,slots:=#v[]}/\VRs G h xs ws
 |.iN a=>λw=>∃q o,w=.ref q/\h.get? q=some o/\o.cls=.type "builtin_function_or_method"/\o.data=.fields #v[.builtin "dict.get",.ref a]
 |.j9 a=>λw=>∃q o,w=.ref q/\h.get? q=some o/\o.cls=.type "builtin_function_or_method"/\o.data=.fields #v[.builtin "set.__contains__",.ref a]
 |.clo k cs=>λw=>∃a o,w=.ref a/\G.clo k cs a/\G.hb.get? a=some o/\o.cls=.type "function"
 |.ro ns=>λw=>∃a ws n,w=.ref a/\IsL G.hb a ws.toArray n/\PyProof.Rows.IntsAre ws ns
 |.bys b=>λw=>∃t,w=.bytes b t
noncomputable def VRs (G:Stc)(h:Heap):List V->List Value->Prop
 | []=>λws=>ws=[]
 |v::vs=>λws=>∃w us,ws=w::us/\VR G h v w/\VRs G h vs us
end
section
variable {xs:List V}{ws:List Value}{n:Nat}{o:Obj}{v:V}{w:Value}{k:Key}{es:List (Key×V)}{ks:List Key}{X:List Addr}{b d:Addr}{f:Nat->Option V}
variable {G:Stc}{h:Heap}
def VR.none:VR G h .none .none:=rfl
def VR.bool (b:Bool):VR G h (.bool b) (.bool b):=rfl
def VR.int (i:Int)(t:Tok):VR G h (.int i) (.int i t):=#[t,rfl]
def VR.str (s:Str)(t:Tok):VR G h (.str s) (.str s t):=#[t,rfl]
def VR.L (a:Addr):VR G h (.L a) (.ref a):=rfl
def VR.dct (a:Addr):VR G h (.dct a) (.ref a):=rfl
def VR.set (a:Addr):VR G h (.set a) (.ref a):=rfl
def VR.obj (a:Addr):VR G h (.obj a) (.ref a):=rfl
def VR.T {a:Addr}(g:IsT h a ws.toArray n)(r:VRs G h xs ws):VR G h (.T xs) (.ref a):=#[a,ws,n,rfl,g,r]
def VR.mt {a:Addr}{dd:Option Addr}(g:h.get? a=some {cls:=.ref G.cM,dict:=dd,data:=.seq ws.toArray n,slots:=#v[]})(r:VRs G h xs ws):VR G h (.mt xs) (.ref a):=#[a,ws,n,dd,rfl,g,r]
def VR.iN {q a:Addr}(g:h.get? q=some o)(c:o.cls=.type "builtin_function_or_method")(d:o.data=.fields #v[.builtin "dict.get",.ref a]):VR G h (.iN a) (.ref q):=#[q,o,rfl,g,c,d]
def VR.j9 {q a:Addr}(g:h.get? q=some o)(c:o.cls=.type "builtin_function_or_method")(d:o.data=.fields #v[.builtin "set.__contains__",.ref a]):VR G h (.j9 a) (.ref q):=#[q,o,rfl,g,c,d]
def VR.ro {a:Addr}{ns:List Int}(g:IsL G.hb a ws.toArray n)(r:PyProof.Rows.IntsAre ws ns):VR G h (.ro ns) (.ref a):=#[a,ws,n,rfl,g,r]
def VRs.nil:VRs G h [] []:=rfl
def VRs.cons {vs:List V}(a:VR G h v w)(r:VRs G h vs ws):VRs G h (v::vs) (w::ws):=#[w,ws,rfl,a,r]
end
abbrev jn (h h':Heap):Prop:=∀b o,h.get? b=some o->Frz o->h'.get? b=some o
mutual
theorem VR.mono {G:Stc}{h h':Heap}(hk:jn h h'):{v:V}->{w:Value}->VR G h v w->VR G h' v w
 |.none=>λx=>x
 |.bool _=>λx=>x
 |.int _=>λx=>x
 |.str _=>λx=>x
 |.L _=>λx=>x
 |.dct _=>λx=>x
 |.set _=>λx=>x
 |.obj _=>λx=>x
 |.T _=>λW=>by have#[a,ws,n,e,g,r]:=W;apply#[a,ws,n,e,hk _ _ g (.inl #[show Value.type "tuple" ≠ .type "list" by decide,_,_,rfl]),VRs.mono hk r]
 |.mt _=>λW=>by have#[a,ws,n,dd,e,g,r]:=W;apply#[a,ws,n,dd,e,hk _ _ g (.inl #[λx=>(nomatch x),_,_,rfl]),VRs.mono hk r]
 |.iN _=>λW=>by have#[q,o,e,g,c,d]:=W;apply#[q,o,e,hk _ _ g (.inr (.inl #[.inl c,_,d])),c,d]
 |.j9 _=>λW=>by have#[q,o,e,g,c,d]:=W;apply#[q,o,e,hk _ _ g (.inr (.inl #[.inl c,_,d])),c,d]
 |.clo _ _=>λx=>x
 |.ro _=>λx=>x
 |.bys _=>λx=>x
theorem VRs.mono {G:Stc}{h h':Heap}(hk:jn h h'):{vs:List V}->{ws:List Value}->VRs G h vs ws->VRs G h' vs ws
 | []=>λx=>x
 |_::_=>λW=>by have#[w,us,e,a,r]:=W;apply#[w,us,e,VR.mono hk a,VRs.mono hk r]
end
def VR.inv {G:Stc}{h:Heap}(x:VR G h v w):VR G h v w:=x
section
variable {G:Stc}{h:Heap}
def VRs.length:{vs:List V}->{ws:List Value}->VRs G h vs ws->vs.length=ws.length
 | []=>λe=>e▸rfl
 |_::_=>λW=>by have#[_,_,e,_,r]:=W;show e▸cc (·+1) (VRs.length r)
def VRs.get {vs:List V}(x:VRs G h vs ws){i:Nat}(e:vs[i]?=some v):∃w,ws[i]?=some w/\VR G h v w:=by
 induction vs generalizing ws i with
 |nil=>cases e
 |cons u vs W =>
  have#[w,us,q,a,r]:=x;subst q;cases i with
  |zero=>refine#[w,rfl,af e▸a]
  |succ i=>show W r e
def VRs.append:{vs us:List V}->{ws xs:List Value}->VRs G h vs ws->VRs G h us xs->VRs G h (vs++us) (ws++xs)
 | []=>λe b=>e▸b
 |_::_=>λW b=>by have#[_,_,e,a,r]:=W;show e▸.cons a (VRs.append r b)
def VRs.take:{vs:List V}->{ws:List Value}->(n:Nat)->VRs G h vs ws->VRs G h (vs.take n) (ws.take n)
 | []=>λn e=>by have rfl:=e;rw[List.take_nil,List.take_nil];rfl
 |_::_=>λn x=>by
  cases n with
  |zero=>show .nil
  |succ n=>have#[_,_,rfl,a,r]:=x;show .cons a (VRs.take n r)
def VRs.drop:{vs:List V}->{ws:List Value}->(n:Nat)->VRs G h vs ws->VRs G h (vs.drop n) (ws.drop n)
 | []=>λn e=>by have rfl:=e;rw[List.drop_nil,List.drop_nil];rfl
 |_::_=>λn x=>by
  cases n with
  |zero=>show x
  |succ n=>have#[_,_,rfl,_,r]:=x;show VRs.drop n r
def VRs.reverse:{vs:List V}->{ws:List Value}->VRs G h vs ws->VRs G h vs.reverse ws.reverse
 | []=>λe=>by subst e;show .nil
 |_::_=>λW=>by have#[_,_,e,a,r]:=W;subst e;rw[i7,i7];show VRs.append (VRs.reverse r) %[a|0]
end
def pA {prog:Program}{w:World}{A:Around}{E:QqV}{s:Shared}{a:Int}{t:Tok}{b:Str}{u:Tok}{Q:Bool->Shared->Prop}(h:Q false s):wpAny (model prog w) A (eqBool (.int a t) (.str b u)) Q E s:=by
 unfold eqBool;show ab (PySem.EqMixed.eq_int_str (wo h))
def oZ {prog:Program}{w:World}{A:Around}{E:QqV}{s:Shared}{a:Str}{t:Tok}{b:Int}{u:Tok}{Q:Bool->Shared->Prop}(h:Q false s):wpAny (model prog w) A (eqBool (.str a t) (.int b u)) Q E s:=by
 unfold eqBool;show ab (PySem.EqMixed.eq_str_int (wo h))
abbrev w4:Key->Value->Bool
 |.int i,v=>Value.isInt i v
 |.str s,v=>Value.isStrOf s v
abbrev keyHash (w:World):Key->Int
 |.int i=>hashInt i
 |.str s=>hashStr w s
def vj {v:Value}(h:w4 k v=true):(∃i t,k=.int i/\v=.int i t)\/∃s t,k=.str s/\v=.str s t:=by
 cases k with
 |int i=>have#[t,rfl]:=Value.isInt_shape h;show .inl #[i,t,rfl,rfl]
 |str s=>have#[t,rfl]:=Value.isStrOf_shape h;show .inr #[s,t,rfl,rfl]
abbrev tF:Value->Key
 |.int i _=>.int i
 |.str s _=>.str s
 |_=>.int 0
def jE {v:Value}(h:w4 k v=true):tF v=k:=by
 rcases vj h with ⟨i,t,rfl,rfl⟩|⟨x,t,rfl,rfl⟩<;>rfl
def vZ (i j:Int):decide (Key.int i=Key.int j)=(i==j):=by
 by_cases e:i=j
 ·subst e;rw[jW,fc rfl]
 ·rw[ya e,dg λq=>e (Key.int.inj q)]
def vY (i j:Str):decide (Key.str i=Key.str j)=decide (i=j):=by
 by_cases e:i=j
 ·subst e;rw[fc rfl,fc rfl]
 ·rw[dg e,dg λq=>e (Key.str.inj q)]
abbrev keyKind (prog:Program)(w:World):KeyKind prog w Key where
 is:=w4
 hash:=keyHash w
 inj:=λv a b ha hb=>(jE ha).symm.trans (jE hb)
 byValue:=λk v h=>by rcases vj h with ⟨i,t,rfl,rfl⟩|⟨x,t,rfl,rfl⟩<;>rfl
 pyHash:=λhv h=>by
  rcases vj hv with ⟨i,t,rfl,rfl⟩|⟨x,t,rfl,rfl⟩
  ·show wpAny_pyHash_int h
  ·show wpAny_pyHash_str h
 eqBool:=λhu hv h=>by
  rcases vj hu with ⟨i,t,rfl,rfl⟩|⟨x,t,rfl,rfl⟩<;>rcases vj hv with ⟨j,u,rfl,rfl⟩|⟨y,u,rfl,rfl⟩
  ·show wpAny_eqBool_int (vZ i j▸h)
  ·show pA h
  ·show oZ h
  ·show wpAny_eqBool_str (vY x y▸h)
 «strs»:=λk x t v h=>by
  have rfl:=jE h;cases v<;>rfl
public abbrev Stc.kk (G:Stc):KeyKind G.prog G.w Key:=keyKind G.prog G.w
abbrev DRs (G:Stc)(h:Heap):List (Key×V)->List (Key×Value)->Prop
 | []=>λds=>ds=[]
 |e::es=>λds=>∃w us,ds=(e.1,w)::us/\VR G h e.2 w/\DRs G h es us
def DRs.nil {G:Stc}{h:Heap}:DRs G h [] []:=rfl
def DRs.cons {G:Stc}{h:Heap}{ds:List (Key×Value)}(a:VR G h v w)(r:DRs G h es ds):DRs G h ((k,v)::es) ((k,w)::ds):=#[w,ds,rfl,a,r]
def DRs.mono {G:Stc}{h h':Heap}(hk:jn h h'):{es:List (Key×V)}->{ds:List (Key×Value)}->DRs G h es ds->DRs G h' es ds
 | []=>λx=>x
 |_::_=>λW=>by have#[w,us,e,a,r]:=W;apply#[w,us,e,a.mono hk,r.mono hk]
abbrev OV (G:Stc)(h:Heap):Option V->Option Value->Prop
 |none,none=>True
 |some v,some w=>VR G h v w
 |_,_=>False
def OV.mono {G:Stc}{h h':Heap}(hk:jn h h'){v:Option V}{w:Option Value}(x:OV G h v w):OV G h' v w:=by
 cases v<;>cases w<;>first|show x|show VR.mono hk x
structure fY (G:Stc)(h:Heap)(a d:Addr)(f:Nat->Option V):Prop where
 here:∃o,h.get? a=some o/\o.cls=.ref G.cS/\o.dict=some d/\∀c,o.data≠.cls c
 ns:∃m,h.Ns1 d m/\(∀i x,G.attrs[i]?=some x->OV G h (f i) (m x))/\∀x,x∉G.attrs->m x=none
 ne:d≠a
public abbrev Stc.led (G:Stc):Bool:=!G.w.params.followText "set-order"
abbrev yl (G:Stc)(h:Heap)(a:Addr)(ks:List Key):Prop:=
 ∃o es ep t,h.get? a=some o/\o.ExactSet/\o.data=.set es ep t/\ElemsOf G.kk es.toList/\(∀k,decide (k∈ks)=true↔∃e∈es.toList,G.kk.is k e.2=true) /\
  es.size<scanBound/\t.fits es.size=true/\es.size=ks.length/\Tbl G.led t
def yl.of {G:Stc}{h:Heap}{a:Addr}(x:yl G h a ks):h.SetOf G.kk a (λk=>decide (k∈ks)) ks.length:=by
 have#[o,es,ep,t,h1,z,B,I,J,O,U,W,_]:=x;apply#[o,es,ep,t,h1,z,B,I,J,O,U,W]
structure Rel (G:Stc)(σ:St)(h:Heap):Prop where
 L:∀a xs,σ.L a=some xs->∃ws n,IsL h a ws.toArray n/\VRs G h xs ws
 D:∀a es,σ.D a=some es->∃ds,h.DictOf G.kk a ds/\DRs G h es ds
 S:∀a ks,σ.S a=some ks->yl G h a ks
 I:∀a d f,σ.I a=some (d,f)->fY G h a d f
 Z:∀a o,σ.Z a=some o->h.get? a=some o/\((σ.D a).isSome\/(σ.S a).isSome)
 Ll:∀a xs,σ.L a=some xs->xs.length<=ba
 Dl:∀a es,σ.D a=some es->es.length<=ba
 inj:∀a a' d f f',σ.I a=some (d,f)->σ.I a'=some (d,f')->a=a'
 apart:∀a d f,σ.I a=some (d,f)->σ.D d=none
 sep:∀a d f a' d' f',σ.I a=some (d,f)->σ.I a'=some (d',f')->a≠d'
 new:∀b,σ.dom b->G.hb.get? b=none
 base:∀b o,G.hb.get? b=some o->h.get? b=some o
structure Evo (X:List Addr)(σ:St)(h:Heap)(σ':St)(h':Heap):Prop where
 keep:∀b o,h.get? b=some o->¬σ.dom b->b∉X->h'.get? b=some o
 frz:jn h h'
 dom:∀b,σ'.dom b->σ.dom b\/h.get? b=none
 there:∀b o,h.get? b=some o->∃o',h'.get? b=some o'
def Evo.refl (X:List Addr)(σ:St)(h:Heap):Evo X σ h σ h:=#[λ_ _ e _ _=>e,λ_ _ e _=>e,λ_ d=>.inl d,λ_ o e=>#[o,e]]
def Evo.trans {σ σ₁ σ₂:St}{h h₁ W:Heap}(x:Evo X σ h σ₁ h₁)(y:Evo X σ₁ h₁ σ₂ W):Evo X σ h σ₂ W:=by
 apply#[λb o e nd O=>y.keep b o (x.keep b o e nd O) (λd=>?_) O,λb o e f=>y.frz b o (x.frz b o e f) f,λb d=>?_,λb o e=>?_]
 ·rcases x.dom b d with d|d
  ·show nd d
  ·rw[e]at d;cases d
 ·rcases y.dom b d with d|d
  ·show x.dom b d
  ·cases hq:h.get? b with
   |none=>show .inr rfl
   |some o=>have#[o',J]:=x.there b o hq;rw[J]at d;cases d
 ·have#[U,e₁]:=x.there b o e;show y.there b U e₁
def Evo.more {Y:List Addr}{σ σ':St}{h h':Heap}(x:Evo X σ h σ' h')(O:∀b∈X,b∈Y):Evo Y σ h σ' h':=
 #[λb o e nd W=>x.keep b o e nd λU=>W (O b U),x.frz,x.dom,x.there]
def Evo.less {Y:List Addr}{σ σ':St}{h h':Heap}(x:Evo X σ h σ' h')(O:∀b∈X,b∈Y\/h.get? b=none):Evo Y σ h σ' h':=
 #[λb o e nd W=>x.keep b o e nd λU=>(O b U).elim W λq=>(by rw[e]at q;cases q),x.frz,x.dom,x.there]
def cI {xs:Array Value}(c:o.cls=.type "list")(d:o.data=.seq xs n):¬Frz o:=by
 rintro (⟨h,_⟩|⟨_,_,h⟩|⟨_,h⟩)
 ·show h c
 ·rw[d]at h;cases h
 ·rw[d]at h;cases h
def sr {es:Array DictEntry}(d:o.data=.dict es n):¬Frz o:=by
 rintro (⟨_,_,_,h⟩|⟨_,_,h⟩|⟨_,h⟩)<;>(rw[d]at h;cases h)
def tZ {v:Option Value}(d:o.data=.cell v):¬Frz o:=by
 rintro (⟨_,_,_,h⟩|⟨_,_,h⟩|⟨_,h⟩)<;>(rw[d]at h;cases h)
def sh {h h':Heap}{a:Addr}(W:Heap.SameBut a h h')(hn:∀o,h.get? a=some o->¬Frz o):jn h h':=λb o e f=>by
 by_cases hb:b=a
 ·subst hb;show absurd f (hn o e)
 ·rw[W.2 b hb];show e
def cQ {h h':Heap}{a:Addr}{o':Obj}(W:Heap.SameBut a h h')(U:h'.get? a=some o'):∀b o,h.get? b=some o->∃o',h'.get? b=some o':=λb o e=>by
 by_cases hb:b=a
 ·subst hb;apply#[_,U]
 ·apply#[o,by rw[W.2 b hb];show e]
def none_at_size (h:Heap):h.get? h.objs.size=none:=by
 cases hq:h.get? h.objs.size with
 |none=>rfl
 |some o=>show absurd (jd hq) (jq _)
def vD {es:Array (Int×Value)}{t:SetTable}(d:o.data=.set es n t):¬Frz o:=by
 rintro (⟨_,_,_,h⟩|⟨_,_,h⟩|⟨_,h⟩)<;>(rw[d]at h;cases h)
def Rel.ud {G:Stc}{σ:St}{h:Heap}(R:Rel G σ h)(d:σ.dom b):∃o,h.get? b=some o:=by
 rcases d with d|d|d|d|d|⟨a,f,d⟩
 ·have#[xs,e]:=cv.mp d;have#[ws,n,W,_]:=R.L b xs e;apply#[_,W]
 ·have#[xs,e]:=cv.mp d;have#[ds,#[o,es,ep,W,_,dd,_],_]:=R.D b xs e;apply#[o,W]
 ·have#[xs,e]:=cv.mp d;have#[o,es,ep,t,W,_,dd,_]:=R.S b xs e;apply#[o,W]
 ·have#[#[d,f],e]:=cv.mp d;have#[o,W,_]:=(R.I b d f e).here;apply#[o,W]
 ·have#[o,e]:=cv.mp d;apply#[o,(R.Z b o e).1]
 ·have#[m,#[o',es,ep,U,dd,_],_]:=(R.I a b f d).ns;apply#[o',U]
def Rel.same {G:Stc}{σ:St}{h h':Heap}(R:Rel G σ h)(hk:∀b o,h.get? b=some o->σ.dom b->h'.get? b=some o)(O:jn h h')(hb:∀b o,G.hb.get? b=some o->h'.get? b=some o):Rel G σ h' where
 L:=λa xs e=>by
  have#[ws,n,W,v]:=R.L a xs e;apply#[ws,n,hk a _ W (.inl (by rw[e];rfl)),v.mono O]
 D:=λa xs e=>by
  have#[ds,#[o,es,ep,W,r],v]:=R.D a xs e;apply#[ds,#[o,es,ep,hk a o W (.inr (.inl (by rw[e];rfl))),r],v.mono O]
 S:=λa xs e=>by
  have#[o,es,ep,t,W,r]:=R.S a xs e;apply#[o,es,ep,t,hk a o W (.inr (.inr (.inl (by rw[e];rfl)))),r]
 I:=λa d f e=>by
  have#[#[o,W,r],#[m,#[o',es,ep,U,B],v,J],ne]:=R.I a d f e;have dd:σ.dom d:=.inr (.inr (.inr (.inr (.inr #[a,f,e]))));apply#[#[o,hk a o W (.inr (.inr (.inr (.inl (by rw[e];rfl))))),r],#[m,#[o',es,ep,hk d o' U dd,B],λi x z=>(v i x z).mono O,J],ne]
 Z:=λa o e=>#[hk a o (R.Z a o e).1 (.inr (.inr (.inr (.inr (.inl (by rw[e];rfl)))))),(R.Z a o e).2]
 Ll:=R.Ll
 Dl:=R.Dl
 inj:=R.inj
 apart:=R.apart
 sep:=R.sep
 new:=R.new
 base:=hb
def Rel.push {G:Stc}{σ:St}{h:Heap}(R:Rel G σ h)(o:Obj):Rel G σ (h.push o):=
 R.same (λ_ _ e _=>ak o e) (λ_ _ e _=>ak o e) λb o' e=>ak o (R.base b o' e)
def Evo.push (X:List Addr)(σ:St)(h:Heap)(o:Obj):Evo X σ h σ (h.push o):=
 #[λ_ _ e _ _=>ak o e,λ_ _ e _=>ak o e,λ_ d=>.inl d,λ_ o' e=>#[o',ak o e]]
def dI {σ:St}{a:Addr}(d:(σ.eh a xs).dom b):σ.dom b\/b=a:=by
 by_cases h:b=a
 ·show .inr h
 ·apply .inl ?_;rcases d with d|d
  ·show .inl (by simpa[St.eh,upd,h] using d)
  ·show .inr d
def pE {σ:St}{a:Addr}{xs:List (Key×V)}(d:(σ.ua a xs).dom b):σ.dom b\/b=a:=by
 by_cases h:b=a
 ·show .inr h
 ·apply .inl ?_;rcases d with d|d|d
  ·show .inl d
  ·show .inr (.inl (by simpa[St.ua,upd,h] using d))
  ·show .inr (.inr (by simpa[St.ua,clr,h] using d))
def fU {σ:St}{a:Addr}{xs:List Key}(d:(σ.uj a xs).dom b):σ.dom b\/b=a:=by
 by_cases h:b=a
 ·show .inr h
 ·apply .inl ?_;rcases d with d|d|d|d
  ·show .inl d
  ·show .inr (.inl d)
  ·show .inr (.inr (.inl (by simpa[St.uj,upd,h] using d)))
  ·show .inr (.inr (.inr (by simpa[St.uj,clr,h] using d)))
def jK {σ:St}{a:Addr}(hd:(σ.ki a d f).dom b):σ.dom b\/b=a\/b=d:=by
 by_cases h:b=a
 ·show .inr (.inl h)
 ·by_cases h':b=d
  ·show .inr (.inr h')
  ·apply .inl ?_;rcases hd with q|q|q|q|q|⟨c,g,q⟩
   ·show .inl q
   ·show .inr (.inl q)
   ·show .inr (.inr (.inl q))
   ·show .inr (.inr (.inr (.inl (by simpa[St.ki,upd,h] using q))))
   ·show .inr (.inr (.inr (.inr (.inl q))))
   ·apply .inr (.inr (.inr (.inr (.inr #[c,g,?_]))));by_cases hc:c=a
    ·simp only[St.ki,upd,hc,zr,gr,vf]at q;show absurd q.1.symm h'
    ·simpa[St.ki,upd,hc] using q
structure At (a:Addr)(h h':Heap):Prop where
 other:∀b o,b≠a->h.get? b=some o->h'.get? b=some o
 here:∃o,h'.get? a=some o
 AR:∀o,h.get? a=some o->¬Frz o
def At.frz {a:Addr}{h h':Heap}(x:At a h h'):jn h h':=λb o e f=>x.other b o (λhb=>x.AR o (hb▸e) f) e
def At.there {a:Addr}{h h':Heap}(x:At a h h'):∀b o,h.get? b=some o->∃o',h'.get? b=some o':=λb o e=>by
 by_cases hb:b=a
 ·subst hb;show x.here
 ·apply#[o,x.other b o hb e]
def At.push (h:Heap)(W:o.isFreed=false:=by rfl):At h.objs.size h (h.push o):=
 #[λ_ _ _ e=>ak o e,#[o,cq _ W],λo' e=>by rw[none_at_size]at e;cases e]
def At.y0 {a:Addr}{h h':Heap}{o':Obj}(U:Heap.SameBut a h h')(O:h.get? a=some o)(hn:¬Frz o)(W:h'.get? a=some o'):At a h h':=
 #[λb _ hb e=>by rw[U.2 b hb];show e,#[o',W],λ_ e=>by rw[O]at e;cases e;show hn]
section
variable {G:Stc}{σ:St}{h h':Heap}{a:Addr}
def Rel.atL (R:Rel G σ h)(x:At a h h')(hb:b≠a)(e:σ.L b=some xs):∃ws n,IsL h' b ws.toArray n/\VRs G h' xs ws:=by
 have#[ws,n,W,v]:=R.L b xs e;apply#[ws,n,x.other b _ hb W,v.mono x.frz]
def Rel.atD (R:Rel G σ h)(x:At a h h')(hb:b≠a)(e:σ.D b=some es):∃ds,h'.DictOf G.kk b ds/\DRs G h' es ds:=by
 have#[ds,#[o,W,ep,U,r],v]:=R.D b es e;apply#[ds,#[o,W,ep,x.other b o hb U,r],v.mono x.frz]
def Rel.atS (R:Rel G σ h)(x:At a h h')(hb:b≠a)(e:σ.S b=some ks):yl G h' b ks:=by
 have#[o,W,ep,t,U,r]:=R.S b ks e;apply#[o,W,ep,t,x.other b o hb U,r]
def Rel.atI (R:Rel G σ h)(x:At a h h')(hb:b≠a)(hd:d≠a)(e:σ.I b=some (d,f)):fY G h' b d f:=by
 have#[#[o,B,r],#[m,#[o',es,ep,W,O],v,U],ne]:=R.I b d f e;apply#[#[o,x.other b o hb B,r],#[m,#[o',es,ep,x.other d o' hd W,O],λi y J=>(v i y J).mono x.frz,U],ne]
def Rel.tX (R:Rel G σ h)(e:σ.L a=some xs):∃o,h.get? a=some o/\o.cls=.type "list":=by
 have#[ws,n,W,_]:=R.L a xs e;apply#[_,W,rfl]
def Rel.IA (R:Rel G σ h)(e:σ.D a=some es):∃o,h.get? a=some o/\o.cls=.type "dict":=by
 have#[ds,#[o,U,ep,W,c,_],_]:=R.D a es e;apply#[o,W,c.1]
def Rel.I9 (R:Rel G σ h)(e:σ.S a=some ks):∃o,h.get? a=some o/\o.cls=.type "set":=by
 have#[o,U,ep,t,W,c,_]:=R.S a ks e;apply#[o,W,c.1]
def Rel.PO (R:Rel G σ h)(e:σ.I a=some (d,f)):∃o,h.get? a=some o/\o.cls=.ref G.cS:=by
 have#[o,W,c,_]:=(R.I a d f e).here;apply#[o,W,c]
def Rel.I7 (R:Rel G σ h)(e:σ.I a=some (d,f)):∃o es ep,h.get? d=some o/\o.data=.dict es ep:=by
 have#[m,#[o',es,ep,W,dd,_],_]:=(R.I a d f e).ns;apply#[o',es,ep,W,dd]
def Rel.QV (R:Rel G σ h)(e:σ.L b=some xs)(O:σ.I a=some (d,f)):d≠b:=by
 rintro rfl;have#[o,es,ep,U,hd]:=R.I7 O;have#[ws,n,W,_]:=R.L _ _ e;have rfl:=af (U.symm.trans W);cases hd
def Rel.OO (R:Rel G σ h){xs:List Key}(e:σ.S b=some xs)(z:σ.I a=some (d,f)):d≠b:=by
 rintro rfl;have#[o,es,ep,O,hd]:=R.I7 z;have#[o',J,B,t',W,_,U,_]:=R.S _ _ e;rw[O]at W;cases W;rw[hd]at U;cases U
def Rel.GR (R:Rel G σ h)(e:h.get? b=none)(U:σ.I a=some (d,f)):d≠b:=by
 rintro rfl;have#[o,es,ep,W,hd]:=R.I7 U;rw[W]at e;cases e
def Rel.TL (R:Rel G σ h)(e:σ.Z b=some o):(∃o,h.get? b=some o/\o.cls=.type "dict")\/∃o,h.get? b=some o/\o.cls=.type "set":=
 (R.Z b o e).2.imp (λq=>by
  have#[x,q]:=cv.mp q;show R.IA q) λq=>by
  have#[x,q]:=cv.mp q;show R.I9 q
def Rel.atZ (R:Rel G σ h)(x:At a h h')(n:∀b o,σ.Z b=some o->b≠a):∀b o,σ.Z b=some o->h'.get? b=some o/\((σ.D b).isSome\/(σ.S b).isSome):=λb o e=>#[x.other b o (n b o e) (R.Z b o e).1,(R.Z b o e).2]
def Rel.putL (R:Rel G σ h)(x:At a h h')(hn:σ.L a=none->h.get? a=none)(hl:IsL h' a ws.toArray n)(z:VRs G h xs ws)(hz:xs.length<=ba):Rel G (σ.eh a xs) h':=by
 have old:∀b o,h.get? b=some o->∀c:Value,o.cls=c->c≠.type "list"->b≠a:=λb o e c hc O hb=>by
  subst hb;cases U:σ.L b with
  |none=>rw[hn U]at e;cases e
  |some ys=>have#[o',J,c']:=R.tX U;rw[e]at J;cases J;show O (hc.symm.trans c')
 have W:∀b c,(∃o,h.get? b=some o/\o.cls=c)->c≠.type "list"->b≠a:=λb c B O=>by have#[o,ho,hc]:=B;show old b o ho c hc O
 apply⟨λb ys e=>?_,λb es e=>R.atD x (W b _ (R.IA e) (by decide)) e,λb ks e=>R.atS x (W b _ (R.I9 e) (by decide)) e,
  λb d f e=>R.atI x (W b _ (R.PO e) (λq=>nomatch q)) (by
   cases U:σ.L a with
   |none=>show R.GR (hn U) e
   |some ys=>show R.QV U e) e,R.atZ x λb o e=>(R.TL e).elim (λq=>W b _ q (by decide)) λq=>W b _ q (by decide),λb ys e=>?_,R.Dl,R.inj,R.apart,R.sep,λb d=>?_,λb o e=>?_⟩
 ·by_cases hb:b=a
  ·subst hb;simp only[St.eh,cj,gr]at e;subst e;apply#[ws,n,hl,z.mono x.frz]
  ·simp only[St.eh,fh hb]at e;show R.atL x hb e
 ·by_cases hb:b=a
  ·subst hb;simp only[St.eh,cj,gr]at e;show e▸hz
  ·simp only[St.eh,fh hb]at e;show R.Ll b ys e
 ·rcases dI d with d|rfl
  ·show R.new b d
  ·cases U:G.hb.get? b with
   |none=>rfl
   |some o =>
    cases I:σ.L b with
    |none=>have:=R.base b o U;rw[hn I]at this;cases this
    |some ys=>have:=R.new b (.inl (by rw[I];rfl));rw[U]at this;cases this
 ·apply x.other b o (λhb=>?_) (R.base b o e);subst hb;cases I:σ.L b with
  |none=>have:=R.base b o e;rw[hn I]at this;cases this
  |some ys=>have:=R.new b (.inl (by rw[I];rfl));rw[e]at this;cases this
def Evo.putL (x:At a h h')(hn:σ.L a=none->h.get? a=none)(xs:List V):Evo X σ h (σ.eh a xs) h':=by
 apply#[λb o e nd _=>x.other b o (λhb=>?_) e,x.frz,λb d=>?_,x.there]
 ·subst hb;cases W:σ.L b with
  |none=>rw[hn W]at e;cases e
  |some ys=>show nd (.inl (by rw[W];rfl))
 ·rcases dI d with d|rfl
  ·show .inl d
  ·cases W:σ.L b with
   |none=>show .inr (hn W)
   |some ys=>show .inl (.inl (by rw[W];rfl))
def Rel.putD (R:Rel G σ h)(x:At a h h')(hn:σ.D a=none->h.get? a=none)(hi:∀b f,σ.I b≠some (a,f)){xs:List (Key×V)}{ds:List (Key×Value)}(hl:h'.DictOf G.kk a ds)(hv:DRs G h xs ds)(hz:xs.length<=ba):Rel G (σ.ua a xs) h':=by
 have old:∀b o,h.get? b=some o->∀c:Value,o.cls=c->c≠.type "dict"->b≠a:=λb o e c hc U hb=>by
  subst hb;cases O:σ.D b with
  |none=>rw[hn O]at e;cases e
  |some ys=>have#[o',J,c']:=R.IA O;rw[e]at J;cases J;show U (hc.symm.trans c')
 have W:∀b c,(∃o,h.get? b=some o/\o.cls=c)->c≠.type "dict"->b≠a:=λb c z U=>by have#[o,ho,hc]:=z;show old b o ho c hc U
 apply⟨λb es e=>R.atL x (W b _ (R.tX e) (by decide)) e,λb ys e=>?_,λb ks e=>R.atS x (W b _ (R.I9 e) (by decide)) e,
  λb d f e=>R.atI x (W b _ (R.PO e) (λq=>nomatch q)) (λhd=>hi b f (hd▸e)) e,λb o e=>(by
   have#[hb,e]:=jM e;have#[q,r]:=R.Z b o e;apply#[x.other b o hb q,?_];show(upd σ.D a xs b).isSome=true\/_;rw[fh hb];show r),R.Ll,λb ys e=>?_,R.inj,λb d f e=>?_,R.sep,λb d=>?_,λb o e=>?_⟩
 ·by_cases hb:b=a
  ·clear W old;subst hb;simp only[St.ua,cj,gr]at e;subst e;apply#[ds,hl,hv.mono x.frz]
  ·simp only[St.ua,fh hb]at e;show R.atD x hb e
 ·by_cases hb:b=a
  ·subst hb;simp only[St.ua,cj,gr]at e;show e▸hz
  ·simp only[St.ua,fh hb]at e;show R.Dl b ys e
 ·have hd:d≠a:=λhd=>hi b f (hd▸e);simp only[St.ua,fh hd];show R.apart b d f e
 ·rcases pE d with d|rfl
  ·show R.new b d
  ·cases O:G.hb.get? b with
   |none=>rfl
   |some o =>
    cases B:σ.D b with
    |none=>have:=R.base b o O;rw[hn B]at this;cases this
    |some ys=>have:=R.new b (.inr (.inl (by rw[B];rfl)));rw[O]at this;cases this
 ·apply x.other b o (λhb=>?_) (R.base b o e);subst hb;cases B:σ.D b with
  |none=>have:=R.base b o e;rw[hn B]at this;cases this
  |some ys=>have:=R.new b (.inr (.inl (by rw[B];rfl)));rw[e]at this;cases this
def Evo.putD (x:At a h h')(hn:σ.D a=none->h.get? a=none)(xs:List (Key×V)):Evo X σ h (σ.ua a xs) h':=by
 apply#[λb o e nd _=>x.other b o (λhb=>?_) e,x.frz,λb d=>?_,x.there]
 ·subst hb;cases W:σ.D b with
  |none=>rw[hn W]at e;cases e
  |some ys=>show nd (.inr (.inl (by rw[W];rfl)))
 ·rcases pE d with d|rfl
  ·show .inl d
  ·cases W:σ.D b with
   |none=>show .inr (hn W)
   |some ys=>show .inl (.inr (.inl (by rw[W];rfl)))
def Rel.OE (R:Rel G σ h)(x:At a h h')(hn:σ.S a=none->h.get? a=none){xs:List Key}(hl:yl G h' a xs):Rel G (σ.uj a xs) h':=by
 have old:∀b o,h.get? b=some o->∀c:Value,o.cls=c->c≠.type "set"->b≠a:=λb o e c hc O hb=>by
  subst hb;cases U:σ.S b with
  |none=>rw[hn U]at e;cases e
  |some ys=>have#[o',J,c']:=R.I9 U;rw[e]at J;cases J;show O (hc.symm.trans c')
 have W:∀b c,(∃o,h.get? b=some o/\o.cls=c)->c≠.type "set"->b≠a:=λb c B O=>by have#[o,z,hc]:=B;show old b o z c hc O
 apply⟨λb es e=>R.atL x (W b _ (R.tX e) (by decide)) e,λb ks e=>R.atD x (W b _ (R.IA e) (by decide)) e,λb ys e=>?_,
  λb d f e=>R.atI x (W b _ (R.PO e) (λq=>nomatch q)) (by
   cases U:σ.S a with
   |none=>show R.GR (hn U) e
   |some ys=>show R.OO U e) e,λb o e=>(by
   have#[hb,e]:=jM e;have#[q,r]:=R.Z b o e;apply#[x.other b o hb q,?_];show _\/(upd σ.S a xs b).isSome=true;rw[fh hb];show r),R.Ll,R.Dl,R.inj,R.apart,R.sep,λb d=>?_,λb o e=>?_⟩
 ·by_cases hb:b=a
  ·clear W old;subst hb;simp only[St.uj,cj,gr]at e;subst e;show hl
  ·simp only[St.uj,fh hb]at e;show R.atS x hb e
 ·rcases fU d with d|rfl
  ·show R.new b d
  ·cases U:G.hb.get? b with
   |none=>rfl
   |some o =>
    cases I:σ.S b with
    |none=>have:=R.base b o U;rw[hn I]at this;cases this
    |some ys=>have:=R.new b (.inr (.inr (.inl (by rw[I];rfl))));rw[U]at this;cases this
 ·apply x.other b o (λhb=>?_) (R.base b o e);subst hb;cases I:σ.S b with
  |none=>have:=R.base b o e;rw[hn I]at this;cases this
  |some ys=>have:=R.new b (.inr (.inr (.inl (by rw[I];rfl))));rw[e]at this;cases this
def Evo.OE (x:At a h h')(hn:σ.S a=none->h.get? a=none)(xs:List Key):Evo X σ h (σ.uj a xs) h':=by
 apply#[λb o e nd _=>x.other b o (λhb=>?_) e,x.frz,λb d=>?_,x.there]
 ·subst hb;cases W:σ.S b with
  |none=>rw[hn W]at e;cases e
  |some ys=>show nd (.inr (.inr (.inl (by rw[W];rfl))))
 ·rcases fU d with d|rfl
  ·show .inl d
  ·cases W:σ.S b with
   |none=>show .inr (hn W)
   |some ys=>show .inl (.inr (.inr (.inl (by rw[W];rfl))))
def Rel.OF (R:Rel G σ h){f':Nat->Option V}(e:σ.I a=some (d,f))(x:At d h h')(hl:fY G h' a d f'):Rel G (σ.ki a d f') h':=by
 have aj:d≠a:=hl.ne;have U:∀c d' g,(σ.ki a d f').I c=some (d',g)->∃B,σ.I c=some (d',B):=λc d' g q=>by
  by_cases hc:c=a
  ·subst hc;simp only[St.ki,cj,gr,vf]at q;apply#[f,q.1▸e]
  ·apply#[g,by simpa[St.ki,upd,hc] using q]
 apply⟨λb es W=>R.atL x (R.QV W e).symm W,λb ks W=>R.atD x (λhb=>?_) W,λb ys W=>R.atS x (R.OO W e).symm W,λb d' g W=>?_,R.atZ x λb o W hb=>((R.Z b o W).2.elim (λq=>(by subst hb;rw[R.apart a b f e]at q;cases q)) λq=>(by
  have#[ks,q]:=cv.mp q;show R.OO q e hb.symm)),R.Ll,R.Dl,λb b' d' g g' e1 e2=>?_,λb d' g W=>?_,λb d' g b' ai g' e1 e2=>?_,λb hd=>?_,λb o W=>?_⟩
 ·subst hb;have z:σ.D b=some ks:=W;rw[R.apart a b f e]at z;cases z
 ·by_cases hb:b=a
  ·subst hb;simp only[St.ki,cj,gr,vf]at W;have#[rfl,rfl]:=W;show hl
  ·simp only[St.ki,fh hb]at W;show R.atI x (R.sep _ _ _ _ _ _ W e) (λhd=>hb (R.inj b a d g f (hd▸W) e)) W
 ·have#[J,q1]:=U b d' g e1;have#[O,q2]:=U b' d' g' e2;show R.inj b b' d' J O q1 q2
 ·by_cases hb:b=a
  ·clear hl;subst hb;simp only[St.ki,cj,gr,vf]at W;show W.1▸R.apart b d f e
  ·show R.apart b d' g (by simpa[St.ki,upd,hb] using W)
 ·have#[J,q1]:=U b d' g e1;have#[O,q2]:=U b' ai g' e2;show R.sep _ _ _ _ _ _ q1 q2
 ·have ha:σ.dom a:=.inr (.inr (.inr (.inl (by rw[e];rfl))));have ag:σ.dom d:=.inr (.inr (.inr (.inr (.inr #[a,f,e]))));rcases jK hd with q|rfl|rfl
  ·show R.new b q
  ·show R.new _ ha
  ·show R.new _ ag
 ·apply x.other b o (λhb=>?_) (R.base b o W);clear U;subst hb;have:=R.new b (.inr (.inr (.inr (.inr (.inr #[a,f,e])))));rw[W]at this;cases this
def Evo.OF (W:Nat->Option V)(e:σ.I a=some (d,f))(x:At d h h'):Evo X σ h (σ.ki a d W) h':=by
 apply#[λb o U nd _=>x.other b o (λhb=>nd (hb▸.inr (.inr (.inr (.inr (.inr #[a,f,e])))))) U,x.frz,λb hd=>.inl ?_,x.there];rcases jK hd with q|rfl|rfl
 ·show q
 ·show .inr (.inr (.inr (.inl (by rw[e];rfl))))
 ·show .inr (.inr (.inr (.inr (.inr #[a,f,e]))))
def Rel.OL (R:Rel G σ h)(ha:h.get? a=none)(hd:h.get? d=none)(ag:d≠a)(hk:∀b o,h.get? b=some o->h'.get? b=some o)(hl:fY G h' a d λ_=>none):Rel G (σ.ki a d λ_=>none) h':=by
 have J:=R.same (λb o e _=>hk b o e) (λb o e _=>hk b o e) λb o e=>hk b o (R.base b o e);have W:∀b,h.get? b=none->¬σ.dom b:=λb hb q=>by have#[o,ho]:=R.ud q;rw[hb]at ho;cases ho
 have z:∀b g,σ.I b≠some (d,g):=λb g q=>W d hd (.inr (.inr (.inr (.inr (.inr #[b,g,q])))));have aj:σ.I a=none:=by
  cases hq:σ.I a with
  |none=>rfl
  |some p=>show absurd (.inr (.inr (.inr (.inl (by rw[hq];rfl))))) (W a ha)
 have base:∀c d' g,(σ.ki a d λ_=>none).I c=some (d',g)->(c=a/\d'=d)\/(c≠a/\σ.I c=some (d',g)):=λc d' g q=>by
  by_cases hc:c=a
  ·subst hc;simp only[St.ki,cj,gr,vf]at q;show .inl #[rfl,q.1.symm]
  ·show .inr #[hc,by simpa[St.ki,upd,hc] using q]
 apply#[J.L,J.D,J.S,λb d' g e'=>?_,J.Z,R.Ll,R.Dl,λb b' d' g g' e1 e2=>?_,λb d' g e'=>?_,λb d' g b' ai g' e1 e2=>?_,λb q=>?_,J.base]
 ·by_cases hb:b=a
  ·subst hb;simp only[St.ki,cj,gr,vf]at e';have#[rfl,rfl]:=e';show hl
  ·show J.I b d' g (by simpa[St.ki,upd,hb] using e')
 ·rcases base b d' g e1 with ⟨rfl,rfl⟩|⟨_,O⟩<;>rcases base b' d' g' e2 with ⟨h1,h2⟩|⟨_,B⟩
  ·show h1.symm
  ·show absurd B (z _ _)
  ·show absurd (h2▸O) (z _ _)
  ·show R.inj b b' d' g g' O B
 ·rcases base b d' g e' with ⟨rfl,rfl⟩|⟨_,O⟩
  ·show σ.D d'=none;cases hq:σ.D d' with
   |none=>rfl
   |some p=>show absurd (.inr (.inl (by rw[hq];rfl))) (W d' hd)
  ·show R.apart b d' g O
 ·have U:∀c d' g,σ.I c=some (d',g)->σ.dom c/\σ.dom d':=λc d' g q=>#[.inr (.inr (.inr (.inl (by rw[q];rfl)))),.inr (.inr (.inr (.inr (.inr #[c,g,q]))))];rcases base b d' g e1 with ⟨rfl,rfl⟩|⟨_,O⟩<;>rcases base b' ai g' e2 with ⟨h1,h2⟩|⟨_,B⟩
  ·rw[h2];show ag.symm
  ·rintro rfl;show W _ ha (U _ _ _ B).2
  ·rw[h2];rintro rfl;show W _ hd (U _ _ _ O).1
  ·show R.sep _ _ _ _ _ _ O B
 ·have fresh:∀c,h.get? c=none->G.hb.get? c=none:=λc hc=>by
   cases hq:G.hb.get? c with
   |none=>rfl
   |some o=>rw[R.base c o hq]at hc;cases hc
  rcases jK q with q|rfl|rfl
  ·show R.new b q
  ·show fresh _ ha
  ·show fresh _ hd
def Evo.OL (f:Nat->Option V)(W:h.get? a=none)(hd:h.get? d=none)(hk:∀b o,h.get? b=some o->h'.get? b=some o):Evo X σ h (σ.ki a d f) h':=by
 apply#[λb o e _ _=>hk b o e,λb o e _=>hk b o e,λb q=>?_,λb o e=>#[o,hk b o e]];rcases jK q with q|rfl|rfl
 ·show .inl q
 ·show .inr W
 ·show .inr hd
end
end MP
end
section
namespace MP
open PySem PyProof.Rows
variable {env:Env}{ρ:Fr}{h:Heap}{Q:V->St->Prop}{w:Value}{b:Bool}
structure AOk (A:Around)(d:Nat):Prop where
 handled:A.handled=none
 depth:A.depth+3*d+20<recursionLimit
 units:A.units+30*d+300<cLine
structure dQ (env:Env):Prop where
 kind:env.scope.kind=.function
 nd:(env.scope.names.map (·.1)).Nodup
 globals:env.globals=mainGlobals
 builtins:env.builtins=builtinsNs
structure FR (G:Stc)(σ:St)(env:Env)(ρ:Fr)(h:Heap):Prop where
 ns:∃m,h.Ns env.locals m/\∀i x,env.scope.names[i]?=some (x,.local)->OV G h (ρ i) (m x)
 cells:∀(i:Nat) (x:Str) (k:NameKind),env.scope.names[i]?=some (x,k)->k=.cell\/k=.free->∃c w,env.cells.lookup x=some c/\h.IsCell c w/\OV G h (ρ i) w/\¬σ.dom c/\c≠env.locals/\(G.cap x=false->G.hb.get? c=none)
 inj:∀(i j:Nat) (x y:Str) (k k':NameKind) (c:Addr),env.scope.names[i]?=some (x,k)->env.scope.names[j]?=some (y,k')->(k=.cell\/k=.free)->(k'=.cell\/k'=.free)->env.cells.lookup x=some c->env.cells.lookup y=some c->i=j
 loc:¬σ.dom env.locals
 notfrz:∀o,h.get? env.locals=some o->¬Frz o
 new:G.hb.get? env.locals=none
 allc:∀p∈env.cells,∃o,h.get? p.2=some o
def FR.evo {G:Stc}{σ σ':St}{h':Heap}(F:FR G σ env ρ h)(x:Evo [] σ h σ' h'):FR G σ' env ρ h':=by
 have#[m,#[o,es,ep,J,r],hm]:=F.ns;have O:=x.keep _ _ J F.loc (by simp);have W:∀b o,h.get? b=some o->¬σ.dom b->¬σ'.dom b:=λb o e nd d=>(x.dom b d).elim nd λq=>by rw[e]at q;cases q
 apply#[#[m,#[o,es,ep,O,r],λi y e=>(hm i y e).mono x.frz],λi y k e hk=>?_,F.inj,W _ _ J F.loc,λz e=>?_,F.new,λp hp=>by have#[o,e]:=F.allc p hp;show x.there _ o e]
 ·have#[c,w,h1,#[B,U,hd],h3,I,h5]:=F.cells i y k e hk;apply#[c,w,h1,#[B,x.keep _ _ U I (by simp),hd],h3.mono x.frz,W _ _ U I,h5]
 ·rw[O]at e;cases e;show F.notfrz o J
structure Go (X:List Addr)(σ:St)(s:Shared)(σ':St)(s':Shared):Prop where
 e:Evo X σ s.heap σ' s'.heap
 g:s'.gens=s.gens
 o:s'.os=s.os
inductive km (G:Stc)(X:List Addr)(σ:St)(s:Shared)(Q:V->St->Prop)(w:Value)(s':Shared):Prop
 |mk (v:V) (σ':St):Q v σ'->VR G s'.heap v w->Rel G σ' s'.heap->Go X σ s σ' s'->km G X σ s Q w s'
inductive nr (G:Stc)(X:List Addr)(σ:St)(s:Shared)(Q:Bool->St->Prop)(b:Bool)(s':Shared):Prop
 |mk (σ':St):Q b σ'->Rel G σ' s'.heap->Go X σ s σ' s'->nr G X σ s Q b s'
inductive IZ (G:Stc)(X:List Addr)(σ:St)(s:Shared)(Q:List V->St->Prop)(ws:List Value)(s':Shared):Prop
 |mk (vs:List V) (σ':St):Q vs σ'->VRs G s'.heap vs ws->Rel G σ' s'.heap->Go X σ s σ' s'->IZ G X σ s Q ws s'
section
variable {G:Stc}{X:List Addr}{σ σ₁ σ₂:St}{s s₁ s₂:Shared}{tk:Nat}{M:Model}{A:Around}{E:QqV}
def Go.refl:Go X σ s σ s:=#[Evo.refl _ _ _,rfl,rfl]
def Go.trans (x:Go X σ s σ₁ s₁)(y:Go X σ₁ s₁ σ₂ s₂):Go X σ s σ₂ s₂:=#[x.e.trans y.e,y.g.trans x.g,y.o.trans x.o]
def Go.frz (x:Go X σ s σ₁ s₁):jn s.heap s₁.heap:=x.e.frz
def Go.keep (x:Go X σ s σ₁ s₁):∀b o,s.heap.get? b=some o->¬σ.dom b->b∉X->s₁.heap.get? b=some o:=x.e.keep
def Go.dom (x:Go X σ s σ₁ s₁):∀b,σ₁.dom b->σ.dom b\/s.heap.get? b=none:=x.e.dom
def Go.there (x:Go X σ s σ₁ s₁):∀b o,s.heap.get? b=some o->∃o',s₁.heap.get? b=some o':=x.e.there
def Go.new (x:Go X σ s σ₁ s₁){b:Addr}(e:s₁.heap.get? b=none):s.heap.get? b=none:=by
 cases hq:s.heap.get? b with
 |none=>rfl
 |some o=>have#[o',W]:=x.there _ _ hq;rw[e]at W;cases W
def Go.more {Y:List Addr}(x:Go X σ s σ₁ s₁)(W:∀b∈X,b∈Y):Go Y σ s σ₁ s₁:=#[x.e.more W,x.g,x.o]
def Go.less {Y:List Addr}(x:Go X σ s σ₁ s₁)(W:∀b∈X,b∈Y\/s.heap.get? b=none):Go Y σ s σ₁ s₁:=#[x.e.less W,x.g,x.o]
def Go.to {W:Drawn}(x:Go X σ s σ₁ s₁)(y:Evo X σ₁ s₁.heap σ₂ h):Go X σ s σ₂ #[h,s₁.gens,W,tk,s₁.os]:=#[x.e.trans y,x.g,x.o]
def Go.tok (x:Go X σ s σ₁ s₁):Go X σ s σ₁ {s₁ with toks:=tk}:=#[x.e,x.g,x.o]
def km.back {s':Shared}(x:Go X σ s σ₁ s₁):km G X σ₁ s₁ Q w s'->km G X σ s Q w s'
 |⟨v,σ',q,vr,r,e⟩=>#[v,σ',q,vr,r,x.trans e]
def nr.back {Q:Bool->St->Prop}{s':Shared}(x:Go X σ s σ₁ s₁):nr G X σ₁ s₁ Q b s'->nr G X σ s Q b s'
 |⟨σ',q,r,e⟩=>#[σ',q,r,x.trans e]
def Go.back {t:Sem Value}(x:Go X σ s σ₁ s₁)(h:wpAny M A t (km G X σ₁ s₁ Q) E s₂):wpAny M A t (km G X σ s Q) E s₂:=di h (λ_ _=>km.back x) λ_ _ x=>x
def Go.wW {t:Sem Bool}{Q:Bool->St->Prop}(x:Go X σ s σ₁ s₁)(h:wpAny M A t (nr G X σ₁ s₁ Q) E s₂):wpAny M A t (nr G X σ s Q) E s₂:=di h (λ_ _=>nr.back x) λ_ _ x=>x
def km.here {v:V}(q:Q v σ)(vr:VR G s.heap v w)(r:Rel G σ s.heap):km G X σ s Q w {s with toks:=tk}:=#[v,σ,q,vr,r,Evo.refl _ _ _,rfl,rfl]
def km.dE {v:V}(q:Q v σ)(vr:VR G s.heap v w)(r:Rel G σ s.heap):km G X σ s Q w s:=#[v,σ,q,vr,r,.refl]
def nr.here {Q:Bool->St->Prop}(q:Q b σ)(r:Rel G σ s.heap):nr G X σ s Q b s:=#[σ,q,r,.refl]
def nr.dE {Q:Bool->St->Prop}(q:Q b σ)(r:Rel G σ s.heap):nr G X σ s Q b {s with toks:=tk}:=#[σ,q,r,Evo.refl _ _ _,rfl,rfl]
end
public abbrev Stc.M (G:Stc):Model:=model G.prog G.w
structure Cx (G:Stc)(sc:Scope)(d:Nat)(A:Around)(env:Env)(ρ:Fr)(σ:St)(s:Shared):Prop where
 ao:AOk A d
 es:env.scope=sc
 eo:dQ env
 F:FR G σ env ρ s.heap
 R:Rel G σ s.heap
def Cx.go {G:Stc}{sc:Scope}{d:Nat}{A:Around}{σ σ₁:St}{s s₁:Shared}(c:Cx G sc d A env ρ σ s)(r:Rel G σ₁ s₁.heap)(x:Go [] σ s σ₁ s₁):Cx G sc d A env ρ σ₁ s₁:=#[c.ao,c.es,c.eo,c.F.evo x.e,r]
def Cx.at {G:Stc}{sc:Scope}{d:Nat}{A:Around}{W:Fr}{σ σ₁:St}{s s₁:Shared}(c:Cx G sc d A env ρ σ s)(F:FR G σ₁ env W s₁.heap)(R:Rel G σ₁ s₁.heap):Cx G sc d A env W σ₁ s₁:=#[c.ao,c.es,c.eo,F,R]
abbrev fk (G:Stc)(C:Cal)(sc:Scope)(d:Nat)(e:Ex)(ex:Expr):Prop:=
 ∀⦃A E env ρ σ Q s⦄,Cx G sc d A env ρ σ s->wpE C e ρ σ Q->wpAny G.M A (eval ex env) (km G [] σ s Q) E s
abbrev vm (G:Stc)(C:Cal)(sc:Scope)(d:Nat)(e:Ex)(ex:Expr):Prop:=
 ∀⦃A E env ρ σ Q s⦄,Cx G sc d A env ρ σ s->wpT C e ρ σ Q->wpAny G.M A (isTrue ex env (eval ex env)) (nr G [] σ s Q) E s
abbrev rf (G:Stc)(C:Cal)(sc:Scope)(d:Nat)(es:Exs)(exs:List Expr):Prop:=
 ∀⦃A E env ρ σ Q s pos⦄,Cx G sc d A env ρ σ s->vo C es ρ σ Q->wpAny G.M A (spliced (backTo pos (starEach exs env))) (IZ G [] σ s Q) E s
section
variable {G:Stc}{A:Around}{E:QqV}{s:Shared}{σ:St}{α:Type}
def rp {t:Sem Value}{P:V->St->Prop}{R:QqV}(h:wpAny G.M A t (km G [] σ s P) E s)
  (k:∀v σ₁ s₁ w,P v σ₁->VR G s₁.heap v w->Rel G σ₁ s₁.heap->Go [] σ s σ₁ s₁->R w s₁):wpAny G.M A t R E s:=
 di h (λ_ _ W=>by have#[v,σ',q,vr,r,x]:=W;show k v σ' _ _ q vr r x) λ_ _ x=>x
def qJ {t:Sem Bool}{P:Bool->St->Prop}{R:Bool->Shared->Prop}(h:wpAny G.M A t (nr G [] σ s P) E s)
  (k:∀b σ₁ s₁,P b σ₁->Rel G σ₁ s₁.heap->Go [] σ s σ₁ s₁->R b s₁):wpAny G.M A t R E s:=
 di h (λ_ _ W=>by have#[σ',q,r,x]:=W;show k _ σ' _ q r x) λ_ _ x=>x
def qI {t:Sem (List Value)}{P:List V->St->Prop}{R:List Value->Shared->Prop}(h:wpAny G.M A t (IZ G [] σ s P) E s)
  (k:∀vs σ₁ s₁ ws,P vs σ₁->VRs G s₁.heap vs ws->Rel G σ₁ s₁.heap->Go [] σ s σ₁ s₁->R ws s₁):wpAny G.M A t R E s:=
 di h (λ_ _ W=>by have#[v,σ',q,vr,r,x]:=W;show k v σ' _ _ q vr r x) λ_ _ x=>x
end
def iR {G:Stc}{σ:St}{a:Addr}{xs:List V}{ws:List Value}(R:Rel G σ h)(e:σ.L a=some xs)(v:VRs G h xs ws):ws.length<=ba:=v.length▸R.Ll a xs e
def yC {n:Nat}(h:n<=ba):(n:Int)<2^63:=Int.lt_of_le_of_lt (Int.ofNat_le.mpr h) (by decide)
def ON (n:Nat):((n:Int) != 0)=(n != 0):=by
 cases n<;>rfl
def rW {α W:Type}{ws:List α}{ns:List W}(q:ws.length=ns.length):ws.toArray.isEmpty=ns.isEmpty:=by
 cases ws<;>cases ns<;>first|rfl|cases q
set_option maxRecDepth 100000 in
def C9 {prog:Program}{w:World}{A:Around}{E:QqV}{s:Shared}{a:Addr}{o:Obj}{Q:Bool->Shared->Prop}(U:s.heap.get? a=some o)(hc:o.cls=.type "function")(h:Q true s):wpAny (model prog w) A (truthy (.ref a)) Q E s:=by
 have W:s.TypeIs (.ref a) "function":=#[o,U,hc];unfold truthy
 first
  |refine ab (wpAny_callSpecial?_none (name:=Str.ofString "__bool__") W (by rw[gc,dw];kernel_rfl) ?_)
  |refine ab (ae (ab (wpAny_callSpecial?_none (name:=Str.ofString "__bool__") W (by rw[gc,dw];kernel_rfl) ?_)))
 first
  |refine ab (zx (name:=Str.ofString "__len__") (r:=none) W (by rw[gc,dw];kernel_rfl) ?_)
  |refine ab (ae (ab (zx (name:=Str.ofString "__len__") (r:=none) W (by rw[gc,dw];kernel_rfl) ?_)))
 show ae h
def gI {G:Stc}{A:Around}{E:QqV}{s:Shared}{σ:St}{v:V}{K:Bool->Prop}(R:Rel G σ s.heap)(vr:VR G s.heap v w)(h:vn v σ K){Q:Bool->Shared->Prop}
  (k:∀b tk,K b->Q b {s with toks:=tk}):wpAny G.M A (truthy w) Q E s:=by
 cases v
 case none=>have rfl:=vr;show truthy_none (k _ s.toks h)
 case bool=>have rfl:=vr;show wo (k _ s.toks h)
 case int=>have#[t,rfl]:=vr;show truthy_int (k _ s.toks h)
 case str =>
  have#[t,rfl]:=vr;show PySem.P.truthy_str (Int.not_le.mpr (yC h.1)) (k _ _ (by rw[ON];show h.2))
 case L =>
  have rfl:=vr;have#[xs,e,hk]:=h;have#[ws,n,W,U]:=R.L _ xs e;show wpAny_truthy_list W.isList (yC (iR R e U)) (k _ _ (by rw[rW U.length.symm];show hk))
 case ro =>
  have#[a,ws,n,rfl,g,r]:=vr;show wpAny_truthy_list #[_,R.base _ _ g,rfl,_,rfl] (yC (jf (Nat.le_of_eq r.length) h.1)) (k _ _ (by rw[rW r.length];show h.2))
 case clo =>
  have#[a,o,rfl,_,O,hc]:=vr;show C9 (R.base _ _ O) hc (k _ s.toks h)
 all_goals first|show False.elim h|show False.elim vr
abbrev binOp:Bop->Operator
 |.add=>.Add|.sub=>.Sub|.mul=>.Mult|.fdiv=>.FloorDiv|.mod=>.Mod|.pow=>.Pow
abbrev lY:Cop->CmpOp
 |.eq=>.Eq|.ne=>.NotEq|.lt=>.Lt|.le=>.LtE|.gt=>.Gt|.ge=>.GtE|.is=>.Is|.isNot=>.IsNot|.isIn=>.In|.notIn=>.NotIn
def log2_lt_of {b:Int}(h:b.natAbs<2^60):b.natAbs.log2<9000:=by
 by_cases h0:b.natAbs=0
 ·rw[h0];decide +kernel
 ·have:=(Nat.log2_lt h0).mpr h;(show fj (.l .A (.n 9000)) .a (.l .A (.n 60)) this)
section
variable {G:Stc}{A:Around}{E:QqV}{s:Shared}{σ:St}
def nQ {op:Bop}{a b:Int}{t u:Tok}(R:Rel G σ s.heap)(h:lN op (.int a) (.int b) σ Q):wpAny G.M A (binaryOp (binOp op) (.int a t) (.int b u)) (km G [] σ s Q) E s:=by
 cases op with
 |add=>show add_int (km.here h (.int _ _) R)
 |sub=>show sub_int (km.here h (.int _ _) R)
 |mul =>
  apply mul_int (km.here h.2 (.int _ _) R) ?_;rcases h.1 with q|q
  ·show IntMulOk.of_left (intBits_le_64 ((Ar.nab _).elim (λW=>(pz (.il (.g .Q) .A) .a .a6 W.1)) λW=>(dK (.il (.g .Q) .A) .d .R (.ie .L (.g .A)) q W.2)) ((Ar.nab _).elim (λW=>(dK (.il .A .Q) .d .R .aP q W.2)) λW=>(pz (.il .A .Q) .a .aQ W.1)))
  ·show IntMulOk.of_right (intBits_le_64 ((Ar.nab _).elim (λW=>(pz (.il (.g .Q) .A) .a .a6 W.1)) λW=>(dK (.il (.g .Q) .A) .d .R (.ie .L (.g .A)) q W.2)) ((Ar.nab _).elim (λW=>(dK (.il .A .Q) .d .R .aP q W.2)) λW=>(pz (.il .A .Q) .a .aQ W.1)))
 |fdiv=>show floordiv_int h.1 (km.here h.2.2 (.int _ _) R) (.inl (PyProof.noPylong_of_log2 (log2_lt_of h.2.1)))
 |mod=>show mod_int' h.1 (km.here h.2 (.int _ _) R)
 |pow =>
  have#[h0,J,O,U]:=h;show pow_int_small h0 (pz (.ik .A (.n 1000000)) .a (.ik .A (.n 1000)) J) O (km.here U (.int _ _) R)
end
section
variable {k:Nat}{pos:Pos}{x e₁:Expr}{a b:Ex}{rest xs:List Expr}
variable {G:Stc}{C:Cal}{sc:Scope}{d:Nat}
def F8:fk G C sc d .none (.Constant .none k pos):=λ_ _ _ _ _ _ _ c h=>Constant_none (km.dE h .none c.R)
def FP {b:Bool}:fk G C sc d (.bool b) (.Constant (.bool b) k pos):=λ_ _ _ _ _ _ _ c h=>Constant_bool (km.dE h (.bool b) c.R)
def K3 {i:Int}:fk G C sc d (.int i) (.Constant (.int i) k pos):=λ_ _ _ _ _ _ _ c h=>wpAny_Constant_int (km.here h (.int _ _) c.R)
def AE {x:Str}:fk G C sc d (.str x) (.Constant (.str x) k pos):=λ_ _ _ _ _ _ _ c h=>by
 show wpAny _ _ (mkText x) _ _ _;show wpAny_mkText (km.here h (.str _ _) c.R)
def xp {names:List (Str×NameKind)}(nd:(names.map (·.1)).Nodup):∀{i:Nat} {x:Str} {k:NameKind},names[i]?=some (x,k)->names.lookup x=some k:=by
 induction names with
 |nil=>intro i x k e;simp at e
 |cons p r U =>
  intro i x k e;have#[y,k']:=p;simp only[mr,List.nodup_cons]at nd;cases i with
  |zero=>simp only[List.getElem?_cons_zero,gr,vf]at e;have#[rfl,rfl]:=e;simp
  |succ i =>
   simp only[yp]at e;have W:x≠y:=λq=>nd.1 (by
    subst q;show ee.mpr #[(x,k),dt e,rfl])
   rw[jZ,sg.mpr W];show U nd.2 e
abbrev isVar (k:NameKind):Bool:=k==.local||k==.cell||k==.free
abbrev jr (x:Str):Bool:=!(x==("__debug__":Str))&&!(x==("__classdict__":Str))
def j7 {A:Around}{E:QqV}{env:Env}{ρ:Fr}{σ:St}{s:Shared}{i:Nat}{x:Str}{k:NameKind}{v:V}{Q:QqV}(J:dQ env)(F:FR G σ env ρ s.heap)
  (hi:env.scope.names[i]?=some (x,k)) (hk:isVar k=true) (I:jr x=true) (B:ρ i=some v) (h:∀w,VR G s.heap v w->Q w s):wpAny G.M A (loadName env x) Q E s:=by
 have W:env.kindOf x=some k:=xp J.nd hi;simp only[jr,fe,jl]at I;have get:∀{w:Option Value},OV G s.heap (ρ i) w->∃O,w=some O/\VR G s.heap v O:=λ{w} o=>by
  rw[B]at o;cases w with
  |none=>show o.elim
  |some O=>refine#[O,rfl,o]
 cases k with
 | «local» =>
  have#[m,hn,z]:=F.ns;have#[O,e,vr]:=get (z i x hi);show wpAny_loadName_local J.kind W hn e (h O vr)
 |cell =>
  have#[c,w,hc,U,o,_,_,_]:=F.cells i x _ hi (.inl rfl);have#[O,rfl,vr]:=get o;show wpAny_loadName_cell J.kind W hc U (h O vr)
 |free =>
  have#[c,w,hc,U,o,_,_,_]:=F.cells i x _ hi (.inr rfl);have#[O,rfl,vr]:=get o;show wpAny_loadName_free J.kind W hc U (h O vr) I.2
 |_=>cases hk
def n6 {i:Nat}{x:Str}{k:NameKind}(hi:sc.names[i]?=some (x,k))(hk:isVar k=true)(U:jr x=true):fk G C sc d (.l i) (.Name x pos):=λ_ _ _ _ _ _ _ c h=>by
 have#[v,O,q]:=h;have W:(x==("__debug__":Str))=false:=by simp only[jr,fe,jl]at U;show U.1
 show wpAny_Name (j7 c.eo c.F (by rw[c.es];show hi) hk U O λw vr=>km.dE q vr c.R) W
def JY (W:fk G C sc d a x):fk G C sc d (.neg a) (.UnaryOp .USub x pos):=λ_ _ _ _ _ _ _ c h =>
 UnaryOp_ (rp (W c h) λv σ₁ s₁ w q vr r x=>by
  have#[i,rfl,q]:=q;have#[t,rfl]:=vr;show PyProof.Rows.neg_int (km.back x (km.here q (.int _ _) r)))
def JX (U:fk G C sc d a x):fk G C sc d (.not a) (.UnaryOp .Not x pos):=λ_ _ _ _ _ _ _ c h =>
 UnaryOp_ (rp (U c h) λv σ₁ s₁ w q vr r x=>not_of (gI r vr q λb W q=>km.back x (km.here q (.bool _) r)))
def snd_and {W:Expr}(O:fk G C sc d a e₁)(hb:fk G C sc d b (.BoolOp .And (W::rest) pos)):fk G C sc d (.and a b) (.BoolOp .And (e₁::W::rest) pos):=λ_ _ _ _ _ _ _ c h =>
 BoolOp_and (rp (O c h) λv σ₁ s₁ w q vr r x=>gI r vr q λt U q=>by
  cases t with
  |true=>show x.tok.back (hb (c.go r x.tok) q)
  |false=>show km.back x (km.here q vr r))
def O0 {W:Expr}(O:fk G C sc d a e₁)(hb:fk G C sc d b (.BoolOp .Or (W::rest) pos)):fk G C sc d (.or a b) (.BoolOp .Or (e₁::W::rest) pos):=λ_ _ _ _ _ _ _ c h =>
 BoolOp_or (rp (O c h) λv σ₁ s₁ w q vr r x=>gI r vr q λt U q=>by
  cases t with
  |false=>show x.tok.back (hb (c.go r x.tok) q)
  |true=>show km.back x (km.here q vr r))
def K1 {c:Ex}{y z:Expr}(hc:vm G C sc d c x)(W:fk G C sc d a y)(hb:fk G C sc d b z):fk G C sc d (.I c a b) (.IfExp x y z pos):=λ_ _ _ _ _ _ _ c h =>
 IfExp_ (qJ (hc c h) λt σ₁ s₁ q r x=>by
  cases t with
  |true=>show x.back (W (c.go r x) q)
  |false=>show x.back (hb (c.go r x) q))
def FU (U:vm G C sc d a x):vm G C sc d (.not a) (.UnaryOp .Not x pos):=λ_ _ _ _ _ _ _ c h =>
 isTrue_not (di (U c h) (λ_ _ W=>by have#[a,q,r,x]:=W;apply#[a,q,r,x]) λ_ _ x=>x)
def FX (W:vm G C sc d a e₁)(hb:vm G C sc d b (.BoolOp .And rest pos)):vm G C sc d (.and a b) (.BoolOp .And (e₁::rest) pos):=λ_ _ _ _ _ _ _ c h =>
 isTrue_and (qJ (W c h) λt σ₁ s₁ q r x=>by
  cases t with
  |true=>show x.wW (hb (c.go r x) q)
  |false=>show nr.back x (nr.here q r))
def KI (W:vm G C sc d a e₁)(hb:vm G C sc d b (.BoolOp .Or rest pos)):vm G C sc d (.or a b) (.BoolOp .Or (e₁::rest) pos):=λ_ _ _ _ _ _ _ c h =>
 isTrue_or (qJ (W c h) λt σ₁ s₁ q r x=>by
  cases t with
  |false=>show x.wW (hb (c.go r x) q)
  |true=>show nr.back x (nr.here q r))
def FV {c:Ex}{y z:Expr}(hc:vm G C sc d c x)(W:vm G C sc d a y)(hb:vm G C sc d b z):vm G C sc d (.I c a b) (.IfExp x y z pos):=λ_ _ _ _ _ _ _ c h =>
 isTrue_IfExp (qJ (hc c h) λt σ₁ s₁ q r x=>by
  cases t with
  |true=>show x.wW (W (c.go r x) q)
  |false=>show x.wW (hb (c.go r x) q))
def zc {e:Ex}(J:fk G C sc d e x)(O:∀env whole,isTrue x env whole=(do let v←whole;standAt x.pos;holding [v] (truthy v)))
  (U:∀ρ σ Q,wpT C e ρ σ Q->wpE C e ρ σ λv σ=>vn v σ λb=>Q b σ):vm G C sc d e x:=λ_ _ _ _ _ _ _ c h =>
 isTrue_plain (rp (J c (U _ _ _ h)) λv σ₁ s₁ w q vr r y=>gI r vr q λb W q=>nr.back y (nr.dE q r)) (O _ _)
def ll:rf G C sc d .nil []:=λ_ _ _ _ _ _ _ _ c h=>dU #[[],_,h,.nil,c.R,.refl]
def ir {e:Ex}{r:Exs}(B:fk G C sc d e x)(hr:rf G C sc d r xs)(I:∀env,starEach (x::xs) env=(false,eval x env)::starEach xs env):rf G C sc d (.cons e r) (x::xs):=λ_ _ _ _ _ _ _ _ c h =>
 spliced_more (rp (B c h) λv σ₁ s₁ w q vr J x =>
  qI (hr (c.go J x) q) λvs σ₂ s₂ ws U O r₂ W =>
   #[v::vs,σ₂,U,.cons (vr.mono W.frz) O,r₂,x.trans W]) (I _)
def AB {es:Exs}(h₀:rf G C sc d es xs):fk G C sc d (.T es) (.Tuple xs k pos):=λA E env ρ σ Q s c h =>
 Tuple_ (qI (h₀ c h) λvs σ₁ s₁ ws q W r x=>by
  have hz:=q.1;rw[W.length]at hz;unfold ba at hz;apply jg (?_:km G [] σ s Q (.ref s₁.heap.objs.size) _) (by show ws.toArray.size<=sizeLine;rw[cw,show sizeLine=16777216 from rfl];(show fj .aX .a .a1 hz));apply#[.T vs,σ₁,q.2,.T (IsT.new _ _) (W.mono λ_ _ e _=>ak _ e),r.push _,x.to (Evo.push _ _ _ _)])
def JZ {es:Exs}(h₀:rf G C sc d es xs):fk G C sc d (.L es) (.List xs pos):=λA E env ρ σ Q s c h =>
 List_ (qI (h₀ c h) λvs σ₁ s₁ ws q W r x=>by
  have hz:=q.1;have O:=hz;rw[W.length]at hz;unfold ba at hz;have hn:σ₁.L s₁.heap.objs.size=none:=by
   cases hq:σ₁.L s₁.heap.objs.size with
   |none=>rfl
   |some ys=>have#[o,J,_]:=r.tX hq;rw[none_at_size]at J;cases J
  apply jg (?_:km G [] σ s Q (.ref s₁.heap.objs.size) _) (by show ws.toArray.size<=sizeLine;rw[cw,show sizeLine=16777216 from rfl];(show fj .aX .a .a1 hz));have U:At s₁.heap.objs.size s₁.heap (s₁.heap.push {cls:=.type "list",data:=.seq ws.toArray}):=At.push s₁.heap;apply#[.L _,_,q.2 _ hn,.L _,r.putL U (λ_=>none_at_size _) (IsL.new _ _) W O,x.to (Evo.putL U (λ_=>none_at_size _) _)])
end
end MP
end
section
namespace MP
open PySem PyProof.Rows
section
variable {a:Addr}{ks:List Key}
variable {G:Stc}{A:Around}{E:QqV}{s:Shared}
public abbrev xR (G:Stc):Obj:={cls:=.type "set",dict:=none,data:=.set #v[] 0 (.fresh 0 0 G.led)}
def CS (h:Heap):yl G (h.push (xR G)) h.objs.size []:=
 #[_,#v[],0,_,cq _ rfl,#[rfl,rfl,rfl],rfl,λe W=>by simp at W,λk=>by simp,by decide,by rfl,by rfl,#[rfl,rfl,.nil]]
def tW {Q:QqV}(h:Q (.ref s.heap.objs.size) {s with heap:=s.heap.push (xR G)}) :
  codeAny G.M A (.call (.builtin "set.__new__") #[[.type "set"],[]]) (wants Q E) s:=by
 apply wd ?_;show wpAny _ A.in1 (do checkBuiltinCall "set.__new__" #[[.type "set"],[]];again (.builtin "set.__new__" #[[.type "set"],[]])) _ _ s;apply ab (fo F.newCall_set_0 (ae #[mZ F.plain_set_new _,sf F.entry_set_new ?_]));rw[tq F.plain_set_new _];unfold Builtin.«set.__new__» Builtin.Frozenset.newClass;have W:=sub_set_self;have#[U,g,d,tk,os]:=s;dsimp only
 wp_walk
 apply yf (ae ?_);dsimp only;simp only[newObj];apply ab (wpAny_alloc (ae ?_));show ae h
set_option maxHeartbeats 1000000 in
set_option maxRecDepth 100000 in
def u0 {Q:QqV}(h:Q (.ref s.heap.objs.size) {s with heap:=s.heap.push (xR G)}):wpAny G.M A (call (.type "set") []) Q E s:=by
 have#[c,tl,I]:=F.called_set.mro;have O:=F.called_set.made;have J:=F.called_set.sub;apply ug (wd ?_);show wpAny _ _ (callAny (.type "set") _) _ _ _;apply ae #[kD _ (by decide +kernel),sf F.entry_type_call ?_];rw[Around.under_plain (weight_type_call_type "set" [] []) rfl];have h1:=F.called_set.notType;have h2:=F.called_set.canCreate;have z:=F.typeCall_set_0
 repeat (any_goals (first|assumption|wp_step))
 apply codeAny_mono (tW (E:=E) (Q:=λobj s₁=>obj=.ref s.heap.objs.size/\s₁={s with heap:=s.heap.push (xR G)}) #[rfl,rfl]) λr s₁ hr=>?_;cases r with
 |error e=>show hr
 |ok fl =>
  cases fl with
  |ret obj =>
   have#[rfl,rfl]:=hr;have hT:Shared.TypeIs {s with heap:=s.heap.push (xR G)} (.ref s.heap.objs.size) "set":=#[_,cq _ rfl,rfl];have B:=F.called_set.init.lookup;have ag:=F.called_set.init.bind (.ref s.heap.objs.size)
   repeat (any_goals (first|assumption|wp_step))
   apply codeAny_mono (gC (R:=wants (λr s₂=>r=.none/\Q (.ref s.heap.objs.size) s₂) E) F.called_set.init.plain F.entry_set_init (check_set_init hT ?_)) λr₂ s₂ W=>?_
   ·unfold Builtin.«set.__init__» noKeywords
    wp_walk
    apply#[rfl,h]
   ·cases r₂ with
    |error e=>show W
    |ok U =>
     cases U with
     |ret r =>
      have#[rfl,hq]:=W
      repeat (any_goals (first|assumption|wp_step))
     |_=>show W.elim
  |_=>show hr.elim
def nT {o:Obj}{es W:Array (Int×Value)}{ep:Nat}{t O:SetTable}(z:s.heap.get? a=some o)(hex:o.ExactSet)(hd:o.data=.set es ep t)
  (J:ElemsOf G.kk W.toList) (U:∀k,decide (k∈ks)=true↔∃e∈W.toList,G.kk.is k e.2=true) (hb:W.size<scanBound) (B:O.fits W.size=true) (hn:W.size=ks.length) (hT:Tbl G.led O) :
  (s.heap.update a (Obj.putSet W O)).get? a=some {o with data:=.set W (ep+1) O}/\yl G (s.heap.update a (Obj.putSet W O)) a ks:=by
 have#[I,_]:=SetOf_store (knd:=G.kk) z hex hd J U hb B;apply#[I,_,W,ep+1,O,I,hex,rfl,J,U,hb,B,hn,hT]
def x6 {g:Bool->Sem Unit}(hg:∀(b:Bool) (s₁:Shared) (Q':Unit->Shared->Prop),Q' () s₁->wpAny G.M A (g b) Q' E s₁)
  {o:Obj} {es W:Array (Int×Value)} {ep:Nat} {t U:SetTable} (ho:s.heap.get? a=some o) (hex:o.ExactSet) (hd:o.data=.set es ep t)
  (J:ElemsOf G.kk W.toList) (O:∀k,decide (k∈ks)=true↔∃e∈W.toList,G.kk.is k e.2=true) (hb:W.size<scanBound) (hf:U.fits W.size=true) (hn:W.size=ks.length) (hT:Tbl G.led U)
  {R:Option Bool->Shared->Prop} (h:∀h',Heap.SameBut a s.heap h'->yl G h' a ks->R (some true) {s with heap:=h'}) :
  wpAny G.M A (do
    storeSet a W U
    if (!false&&U.tooFull)=true then do
      g (relayAll U W (SetTable.grown W.size)).2.2
      storeSet a (relayAll U W (SetTable.grown W.size)).1 (relayAll U W (SetTable.grown W.size)).2.1
      pure (some true)
     else pure (some true)) R E s:=by
 have I:=gh s.heap a (Obj.putSet W U);apply ab (wpAny_storeSet_of ho hd ?_ (fits_of_scanBound hb));have#[z,_]:=SetOf_store (knd:=G.kk) ho hex hd J O hb hf;split
 ·have B:=relayAll_perm U W (SetTable.grown W.size);have ag:=relayAll_fits U W (SetTable.grown W.size);have aj:=sV hT W (SetTable.grown W.size);generalize relayAll U W (SetTable.grown W.size)=L at B ag aj ⊢;have sz:L.1.size=W.size:=by rw[<- gm,B.length_eq,gm]
  have ai:L.1.size<scanBound:=by rw[sz];show hb
  apply ab (hg _ _ _ (ab (wpAny_storeSet_of z rfl (ae (h _ (I.trans (gh _ a _)) ?_)) (fits_of_scanBound ai))));show(nT (s:={s with heap:=s.heap.update a (Obj.putSet W U)}) z hex rfl (J.perm B) (λk=>(O k).trans #[λ⟨e,he,q⟩=>#[e,B.mem_iff.mpr he,q],λ⟨e,he,q⟩=>#[e,B.mem_iff.mp he,q]]) ai ag (sz.trans hn) aj).2
 ·show ae (h _ I (nT (s:=s) ho hex hd J O hb hf hn hT).2)
def LM {b:Bool}{Q:Unit->Shared->Prop}(h:Q () s):wpAny G.M A (match b with|true=>rule "set.scan.the-table-gave-way" |false=>pure ()) Q E s:=by
 cases b
 ·show ae h
 ·show lq h
def zW {k:Key}{x:Value}{Q:Bool->Shared->Prop}(I:G.kk.is k x=true)(ag:x.scannable=true)(bl:plainKind x=true)(hS:yl G s.heap a ks)(ai:ks.length+1<scanBound)
  (h:∀b h',Heap.SameBut a s.heap h'->yl G h' a (if k∈ks then ks else ks++[k])->Q b {s with heap:=h'}):wpAny G.M A (setAddHashed a x (G.kk.hash k)) Q E s:=by
 have#[o,es,ep,t,ho,hex,hd,ao,J,hb,hf,hn,hT]:=id hS;unfold setAddHashed setAddHashedIn;apply cy (ab (dR ho hd hf ?_));dsimp only;rw[byScan_of ag hb ao];simp only[↓reduceIte];unfold setAddByScan;apply ab (ab (lq (ab (wpAny_setScan_of I ho hd hf ao ?_))));cases hr:List.findIdx? (λe=>G.kk.is k e.2) es.toList with
 |some j =>
  have#[hj,be,_]:=List.findIdx?_eq_some_iff_getElem.mp hr;have hk:k∈ks:=br ((J k).mpr #[es.toList[j],du hj,be]);have:=h false s.heap (Heap.SameBut.refl a s.heap) (by rw[cf hk];show hS);show ae (ae this)
 |none =>
  have hk:k∉ks:=λq=>by
   have#[e,he,hp]:=(J k).mp (fc q);have:=List.findIdx?_eq_none_iff.mp hr e he;rw[hp]at this;cases this
  rw[aw hk]at h;have W:=layNew_perm t es (G.kk.hash k) x;have U:=layNew_fits t es (G.kk.hash k) x;have bc:=yF hT es (G.kk.hash k) x;dsimp only;generalize layNew t es (G.kk.hash k) x=L at W U bc ⊢;rw[Array.toList_push]at W;have z:ElemsOf G.kk L.1.toList:=(ao.push I ag).perm W;have O:∀k',decide (k'∈ks++[k])=true↔∃e∈L.1.toList,G.kk.is k' e.2=true:=λk'=>by
   have:=mem_push_iff (S:=λk=>decide (k∈ks)) I J W k';simpa using this
  have aj:L.1.size=(ks++[k]).length:=by rw[<- gm,W.length_eq,bq,bq,gm,hn];rfl
  have ay:L.1.size<scanBound:=by rw[aj,bq];show ai
  have#[B,hw]:=bc;have ax:∀b:Bool,(if b=true then L.2.1 else {L.2.1 with plain:=false}).fits L.1.size=true:=λb=>by
   cases b
   ·show SetTable.fits_plain_off U
   ·show U
  have bd:∀b:Bool,Tbl G.led (if b=true then L.2.1 else {L.2.1 with plain:=false}):=λb=>by
   cases b
   ·apply#[B.led,B.nod,B.rise]
   ·show B
  apply ab (LM ?_);rw[hw];split
  ·apply ab ?_;rw[hashByValue_scannable 8 ag];apply ae (x6 (λb s₁ Q' hq=>by cases b<;>first|show ae hq|show lq hq) ho hex hd z O ay (ax _) aj (bd _) λh' hs ar=>ae (h _ h' hs ar))
  ·apply ab ?_;apply ae (x6 (λb s₁ Q' hq=>by cases b<;>first|show ae hq|show lq hq) ho hex hd z O ay (ax _) aj (bd _) λh' hs ar=>ae (h _ h' hs ar))
def IH {k:Key}{x:Value}{Q:QqV}(W:G.kk.is k x=true)(O:x.scannable=true)(J:plainKind x=true)(B:yl G s.heap a ks)(U:ks.length+1<scanBound)
  (h:∀h',Heap.SameBut a s.heap h'->yl G h' a (if k∈ks then ks else ks++[k])->Q .none {s with heap:=h',toks:=s.toks+1}):wpAny G.M A (call (.builtin "set.add") [.ref a,x]) Q E s:=by
 apply gy F.slot_set_add B.of.typeIs F.entry_set_add ?_ (F.args_set_add_2 _ _);unfold Builtin.«set.add» Builtin.Frozenset.oneOther;simp only[List.isEmpty_nil,bind_assoc];unfold Builtin.Frozenset.addrOf setAdd;apply ab (ae ?_)
 try dsimp only
 apply ab (ae ?_)
 try dsimp only
 apply ab (cy (ab (G.kk.pyHash W (zW (s:={s with toks:=s.toks+1}) W O J B U λb h' z I=>?_))));show wpAny _ _ (ret Value.none) _ _ _;show ae #[_,rfl,h h' z I]
end
end MP
end
section
set_option tactic.hygienic true
namespace MP
open PySem PyProof.Rows
variable {h:Heap}{a b:V}{x y:Value}{K:Bool->Prop}{Q:QqV}
abbrev Q1 (h:Heap)(w:Value)(d:PyData)(n:Nat):Prop:=∃as,Reads h w d as/\d.canLay0=true/\d.depth<=n
abbrev SK (h:Heap)(ws:List Value)(ds:List PyData)(n:Nat):Prop:=∃as,ReadsAll h ws ds as/\PyData.canLayAll0 ds=true/\PyData.depthAll ds<=n
def kJ {G:Stc}{σ:St}(n:Nat)(W:∀{v:V} {w:Value} {d:PyData},l0 σ n v=some d->VR G h v w->Q1 h w d n) :
  {xs:List V}->{ws:List Value}->{ds:List PyData}->xs.mapM (l0 σ n)=some ds->VRs G h xs ws->SK h ws ds n
 | []=>λe vr=>by
  have rfl:=vr;have rfl:=af (e:some []=some _);apply#[[],.nil,rfl,bz _]
 |x::xs=>λe z=>by
  have#[w,us,q,a,r]:=z;subst q;rw[List.mapM_cons]at e;have#[d,e1,J]:=fx.mp e;have#[ag,B,I]:=fx.mp J;clear e;have rfl:=af I;have#[as,O,c1,d1]:=W e1 a;have#[bs,U,c2,d2]:=kJ n W B r;apply#[as++bs,.cons O U,by simp[PyData.canLayAll0,c1,c2],Nat.max_le.mpr #[d1,d2]]
def GC {x:Str}{t:Tok}{d:PyData}{n:Nat}(e:(if PyData.strOk x then some (PyData.str x) else Option.none)=some d):Q1 h (.str x t) d n:=by
 cases c:PyData.strOk x with
 |true=>rw[c]at e;have rfl:=af e;apply#[[],.str _ _,by simpa[PyData.canLay0] using c,bz _]
 |false=>rw[c]at e;show jx e
def jA {G:Stc}{σ:St}(R:Rel G σ h):(n:Nat)->{v:V}->{w:Value}->{d:PyData}->l0 σ n v=some d->VR G h v w->Q1 h w d n:=by
 intro n;induction n with
 |zero =>
  intro v w d e vr;cases v
  case none=>have rfl:=vr;have rfl:=af e;apply#[[],.none,rfl,bz _]
  case bool=>have rfl:=vr;have rfl:=af e;apply#[[],.bool _,rfl,bz _]
  case int=>have#[t,rfl]:=vr;have rfl:=af e;apply#[[],.int _ _,rfl,bz _]
  case str=>have#[t,rfl]:=vr;show GC e
  all_goals show jx e
 |succ n W =>
  intro v w d e vr;cases v
  case none=>have rfl:=vr;have rfl:=af e;apply#[[],.none,rfl,bz _]
  case bool=>have rfl:=vr;have rfl:=af e;apply#[[],.bool _,rfl,bz _]
  case int=>have#[t,rfl]:=vr;have rfl:=af e;apply#[[],.int _ _,rfl,bz _]
  case str=>have#[t,rfl]:=vr;show GC e
  case L =>
   have rfl:=vr;have#[xs,U,e]:=fx.mp e;have#[ds,hd,rfl]:=gj.mp e;have#[ws,m,hl,O]:=R.L _ xs U;have#[as,r,c,dd]:=kJ n W hd O;apply#[_,.list hl rfl rfl (by simpa using r),by simpa[PyData.canLay0] using c,jX dd]
  case T =>
   have#[a,ws,m,rfl,g,r]:=vr;have#[ds,hd,rfl]:=gj.mp e;have#[as,r,c,dd]:=kJ n W hd r;apply#[_,.tuple g rfl rfl (by simpa using r),by simpa[PyData.canLay0] using c,jX dd]
  all_goals show jx e
section
variable {G:Stc}{A:Around}{E:QqV}{s:Shared}{σ:St}{d:Nat}
def gK {d:PyData}(c:d.canLay0=true)(h:d.depth<=6):SeqAt.shaped d=true:=by
 unfold SeqAt.shaped;rw[c,Bool.true_and];show fc (jf h (by decide))
def AOk.u64 (W:AOk A d):A.units+64<cLine:=by have:=W.units;(show gz (.l (.a .A (.n 64)) .B) .a (.l (.a (.a .A (.m 30 .C)) .aQ) .B) this)
def O3 (ao:AOk A d)(R:Rel G σ s.heap)(U:VR G s.heap a x)(W:VR G s.heap b y)(h:uO a b σ K)(k:∀r,K r->Q (.bool r) s):wpAny G.M A (compareOp .Eq x y) Q E s:=by
 rcases nG h with ⟨i,j,rfl,rfl,h⟩|⟨i,j,rfl,rfl,h⟩|⟨d,e,hd,I,hk⟩
 ·have#[t,rfl]:=U;have#[u,rfl]:=W;show PyProof.Rows.eq_int (k _ h)
 ·have#[t,rfl]:=U;have#[u,rfl]:=W;show eq_str (k _ h)
 ·have#[as,J,ca,B]:=jA R 6 hd U;have#[bs,O,z,db]:=jA R 6 I W;show eq_dataH J O (gK ca B) (gK z db) ao.u64 (k _ hk)
def O1 (ao:AOk A d)(R:Rel G σ s.heap)(U:VR G s.heap a x)(W:VR G s.heap b y)(h:uO a b σ λr=>K (!r))(k:∀r,K r->Q (.bool r) s):wpAny G.M A (compareOp .NotEq x y) Q E s:=by
 rcases nG h with ⟨i,j,rfl,rfl,h⟩|⟨i,j,rfl,rfl,h⟩|⟨d,e,hd,I,hk⟩
 ·have#[t,rfl]:=U;have#[u,rfl]:=W;show ne_int (k _ h)
 ·have#[t,rfl]:=U;have#[u,rfl]:=W;show ne_str (k _ h)
 ·have#[as,J,ca,B]:=jA R 6 hd U;have#[bs,O,z,db]:=jA R 6 I W;show ne_dataH J O (gK ca B) (gK z db) ao.u64 (k _ hk)
def oO {v:Value}{R:Bool->Shared->Prop}(h:R (v==.none) s):wpAny G.M A (isSame v .none) R E s:=by
 cases v<;>show fo (by rfl) (by show h)
def J8 (W:VR G h a x):(x==.none)=isNone a:=by
 cases a
 case int=>have#[t,rfl]:=W;rfl
 case str=>have#[t,rfl]:=W;rfl
 case T=>have#[_,_,_,rfl,_]:=W;rfl
 case mt=>have#[_,_,_,_,rfl,_]:=W;rfl
 case iN=>have#[_,_,rfl,_]:=W;rfl
 case j9=>have#[_,_,rfl,_]:=W;rfl
 case ro=>have#[_,_,_,rfl,_]:=W;rfl
 case bys=>have#[t,rfl]:=W;rfl
 case clo=>have#[_,_,rfl,_]:=W;rfl
 all_goals have rfl:=W;rfl
def nP (R:Rel G σ s.heap)(U:VR G s.heap a x)(O:VR G s.heap b y)(h:J4 a b σ K){Q:Bool->Shared->Prop}(k:∀r,K r->Q r s):wpAny G.M A (isSame x y) Q E s:=by
 cases b with
 |none =>
  have rfl:=O;show oO (k _ (by rw[J8 U];show h))
 |L q =>
  have rfl:=O;have h:MX q a σ K:=h;cases a with
  |none=>have rfl:=U;show wpAny_isSame_plain rfl (k _ h)
  |L p =>
   have rfl:=U;have#[B,I,J]:=h;have#[xs,e1]:=cv.mp B;have#[ys,z]:=cv.mp I;by_cases W:p=q
   ·subst W;show wpAny_isSame_ref_self (k _ (jW p▸J))
   ·have#[o1,g1,c1]:=R.tX e1;have#[o2,g2,c2]:=R.tX z;show wpAny_isSame_ref_other W g1 g2 (by rw[c1];decide) (k _ (sg.mpr W▸J))
  |_=>show False.elim h
 |_=>show False.elim h
def pg {G:Stc}:{ns:List Int}->{ws:List Value}->VRs G h (ns.map V.int) ws->IntsAre ws ns
 | []=>λe=>by have rfl:=e;show .nil
 |_::_=>λz=>by have#[_,_,rfl,#[t,rfl],r]:=z;show .cons _ _ (pg r)
def eS (ns:List Int)(i:Int):(ns.any λx=>x==i)=ns.contains i:=by
 rw[Bool.eq_iff_iff];simp
def O2 (R:Rel G σ s.heap)(U:VR G s.heap a x)(W:VR G s.heap b y)(h:J5 a b σ K)(k:∀r,K r->Q (.bool r) s):wpAny G.M A (compareOp .In x y) Q E s:=by
 have#[i,rfl,h]:=rv (v:=a) h;have#[l,rfl,ns,e,hk]:=uc (v:=b) h;have#[t,rfl]:=U;have rfl:=W;have#[ws,n,hl,O]:=R.L _ _ e;show in_list_ints hl.isList (pg O) (k _ (by rw[eS];show hk))
def CD (R:Rel G σ s.heap)(U:VR G s.heap a x)(W:VR G s.heap b y)(h:J5 a b σ λr=>K (!r))(k:∀r,K r->Q (.bool r) s):wpAny G.M A (compareOp .NotIn x y) Q E s:=by
 have#[i,rfl,h]:=rv (v:=a) h;have#[l,rfl,ns,e,hk]:=uc (v:=b) h;have#[t,rfl]:=U;have rfl:=W;have#[ws,n,hl,O]:=R.L _ _ e;show notin_list_ints hl.isList (pg O) (k _ (by rw[eS];show hk))
def lR {op:Cop}{K:Bool->Prop}(O:AOk A d)(R:Rel G σ s.heap)(U:VR G s.heap a x)(W:VR G s.heap b y)(h:nH op a b σ K)(k:∀r,K r->Q (.bool r) s):wpAny G.M A (compareOp (lY op) x y) Q E s:=by
 have ord:MW op a b K->wpAny G.M A (compareOp (lY op) x y) Q E s:=λh=>by
  have#[i,rfl,h]:=rv (v:=a) h;have#[j,rfl,h]:=rv (v:=b) h;have#[t,rfl]:=U;have#[u,rfl]:=W;cases op
  case lt=>show lt_int (k _ h)
  case le=>show le_int (k _ h)
  case gt=>show gt_int (k _ h)
  case ge=>show ge_int (k _ h)
  all_goals show False.elim h
 cases op with
 |eq=>show O3 O R U W h k
 |ne=>show O1 O R U W h k
 |is =>
  show wpAny G.M A (do return .bool (← isSame x y)) Q E s;show ab (nP R U W h λr q=>ae (k _ q))
 |isNot =>
  show wpAny G.M A (do return .bool (!(← isSame x y))) Q E s;show ab (nP (K:=λr=>K (!r)) R U W h λr q=>ae (k _ q))
 |isIn=>show O2 R U W h k
 |notIn=>show CD R U W h k
 |lt=>show ord h
 |le=>show ord h
 |gt=>show ord h
 |ge=>show ord h
end
section
variable {G:Stc}{C:Cal}{sc:Scope}{d:Nat}
def K5 {op:Cop}{a b:Ex}{x y:Expr}{pos:Pos}(z:fk G C sc d a x)(hb:fk G C sc d b y)(B:behindInMarks (lY op) y=false):fk G C sc d (.c op a b) (.Compare x [lY op] [y] pos):=λ_ _ _ _ _ _ _ c h =>
 wpAny_Compare1 (rp (z c h) λv σ₁ s₁ w q vr r x =>
  rp (hb (c.go r x) q) λI σ₂ s₂ J O U r₂ W =>
   lR c.ao r₂ (vr.mono W.frz) U O λb q=>km.back (x.trans W) (km.dE q (.bool _) r₂)) B
def eP {G:Stc}{A:Around}{E:QqV}{s:Shared}{env:Env}{l op r pos whole}{Q:Bool->Shared->Prop}
  (h:wpAny G.M A (eval l env) (λa s₁=>wpAny G.M A (eval r env) (λb s₂=>wpAny G.M A (compareOp op a b) (λc W=>wpAny G.M A (truthy c) Q E W) E s₂) E s₁) E s)
  (J:behindInMarks op r=false):wpAny G.M A (isTrue (.Compare l [op] [r] pos) env whole) Q E s:=by
 rw[isTrue_Compare1,markedBehindIn_of_false J];apply ab (di h (λa s₁ h₁=>ab (cy (di h₁ (λb s₂ O=>ab (je (ab (wpAny_operating (di O (λc W U=>cy U) λ_ _ x=>x)))) ) λ_ _ x=>x))) λ_ _ x=>x)
def FW {op:Cop}{a b:Ex}{x y:Expr}{pos:Pos}(z:fk G C sc d a x)(hb:fk G C sc d b y)(B:behindInMarks (lY op) y=false):vm G C sc d (.c op a b) (.Compare x [lY op] [y] pos):=λ_ _ _ _ _ _ _ c h =>
 eP (rp (z c h) λv σ₁ s₁ w q vr r x =>
  rp (hb (c.go r x) q) λI σ₂ s₂ J O U r₂ W =>
   lR c.ao r₂ (vr.mono W.frz) U O λb q=>wo (nr.back (x.trans W) (nr.here q r₂))) B
end
end MP
end
section
namespace MP
open PySem PyProof.Rows
variable {ws:List Value}
def nq {n:Nat}(h:n<=ba):n<=sizeLine:=by rw[show sizeLine=16777216 from rfl];unfold ba at h;(show fj .aX .a .a1 h)
section
variable {G:Stc}{σ:St}{h:Heap}
def Rel.PG (R:Rel G σ h):σ.L h.objs.size=none:=by
 cases hq:σ.L h.objs.size with
 |none=>rfl
 |some ys=>have#[o,W,_]:=R.tX hq;rw[none_at_size]at W;cases W
def Rel.freshD (R:Rel G σ h):σ.D h.objs.size=none:=by
 cases hq:σ.D h.objs.size with
 |none=>rfl
 |some ys=>have#[o,W,_]:=R.IA hq;rw[none_at_size]at W;cases W
def Rel.PF (R:Rel G σ h):σ.S h.objs.size=none:=by
 cases hq:σ.S h.objs.size with
 |none=>rfl
 |some ys=>have#[o,W,_]:=R.I9 hq;rw[none_at_size]at W;cases W
def oK {X:List Addr}{σ₁:St}{s s₁:Shared}{tk:Nat}{O:Drawn}{Q:V->St->Prop}{vs:List V}(r:Rel G σ₁ s₁.heap)(x:Go X σ s σ₁ s₁)(U:VRs G s₁.heap vs ws)(hz:vs.length<=ba)
  (q:∀c,σ₁.L c=none->Q (.L c) (σ₁.eh c vs)):km G X σ s Q (.ref s₁.heap.objs.size) #[s₁.heap.push {cls:=.type "list",data:=.seq ws.toArray},s₁.gens,O,tk,s₁.os]:=by
 have W:At s₁.heap.objs.size s₁.heap (s₁.heap.push {cls:=.type "list",data:=.seq ws.toArray}):=At.push s₁.heap;apply#[.L _,_,q _ r.PG,.L _,r.putL W (λ_=>none_at_size _) (IsL.new _ _) U hz,x.to (Evo.putL W (λ_=>none_at_size _) _)]
def VRs.rep {vs:List V}(x:VRs G h vs ws):∀k:Nat,VRs G h (List.replicate k vs).flatten (List.replicate k ws).flatten
 |0=>by simpa using VRs.nil
 |k+1=>by simpa[List.replicate_succ] using x.append (x.rep k)
def VRs.ints {ns:List Int}(i:IntsAre ws ns):VRs G h (ns.map V.int) ws:=by
 induction i with
 |nil=>show .nil
 |cons n t r W=>show .cons (.int n t) W
end
section
variable {G:Stc}{A:Around}{E:QqV}{s:Shared}{σ:St}
def tC {l:Addr}{items:Array Value}{k:Nat}{x:Int}{u:Tok}{Q:QqV}(hl:IsL s.heap l items k)(O:-(2^63:Int)<=x)(J:x<2^63)(W:items.size*x.toNat<=2^24)
  (h:Q (.ref s.heap.objs.size) {s with heap:=s.heap.push {cls:=.type "list",data:=.seq (List.foldl (λx1 x2=>x1++x2) #v[] (List.replicate (if items.isEmpty=true then 0 else x.toNat) items))}}) :
  wpAny G.M A (binaryOp .Mult (.ref l) (.int x u)) Q E s:=
 wpAny_binaryOp_repeat_ref (T:="list") (U:="int") (by decide) #[_,hl,rfl] (λs'=>typeIs_int s' x u) noFill_list_mul F.fills_int_mul F.slot_int_rmul repeat_list F.slot_int_index.lookup
  (fE F.slot_int_rmul (typeIs_int s x u) F.entry_int_rmul (F.args_int_rmul_2 _ _) (int___rmul___int_list x u l items k)
   ⟨hl,rfl,#[_,hl,rfl],fE F.slot_list_mul #[_,hl,rfl] F.entry_list_mul (F.args_list_mul_2 _ _)
    (AutoListH.list___mul___list_int_3 l items k x u (by simp[Builtin.List.listFitsIndex];(show#[(pz (.ik (.ng 9223372036854775808) .A) .a .b6 O),(pz (.il .A (.n 9223372036854775808)) .a .c8 J)])) (mU .bR [[8,8,1,-1,-1]] (.k .B .aJ) (.l .C (.n 8)) (.e (.a (.m 8 .A) .C) .D) (.e .Y (.n (2^63))) W (Ar.cU _ 8 (by decide)).1 (Ar.cU _ 8 (by decide)).2 (aa (eH (.k .U (.n (2^63))) .i))) (by simp[Builtin.List.listTooLong,sizeLine];(show fj .aX .a (.k .A .aJ) W)))
    #[hl,h]⟩)
set_option maxHeartbeats 2000000 in
def FQ {op:Bop}{a b:V}{x y:Value}{Q:V->St->Prop}(R:Rel G σ s.heap)(va:VR G s.heap a x)(vb:VR G s.heap b y)(h:lN op a b σ Q):wpAny G.M A (binaryOp (binOp op) x y) (km G [] σ s Q) E s:=by
 have ag:∀i j t u,x=.int i t->y=.int j u->lN op (.int i) (.int j) σ Q->wpAny G.M A (binaryOp (binOp op) x y) (km G [] σ s Q) E s:=λi j t u e1 e2 q=>by
  subst e1;subst e2;show nQ R q
 have W:∀(l:Addr) (xs:List V) (ws:List Value) (i:Int) (t:Tok) (n:Nat),IsL s.heap l ws.toArray n->VRs G s.heap xs ws->xs.length*i.toNat<=ba->i.natAbs<2^60->(∀c,σ.L c=none->Q (.L c) (σ.eh c (List.replicate i.toNat xs).flatten)) ->
   x=.ref l->y=.int i t->wpAny G.M A (binaryOp .Mult x y) (km G [] σ s Q) E s:=λl xs ws i t n hl U hz hb q e1 e2=>by
  subst e1;subst e2;have h1:=U.length;apply tC hl ((Ar.nab _).elim (λJ=>(pz .b6 .a .a6 J.1)) λJ=>(dK .b6 .d .R (.ie .L (.g .A)) hb J.2)) ((Ar.nab _).elim (λJ=>(dK .c8 .d .R .aP hb J.2)) λJ=>(pz .c8 .a .aQ J.1)) ?_ ?_
  ·simp only[cw];rw[<- h1];unfold ba at hz;(show fj (.k .A .aJ) .a .a1 hz)
  ·have e:List.foldl (λx1 x2=>x1++x2) #v[] (List.replicate (if ws.toArray.isEmpty=true then 0 else i.toNat) ws.toArray)=((List.replicate i.toNat ws).flatten).toArray:=by
    rw[listMul_foldl];cases ws with
    |nil=>simp
    |cons w ws=>simp
   rw[e];show oK R .refl (U.rep _) (by rw[lm_len_rep_flat,Nat.mul_comm];show hz) q
 rcases uR h with ⟨i,j,rfl,rfl,_⟩|⟨rfl,l,n,rfl,rfl,q⟩|⟨rfl,m,rfl,q⟩
 ·have#[t,rfl]:=va.inv;have#[u,rfl]:=vb.inv;show nQ R h
 ·have#[u,rfl]:=vb.inv;have rfl:=va;have#[xs,e1,hz,hb,q]:=q;have#[ws,n,hl,U]:=R.L _ _ e1;show W _ _ _ _ _ _ hl U hz hb q rfl rfl
 ·clear W;have rfl:=vb;have#[xs,ys,O,e5,hz,q]:=q;have#[us,m,ai,I]:=R.L _ _ e5;have go:∀(l:Addr) (ws:List Value) (n:Nat),x=.ref l->IsL s.heap l ws.toArray n->VRs G s.heap xs ws->wpAny G.M A (binaryOp (binOp .add) x (.ref _)) (km G [] σ s Q) E s:=λl ws n ex hl U=>by
   subst ex;have h1:=U.length;have h2:=I.length;apply P.add_list hl ai ?_ (by simp only[cw];rw[<- h1,<- h2];show nq hz);rw[List.append_toArray];show oK R .refl (U.append I) (by simpa using hz) q
  unfold itemsOf at O;cases z:mL a with
  |some l' =>
   rw[z]at O;have z:=j3 z;subst z;have#[ws,n,hl,U]:=R.L _ _ O;show go _ ws n va.inv hl U
  |none =>
   rw[z]at O;cases B:vRo a with
   |none=>rw[B]at O;cases O
   |some ns =>
    rw[B]at O;cases O;have B:=NR B;subst B;have#[a,ws,n,ex,g,r]:=va.inv;show go a ws n ex (R.base _ _ g) (VRs.ints (G:=G) (h:=s.heap) r)
def AF {C:Cal}{sc:Scope}{d:Nat}{op:Bop}{a b:Ex}{x y:Expr}{pos:Pos}(B:fk G C sc d a x)(hb:fk G C sc d b y):fk G C sc d (.b op a b) (.BinOp x (binOp op) y pos):=λ_ _ _ _ _ _ _ c h =>
 wpAny_BinOp (rp (B c h) λv σ₁ s₁ w q vr r x =>
  rp (hb (c.go r x) q) λI σ₂ s₂ J O U r₂ W =>
   (x.trans W).back (FQ r₂ (vr.mono W.frz) U O))
def DRs.look {h:Heap}(k:Key):{es:List (Key×V)}->{ds:List (Key×Value)}->DRs G h es ds->OV G h (es.lookup k) (valueAt ds k)
 | []=>λe=>by have rfl:=e;show trivial
 |(k',v)::es=>λz=>by
  have#[w,us,e,a,r]:=z;subst e;by_cases hk:k'=k
  ·subst hk;rw[List.lookup_cons_self,show valueAt ((k',w)::us) k'=some w by simp[valueAt]];show a
  ·rw[jZ,sg.mpr (λq=>hk q.symm)];simpa[valueAt,List.find?_cons,hk] using DRs.look k r
def key_is {v:V}{k:Key}{w:Value}{h:Heap}(hk:v.qN=some k)(vr:VR G h v w):G.kk.is k w=true:=by
 cases v
 case int=>have#[t,rfl]:=vr;have rfl:=af hk;simp[keyKind,w4,Value.isInt]
 case str=>have#[t,rfl]:=vr;have rfl:=af hk;simp[keyKind,w4,Value.isStrOf]
 all_goals show jx hk
def EX {a b:V}{x y:Value}{ve se:Expr}{K:V->Prop}(R:Rel G σ s.heap)(va:VR G s.heap a x)(vb:VR G s.heap b y)(h:qZ a b σ K)(hs:subscripted se false x y=operate [x,y] (getItem x y)){Q:QqV}(k:∀v w tk,K v->VR G s.heap v w->Q w {s with toks:=tk}) :
  wpAny G.M A (subscriptTail ve se x y) Q E s:=by
 have listAt:∀(l:Addr) (ws:List Value) (i:Int) (t:Tok) (n:Nat) (v:Value),IsL s.heap l ws.toArray n->ws.length<=ba->0<=jj ws.length i->ws[(jj ws.length i).toNat]?=some v->x=.ref l->y=.int i t->(∀tk,Q v {s with toks:=tk})->wpAny G.M A (subscriptTail ve se x y) Q E s:=λl ws i t n v hl hz h0 hv e1 e2 hq=>by
  subst e1;subst e2;have J:(jj ws.length i).toNat<ws.length:=(cu.mp hv).1;unfold jj at h0 hv J;unfold ba at hz;by_cases hi:i<0
  ·simp only[hi,zr]at h0 hv J;show tail_any hl.isList.typeIs J2.lookup (wpAny_getItem_list_neg hl.isList hi (by simp only[cw];(show wZ (.ik (.g .L) .A) .a (.ik .O (.a .A .L)) h0)) (dK .b6 .b .a1 (.ik .O (.a .A .L)) hz h0) (by simpa using hv) (hq s.toks)) hs
  ·simp only[hi,mj]at h0 hv J;show tail_any hl.isList.typeIs J2.lookup (wpAny_getItem_list hl.isList (pz .a6 .a (.ig .A .O) hi) ((Ar.ton _).elim (λI=>(NG .c8 .q .a1 .U (.ie .P .A) hz J I.2)) λI=>(pz .c8 .a .aQ I.1)) (by simpa using hv) (hq s.toks)) hs
 have B:∀(l:Addr) (ws:List Value) (i:Int) (t:Tok) (n:Nat) (v:Value),IsT s.heap l ws.toArray n->i.natAbs<2^60->0<=jj ws.length i->ws[(jj ws.length i).toNat]?=some v->x=.ref l->y=.int i t->(∀tk,Q v {s with toks:=tk})->wpAny G.M A (subscriptTail ve se x y) Q E s:=λl ws i t n v hl hz h0 hv e1 e2 hq=>by
  subst e1;subst e2;have J:(jj ws.length i).toNat<ws.length:=(cu.mp hv).1;have hT:IsTup s.heap l ws.toArray:=#[_,hl,rfl,n,rfl];apply tail_any hT.typeIs slot_tuple_getitem.lookup (PyProof.Rows.getItem_tuple hT ((Ar.nab _).elim (λI=>(pz .b6 .a .a6 I.1)) λI=>(dK .b6 .d .R (.ie .L (.g .A)) hz I.2)) ((Ar.nab _).elim (λI=>(dK .c8 .d .R .aP hz I.2)) λI=>(pz .c8 .a .aQ I.1)) (j:=(jj ws.length i).toNat) ?_ (by simpa using hv) (hq s.toks)) hs;unfold seqIndex?;rw[cw]
  change (if (decide (0<=jj ws.length i)&&decide (jj ws.length i<ws.length))=true then some (jj ws.length i).toNat else none)=_
  rw[cf];simp only[fe,hZ];(show#[(pz .a6 .a .a6 h0),((Ar.ton _).elim (λI=>(jQ (.il .A .L) .d .U (.ie .P .A) J I.2)) λI=>(jQ (.il .A .L) .b .U .aQ J I.1))])
 cases a with
 |L a =>
  have rfl:=va;have#[i,rfl,xs,v,e,h0,hx,hk]:=rv (v:=b) h;have#[t,rfl]:=vb;have#[ws,n,hl,hv]:=R.L _ _ e;have z:=hv.length;have#[w,hw,vr]:=hv.get hx;rw[z]at h0 hw;show listAt _ ws _ _ n w hl (z▸R.Ll _ _ e) h0 hw rfl rfl λtk=>k v w tk hk vr
 |ro ns =>
  have#[i,rfl,v,hz,h0,hx,hk]:=rv (v:=b) h;have#[t,rfl]:=vb;have#[a,ws,n,rfl,g,r]:=va;have hv:=VRs.ints (G:=G) (h:=s.heap) r;have z:=r.length.symm;have#[w,hw,vr]:=hv.get (v:=.int v) (by rw[cp,hx];rfl);rw[z]at h0 hw;show listAt _ ws _ _ _ w (R.base _ _ g) (z▸hz) h0 hw rfl rfl λtk=>k (.int v) w tk hk vr
 |T xs =>
  clear listAt;have#[i,rfl,v,hb,h0,hx,hk]:=rv (v:=b) h;have#[t,rfl]:=vb;have#[a,ws,n,rfl,g,r]:=va;have#[w,hw,vr]:=r.get hx;show B _ _ _ _ _ _ g hb (r.length▸h0) (r.length▸hw) rfl rfl λtk=>k v w tk hk vr
 |str xx =>
  clear listAt B;have#[i,rfl,c,hz,h0,hx,hk]:=rv (v:=b) h;have#[t,rfl]:=vb;have#[t',rfl]:=va;have J:(jj xx.cps.size i).toNat<xx.cps.size:=(nj.mp hx).1;apply tail_any (typeIs_str _ _ _) F.slot_str_getitem.lookup (PySem.P.getItem_str (c:=c) ?_ ?_ (k (.str #[#v[c]]) _ _ hk #[_,rfl])) hs
  ·unfold jj at h0 J;unfold ba at hz;rw[Bool.or_eq_false_iff];split at h0
   ·apply#[dg (dK (.ig .A (.g .M)) .b .a1 (.ik .O (.a .A .L)) hz h0),dg (by(rename_i z1;show pz (.ij .M .A) .a (.il .A .O) z1))]
   ·rename_i hi;rw[aw hi]at J;apply#[dg (pz (.ig .A (.g .M)) .a (.ig .A .O) hi),dg ((Ar.ton _).elim (λI=>(NG (.ij .M .A) .q .a1 .U (.ie .P .A) hz J I.2)) λI=>(pz (.ij .M .A) .a .aQ I.1))]
  ·unfold seqIndex?
   change (if (decide (0<=jj xx.cps.size i)&&decide (jj xx.cps.size i<xx.cps.size))=true then some (jj xx.cps.size i).toNat else none).bind _=_
   rw[cf]
   ·show hx
   ·simp only[fe,hZ];(show#[(pz .a6 .a .a6 h0),((Ar.ton _).elim (λI=>(jQ (.il .A .L) .d .U (.ie .P .A) J I.2)) λI=>(jQ (.il .A .L) .b .U .aQ J I.1))])
 |bys xx =>
  clear listAt B;have#[i,rfl,c,hz,h0,hx,hk]:=rv (v:=b) h;have#[t,rfl]:=vb;have#[t',rfl]:=va;have#[l,rfl]:∃l:List UInt8,xx=l.toArray:=#[xx.toList,by simp];have hx:l[i.toNat]?=some c:=by simpa using hx
  have J:=(cu.mp hx).1;have hz:l.length<=ba:=by simpa using hz
  unfold ba at hz;have e:l.getD i.toNat 0=c:=by rw[jv,hx];rfl
  show tail_any (PySem.W.typeIs_bytes _ _ _) PySem.W.FB.slot_bytes_getitem.lookup (PySem.W.getItem_bytes (fj (.k .A (.n 1099511627776)) .a .a1 hz) h0 ((Ar.ton _).elim (λI=>(jQ (.il .A .L) .d .U (.ie .P .A) J I.2)) λI=>(jQ (.il .A .L) .b .U .aQ J I.1)) (by rw[e];show k (.int c.toNat) _ _ hk #[_,rfl])) hs
 |dct a =>
  clear B;have rfl:=va;have#[es,kk,v,e,ag,hl,hk]:=h;have#[ds,hd,hv]:=R.D _ _ e;have hh:=hv.look kk;rw[hl]at hh;cases hq:valueAt ds kk with
  |none=>rw[hq]at hh;show hh.elim
  |some w =>
   rw[hq]at hh;show tail_any hd.typeIs slot_dict_getitem.lookup (wpAny_getItem_of (key_is ag vb) hd.mapOf hq (k v w _ hk hh)) hs
 |_=>show False.elim h
end
end MP
end
section
namespace MP
open PySem PyProof.Rows
variable {a:Ex}{x:Expr}{pos:Pos}{A:Around}{E:QqV}{σ:St}{s:Shared}{h:Heap}{i:Int}
structure GOk (G:Stc):Prop where
 cls:∃N mN,ClsAt G.hb G.cS N mN/\mN "__getattribute__"=none/\mN "__getattr__"=none/\mN "__setattr__"=none/\∀x∈G.attrs,mN x=none/\typeLookup (.type "object") x=pure none
 len:G.attrs.length<=100
 nd:G.attrs.Nodup
 sys:∃o,G.hb.get? sysModules=some o
 names:∃mg mb,G.hb.Ns mainGlobals mg/\G.hb.Ns builtinsNs mb/\∀x,G.gl x=(mg x).or (mb x)
abbrev isSlice (x:Expr):Bool:=fB 26 x
def j5 {W:Expr}(h:isSlice W=false)(x y:Value):subscripted W false x y=operate [x,y] (getItem x y):=by
 cases W<;>first|rfl|show Bool.noConfusion h
section
variable {G:Stc}{C:Cal}{sc:Scope}{d:Nat}
def AD {b:Ex}{y:Expr}(z:fk G C sc d a x)(hb:fk G C sc d b y)(B:isSlice y=false):fk G C sc d (.sub a b) (.Subscript x y pos):=λ_ _ _ _ _ _ _ c h =>
 Subscript_ (rp (z c h) λv σ₁ s₁ w q vr r x =>
  rp (hb (c.go r x) q) λI σ₂ s₂ J O U r₂ W =>
   EX r₂ (vr.mono W.frz) U O (j5 B _ _) λv w tk q vr=>km.back (x.trans W) (km.here q vr r₂))
abbrev MN (G:Stc)(C:Cal)(sc:Scope)(d:Nat)(e:Ex)(x:Option Expr):Prop:=(e=.none/\x=none)\/∃y,x=some y/\fk G C sc d e y
def MN.at {e:Ex}{x:Option Expr}(p:MN G C sc d e x){env:Env}{ρ:Fr}{Q:V->St->Prop}(c:Cx G sc d A env ρ σ s)(h:wpE C e ρ σ Q):wpAny G.M A (evalPart x env) (km G [] σ s Q) E s:=by
 rcases p with ⟨rfl,rfl⟩|⟨y,rfl,p⟩
 ·show evalPart_none_step (km.dE h .none c.R)
 ·show evalPart_some_step (p c h)
def L0 (a:Int)(n:Nat):(max 0 (min a n)).toNat=min n a.toNat:=by
 rcases Int.le_total a 0 with h|h
 ·rw[Int.toNat_of_nonpos h,Nat.min_zero,Int.max_eq_left (kr (Int.min_le_left ..) h)];rfl
 ·rcases Int.le_total a n with h'|h'
  ·rw[Int.min_eq_left h',Int.max_eq_right h,Nat.min_eq_right (Int.toNat_le.mpr h')]
  ·rw[Int.min_eq_right h',Int.max_eq_right (Int.natCast_nonneg n),gu,eL ((Int.le_toNat h).mpr h')]
def pJ (n:Nat)(i:Int):clipAt n i=kg n i:=L0 _ n
def part_of {v:V}{w:Value}{k:Nat}(vr:VR G h v w)(e:jH k v=some i):∃o,IsPart w o/\o.getD k=i:=by
 cases v
 case none=>have rfl:=vr;apply#[none,.none,af e]
 case int=>have#[t,rfl]:=vr;apply#[_,.int _ _,af e]
 all_goals show jx e
def z7 (n:Nat)(o:Option Int)(h:o.getD (0:Nat)=i):o.elim 0 (clipAt n)=kg n i:=by
 cases o with
 |none=>simp at h;subst h;simp[kg,jj]
 |some j=>simp at h;subst h;show pJ n j
def yZ (n:Nat)(o:Option Int)(h:o.getD (n:Nat)=i):o.elim n (clipAt n)=kg n i:=by
 cases o with
 |none=>have rfl:=(h:(n:Int)=i);show(Nat.min_self n).symm
 |some j=>simp at h;subst h;show pJ n j
def EZ {a b c:V}{x y z:Value}{B:Expr}{lo hi:Option Expr}{p:Pos}{Q:V->St->Prop}(R:Rel G σ s.heap)(va:VR G s.heap a x)(vb:VR G s.heap b y)(vc:VR G s.heap c z)(h:A1 a b c σ Q) :
  wpAny G.M A (subscriptTail B (.Slice lo hi none p) x (.ref s.heap.objs.size)) (km G [] σ s Q) E {s with heap:=s.heap.push {cls:=.type "slice",data:=.fields #v[y,z,.none]}}:=by
 have go:∀(l:Addr) (xs:List V) (ws:List Value) (n:Nat) (i j:Int),x=.ref l->IsL s.heap l ws.toArray n->VRs G s.heap xs ws->xs.length<=ba->jH 0 b=some i->jH xs.length c=some j->(∀c,σ.L c=none->Q (.L c) (σ.eh c ((xs.take (kg xs.length j)).drop (kg xs.length i)))) ->
   wpAny G.M A (subscriptTail B (.Slice lo hi none p) x (.ref s.heap.objs.size)) (km G [] σ s Q) E {s with heap:=s.heap.push {cls:=.type "slice",data:=.fields #v[y,z,.none]}}:=λl xs ws n i j e hl J hz hi O q=>by
  subst e;have#[o1,p1,e1]:=part_of vb hi;have#[o2,p2,e2]:=part_of vc O;have U:(s.heap.push {cls:=.type "slice",data:=.fields #v[y,z,.none]}).IsList l ws.toArray:=(hl.push _).isList;have W:=J.length;apply tail_any (T:="list") (id:="list.__getitem__") (ops:=[.ref s.heap.objs.size,.ref l]) ?_ J2.lookup (wpAny_getItem_list_slice U (Heap.IsSliceOf.new ..) p1 p2 .none (by simp) ?_ (by simp only[cw];rw[<- W];show nq hz)) rfl
  ·show U.typeIs
  ·have e:slicePick ws.toArray o1 o2 none=((ws.take (kg ws.length j)).drop (kg ws.length i)).toArray:=by
    rw[slicePick_plain,cw,z7 ws.length o1 e1,yZ ws.length o2 (W▸e2),List.drop_take]
   rw[e];have R':=R.push {cls:=.type "slice",data:=.fields #v[y,z,.none]};have I:=((J.take (kg xs.length j)).drop (kg xs.length i)).mono (h':=s.heap.push {cls:=.type "slice",data:=.fields #v[y,z,.none]}) λ_ _ e _=>ak _ e;rw[<- W];show oK (s₁:={s with heap:=s.heap.push {cls:=.type "slice",data:=.fields #v[y,z,.none]}}) R' #[Evo.push _ _ _ _,rfl,rfl] I (by simp only[gf,et];(show qt .A .e .H .bC .a9 hz (Ar.jt _ _).2.1 (oz _ _))) q
 cases a with
 |L a =>
  have rfl:=va;have#[xs,i,j,e,hi,O,_,_,q]:=h;have#[ws,n,hl,J]:=R.L _ _ e;show go _ xs ws n i j rfl hl J (R.Ll _ _ e) hi O q
 |ro ns =>
  have#[a,ws,n,rfl,g,r]:=va;have#[i,j,hz,hi,O,_,_,q]:=h;apply go _ _ _ _ i j rfl (R.base _ _ g) (VRs.ints r) (by simpa using hz) hi (by simpa using O) λc hc=>?_;have:=q c hc;simpa[List.map_drop,List.map_take] using this
 |_=>show False.elim h
def JU {b c:Ex}{lo hi:Option Expr}{p:Pos}(ha:fk G C sc d a x)(hb:MN G C sc d b lo)(hc:MN G C sc d c hi):fk G C sc d (.slc a b c) (.Subscript x (.Slice lo hi none p) pos):=λ_ _ _ _ _ _ _ c h =>
 Subscript_ (rp (ha c h) λv σ₁ s₁ w q vr r x =>
  wpAny_Slice (rp (hb.at (c.go r x) q) λar σ₂ s₂ aj z J r₂ U =>
   rp (hc.at (c.go r₂ (x.trans U)) z) λao ag ax ai B O I W =>
    evalPart_none_step ((x.trans (U.trans W)).back (EZ I ((vr.mono U.frz).mono W.frz) (J.mono W.frz) O B))))
abbrev vg (x:Expr):Bool:=!(fB 16 x&&(kids x).tail.isEmpty)
def eG {o:Expr}(h:vg o=true)(attr:Str)(env:Env)(whole:Sem Value):attributeBase o attr env whole=whole:=by
 cases o with
 |Call f args W pos =>
  cases args with
  |nil=>show Bool.noConfusion h
  |cons a as=>cases f<;>show(rfl:whole=whole)
 |_=>show(rfl:whole=whole)
def fY.inst {a dd:Addr}{f:Nat->Option V}(I:fY G h a dd f){m:Str->Option Value}(U:h.Ns1 dd m):h.Inst a G.cS m:=by
 have#[o,W,hc,hd,hn]:=I.here;apply#[o,W,hc,hn,.inr #[dd,hd,I.ne,U]]
def tH {v:V}{w:Value}(vr:VR G h v w):handedOut w=pure w:=by
 cases v
 case int=>have#[t,rfl]:=vr;rfl
 case str=>have#[t,rfl]:=vr;rfl
 case T=>have#[_,_,_,rfl,_]:=vr;rfl
 case mt=>have#[_,_,_,_,rfl,_]:=vr;rfl
 case iN=>have#[_,_,rfl,_]:=vr;rfl
 case j9=>have#[_,_,rfl,_]:=vr;rfl
 case ro=>have#[_,_,_,rfl,_]:=vr;rfl
 case bys=>have#[t,rfl]:=vr;rfl
 case clo=>have#[_,_,rfl,_]:=vr;rfl
 all_goals have rfl:=vr;rfl
def uZ {a dd:Addr}{f:Nat->Option V}{i:Nat}{name:Str}{u:V}{expr:Bool}{Q:QqV}(K:GOk G)(R:Rel G σ s.heap)(hI:σ.I a=some (dd,f))(hn:G.attrs[i]?=some name)(hu:f i=some u)
  (k:∀w tk,VR G s.heap u w->Q w {s with toks:=tk}):wpAny G.M A (getAttr (.ref a) name expr) Q E s:=by
 have#[N,mN,X,B,ai,ag,O]:=K.cls;have I:=R.I a dd f hI;have#[m,hm,z,_]:=I.ns;have U:=z i name hn;rw[hu]at U;cases J:m name with
 |none=>rw[J]at U;show U.elim
 |some w =>
  rw[J]at U;have#[hh,g,dr,t,os]:=s;have#[nm,q,bs,sn,sub,aj,d2,k0,k1,k2,k3,k5,hC]:=(X.keeps R.base).obj;have W:=dt hn;show load_attr hC (X.keeps R.base).ns B (O name W).1 (O name W).2 (I.inst hm) J (tH U) (k w _ U)
def v7 {i:Nat}{name:Str}(K:GOk G)(O:fk G C sc d a x)(hb:vg x=true)(hn:G.attrs[i]?=some name):fk G C sc d (.attr a i) (.Attribute x name pos):=λ_ _ _ _ _ _ _ c h =>
 Attribute_any_ (rp (O c h) λv σ₁ s₁ w q vr r x=>by
  have#[b,dd,f,u,rfl,J,U,q]:=q;have rfl:=vr;show uZ K r J hn U λw W vr=>km.back x (km.here q vr r)) (by rw[arm_eval_Attribute,eG hb])
end
variable {args:List Expr}{A:Around}{E:QqV}{s:Shared}{σ:St}
abbrev isStar:Expr->Bool
 |.Starred _ _=>true
 |_=>false
abbrev noStar:List Expr->Bool
 | []=>true
 |e::r=>!isStar e&&noStar r
def band {a b:Bool}(h:(a&&b)=true):a=true/\b=true:=(fe a b).mp h
def j6 {e:Expr}(h:(!isStar e)=true)(r:List Expr)(env:Env):starEach (e::r) env=(false,eval e env)::starEach r env:=by
 cases e<;>first|rfl|show Bool.noConfusion h
def yz:{args:List Expr}->noStar args=true->(env:Env)->starEach args env=args.map λe=>(false,eval e env)
 | [],_,env=>rfl
 |e::r,h,env=>(j6 (band h).1 r env).trans (cc (_::·) (yz (band h).2 env))
def fm {x:Expr}{xs:List Expr}(h:noStar (x::xs)=true):(∀env,starEach (x::xs) env=(false,eval x env)::starEach xs env)/\noStar xs=true:=
 #[j6 (band h).1 xs,(band h).2]
def kh (h:noStar args=true)(pos:Pos)(env:Env):(backTo pos (starEach args env)).any (·.1)=false:=by
 rw[yz h];simp[backTo,List.any_eq_false]
def zP (h:noStar args=true)(pos:Pos)(env:Env):(backTo pos (starEach args env)).all (λx=>!x.1)=true:=by
 rw[yz h];simp[backTo]
def ph {M:Model}{f:Value}{W:List (Bool×Sem Value)}{Q:Args->Shared->Prop}(U:W.any (·.1)=false)(h:wpAny M A (spliced W) (λvs s'=>Q #[vs,[]] s') E s):wpAny M A (evalArgs f true W []) Q E s:=by
 cases W with
 |nil =>
  unfold evalArgs;show wpAny M A (spliced []>>=_) Q E s;apply ab (di h (λvs s' h'=>?_) λ_ _ x=>x);apply cy ?_;show ab (ae (ab (ae (ae h'))))
 |cons t r =>
  have#[b,x]:=t;simp only[List.any_cons,Bool.or_eq_false_iff]at U;have#[rfl,_]:=U;show Calls.evalArgs_plain h
section
variable {G:Stc}{C:Cal}{sc:Scope}{d:Nat}
def qy {env:Env}{o:Expr}{name:Str}{apos pos:Pos}{Q:QqV}(hb:vg o=true)(hs:noStar args=true)(I:args.length<30)(W:(apos.endLine==pos.line)=true)
  (h:wpAny G.M A (eval o env) (λB s₁=>∀z,wpAny G.M A (getMethod B name z) (λp s₂=>wpAny G.M A (callWith pos p.1 p.2 (backTo pos (starEach args env)) []) Q E s₂) E s₁) E s) :
  wpAny G.M A (eval (.Call (.Attribute o name apos) args [] pos) env) Q E s:=by
 rw[arm_eval_Call,eG hb];apply ab (di h (λB s₁ h₁=>?_) λ_ _ e=>e);apply ab (je ?_);have U:methodCallForm (args.length+([]:List Keyword).length) (backTo pos (starEach args env)) (backToKw pos (keywordEach [] env))=true:=by
  unfold methodCallForm;rw[zP hs];show decide (args.length<30)=true;show fc I
 have J:methodCallPos true o env apos pos=pure pos:=by unfold methodCallPos;simp[W]
 unfold methodCall;rw[U];apply ab (cy (di (h₁ _) (λp s₂ O=>?_) λ_ _ e=>e));show ab (fo J O)
def qx {env:Env}{ρ:Fr}{id:String}{first:List Value}{es:Exs}{pos:Pos}{P:List V->St->Prop}{Q:QqV}(U:noStar args=true)(W:rf G C sc d es args)(c:Cx G sc d A env ρ σ s)(h:vo C es ρ σ P)
  (k:∀vs σ₁ s₁ ws,P vs σ₁->VRs G s₁.heap vs ws->Rel G σ₁ s₁.heap->Go [] σ s σ₁ s₁->wpAny G.M A (call (.builtin id) (first++ws)) Q E s₁) :
  wpAny G.M A (callWith pos (.builtin id) first (backTo pos (starEach args env)) []) Q E s:=
 Calls.callWith_builtin (kh U pos env) (ph (kh U pos env) (qI (W c h) k))
def EH {h:Heap}{a:Addr}{xs ys:List V}{ws us:List Value}{n:Nat}{f:Array Value->Array Value}(R:Rel G σ h)(e:σ.L a=some xs)(hl:IsL h a ws.toArray n)(U:VRs G h ys us)(hz:ys.length<=ba)(O:f ws.toArray=us.toArray) :
  Rel G (σ.eh a ys) (h.update a (Obj.mapSeq f))/\Evo [] σ h (σ.eh a ys) (h.update a (Obj.mapSeq f)):=by
 have W:=hl.update f;rw[O]at W;have x:At a h (h.update a (Obj.mapSeq f)):=⟨λb o hb I=>(nu h _ (fF hb)).trans I,#[_,W],λo J=>by
  have rfl:=af (J.symm.trans hl);show cI rfl rfl⟩
 apply#[R.putL x (λq=>by rw[e]at q;cases q) W U hz,Evo.putL x (λq=>by rw[e]at q;cases q) _]
abbrev u6:BM->Str
 |.append=>"append"
 |.pop=>"pop"
 |.insert=>"insert"
 |.extend=>"extend"
 |.sort=>"sort"
 |.index=>"index"
 |.count=>"count"
 |.get=>"get"
 |.setdefault=>"setdefault"
 |.add=>"add"
abbrev RX:BM->String
 |.append=>"list.append"
 |.pop=>"list.pop"
 |.insert=>"list.insert"
 |.extend=>"list.extend"
 |.sort=>"list.sort"
 |.index=>"list.index"
 |.count=>"list.count"
 |.get=>"dict.get"
 |.setdefault=>"dict.setdefault"
 |.add=>"set.add"
def vU {h:Heap}{a:Addr}{items:Array Value}{n:Nat}(hl:IsL h a items n):∀b,Value.ref a=.ref b->∃ob,h.get? b=some ob/\ob.dict=none:=λb e=>by
 injection e with e;subst e;apply#[_,hl,rfl]
def rC {k:BM}{v:V}{w:Value}{W:Sem Bool}{Q:Value×List Value->Shared->Prop}(R:Rel G σ s.heap)(vr:VR G s.heap v w)(h:RW k v σ)(q:Q (.builtin (RX k),[w]) s) :
  wpAny G.M A (getMethod w (u6 k) W) Q E s:=by
 have lst:∀(a:Addr) (name:Str) (id:String),(σ.L a).isSome=true->Slot "list" name id->typeOf (.builtin id)=pure (.type "method_descriptor")->Q (.builtin id,[.ref a]) s->wpAny G.M A (getMethod (.ref a) name W) Q E s:=λa name id e O U q=>by
  have#[xs,e]:=cv.mp e;have#[ws,n,hl,_]:=R.L _ _ e;show getMethod_builtin #[_,hl,rfl] PySem.F.plainAttrs_list O U (vU hl) q
 cases k
 case get =>
  have#[a,rfl,h]:=jB (v:=v) h;have rfl:=vr;have#[xs,e]:=cv.mp h;have#[ds,hd,_]:=R.D _ _ e;show getMethod_builtin hd.typeIs PySem.F.plainAttrs_dict PySem.F.slot_dict_get PySem.F.type_dict_get hd.mapOf.noDict q
 case setdefault =>
  have#[a,rfl,h]:=jB (v:=v) h;have rfl:=vr;have#[xs,e]:=cv.mp h;have#[ds,hd,_]:=R.D _ _ e;show getMethod_builtin hd.typeIs PySem.F.plainAttrs_dict PySem.F.slot_dict_setdefault PySem.F.type_dict_setdefault hd.mapOf.noDict q
 case add =>
  have#[a,rfl,h]:=AP (v:=v) h;have rfl:=vr;have#[xs,e]:=cv.mp h;show getMethod_set_add (R.S _ _ e).of q
 all_goals
  have#[a,rfl,h]:=uc (v:=v) h;have rfl:=vr
 case append=>show lst _ _ _ h iU PySem.F.type_list_append q
 case pop=>show lst _ _ _ h PySem.F.slot_list_pop PySem.F.type_list_pop q
 case insert=>show lst _ _ _ h PySem.F.slot_list_insert PySem.F.type_list_insert q
 case extend=>show lst _ _ _ h PySem.F.slot_list_extend PySem.F.type_list_extend q
 case sort=>show lst _ _ _ h PySem.F.slot_list_sort PySem.F.type_list_sort q
 case index=>show lst _ _ _ h PySem.F.slot_list_index PySem.F.type_list_index q
 case count=>show lst _ _ _ h PySem.F.slot_list_count PySem.F.type_list_count q
end
section
variable {h:Heap}{k:Key}{v:V}{w:Value}{es:List (Key×V)}{a:Addr}{ws:List Value}
variable {G:Stc}{A:Around}{E:QqV}{s:Shared}{σ:St}
def n8 (K:GOk G)(R:Rel G σ s.heap){b:Addr}(d:σ.dom b):(b==sysModules)=false:=by
 apply sg.mpr λe=>?_;have#[o,W]:=K.sys;have:=R.new b d;rw[e,W]at this;cases this
def DRs.put (vr:VR G h v w){ds:List (Key×Value)}(r:DRs G h es ds):DRs G h (putD es k v) (stored ds k w):=by
 have I:∀{es:List (Key×V)} {ds:List (Key×Value)},DRs G h es ds->(es.any λe=>e.1==k)=ds.any λU=>decide (U.1=k):=by
  intro es;induction es with
  |nil=>intro ds r;have rfl:=r;rfl
  |cons e es W=>intro ds r;have#[w,us,rfl,a,r]:=r;rw[List.any_cons,List.any_cons,W r];rfl
 have O:∀{es:List (Key×V)} {ds:List (Key×Value)},DRs G h es ds->DRs G h (es.map λe=>if e.1=k then (k,v) else e) (ds.map λU=>if U.1=k then (U.1,w) else U):=by
  intro es;induction es with
  |nil=>intro ds r;have rfl:=r;show .nil
  |cons e es W =>
   intro ds r;have#[k',z]:=e;have#[B,us,rfl,a,r]:=r;rw[mr,mr];by_cases hk:k'=k
   ·subst hk;rw[cf rfl,cf rfl];show .cons vr (W r)
   ·rw[aw hk,aw hk];show .cons a (W r)
 have J:∀{es:List (Key×V)} {ds:List (Key×Value)},DRs G h es ds->DRs G h (es++[(k,v)]) (ds++[(k,w)]):=by
  intro es;induction es with
  |nil=>intro ds r;have rfl:=r;show .cons vr .nil
  |cons e es W=>intro ds r;have#[B,us,rfl,a,r]:=r;show .cons a (W r)
 unfold putD stored;rw[I r];split
 ·show O r
 ·show J r
def DRs.length:{es:List (Key×V)}->{ds:List (Key×Value)}->DRs G h es ds->es.length=ds.length
 | []=>λe=>e▸rfl
 |_::_=>λz=>by have#[_,_,rfl,_,r]:=z;show cc (·+1) r.length
def OV.getD {v:Option V}{w:Option Value}{u:V}{x:Value}(o:OV G h v w)(a:VR G h u x):VR G h (v.getD u) (w.getD x):=by
 cases v<;>cases w
 ·show a
 ·show False.elim o
 ·show False.elim o
 ·show o
def lS (es:List (Key×V))(k:Key)(v:V):(putD es k v).length<=es.length+1:=by
 unfold putD;split<;>simp
def M7 (R:Rel G σ s.heap)(e:σ.D a=some es):∀b f,σ.I b≠some (a,f):=λb f q=>by
 have:=R.apart b a f q;rw[e]at this;cases this
def QC {h':Heap}{W:List (Key×V)}{ds:List (Key×Value)}(R:Rel G σ s.heap)(e:σ.D a=some es)(B:Heap.SameBut a s.heap h')(hd:h'.DictOf G.kk a ds)(I:DRs G s.heap W ds)(hz:W.length<=ba) :
  Rel G (σ.ua a W) h'/\Evo [] σ s.heap (σ.ua a W) h':=by
 have#[aj,#[o,ai,ep,z,hc,O,_],_]:=R.D _ _ e;have#[o',J,ag,U,_]:=id hd;have x:At a s.heap h':=At.y0 B z (sr O) U;apply#[R.putD x (λq=>by rw[e]at q;cases q) (M7 R e) hd I hz,Evo.putD x (λq=>by rw[e]at q;cases q) _]
def HB (hk:v.qN=some k)(vr:VR G h v w):w.scannable=true:=by
 cases v
 case int=>have#[t,rfl]:=vr;rfl
 case str=>have#[t,rfl]:=vr;rfl
 all_goals show jx hk
def IntsAre.TC {ns:List Int}(h:IntsAre ws ns):∀(i:Nat) (h:i<ws.length),∃t,ws[i]=.int (ns[i]?.getD 0) t:=by
 induction h with
 |nil=>show λi h=>absurd h (pe i)
 |cons n t r W =>
  intro i h;cases i with
  |zero=>refine#[t,rfl]
  |succ i =>
   have#[u,U]:=W i (lI h);apply#[u,U]
def GG (h:es.lookup k=none)(v:V):putD es k v=es++[(k,v)]:=by
 unfold putD;rw[aw];simp only[List.any_eq_true,not_exists,not_and];intro e W hk;rw[tj]at h;have:=h e W;simp only[fq]at hk;simp[hk]at this
def CT (R:Rel G σ s.heap)(e:σ.D a=some es):Rel G (σ.ua a es) s.heap/\Evo [] σ s.heap (σ.ua a es) s.heap:=by
 have U:upd σ.D a es=σ.D:=by
  funext b
  unfold upd;split
  ·rename_i h;rw[h,e]
  ·rfl
 have hd:∀b,(σ.ua a es).dom b->σ.dom b:=λb d=>(pE d).elim id λq=>.inr (.inl (by rw[q,e];rfl));have W:σ.ua a es={σ with Z:=clr σ.Z a}:=by unfold St.ua;rw[U]
 apply#[?_,λ_ _ e _ _=>e,λ_ _ e _=>e,λb d=>.inl (hd b d),λ_ o e=>#[o,e]];apply#[R.L,?_,R.S,R.I,λb o q=>?_,R.Ll,?_,R.inj,?_,R.sep,λb d=>R.new b (hd b d),R.base]
 ·rw[W];show R.D
 ·rw[W]at q ⊢;show R.Z b o (jM q).2
 ·rw[W];show R.Dl
 ·rw[W];show R.apart
def yO {l:Addr}{vs:List Value}{ns:List Int}{k:Int}{t:Tok}{n:Nat}{Q:QqV}(hl:IsL s.heap l vs.toArray n)(hi:IntsAre vs ns)
  (hz:ns.length<=ba) (hk:k∈ns) (h:Q (.int (ns.idxOf k:Nat) s.toks) {s with toks:=s.toks+1}) :
  wpAny G.M A (call (.builtin "list.index") [.ref l,.int k t]) Q E s:=by
 have W:=hi.length;have O:ns.idxOf k<ns.length:=List.idxOf_lt_length_iff.mpr hk;unfold ba at hz;apply fE PySem.F.slot_list_index #[_,hl,rfl] PySem.F.entry_list_index (PySem.F.args_list_index_2 _ _)
  (PySem.SeqAt.list_indexAt l vs.toArray n none #v[] (.int k t) (isInt k) (ns.idxOf k) (by simpa[W] using O) (jc (.il .L (.s .M .U)) .b (.k .B .T) .B hz O) ?_ ?_) #[hl,λy z=>(eq_isInt k t hi y (by simpa using z)).at _ _,h]
 ·show isInt k vs[ns.idxOf k]=true;rw[isInt_at k hi _ (fb .B .m .aS .G W O) O];simpa using List.getElem_idxOf O
 ·intro j I J;show isInt k vs[j]=false;rw[isInt_at k hi j (by simpa using I) (fb .B .b .L .G O J)];show ne_of_lt_idxOf J _
def VRs.one:VRs G h [v] ws->∃w,ws=[w]/\VR G h v w
 |⟨w,us,e,a,r⟩=>#[w,e.trans (cc (w::·) r),a]
def VRs.two {u:V}:VRs G h [v,u] ws->∃w W,ws=[w,W]/\VR G h v w/\VR G h u W
 |⟨w,us,e,a,r⟩=>by have#[W,U,b]:=VRs.one r;apply#[w,W,e.trans (cc (w::·) U),a,b]
def xN {k:BM}{v:V}{vs:List V}{Q:V->St->Prop}(K:GOk G)(hk:k≠.sort)(R:Rel G σ s.heap)(vr:VR G s.heap v w)(J:VRs G s.heap vs ws)(h:Q9 k v vs σ Q) :
  wpAny G.M A (call (.builtin (RX k)) (w::ws)) (km G [] σ s Q) E s:=by
 cases k
 case append =>
  have#[a,rfl,h]:=uc (v:=v) h;have rfl:=vr;have#[x,rfl,xs,e,hz,q]:=ze (vs:=vs) h;have#[wa,rfl,va]:=J.one;have#[us,n,hl,O]:=R.L _ _ e;have W:=O.length;apply fE iU #[_,hl,rfl] PySem.F.entry_list_append (PySem.F.args_list_append_2 _ _) (list_append _ _ _ _ (by simp only[cw];rw[<- W];show nq (az .A .a .B hz))) #[hl,?_];have#[r',I]:=EH (f:=λx=>x.push wa) R e hl (O.append %[va|0]) (by simp;(show az .T .a .B hz)) (by simp);apply#[.none,_,q,.none,r',I,rfl,rfl]
 case pop =>
  have#[a,rfl,h]:=uc (v:=v) h;have rfl:=vr;have#[rfl,xs,v,e,q]:=AQ (vs:=vs) h;have rfl:=J;have#[us,n,hl,O]:=R.L _ _ e;have W:=O.length;have hz:=R.Ll _ _ e;have#[u,hu,vu]:=O.get (i:=xs.length) (v:=v) (by simp);have U:us.length=xs.length+1:=by rw[<- W];simp
  apply fE PySem.F.slot_list_pop #[_,hl,rfl] PySem.F.entry_list_pop (PySem.F.args_list_pop_1 _) (MeetsSeq.list_pop_last _ _ _ u (by simp only[cw];rw[U];simpa using hu) (by simp only[cw];rw[<- W];show nq hz)) #[hl,?_];have#[r',I]:=EH (f:=λx=>x.eraseIdxIfInBounds (us.toArray.size-1)) (us:=us.take xs.length) R e hl (by simpa using O.take xs.length) (by simp at hz;(show az .A .a .T hz)) (by
   have e:us.toArray.eraseIdxIfInBounds (us.toArray.size-1)=(us.eraseIdx (us.length-1)).toArray:=by simp
   rw[e,List.eraseIdx_eq_take_drop_succ];simp[U])
  apply#[v,_,q,vu.mono I.frz,r',I,rfl,rfl]
 case insert=>show False.elim h
 case extend =>
  have#[a,rfl,h]:=uc (v:=v) h;have rfl:=vr;have#[x,rfl,h]:=ze (vs:=vs) h;have#[b,rfl,xs,ys,ax,e1,e2,hz,q]:=uc (v:=x) h;have#[wa,rfl,rfl]:=J.one;have#[us,n,hl,O]:=R.L _ _ e1;have#[ts,m,ar,ai]:=R.L _ _ e2;have W:=O.length;have U:=ai.length;have ag:us.length+ts.length<=sizeLine:=by rw[<- W,<- U];show nq hz
  apply fE PySem.F.slot_list_extend #[_,hl,rfl] PySem.F.entry_list_extend (PySem.F.args_list_extend_2 _ _) (AutoSeq1.list_extend_list_list_0 _ _ _ _ _ _ ?_ (by simp only[cw];(show gz .A .a (.k .V .B) ag)) (by simp only[cw];(show gz (.k .L .S) .a .F ag))) #[hl,ar,?_]
  ·simp only[cw,Builtin.List.listTooLong];rw[show sizeLine=16777216 from rfl]at ag;simp;intro _;first|omega|(unfold sizeLine;(show az (.k .L .aJ) .a (.k .L (.n 16777216)) ag))
  ·have#[r',I]:=EH (f:=λx=>x++ts.toArray) R e1 hl (O.append ai) (by simpa using hz) (by simp);apply#[.none,_,q,.none,r',I,rfl,rfl]
 case index =>
  have#[a,rfl,h]:=uc (v:=v) h;have rfl:=vr;have#[x,rfl,h]:=ze (vs:=vs) h;have#[i,rfl,ns,e,hm,q]:=rv (v:=x) h;have#[wa,rfl,#[t,rfl]]:=J.one;have#[us,n,hl,O]:=R.L _ _ e;have hI:=pg O;show yO hl hI (by have:=R.Ll _ _ e;simpa using this) hm (km.here q (.int _ _) R)
 case count=>show False.elim h
 case get =>
  have#[a,rfl,h]:=jB (v:=v) h;have rfl:=vr;have#[x,y,rfl,es,kk,e,z,q]:=o8 (vs:=vs) h;have#[wa,wb,rfl,va,vb]:=J.two;have#[ds,hd,O]:=R.D _ _ e;have hl:=O.look kk;apply call_meetsIn PySem.F.slot_dict_get hd.typeIs PySem.F.entry_dict_get (PySem.F.args_dict_get_3 _ _ _) (meets_dict_get_default G.kk _ (key_is z va) (n8 K R (.inr (.inl (by rw[e];rfl)))) _) #[_,hd.mapOf,?_];apply#[_,σ,q,hl.getD vb,R,Evo.refl _ _ _,rfl,rfl]
 case setdefault =>
  have#[a,rfl,h]:=jB (v:=v) h;have rfl:=vr;have#[x,y,rfl,es,kk,e,z,hz,q]:=o8 (vs:=vs) h;have#[wa,wb,rfl,va,vb]:=J.two;have#[ds,hd,O]:=R.D _ _ e;have hl:=O.look kk;have W:=O.length;apply call_meetsIn PySem.F.slot_dict_setdefault hd.typeIs PySem.F.entry_dict_setdefault (PySem.F.args_dict_setdefault_3 _ _ _) (kt_meets_setdefault G.kk _ (key_is z va) (n8 K R (.inr (.inl (by rw[e];rfl)))) _) #[ds,hd,by rw[<- W];show nq (az .A .a .B hz),λv' ai=>?_,λhn h' ao aj=>?_]
  ·rw[ai]at hl;cases h1:es.lookup kk with
   |none=>rw[h1]at hl;show hl.elim
   |some u =>
    rw[h1]at hl q;simp only[Option.getD_some,Option.isSome_some,zr]at q;have#[r',I]:=CT R e;apply#[u,_,q,hl,r',I,rfl,rfl]
  ·rw[hn]at hl;cases h1:es.lookup kk with
   |some u=>rw[h1]at hl;show hl.elim
   |none =>
    rw[h1]at q;simp only[Option.getD_none,yg,fu,mj]at q;have e2:=GG h1;have#[r',I]:=QC R e aj ao (O.put vb) (jf (lS _ _ _) (az .T .a .B hz));rw[e2]at r' I;apply#[_,_,q,vb.mono I.frz,r',I,rfl,rfl]
 case add=>show False.elim h
 case sort=>show absurd rfl hk
def O6 {C:Cal}{sc:Scope}{d:Nat}{k:BM}{a:Ex}{es:Exs}{o:Expr}{args:List Expr}{apos pos:Pos}(K:GOk G)(hk:k≠.sort)(ha:fk G C sc d a o)(B:rf G C sc d es args)(hb:vg o=true)(z:noStar args=true)(J:args.length<30)(U:(apos.endLine==pos.line)=true) :
  fk G C sc d (.bm k a es) (.Call (.Attribute o (u6 k) apos) args [] pos):=λ_ _ _ _ _ _ _ c h =>
 qy hb z J U (rp (ha c h) λv σ₁ s₁ w q vr r x pl =>
  rC r vr q.1 (qx z B (c.go r x) q.2 λvs σ₂ s₂ ws O I r₂ W =>
   (x.trans W).back (xN K hk r₂ (vr.mono W.frz) I O)))
end
variable {M:Model}{A:Around}{E:QqV}{s:Shared}
abbrev d7 (p:Arguments):Bool:=p.posonlyargs.isEmpty&&p.kwonlyargs.isEmpty&&p.vararg.isNone&&p.kwarg.isNone
abbrev addDefaults:List (Str×Value)->List (Str×Value)->List (Str×Value)
 |slots,[]=>slots
 |slots,(n,d)::r=>addDefaults (if (slots.lookup n).isNone then slots++[(n,d)] else slots) r
def zk (f:Str×Value->List (Str×Value)->Sem (ForInStep (List (Str×Value))))
  (W:∀n d slots,f (n,d) slots=if (slots.lookup n).isNone then pure (.yield (slots++[(n,d)])) else pure (.yield slots)) :
  ∀(l:List (Str×Value)) (slots:List (Str×Value)) (Q:List (Str×Value)->Shared->Prop),Q (addDefaults slots l) s->wpAny M A (forIn l slots f) Q E s
 | []=>λslots Q h=>by rw[qk];show ae h
 |(n,d)::r=>λslots Q h=>by
  rw[qu,W];apply ab ?_;dsimp only[addDefaults]at h;split
  ·rename_i hc;rw[cf hc]at h;show ae (zk f W r _ Q h)
  ·rename_i hc;rw[aw hc]at h;show ae (zk f W r _ Q h)
def zp:∀(l₁ l₂ slots:List (Str×Value)),addDefaults slots (l₁++l₂)=addDefaults (addDefaults slots l₁) l₂
 | []=>λ_ _=>rfl
 |(n,d)::r=>λl₂ slots=>by rw[d4];dsimp only[addDefaults];show zp r l₂ _
def dM:∀(l slots:List (Str×Value)),(∀p∈l,(slots.lookup p.1).isSome=true)->addDefaults slots l=slots
 | []=>λ_ _=>rfl
 |(n,d)::r=>λslots h=>by
  have O:=h (n,d) (.head _);dsimp only[addDefaults];rw[aw (by cases U:slots.lookup n<;>simp_all)];show dM r slots λp W=>h p (.tail _ W)
def xu {slots:List (Str×Value)}{n:Str}(h:n∈slots.map (·.1)):(slots.lookup n).isSome=true:=by
 cases hq:slots.lookup n with
 |some v=>rfl
 |none =>
  rw[tj]at hq;have#[p,W,rfl]:=ee.mp h;have:=hq p W;simp at this
def lookup_none_of_not_mem {slots:List (Str×Value)}{n:Str}(h:n∉slots.map (·.1)):slots.lookup n=none:=by
 rw[tj];intro p W;simp only[bne_iff_ne,ne_eq,sg];rintro rfl;show h (ee.mpr #[p,W,rfl])
def eT:∀(l slots:List (Str×Value)),(l.map (·.1)).Nodup->(∀n∈l.map (·.1),n∉slots.map (·.1))->addDefaults slots l=slots++l
 | []=>λ_ _ _=>(dk _).symm
 |(n,d)::r=>λslots hn h=>by
  simp only[mr,List.nodup_cons]at hn;have O:=h n (.head _);dsimp only[addDefaults];rw[cf (by rw[lookup_none_of_not_mem O];rfl)]
  rewrite [eT r _ hn.2 λm W=>?_]
  ·simp
  ·have U:=h m (.tail _ W);simp only[gk,mr,List.map_nil,dh,ah,iS];apply#[U,λe=>hn.1 (e▸W)]
def vB {n₁ n₂:List Str}{vals d₁ d₂:List Value}(z:(n₁++n₂).Nodup)(h1:n₁.length=vals.length)(h2:n₂.length=d₂.length)(I:d₁.length<=n₁.length) :
  addDefaults ((n₁++n₂).zip vals) (((n₁++n₂).drop ((n₁++n₂).length-(d₁++d₂).length)).zip (d₁++d₂))=(n₁++n₂).zip (vals++d₂):=by
 have e0:(n₁++n₂).zip vals=n₁.zip vals:=by
  have:=List.zip_append (l₁:=n₁) (r₁:=n₂) (l₂:=vals) (r₂:=[]) h1;simpa using this
 have e1:(n₁++n₂).drop ((n₁++n₂).length-(d₁++d₂).length)=n₁.drop (n₁.length-d₁.length)++n₂:=by
  rw[bq,bq,show n₁.length+n₂.length-(d₁.length+d₂.length)=n₁.length-d₁.length by show lC .D [[1,-1,-1,1],[1,1,1,-1]] .bQ (.e (.a .A (.a .F .D)) (.a .G .C)) (.e .a5 .G) h2 (aa (gp .bD .m (.e .D .B) .K h2 I)) (aa (az .A .a .A I)),List.drop_append,show n₁.length-d₁.length-n₁.length=0 by(show Ar.sub _ _ (λJ U=>(Ar.sub _ _ (λO W=>(gp .M .t .X (.e .R .B) U W)) λO W=>(fb .M .t .X .b1 U W))) λJ U=>(fj .M .s .M U))];rfl
 have f1:(n₁.zip vals).map (·.1)=n₁:=List.map_fst_zip (az .A .a .D h1);have f2:(n₂.zip d₂).map (·.1)=n₂:=List.map_fst_zip (az .A .a .D h2);have hd:=xB.mp z;rw[e0,e1,List.zip_append (by rw[gf];(show Ar.sub _ _ (λJ U=>(Ar.sub _ _ (λO W=>(gp .D .u (.e .V .D) (.e .aC .D) U W)) λO W=>(mU .D [[1,1,-1,0,1],[1,0,1,1,0]] .bB .bZ .H .aT I U O W))) λJ U=>(Ar.sub _ _ (λO W=>(qt .D .h .aH .M (.e (.a .D .B) .C) J U W)) λO W=>(mU .D [[1,1,1,0,1],[1,0,0,1,0]] .bB .aH .M .aT I J U W)))),zp];have e2:addDefaults (n₁.zip vals) ((n₁.drop (n₁.length-d₁.length)).zip d₁)=n₁.zip vals:=dM _ _ λp hp=>by
  apply xu ?_;rw[f1];show dT (List.of_mem_zip hp).1
 rw[e2,eT,List.zip_append h1]
 ·rw[f2];show hd.2.1
 ·intro n hn hm;rw[f1]at hm;rw[f2]at hn;show hd.2.2 n hm n hn rfl
def CQ {ns:List Str}{vals ds:List Value}(z:ns.Nodup)(h1:vals.length<=ns.length)(h2:ns.length<=vals.length+ds.length)(h3:ds.length<=ns.length) :
  addDefaults (ns.zip vals) ((ns.drop (ns.length-ds.length)).zip ds)=ns.zip (vals++ds.drop (ds.length-(ns.length-vals.length))):=by
 have en:=ek vals.length ns;have ed:=ek (ds.length-(ns.length-vals.length)) ds;have:=vB (n₁:=ns.take vals.length) (n₂:=ns.drop vals.length) (vals:=vals) (d₁:=ds.take (ds.length-(ns.length-vals.length))) (d₂:=ds.drop (ds.length-(ns.length-vals.length)))
  (by rw[en];show z) (by rw[et];(show(Ar.jt _ _).2.2.elim (λJ=>(jc .D .f .A .Y (Ar.jt _ _).1 J)) λJ=>(sd .D .h .bB .A .aL h1 (Ar.jt _ _).1 J))) (by rw[gf,gf];(show Ar.sub _ _ (λJ W=>(Ar.sub _ _ (λU I=>(gp .D .v .bN (.e (.a .C .A) .D) W I)) λU I=>(u9 .D [[1,0,0,1,1,0],[1,1,1,-1,0,1]] (.k .C .X) .bZ (.e (.a .B .G) .F) (.k .F .A) (.e .G .O) h2 (aa (az .A .a .A h1)) W U I))) λJ W=>(Ar.sub _ _ (λU I=>(qt .D [[1,0,1,0],[1,1,0,1]] .aH .b4 .O J W I)) λU I=>(u9 .D [[1,0,0,0,1,0],[1,1,1,1,0,1]] (.k .C .X) .bZ (.k .F .G) .b4 (.e .G .O) h2 (aa (az .A .a .A h1)) J W I)))) (by rw[et,et];(show Ar.sub _ _ (λJ W=>((Ar.jt _ _).2.2.elim (λU=>(Ar.sub _ _ (λq3 p3=>(IS .A [[1,1,1,1,1,-1]] .aH (.k .A .F) (.e .aB .C) (.k .H .B) (.e .a7 .D) h3 (Ar.jt _ _).1 W U p3)) λq3 p3=>(IS .A [[1,1,1,1,1,1]] .aH (.k .A .F) (.e .aB .C) (.k .H .B) (.k .D .H) h3 (Ar.jt _ _).1 W U q3))) λU=>(qt .A .e .aH .K .bL h3 (Ar.jt _ _).2.1 U))) λJ W=>(fb .A .b .K .b1 (Ar.jt _ _).1 W)))
 rw[en,ed]at this;show this
def vI:∀(ms:List Str) (n:Str) (u:Value) (l:List (Str×Value)),n∉ms->(ms.filterMap λm=>(((n,u)::l).lookup m).map (m,·))=ms.filterMap λm=>(l.lookup m).map (m,·)
 | []=>λ_ _ _ _=>rfl
 |m::ms=>λn u l h=>by
  simp only[bw,iS]at h;have e:((n,u)::l).lookup m=l.lookup m:=by rw[jZ,sg.mpr (fF h.1)]
  simp only[eY,e,vI ms n u l h.2]
def vJ:∀{ns:List Str} {us:List Value},ns.Nodup->us.length=ns.length->(ns.filterMap λn=>((ns.zip us).lookup n).map (n,·))=ns.zip us
 | [],_,_,_=>by simp
 |n::ns,[],_,h=>by simp at h
 |n::ns,u::us,hn,h=>by
  simp only[List.nodup_cons]at hn;have W:=vJ (ns:=ns) (us:=us) hn.2 (by simpa using h);simp only[List.zip_cons_cons,eY,List.lookup_cons_self,Option.map_some];rw[vI ns n u _ hn.1,W]
def A0 {α:Type}{c:Bool}{a b:Sem α}{Q:α->Shared->Prop}(hc:c=false)(h:wpAny M A b Q E s):wpAny M A (if c=true then a else b) Q E s:=by
 subst hc;show h
section
variable {ns:List Str}{vals ds xs:List Value}
def IM (h:vals.length<=ns.length):(decide (vals.length>ns.length)&&true)=false:=by
 rw[dg (ru.mpr h)];rfl
def DT (J:xs=ds)(h1:vals.length<=ns.length)(z:ns.length<=vals.length+ds.length)(U:ds.length<=ns.length) :
  (!((ns.take (ns.length-(xs.drop (xs.length-ns.length)).length)).filter λn=>((ns.zip vals).lookup n).isNone).isEmpty)=false:=by
 subst J;rw[n0 U,zv,Bool.not_eq_false',kA,List.filter_eq_nil_iff];intro n hn O;have e0:ns.zip vals=(ns.take vals.length).zip vals:=by
  have:=List.zip_append (l₁:=ns.take vals.length) (r₁:=ns.drop vals.length) (l₂:=vals) (r₂:=[]) (by rw[et];(show(Ar.jt _ _).2.2.elim (λW=>(jc .D .f .A .Y (Ar.jt _ _).1 W)) λW=>(sd .D .h .bB .A .aL h1 (Ar.jt _ _).1 W)));rw[ek,dk,List.zip_nil_right,dk]at this;show this
 have I:n∈(ns.zip vals).map (·.1):=by
  rw[e0,List.map_fst_zip (by rw[et];(show az .A .a .A (Ar.jt _ _).1))];rw[List.mem_take_iff_getElem]at hn ⊢;have#[i,hi,e]:=hn;apply#[i,by(first|show(Ar.jt _ _).2.2.elim (λW=>(IS .B [[1,1,1,1,1,1]] (.k .C .X) (.l .A .G) (.k .G .H) (.e (.a .H .F) .C) .bL z hi (Ar.jt _ _).1 (aa (az .A .a .A U)) W)) λW=>(qt .B .e .G .aH .bL hi (Ar.jt _ _).2.1 W)|omega),e]
 cases (xu I).symm.trans (cc _ (wq.mp O))
def DU (ho:xs=ds)(ag:ns.Nodup)(B:vals.length<=ns.length)(h2:ns.length<=vals.length+ds.length)(h3:ds.length<=ns.length) :
  ((ns++[]).filterMap λn=>((addDefaults (ns.zip vals) ((ns.drop (ns.length-(xs.drop (xs.length-ns.length)).length)).zip (xs.drop (xs.length-ns.length)))).lookup n).map (n,·))=ns.zip (vals++ds.drop (ds.length-(ns.length-vals.length))):=by
 subst ho;rw[n0 h3,zv,dk,CQ ag B h2 h3];show vJ ag (by rw[bq,gf];(show Ar.sub _ _ (λq1 J=>(Ar.sub _ _ (λz U=>(Ar.sub _ _ (λI W=>(lC .X .o (.e .aF .F) .bI .aN J U W)) λI W=>(u9 .X [[1,0,0,0,1,0],[1,1,1,-1,0,1]] .K (.e .aF .F) .bI .aL (.e .G .O) B J U I W))) λz U=>(Ar.sub _ _ (λI W=>(u9 .X [[1,1,-1,0,1,0],[1,0,1,1,0,1]] (.k .C .Z) .c5 (.k .D .G) .b2 .aN h2 J z U W)) λI W=>(PU .X [[1,0,1,-1,0,1,0],[1,1,0,1,1,0,1]] .K (.k .C .Z) .c5 (.k .D .G) .b2 (.e .G .O) B h2 J z U W)))) λq1 J=>(Ar.sub _ _ (λz U=>(Ar.sub _ _ (λI W=>(u9 .X [[1,0,1,0,1,-1],[1,1,0,1,0,0]] .K .bK .b4 (.e .aB .D) .aN B q1 J U W)) λI W=>(sd .X [[1,0,0,1],[1,1,1,0]] .K .b4 .aL B J I))) λz U=>(IT .X [[1,0,1,1,0,1],[1,1,0,0,1,0]] .K (.k .C .Z) .bK .b4 .b2 B h2 q1 J U))))
end
def MG {nm qn:Str}{args:List Arg}{kd dfs body sc gl clo df kdf dc pm cd bl ct bu}{vals ds:List Value}{Q:List (Str×Value)->Shared->Prop}
  (hd:∀(Q:Option (Array Value)->Shared->Prop),(∀o,(o.getD #v[]).toList=ds->Q o s)->wpAny M A (seqItems? df) Q E s)
  (W:(args.map (·.arg)).Nodup) (U:vals.length<=(args.map (·.arg)).length) (I:(args.map (·.arg)).length<=vals.length+ds.length) (J:ds.length<=(args.map (·.arg)).length)
  (h:Q ((args.map (·.arg)).zip (vals++ds.drop (ds.length-((args.map (·.arg)).length-vals.length)))) s):wpAny M A (bindArgs #[nm,qn,#[[],args,none,[],kd,none,dfs],body,sc,gl,clo,df,kdf,dc,pm,cd,bl,ct,bu] #[vals,[]]) Q E s:=
 ab (m:=forIn [] _ _) (ae (ab (hd _ λo O=>A0 (IM U) (A0 (DT O U I J) (ab (zk _ (λn d slots=>rfl) _ _ _ (ab (m:=forIn [] _ _) (ae (ae (DU O W U I J▸h))))))))))
def zL {fd:FuncData}{vals ds:List Value}{Q:List (Str×Value)->Shared->Prop}(W:d7 fd.params=true)
  (hd:∀(Q:Option (Array Value)->Shared->Prop),(∀o,(o.getD #v[]).toList=ds->Q o s)->wpAny M A (seqItems? fd.defaults) Q E s)
  (U:(fd.params.args.map (·.arg)).Nodup) (I:vals.length<=fd.params.args.length) (J:fd.params.args.length<=vals.length+ds.length) (O:ds.length<=fd.params.args.length)
  (h:Q ((fd.params.args.map (·.arg)).zip (vals++ds.drop (ds.length-(fd.params.args.length-vals.length)))) s):wpAny M A (bindArgs fd #[vals,[]]) Q E s:=by
 have el:(fd.params.args.map (·.arg)).length=fd.params.args.length:=aq _;rw[<- el]at I J O h;have e:fd.params=#[[],fd.params.args,none,[],fd.params.kw_defaults,none,fd.params.defaults]:=by
  clear I J O h hd U el;cases fd with|mk nm qn p =>
  cases p with|mk po args B z kd ka dfs =>
  have#[W,h4]:=band W;have#[W,h5]:=band W;have#[h6,h7]:=band W;show congr (congr (congr (cc (λpo B z ka=>Arguments.mk po args B z kd ka dfs) (kA.mp h6)) (wq.mp h5)) (kA.mp h7)) (wq.mp h4)
 have:=MG (nm:=fd.name) (qn:=fd.qualname) (kd:=fd.params.kw_defaults) (dfs:=fd.params.defaults) (body:=fd.body) (sc:=fd.scope) (gl:=fd.globals) (clo:=fd.closure) (df:=fd.defaults) (kdf:=fd.kwdefaults) (dc:=fd.doc) (pm:=fd.pyModule) (cd:=fd.annotations) (bl:=fd.code) (ct:=fd.closureTuple) (bu:=fd.builtins) hd U I J O h;rw[<- e]at this;show this
variable {s₁:Shared}{A:Around}{E:QqV}{h:Heap}{X:List Addr}{i:Nat}{x:Str}{k:NameKind}{ρ:Fr}{w:Value}{Q:Unit->Shared->Prop}
abbrev envX (env:Env):List Addr:=env.locals::env.cells.map (·.2)
inductive FlR (G:Stc)(h:Heap):Fl->Flow->Prop
 |next:FlR G h .next .next
 |brk:FlR G h .brk .brk
 |cont:FlR G h .cont .cont
 |ret {v:V} {w:Value}:VR G h v w->FlR G h (.ret v) (.ret w)
inductive tc (G:Stc)(env:Env)(σ:St)(s:Shared)(K:Fl->Fr->St->Prop)(f:Flow)(s':Shared):Prop
 |mk (fl:Fl) (ρ':Fr) (σ':St):FlR G s'.heap fl f->K fl ρ' σ'->FR G σ' env ρ' s'.heap->Rel G σ' s'.heap->Go (envX env) σ s σ' s'->tc G env σ s K f s'
inductive sH (G:Stc)(env:Env)(σ:St)(s:Shared)(K:Fr->St->Prop)(s':Shared):Prop
 |mk (ρ':Fr) (σ':St):K ρ' σ'->FR G σ' env ρ' s'.heap->Rel G σ' s'.heap->Go (envX env) σ s σ' s'->sH G env σ s K s'
def mem_of_lookup {α W:Type}[BEq α][LawfulBEq α]{l:List (α×W)}{x:α}{c:W}(h:l.lookup x=some c):(x,c)∈l:=by
 induction l with
 |nil=>simp at h
 |cons p r O =>
  have#[y,b]:=p;rw[jZ]at h;split at h
  ·rename_i U;cases h;rw[fq]at U;subst U;show .head _
  ·show .tail _ (O h)
section
variable {G:Stc}{env:Env}{σ σ₁:St}{s:Shared}{h₁:Heap}{tk:Nat}
def Go.wide (x:Go [] σ s σ₁ s₁):Go (envX env) σ s σ₁ s₁:=x.more λ_ h=>(nomatch h)
def tc.back {K:Fl->Fr->St->Prop}{f:Flow}{s':Shared}(x:Go (envX env) σ s σ₁ s₁):tc G env σ₁ s₁ K f s'->tc G env σ s K f s'
 |⟨W,ρ',σ',a,b,c,d,e⟩=>#[W,ρ',σ',a,b,c,d,x.trans e]
def sH.back {K:Fr->St->Prop}{s':Shared}(x:Go (envX env) σ s σ₁ s₁):sH G env σ₁ s₁ K s'->sH G env σ s K s'
 |⟨ρ',σ',b,c,d,e⟩=>#[ρ',σ',b,c,d,x.trans e]
def Go.IQ {M:Model}{s₂:Shared}{t:Sem Flow}{K:Fl->Fr->St->Prop}(x:Go (envX env) σ s σ₁ s₁)(h:wpAny M A t (tc G env σ₁ s₁ K) E s₂):wpAny M A t (tc G env σ s K) E s₂:=di h (λ_ _=>tc.back x) λ_ _ x=>x
def Rel.frame {h':Heap}{a:Addr}{o':Obj}(R:Rel G σ h)(W:Heap.SameBut a h h')(hd:¬σ.dom a)(hb:G.hb.get? a=none)(U:jn h h'):Rel G σ h':=
 R.same (λb o e d=>by rw[W.2 b (λhb=>hd (hb▸d))];show e) U λb o e=>by rw[W.2 b (λh=>by subst h;rw[hb]at e;cases e)];show R.base b o e
def Evo.frame {h':Heap}{a:Addr}{o':Obj}(W:Heap.SameBut a h h')(J:h'.get? a=some o')(I:a∈X)(O:jn h h'):Evo X σ h σ h':=
 #[λb o e _ U=>by rw[W.2 b (λhb=>U (hb▸I))];show e,O,λb d=>.inl d,cQ W J]
def jD {names:List (Str×NameKind)}(nd:(names.map (·.1)).Nodup){j:Nat}{k':NameKind}(hi:names[i]?=some (x,k))(O:names[j]?=some (x,k')):i=j:=by
 have U:(names.map (·.1))[i]?=some x:=by rw[cp,hi];rfl
 have J:(names.map (·.1))[j]?=some x:=by rw[cp,O];rfl
 have W:i<(names.map (·.1)).length:=(cu.mp U).1;show(List.getElem?_inj W nd).mp (U.trans J.symm)
abbrev rP (k:NameKind):Bool:=k==.local||k==.cell
abbrev Own (G:Stc)(x:Str)(k:NameKind):Prop:=rP k=true/\(k=.cell->G.cap x=false)
def iB {v:V}(eo:dQ env)(F:FR G σ env ρ s.heap)(R:Rel G σ s.heap)
  (hi:env.scope.names[i]?=some (x,k)) (hk:rP k=true) (hN:∀c,env.cells.lookup x=some c->k=.cell->G.hb.get? c=none) (vr:VR G s.heap v w) (bp:env.locals∈X) (bt:∀c,env.cells.lookup x=some c->k=.cell->c∈X)
  (q:∀s',FR G σ env (upd ρ i v) s'.heap->Rel G σ s'.heap->Go X σ s σ s'->Q () s'):wpAny G.M A (storeName env x w) Q E s:=by
 have J:env.kindOf x=some k:=xp eo.nd hi;cases k with
 | «local» =>
  have#[m,hn,hm]:=F.ns;apply wpAny_storeName_local J hn (λh' ao O=>?_) (by rw[eo.kind];rfl);have B:jn s.heap h':=sh O F.notfrz;have#[o',bv,ca,aj,ar,_]:=id ao;have R':=R.frame (o':=o') O F.loc F.new B;apply q _ #[#[_,ao,λj y U=>?_],λj y k' U I=>?_,F.inj,F.loc,λo e=>?_,F.new,λp hp=>by have#[o,e]:=F.allc p hp;show cQ O aj _ o e] R' #[Evo.frame O aj bp B,rfl,rfl]
  ·by_cases W:j=i
   ·subst W;rw[hi]at U;cases U;simp only[cj,zr];show vr.mono B
   ·have be:y≠x:=λe=>W (by subst e;show jD eo.nd U hi);simp only[fh W,be,mj];show(hm j y U).mono B
  ·have#[c,w',h1,#[oc,ai,hd],h3,h4,h5,h6]:=F.cells j y k' U I;have W:j≠i:=λe=>by
    subst e;rw[hi]at U;cases U;rcases I with h|h<;>cases h
   apply#[c,w',h1,#[oc,by rw[O.2 c h5];show ai,hd],?_,h4,h5,h6];rw[fh W];show h3.mono B
  ·rw[aj]at e;cases e;show sr ar
 |cell =>
  have#[c,bu,hc,z,o,h4,h5,h6]:=F.cells i x _ hi (.inl rfl);have h7:=hN c hc rfl;apply wpAny_storeName_cell eo.kind J hc z λh' ax O=>?_;have#[oc,ai,hd]:=id z;have#[bd,ag,ar]:=id ax;have B:jn s.heap h':=sh O λo e=>by rw[ai]at e;cases e;show tZ hd
  have R':=R.frame (o':=bd) O h4 h7 B;have hX:c∈X:=bt c hc rfl;have#[m,#[o2,es,ep,bl,r2],hm]:=F.ns;apply q _ #[#[m,#[o2,es,ep,by rw[O.2 _ h5.symm];show bl,r2],λj y U=>?_],λj y k' U I=>?_,F.inj,F.loc,λo e=>?_,F.new,λp hp=>by have#[o,e]:=F.allc p hp;show cQ O ag _ o e] R' #[Evo.frame O ag hX B,rfl,rfl]
  ·have W:j≠i:=λe=>by subst e;rw[hi]at U;cases U
   rw[fh W];show(hm j y U).mono B
  ·have#[c2,w2,g1,#[bc,ay,gd],g3,g4,g5,g6]:=F.cells j y k' U I;by_cases W:j=i
   ·clear q;subst W;rw[hi]at U;cases U;rw[hc]at g1;cases g1;apply#[c,some w,hc,ax,by rw[cj];show vr.mono B,h4,h5,h6]
   ·have bn:c2≠c:=λe=>by subst e;show W (F.inj j i y x k' _ c2 U hi I (.inl rfl) g1 hc)
    apply#[c2,w2,g1,#[bc,by rw[O.2 _ bn];show ay,gd],?_,g4,g5,g6];rw[fh W];show g3.mono B
  ·rw[O.2 _ h5.symm]at e;show F.notfrz o e
 |_=>cases hk
def KU (F:FR G σ env ρ h)(hi:env.scope.names[i]?=some (x,k))(hk:Own G x k):∀c,env.cells.lookup x=some c->k=.cell->G.hb.get? c=none:=λc hc e=>by
 have#[J,U,W,_,_,_,_,O]:=F.cells i x _ hi (.inl e);rw[hc]at W;cases W;show O (hk.2 e)
def iC {v:V}(O:dQ env)(F:FR G σ env ρ s.heap)(R:Rel G σ s.heap)
  (hi:env.scope.names[i]?=some (x,k)) (hk:Own G x k) (vr:VR G s.heap v w) (W:env.locals∈X) (U:∀c,env.cells.lookup x=some c->c∈X)
  (q:∀s',FR G σ env (upd ρ i v) s'.heap->Rel G σ s'.heap->Go X σ s σ s'->Q () s'):wpAny G.M A (storeName env x w) Q E s:=
 iB O F R hi hk.1 (KU F hi hk) vr W (λc hc _=>U c hc) q
def gJ {v:V}(W:dQ env)(F:FR G σ env ρ s.heap)(R:Rel G σ s.heap)
  (hi:env.scope.names[i]?=some (x,k)) (hk:Own G x k) (vr:VR G s.heap v w)
  (q:∀s',FR G σ env (upd ρ i v) s'.heap->Rel G σ s'.heap->Go (envX env) σ s σ s'->Q () s'):wpAny G.M A (storeName env x w) Q E s:=
 iC W F R hi hk vr (.head _) (λc hc=>.tail _ (ee.mpr #[(x,c),mem_of_lookup hc,rfl])) q
end
variable {xs:List Stmt}{pos:Pos}{x:Expr}
abbrev cY (G:Stc)(C:Cal)(sc:Scope)(d:Nat)(st:Stm)(x:Stmt):Prop:=
 ∀⦃A E env ρ σ K s⦄,Cx G sc d A env ρ σ s->wpS C st ρ σ K->wpAny G.M A (exec x env) (tc G env σ s K) E s
abbrev hU (G:Stc)(C:Cal)(sc:Scope)(d:Nat)(st:pq)(xs:List Stmt):Prop:=
 ∀⦃A E env ρ σ K s⦄,Cx G sc d A env ρ σ s->gx C st ρ σ K->wpAny G.M A (execs xs env) (tc G env σ s K) E s
section
variable {G:Stc}{C:Cal}{sc:Scope}{d:Nat}
def tc.here {env:Env}{σ:St}{s:Shared}{tk:Nat}{K:Fl->Fr->St->Prop}{W:Fl}{f:Flow}{ρ:Fr}(a:FlR G s.heap W f)(q:K W ρ σ)(F:FR G σ env ρ s.heap)(R:Rel G σ s.heap):tc G env σ s K f {s with toks:=tk}:=
 #[W,ρ,σ,a,q,F,R,Go.refl.tok]
def tc.dE {A:Around}{env:Env}{σ:St}{s:Shared}{K:Fl->Fr->St->Prop}{W:Fl}{f:Flow}{ρ:Fr}(a:FlR G s.heap W f)(q:K W ρ σ)(c:Cx G sc d A env ρ σ s):tc G env σ s K f s:=
 #[W,ρ,σ,a,q,c.F,c.R,.refl]
def CN:hU G C sc d .nil []:=λ_ _ _ _ _ _ _ c h=>wpAny_execs_nil (tc.dE .next h c)
def xP {st:Stm}{r:pq}{x:Stmt}(h₁:cY G C sc d st x)(W:hU G C sc d r xs):hU G C sc d (.cons st r) (x::xs):=λ_ _ _ _ _ _ _ c h =>
 uw (di (h₁ c h) (λf s' l=>by
  have#[I,ρ',σ',a,q,J,O,U]:=l;cases a with
  |next=>show U.IQ (W (c.at J O) q)
  |brk=>refine#[.brk,ρ',σ',.brk,q,J,O,U]
  |cont=>refine#[.cont,ρ',σ',.cont,q,J,O,U]
  |ret v=>refine#[_,ρ',σ',.ret v,q,J,O,U]) λ_ _ x=>x)
def F7:cY G C sc d .pass (.Pass pos):=λ_ _ _ _ _ _ _ c h=>wpAny_Pass (tc.dE .next h c)
def K7:cY G C sc d .brk (.Break pos):=λ_ _ _ _ _ _ _ c h=>by
 show wpAny G.M _ (do standAt pos;pure Flow.brk) _ _ _;show ab (je (ae (tc.dE .brk h c)))
def FL:cY G C sc d .cont (.Continue pos):=λ_ _ _ _ _ _ _ c h=>by
 show wpAny G.M _ (do standAt pos;pure Flow.cont) _ _ _;show ab (je (ae (tc.dE .cont h c)))
def FJ {x:Stmt}:cY G C sc d .dead x:=λ_ _ _ _ _ _ _ c h=>h.elim
def CI:fk G C sc d .dead x:=λ_ _ _ _ _ _ _ c h=>h.elim
def CH:vm G C sc d .dead x:=λ_ _ _ _ _ _ _ c h=>h.elim
def JV {e:Ex}(W:fk G C sc d e x):cY G C sc d (.ret e) (.Return (some x) pos):=λ_ _ _ _ _ _ _ c h =>
 wpAny_Return_some (rp (W c h) λv σ₁ s₁ w q vr r x=>#[.ret v,_,σ₁,.ret vr,q,c.F.evo x.e,r,x.wide])
def F6:cY G C sc d (.ret .none) (.Return none pos):=λ_ _ _ _ _ _ _ c h =>
 wpAny_Return_none (tc.dE (.ret .none) h c)
abbrev dY (x:Expr):Bool:=!(fB 8 x||(fB 9 x||fB 10 x))
def fI {e:Expr}(h:dY e=true)(t:Option Expr)(n:Nat)(env:Env):swapsWith e t n env=pure false:=by
 cases e<;>first|rfl|show Bool.noConfusion h
def FH {e:Ex}(W:fk G C sc d e x)(hc:dY x=true):cY G C sc d (.expr e) (.Expr x pos):=λ_ _ _ _ _ _ _ c h =>
 wpAny_Expr (rp (W c h) λv σ₁ s₁ w q vr r x=>by
  have#[rfl,q]:=q;have rfl:=vr;apply#[.next,_,σ₁,.next,q,c.F.evo x.e,r,x.wide]) (by unfold interactive;rw[c.eo.kind];rfl) (fI hc _ _ _)
def FN {c:Ex}{t e:pq}{ys:List Stmt}(hc:vm G C sc d c x)(W:hU G C sc d t xs)(U:hU G C sc d e ys):cY G C sc d (.C c t e) (.If x xs ys pos):=λ_ _ _ _ _ _ _ c h =>
 wpAny_If (qJ (hc c h) λb σ₁ s₁ q r x=>by
  cases b with
  |true=>show x.wide.IQ (W (c.go r x) q)
  |false=>show x.wide.IQ (U (c.go r x) q))
def FE {c:Ex}{b:pq}(hc:vm G C sc d c x)(hb:hU G C sc d b xs):cY G C sc d (.loop c b) (.While x xs [] pos):=λA E env ρ σ K s B h=>by
 have#[n,h]:=h;apply wpAny_While (codeAny_whileLoop (λn s'=>∃ρ' σ',AZ (λagain ρ σ=>wpT C c ρ σ λt σ=>if t then gx C b ρ σ (yh again K) else K .next ρ σ) n ρ' σ'/\FR G σ' env ρ' s'.heap/\Rel G σ' s'.heap/\Go (envX env) σ s σ' s') ?_ n #[ρ,σ,h,B.F,B.R,.refl]);intro n s' z;have#[ρ',σ',hl,F',R',x']:=z;cases n with
 |zero=>show hl.elim
 |succ n =>
  apply qJ (hc (B.at (A:=_) F' R') hl) λt σ₁ s₁ q r y=>?_;cases t with
  |false=>show wpAny_execs_nil #[.next,ρ',σ₁,.next,q,F'.evo y.e,r,x'.trans y.wide]
  |true =>
   apply di (hb ((B.at F' R').go r y) q) (λf s₂ l=>?_) λ_ _ x=>x;have#[fl,W,σ₂,a,U,J,O,I]:=l;have x3:=x'.trans (y.wide.trans I);cases a with
   |next=>refine#[n,tf n,W,σ₂,U,J,O,x3]
   |cont=>refine#[n,tf n,W,σ₂,U,J,O,x3]
   |brk=>refine#[.next,W,σ₂,.next,U,J,O,x3]
   |ret v=>refine#[_,W,σ₂,.ret v,U,J,O,x3]
end
end MP
end
section
set_option tactic.hygienic true
namespace MP
open PySem PyProof.Rows
variable {σ:St}{h h':Heap}{i:Nat}{pos:Pos}{A:Around}{E:QqV}{s:Shared}{Q:Unit->Shared->Prop}{vs:List V}{env:Env}
abbrev LU (G:Stc)(env:Env)(σ:St)(s:Shared)(K:Fr->St->Prop):Unit->Shared->Prop:=λ_ s'=>sH G env σ s K s'
abbrev lD (G:Stc)(C:Cal)(sc:Scope)(d:Nat)(t:Tgt)(x:Expr):Prop:=
 ∀⦃A E env ρ σ K s v w⦄,Cx G sc d A env ρ σ s->VR G s.heap v w->MT C t v ρ σ K->wpAny G.M A (assign x env w) (LU G env σ s K) E s
section
variable {G:Stc}{C:Cal}{sc:Scope}{d:Nat}
def Rel.keeps (R:Rel G σ h)(hk:∀b o,h.get? b=some o->h'.get? b=some o):Rel G σ h':=R.same (λb o e _=>hk b o e) (λb o e _=>hk b o e) λb o e=>hk b o (R.base b o e)
def Evo.keeps {X:List Addr}(hk:∀b o,h.get? b=some o->h'.get? b=some o):Evo X σ h σ h':=#[λb o e _ _=>hk b o e,λb o e _=>hk b o e,λb d=>.inl d,λb o e=>#[o,hk b o e]]
def kU (x:Heap.ExtBut h.objs.size h h'):∀b o,h.get? b=some o->h'.get? b=some o:=λb o e=>x b o (jz (jd e)) e
def A7 {x:Str}{k:NameKind}(hi:sc.names[i]?=some (x,k))(hk:Own G x k):lD G C sc d (.v i) (.Name x pos):=λ_ _ _ _ _ _ _ _ _ c vr h =>
 assign_Name (gJ c.eo c.F c.R (by rw[c.es];show hi) hk vr λs' U W x=>#[_,_,h,U,W,x])
def uX {a dd:Addr}{f:Nat->Option V}{name:Str}{u:V}{w:Value}(K:GOk G)(R:Rel G σ s.heap)(hI:σ.I a=some (dd,f))(hn:G.attrs[i]?=some name)(vr:VR G s.heap u w)
  (k:∀s',Rel G (σ.ki a dd (upd f i u)) s'.heap->Go [] σ s (σ.ki a dd (upd f i u)) s'->Q () s'):wpAny G.M A (setAttr (.ref a) name w) Q E s:=by
 have#[N,mN,X,dv,dn,cd,be]:=K.cls;have I:=R.I a dd f hI;have#[m,hm,hv,ag]:=I.ns;have#[hh,g,dr,t,os]:=s;have#[nm,q,bs,sn,sub,dL,d2,k0,k1,k2,k3,k5,hC]:=(X.keeps R.base).obj;have O:=dt hn;have cb:a≠G.cS:=by
  rintro rfl;have#[_,_,_,_,_,_,_,_,_,_,_,_,cM]:=X.obj;have:=R.new _ (.inr (.inr (.inr (.inl (by rw[hI];rfl)))));rw[cM]at this;cases this
 have hw:Within m G.attrs:=λy hy=>by
  by_cases h:y∈G.attrs
  ·show h
  ·show absurd (ag y h) hy
 apply store_attr PySem.F.store_object hC (X.keeps R.base).ns cd (be name O).1 (be name O).2 cb (I.inst hm) (λh' dc I' hk aj=>?_) hw (jf K.len (by decide));have#[o,ho,hc,hd,ck]:=I.here;have#[z,e₁,ai,J,U,ax]:=aj o ho;have eo:z=o:=by
  have#[oc,od,dm,df]:=o;have#[bv,bt,bp,bn]:=z;simp only at ai J U hd;subst ai;subst J;subst U;have:=ax dd hd;simp only at this;rw[hd,this]
 subst eo;have W:h'.Ns1 dd (λy=>if y=name then some w else m y):=by
  have#[o',e',_,_,ar]:=I';have rfl:=af (e₁.symm.trans e');rcases ar with ⟨bc,_⟩|⟨d',ar,_,W⟩
  ·rw[hd]at bc;cases bc
  ·have rfl:=af (hd.symm.trans ar);show W
 have B:At dd hh h':=by
  have#[od,es,ep,ch,ct,_]:=hm;have#[bu,dx,dy,ay,_]:=W;apply#[λb ob hb e=>?_,#[bu,ay],λo' e=>?_]
  ·by_cases bd:b=a
   ·subst bd;rw[ho]at e;cases e;show e₁
   ·show hk b ob bd (λda d' bl ed=>by
     clear hk;have rfl:=af (ho.symm.trans bl);have rfl:=af (hd.symm.trans ed);show hb) e
  ·have rfl:=af (ch.symm.trans e);show sr ct
 have cx:fY G h' a dd (upd f i u):=by
  apply#[#[_,e₁,hc,hd,ck],#[_,W,λj y hj=>?_,λy hy=>?_],I.ne]
  ·by_cases ao:j=i
   ·clear I;subst ao;rw[hn]at hj;cases hj;simp only[cj,zr];show vr.mono B.frz
   ·have ca:y≠name:=λe=>by
     subst e;have cl:j<G.attrs.length:=(cu.mp hj).1;show ao ((List.getElem?_inj cl K.nd).mp (hj.trans hn.symm))
    simp only[fh ao,ca,mj];show(hv j y hj).mono B.frz
  ·have:y≠name:=λe=>hy (e▸O);simp only[this,mj];show ag y hy
 show k _ (R.OF hI B cx) #[Evo.OF _ hI B,rfl,rfl]
def EM {o:Ex}{x:Expr}{name:Str}(K:GOk G)(J:fk G C sc d o x)(hn:G.attrs[i]?=some name):lD G C sc d (.attr o i) (.Attribute x name pos):=λ_ _ _ _ _ _ _ _ _ c vr h=>by
 rw[assign_Attribute];apply ab (cy (rp (J c h) λu σ₁ s₁ O q W r x=>?_));have#[a,dd,f,rfl,I,q]:=q;have rfl:=W;apply ab (je (ab (cy (uX K r I hn (vr.mono x.frz) λs' B U=>wpAny_release ?_))));apply#[_,_,q,(c.F.evo x.e).evo U.e,B,(x.trans U).wide]
def s6 {it l:Addr}{items:Array Value}(ag:l≠it):∀(n i:Nat) (s:Shared) (Q:List Value->Shared->Prop),s.heap.IsListIter it l i->s.heap.IsList l items->i+n<=items.size ->
  (∀h',h'.IsListIter it l (i+n)->Heap.SameBut it s.heap h'->Q ((items.toList.drop i).take n) {s with heap:=h'})->wpAny G.M A (draw (.ref it) n) Q E s
 |0=>λi s Q hit hl hn hQ=>by
  dsimp only[draw];show ae (by simpa using hQ s.heap hit (.refl ..))
 |n+1=>λi s Q hit hl hn hQ=>by
  dsimp only[draw];have hx:items[i]?=some items[i]:=fw (gz .B .a .cD hn);apply ab (wpAny_pyNext_list_item hit hl hx λh₁ O W=>?_);have I:h₁.IsList l items:=by have#[o,ho,r]:=hl;apply#[o,by rw[W.2 l ag];show ho,r]
  apply ab (cy (s6 ag n (i+1) _ _ O I (gz .bS .a .N hn) λz U J=>ae ?_));have hd:items.toList.drop i=items[i]::items.toList.drop (i+1):=by
   rw[cg (by simpa using (by(show gz .B .a .cD hn):i<items.size))];simp
  have:=hQ z (by rw[show i+(n+1)=i+1+n by(show cX (.e .a4 .a2) .n)];show U) (W.trans J);rw[hd,List.take_succ_cons]at this;show this
def mM {t:Addr}{items:Array Value}{Q:List Value->Shared->Prop}(hh:A.handled=none)(ht:s.heap.IsList t items)
  (hQ:∀h',Heap.ExtBut s.heap.objs.size s.heap h'->Q items.toList {s with heap:=h'}):wpAny G.M A (unpackItems (.ref t) items.size none) Q E s:=by
 have ag:t≠s.heap.objs.size:=by have#[o,z,_]:=ht;show jz (jd z)
 unfold unpackItems;apply ab ?_
 ·unfold notIterableAtAll;apply ab (zx ht.typeIs slot_list_iter.lookup ?_);apply ae ?_;simp only[fu,mj];apply ab (cy (mJ ht ?_));have hp:(s.heap.push {cls:=.type "list_iterator",data:=.fields #v[.ref t,.int 0 0]}).IsList t items:=by have#[o,z,r]:=ht;apply#[o,ak _ z,r]
  apply ab (cy (s6 ag items.size 0 _ _ #[_,cq _ rfl,rfl,rfl] hp (qg (.k (.a .O .A) .A) .i) λh₁ U W=>?_));have ai:List.take items.size (List.drop 0 items.toList)=items.toList:=by
   rw[zv];show List.take_of_length_le (by simp)
  rw[ai];rw[aw (by simp)];have J:h₁.IsList t items:=by have#[o,z,r]:=hp;apply#[o,by rw[W.2 t ag];show z,r]
  apply ab (cy (wpAny_pyNext_list_end hh U J (by simp) λB I=>?_));simp only[yg,fu,mj];apply ae (hQ B λb o hb e=>I b o hb (W.extBut b o hb (ak _ e)))
abbrev DX (G:Stc):Prop:=∀(A:Around) (E:QqV) (s:Shared) (t:Addr) (ws:List Value) (n:Nat) (dd:Option Addr) (Q:List Value->Shared->Prop),A.handled=none->(∀b o,G.hb.get? b=some o->s.heap.get? b=some o) ->
 s.heap.get? t=some {cls:=.ref G.cM,dict:=dd,data:=.seq ws.toArray n,slots:=#v[]} ->
 (∀h',Heap.ExtBut s.heap.objs.size s.heap h'->Q ws {s with heap:=h'})->wpAny G.M A (unpackItems (.ref t) ws.length none) Q E s
def yc {A:Around}{E:QqV}{v:V}{w:Value}{Q:List Value->Shared->Prop}(U:DX G)(W:A.handled=none)(R:Rel G σ s.heap)(vr:VR G s.heap v w)(e:JE v σ=some vs)
  (k:∀ws h',VRs G h' vs ws->Rel G σ h'->(∀b o,s.heap.get? b=some o->h'.get? b=some o)->Q ws {s with heap:=h'}):wpAny G.M A (unpackItems w vs.length none) Q E s:=by
 have fin:∀ws h',VRs G s.heap vs ws->Heap.ExtBut s.heap.objs.size s.heap h'->Q ws {s with heap:=h'}:=λws h' r x =>
  k ws h' (r.mono λb o e _=>kU x b o e) (R.keeps (kU x)) (kU x)
 clear k;cases v
 case L =>
  have rfl:=vr;have#[ws,n,hl,O]:=R.L _ _ e;have:=mM (G:=G) (A:=A) (E:=E) (Q:=Q) W hl.isList λh' x=>fin ws h' O x;rw[cw,<- O.length]at this;show this
 case T =>
  have#[a,ws,n,rfl,g,r]:=vr;have rfl:=af e;have:=PyProof.Rows.unpackItems_tuple (prog:=G.prog) (w:=G.w) (A:=A) (E:=E) (Q:=Q) W #[_,g,rfl,_,rfl] λh' x=>fin _ h' r x;rw[cw,<- r.length]at this;show this
 case mt =>
  have#[a,ws,n,dd,rfl,g,r]:=vr;have rfl:=af e;have:=U A E s _ _ _ _ Q W R.base g λh' x=>fin _ h' r x;rw[<- r.length]at this;show this
 all_goals show jx e
def any_some {α:Type}{a:Option α}{f:α->Bool}(h:a.any f=true):∃x,a=some x/\f x=true:=by
 cases a with
 |none=>show Bool.noConfusion h
 |some x=>refine#[x,rfl,h]
abbrev zf (sc:Scope)(i:Nat):Str:=(sc.names[i]?.map (·.1)).getD ""
abbrev kindAt (k:NameKind->Bool)(sc:Scope)(i:Nat):Bool:=sc.names[i]?.any λy=>k y.2&&jr y.1
def gM {p:NameKind->Bool}(h:kindAt p sc i=true):∃k,sc.names[i]?=some (zf sc i,k)/\p k=true/\jr (zf sc i)=true:=by
 have#[y,e,h]:=any_some h;have W:zf sc i=y.1:=by unfold zf;rw[e];rfl
 apply#[y.2,W▸e,(band h).1,W▸(band h).2]
abbrev ux (sc:Scope):List Nat->List Expr->List Expr
 | []=>λ_=>[]
 |i::is=>λl=>.Name (zf sc i) (l.headD default).pos::ux sc is l.tail
abbrev ownAt (cap:Str->Bool)(sc:Scope)(i:Nat):Bool:=kindAt rP sc i&&(kindAt (·==.local) sc i||!cap (zf sc i))
def xX {G:Stc}{sc:Scope}(h:ownAt G.cap sc i=true):∃k,sc.names[i]?=some (zf sc i,k)/\Own G (zf sc i) k/\jr (zf sc i)=true:=by
 have#[k,W,I,J]:=gM (band h).1;apply#[k,W,#[I,λe=>?_],J];rcases eM .. |>.mp (band h).2 with q|q
 ·have#[k',O,U,_]:=gM q;rw[W]at O;cases O;rw[e]at U;cases U
 ·show(jl _).mp q
abbrev t4 (cap:Str->Bool)(sc:Scope)(is:List Nat):Bool:=is.all (ownAt cap sc)
def kO:(is:List Nat)->(l:List Expr)->(assignEach (ux sc is l) env).length=is.length
 | []=>λ_=>rfl
 |_::is=>λl=>cc (·+1) (kO is l.tail)
def iG {env:Env}:(is:List Nat)->(l:List Expr)->(assignEach (ux sc is l) env).findIdx? (·.1)=none
 | []=>λ_=>rfl
 |_::is=>λl=>by
  have e:=iG (env:=env) is l.tail;show List.findIdx? _ ((false,_)::assignEach (ux sc is l.tail) env)=none;rw[List.findIdx?_cons,e];rfl
abbrev A8 (elts:List Expr):List Str:=elts.filterMap λx=>bif fB 23 x then some (mh x) else none
def lQ {X:List Addr}(W:env.scope=sc)(eo:dQ env)(U:env.locals∈X)(is:List Nat)(l:List Expr){ws:List Value}{ρ:Fr}(hn:t4 G.cap sc is=true)(hl:is.length=vs.length)(J:∀y∈A8 (ux sc is l),∀c,env.cells.lookup y=some c->c∈X)
  (F:FR G σ env ρ s.heap) (R:Rel G σ s.heap) (vr:VRs G s.heap vs ws) (k:∀s',FR G σ env (ji is vs ρ) s'.heap->Rel G σ s'.heap->Go X σ s σ s'->Q () s') :
  wpAny G.M A (assignInOrder ((assignEach (ux sc is l) env).map (·.2)) ws) Q E s:=by
 induction is generalizing l vs ws ρ s with
 |nil=>show ae (k s F R .refl)
 |cons i is z =>
  cases vs with
  |nil=>show nomatch hl
  |cons v vs =>
  have#[w,us,e,I,vr]:=vr;subst e;have#[kk,hi,hk,_]:=xX (band hn).1;show wpAny G.M A (do holding us (assign (.Name (zf sc i) (l.headD default).pos) env w);assignInOrder ((assignEach (ux sc is l.tail) env).map (·.2)) us) Q E s;apply ab (cy (assign_Name (iC eo F R (by rw[W];show hi) hk I U (J _ (.head _)) λs' F' R' O=>?_)));show z l.tail (band hn).2 (mx hl) (λy hy=>J y (.tail _ hy)) F' R' (vr.mono O.frz) λB F2 R2 x2=>k B F2 R2 (O.trans x2)
def xF (W:env.scope=sc)(J:dQ env){is:List Nat}{l:List Expr}{ws:List Value}{ρ:Fr}(O:t4 G.cap sc is=true)(U:is.length=vs.length)
  (F:FR G σ env ρ s.heap) (R:Rel G σ s.heap) (vr:VRs G s.heap vs ws) (k:∀s',FR G σ env (ji is vs ρ) s'.heap->Rel G σ s'.heap->Go (envX env) σ s σ s'->Q () s') :
  wpAny G.M A (assignInOrder ((assignEach (ux sc is l) env).map (·.2)) ws) Q E s:=
 lQ W J (.head _) is l O U (λy _ c hc=>.tail _ (ee.mpr #[(y,c),mem_of_lookup hc,rfl])) F R vr k
def JF {is:List Nat}{l:List Expr}{k:Nat}(U:DX G)(hn:t4 G.cap sc is=true):lD G C sc d (.T is) (.Tuple (ux sc is l) k pos):=λ_ _ _ _ _ _ _ _ _ c vr h=>by
 have#[vs,e,hl,q]:=h;rw[assign_Tuple];apply ab (je ?_);unfold unpack;rw[kO,iG,hl];apply ab (cy (yc U c.ao.handled c.R vr e λws h' W J hk=>?_));apply xF c.es c.eo hn hl (c.F.evo (Evo.keeps hk)) J W λB I O x2=>?_;apply#[_,_,q,I,O,#[(Evo.keeps hk).trans x2.e,x2.g,x2.o]]
def JG {o i:Ex}{x y:Expr}(ho:fk G C sc d o x)(hi:fk G C sc d i y):lD G C sc d (.sub o i) (.Subscript x y pos):=λA E env ρ σ K s v w c vr h=>by
 rw[arm_assign_Subscript];apply ab (cy (rp (ho c h) λu σ₁ s₁ ao q J r x=>?_));apply ab (cy (rp (hi (c.go r x) q) λj σ₂ s₂ aj U O r₂ W=>?_));apply ab (je (ab (cy ?_)));have z:=(vr.mono x.frz).mono W.frz;have#[a,rfl,ar,kk,e,I,hz,U]:=jB (v:=u) U;have rfl:=J;have#[ds,hd,hv]:=r₂.D _ _ e;apply wpAny_setItem_pairs (key_is I O) hd (λh' ai ag=>wpAny_release ?_) (by rw[<- hv.length];show nq (az .A .a .B hz));have#[R',x']:=QC r₂ e ag ai (hv.put z) (jf (lS _ _ _) (az .T .a .B hz));apply#[_,_,U,((c.F.evo x.e).evo W.e).evo x',R',((x.trans W).to x').wide]
end
variable {x value:Expr}{targets xs:List Expr}{env:Env}
abbrev yq (sc:Scope)(ts:List Expr):List Str:=ts.filterMap λ
 |.Name id pos=>if sc.names.lookup id==some .local&&pos.line==(ts.head?.map (·.pos.line)).getD 0 then some id else none
 |_=>none
abbrev NX (x:Expr):Option (Option (List Expr)):=bif fB 25 x then some (some (kids x)) else bif fB 24 x then none else some none
abbrev tgK:List Expr->Option (Option (List Expr))
 | []=>some none
 |x::r=>bif r.isEmpty then NX x else some none
abbrev tupK (x:Expr):Option (List Expr):=bif fB 25 x then some (kids x) else none
abbrev QG (sc:Scope)(ts vs:List Expr):Option (Option (List Str)):=
 bif !(ts.length==2||ts.length==3)||vs.length != ts.length then some none
 else bif vs.any isStar then some none
 else bif (yq sc ts).length != ts.length||(yq sc ts).eraseDups.length != (yq sc ts).length then some none
 else bif vs.all (foldedForSure 8) then some none
 else bif vs.all (constantsAlone 8) then none
 else some (some (yq sc ts))
abbrev swp (sc:Scope)(targets:List Expr)(value:Expr):Option (Option (List Str)):=
 (tgK targets).bind λo=>o.elim (some none) λts=>(tupK value).elim (some none) (QG sc ts)
def kG (h:fB 25 x=true):∃es k p,x=.Tuple es k p:=Expr.Tuple.elim (motive_1:=λx=>∃es k p,x=.Tuple es k p) x (cN h) λes k p=>#[es,k,p,rfl]
def EO (h:tgK targets=some none)(value:Expr)(env:Env):swappedStores targets value env=pure none:=by
 cases targets with
 |nil=>rfl
 |cons x r =>
  revert h
  cases x
  case Tuple =>
   cases r with
   |nil=>show λh=>jx (af h).symm
   |cons y r=>show λ_=>(rfl:(pure none:Sem (Option (List Str)))=pure none)
  case List =>
   cases r with
   |nil=>show λh=>jx h
   |cons y r=>show λ_=>(rfl:(pure none:Sem (Option (List Str)))=pure none)
  all_goals show λ_=>(rfl:(pure none:Sem (Option (List Str)))=pure none)
def C7 {vs:List Expr}(h:tupK value=some vs):∃k p,value=.Tuple vs k p:=by
 unfold tupK at h;cases e:fB 25 value with
 |false=>rw[e]at h;show jx h
 |true=>rw[e]at h;have#[es,k,p,rfl]:=kG e;have rfl:=af h;apply#[k,p,rfl]
def EN {ts:List Expr}(h:tgK targets=some (some ts)):∃k p,targets=[.Tuple ts k p]:=by
 cases targets with
 |nil=>show jx (af h)
 |cons x r =>
  cases r with
  |nil =>
   have h:NX x=some (some ts):=h;unfold NX at h;cases e:fB 25 x with
   |false =>
    rw[e]at h;cases W:fB 24 x with
    |false=>rw[W]at h;show jx (af h)
    |true=>rw[W]at h;show jx h
   |true=>rw[e]at h;have#[es,k,p,rfl]:=kG e;have rfl:=af (af h);apply#[_,_,rfl]
  |cons y r=>show jx (af h)
def C8 (h:tupK value=none)(ts:List Expr)(k:Nat)(p:Pos)(env:Env):swappedStores [.Tuple ts k p] value env=pure none:=by
 revert h
 cases value
 case Tuple=>show λh=>jx h.symm
 all_goals show λ_=>(rfl:(pure none:Sem (Option (List Str)))=pure none)
def jN {α:Type}{b:Bool}{x y:Option (Option α)}{r:Option α}{t u:Sem (Option α)}(h:(bif b then x else y)=some r)(U:x=some r->t=pure r)(W:y=some r->u=pure r):(if b=true then t else u)=pure r:=by
 cases b with
 |true=>show U h
 |false=>show W h
def sP {sc:Scope}{r:Option (List Str)}(h:swp sc targets value=some r)(J:env.scope=sc)(hk:env.blockKind=.function):swappedStores targets value env=pure r:=by
 have#[o,U,h]:=fx.mp h;cases o with
 |none=>have rfl:=af h;show EO U value env
 |some ts =>
  have#[k,p,rfl]:=EN U;have h:(tupK value).elim (some none) (QG sc ts)=some r:=h;cases W:tupK value with
  |none=>rw[W]at h;have rfl:=af h;show C8 W ts k p env
  |some vs =>
   rw[W]at h;have#[k',O,rfl]:=C7 W;subst J;have e:swappedStores [.Tuple ts k p] (.Tuple vs k' O) env=(if (!(ts.length==2||ts.length==3)||vs.length != ts.length||env.blockKind != .function)=true then pure none
    else if vs.any isStar=true then pure none
    else if ((yq env.scope ts).length != ts.length||(yq env.scope ts).eraseDups.length != (yq env.scope ts).length)=true then pure none
    else if vs.all (foldedForSure 8)=true then pure none
    else if vs.all (constantsAlone 8)=true then (do unsupported "assign.tuple-of-constant-expressions:order-of-the-stores";pure (some (yq env.scope ts)))
    else pure (some (yq env.scope ts))):=rfl
   rw[e,hk,show(ScopeKind.function != ScopeKind.function)=false from rfl,iX];show jN h (λh=>af h▸rfl) λh=>jN h (λh=>af h▸rfl) λh=>jN h (λh=>af h▸rfl) λh=>jN h (λh=>af h▸rfl) λh=>jN h (λh=>jx h) λh=>af h▸rfl
def yb (h:dY value=true)(targets:List Expr)(n:Nat)(env:Env):swapsWithSole targets value n env=pure false:=by
 cases targets with
 |nil=>rfl
 |cons t r =>
  cases r with
  |nil=>show fI h _ _ _
  |cons=>rfl
section
variable {G:Stc}{C:Cal}{sc:Scope}{d:Nat}
inductive gT (G:Stc)(C:Cal)(sc:Scope)(d:Nat):List Tgt->List Expr->Prop
 |nil:gT G C sc d [] []
 |cons {t:Tgt} {x:Expr} {ts:List Tgt} {xs:List Expr}:lD G C sc d t x->(∀env,assignEach (x::xs) env=(false,assign x env)::assignEach xs env)->gT G C sc d ts xs->gT G C sc d (t::ts) (x::xs)
def AG {A:Around}{E:QqV}{ts:List Tgt}(J:gT G C sc d ts xs):∀{ρ:Fr} {σ:St} {K:Fr->St->Prop} {s:Shared} {v:V} {w:Value},Cx G sc d A env ρ σ s->VR G s.heap v w ->
  kE C ts v ρ σ K->wpAny G.M A (assignAll w ((assignEach xs env).map (·.2))) (LU G env σ s K) E s:=by
 induction J with
 |nil=>show λc vr h=>ae #[_,_,h,c.F,c.R,.refl]
 | @cons t x ts xs O I hr U =>
  intro ρ σ K s v w c vr h;rw[I];cases hr with
  |nil=>show O c vr h
  |cons a b c' =>
   rw[b env]at U ⊢;apply ab (cy (di (O c vr h) (λ_ s' l=>?_) λ_ _ x=>x));have#[ρ',σ',q,z,B,W]:=l;show di (U (c.at z B) (vr.mono W.frz) q) (λ_ _=>sH.back W) λ_ _ x=>x
def xO {ts:List Tgt}{e:Ex}{pos:Pos}(J:gT G C sc d ts xs)(I:fk G C sc d e x)(hc:dY x=true)(O:swp sc xs x=some none):cY G C sc d (.a ts e) (.Assign xs x pos):=λ_ _ _ _ _ _ _ c h=>by
 rw[exec_Assign];apply ab (je ?_);rw[yb hc];apply ab (ae ?_);rw[aw (by decide)];apply ab (rp (I c h) λv σ₁ s₁ w q vr r x=>?_);rw[sP O c.es (by unfold Env.blockKind;rw[c.eo.kind];rfl)];apply ab (ae ?_);show wpAny G.M _ (do assignAll w _;pure Flow.next) _ _ _;apply ab (di (AG J (c.go r x) vr q) (λ_ s' l=>ae ?_) λ_ _ x=>x);have#[ρ',σ',U,z,B,W]:=l;apply#[.next,ρ',σ',.next,U,z,B,x.wide.trans W]
def gZ:∀(xs:List Nat) (vs:List V) (x:Nat) (v:V) (ρ:Fr),xs.length=vs.length->ji (xs++[x]) (vs++[v]) ρ=upd (ji xs vs ρ) x v
 | [],[],_,_,_,_=>rfl
 | [],_::_,_,_,_,h=>absurd h.symm (cZ _)
 |_::_,[],_,_,_,h=>absurd h (cZ _)
 |y::xs,u::vs,x,v,ρ,h=>by
  show gZ xs vs x v _ (mx h)
def EG {α:Type}{f:Nat->Option α}{i j:Nat}{a b:α}(h:i≠j):upd (upd f i a) j b=upd (upd f j b) i a:=by
 funext k
 unfold upd;by_cases U:k=j<;>by_cases W:k=i<;>simp_all
def nV:∀(xs:List Nat) (vs:List V) (x:Nat) (v:V) (ρ:Fr),x∉xs->ji xs vs (upd ρ x v)=upd (ji xs vs ρ) x v
 | [],_,_,_,_,_=>rfl
 |_::_,[],_,_,_,_=>rfl
 |y::xs,u::vs,x,v,ρ,h=>by
  show ji xs vs (upd (upd ρ x v) y u)=upd (ji xs vs (upd ρ y u)) x v;have h:=sJ h;rw[EG h.1,nV xs vs x v _ h.2]
def fK:∀(xs:List Nat) (vs:List V) (ρ:Fr),xs.length=vs.length->xs.Nodup->ji xs.reverse vs.reverse ρ=ji xs vs ρ
 | [],[],_,_,_=>rfl
 | [],_::_,_,h,_=>absurd h.symm (cZ _)
 |_::_,[],_,h,_=>absurd h (cZ _)
 |x::xs,v::vs,ρ,h,hn=>by
  have hn:=List.nodup_cons.mp hn;have h:xs.length=vs.length:=mx h;rw[i7,i7,gZ _ _ _ _ _ (by rw[eW,eW];show h),fK xs vs ρ h hn.2];show(nV xs vs x v ρ hn.1).symm
abbrev QQ (cap:Str->Bool)(sc:Scope)(is:List Nat)(xs:List Str):Bool:=decide (xs=is.map (zf sc))&&t4 cap sc is
def uT {A:Around}{E:QqV}(W:env.scope=sc)(B:dQ env){σ:St}(is:List Nat){vs:List V}{ws:List Value}{ρ:Fr}{s:Shared}{Q:Unit->Shared->Prop}(hn:t4 G.cap sc is=true)(hl:is.length=vs.length)
  (F:FR G σ env ρ s.heap) (R:Rel G σ s.heap) (vr:VRs G s.heap vs ws) (k:∀s',FR G σ env (ji is vs ρ) s'.heap->Rel G σ s'.heap->Go (envX env) σ s σ s'->Q () s') :
  wpAny G.M A (assignInOrder ((is.map (zf sc)).map λn=>bindName env n) ws) Q E s:=by
 induction is generalizing vs ws ρ s with
 |nil=>show ae (k s F R .refl)
 |cons i is I =>
  cases vs with
  |nil=>show nomatch hl
  |cons v vs =>
  have#[w,us,e,O,vr]:=vr;subst e;have#[kk,hi,hk,_]:=xX (band hn).1;show wpAny G.M A (do holding us (bindName env (zf sc i) w);assignInOrder ((is.map (zf sc)).map λn=>bindName env n) us) Q E s;apply ab (cy (wpAny_bindName (gJ B F R (by rw[W];show hi) hk O λs' F' R' U=>?_)));show I (band hn).2 (mx hl) F' R' (vr.mono U.frz) λJ F2 z x2=>k J F2 z (U.trans x2)
def snd_swap {is:List Nat}{e:Ex}{pos:Pos}{names:List Str}(U:DX G)(B:fk G C sc d e x)(hc:dY x=true)(I:swp sc xs x=some (some names))(hn:QQ G.cap sc is names=true)(O:is.Nodup):cY G C sc d (.a [.T is] e) (.Assign xs x pos):=λ_ _ _ _ _ _ _ c h=>by
 rw[exec_Assign];apply ab (je ?_);rw[yb hc];apply ab (ae ?_);rw[aw (by decide)];apply ab (rp (B c h) λv σ₁ s₁ w q vr r x=>?_);rw[sP I c.es (by unfold Env.blockKind;rw[c.eo.kind];rfl)];apply ab (ae ?_);have#[vs,z,hl,q]:=q;show wpAny G.M _ (do rule "assign.swapped-stores";let items←unpackItems w names.length none;assignInOrder (names.reverse.map λn=>bindName _ n) items.reverse;pure Flow.next) _ _ _;apply ab (lq (ab ?_));have rfl:=br (band hn).1;rw[aq,hl,<- List.map_reverse];apply yc U c.ao.handled r vr z λws h' W R' hk=>?_;apply ab (uT c.es c.eo is.reverse (by unfold t4;rw[List.all_reverse];show(band hn).2) (by simpa using hl) ((c.F.evo x.e).evo (Evo.keeps hk)) R' W.reverse λs2 J R2 x2=>ae ?_);rw[fK _ _ _ hl O]at J;apply#[.next,_,_,.next,q,J,R2,x.wide.trans #[(Evo.keeps hk).trans x2.e,x2.g,x2.o]]
end
end MP
end
section
namespace MP
open PySem PyProof.Rows
def lW:typeLookup (.type "list") (dunderI "add")=pure (some (.builtin "list.__iadd__")):=by rw[gc,dw];kernel_rfl
def yQ:fillsInplaceSlot (.type "list") "add" (Operator.Add==.Add)=pure false:=by
 unfold fillsInplaceSlot;show(typeLookup (.type "list") (dunderI "add")>>=λW=>pure (W.isSome&&!isSeqSlot W))=pure false;rw[lW];first|rfl|kernel_rfl
def HH:seqSlot? (.type "list") (dunderI "add")=pure (some (.builtin "list.__iadd__")):=by
 unfold seqSlot?;rw[lW];first|rfl|kernel_rfl
section
variable {G:Stc}{A:Around}{E:QqV}{s:Shared}{σ:St}
def yP {a b:Value}{Q:QqV}(W:s.TypeIs a "list")(hb:s.TypeIs b "list")(hc:wpAny G.M A (call (.builtin "list.__iadd__") [a,b]) Q E s):wpAny G.M A (inplaceOp .Add a b) Q E s:=by
 unfold inplaceOp;apply cy ?_;apply ab (ye W (ab (fo yQ ?_)));show wpAny _ A (if false=true then _ else _) Q E s;rw[aw fy];apply ab (wpAny_binaryOp1_none (nm:="add") W hb noFill_list_add ?_);apply ab (fo HH ?_);show ab (lq hc)
def FT {op:Bop}{a b:V}{x y:Value}{Q:V->St->Prop}(J:op=.add\/op=.sub)(R:Rel G σ s.heap)(va:VR G s.heap a x)(vb:VR G s.heap b y)(h:MZ op a b σ Q):wpAny G.M A (inplaceOp (binOp op) x y) (km G [] σ s Q) E s:=by
 cases a with
 |L a =>
  have rfl:=va;have#[b,rfl,h]:=uc (v:=b) h;have rfl:=vb;rcases J with rfl|rfl
  ·have#[xs,ys,ag,e1,e2,hz,q]:=h;have#[us,n,hl,hv]:=R.L _ _ e1;have#[ts,m,z,O]:=R.L _ _ e2;have I:=hv.length;have U:=O.length;have W:us.length+ts.length<=sizeLine:=by rw[<- I,<- U];show nq hz
   apply yP #[_,hl,rfl] #[_,z,rfl] (fE PySem.F.slot_list_iadd #[_,hl,rfl] PySem.F.entry_list_iadd (PySem.F.args_list_iadd_2 _ _) (AutoSeq1.list___iadd___list_list_0 _ _ _ _ _ _ ?_ (by simp only[cw];(show gz .A .a (.k .V .B) W)) (by simp only[cw];(show gz (.k .L .S) .a .F W))) #[hl,z,?_])
   ·simp only[cw,Builtin.List.listTooLong];rw[show sizeLine=16777216 from rfl]at W;simp;intro _;first|omega|(unfold sizeLine;(show az (.k .L .aJ) .a (.k .L (.n 16777216)) W))
   ·have#[r',x']:=EH (f:=λx=>x++ts.toArray) R e1 hl (hv.append O) (by simpa using hz) (by simp);apply#[.L _,_,q,.L _,r',x',rfl,rfl]
  ·show False.elim h
 |int a =>
  have#[t,rfl]:=va;have#[b,rfl,h]:=rv (v:=b) h;have#[u,rfl]:=vb;rcases J with rfl|rfl
  ·show P.iadd_int (km.here h (.int _ _) R)
  ·show P.isub_int (km.here h (.int _ _) R)
 |_=>show False.elim h
def KH {C:Cal}{sc:Scope}{d:Nat}{op:Bop}{i:Nat}{e:Ex}{x:Str}{k:NameKind}{y:Expr}{pos U:Pos}(J:op=.add\/op=.sub)(he:fk G C sc d e y)(hi:sc.names[i]?=some (x,k))(hk:Own G x k)(hx:jr x=true) :
  cY G C sc d (.aug i op e) (.AugAssign (.Name x U) (binOp op) y pos):=λ_ _ _ _ _ _ _ c h=>by
 have#[v,hv,h]:=h;have I:isVar k=true:=by cases k<;>first|rfl|show Bool.noConfusion hk.1
 apply wpAny_AugAssign_Name (j7 c.eo c.F (by rw[c.es];show hi) I hx hv λw vr=>?_);apply rp (he c h) λu σ₁ s₁ z q W r x=>?_;apply di (FT J r (vr.mono x.frz) W q) (λw' s' l=>?_) λ_ _ x=>x;have#[v',σ',q',O,r',B]:=l;apply gJ c.eo ((c.F.evo x.e).evo B.e) r' (by rw[c.es];show hi) hk O λs2 F2 R2 x2=>?_;apply#[.next,_,σ',.next,q',F2,R2,(x.trans B).wide.trans x2]
end
end MP
end
section
namespace MP
set_option genInjectivity false
open PySem PyProof.Rows
variable {own:List Addr}{σ σ':St}{env:Env}{ρ:Fr}{h h':Heap}{s s':Shared}{i:Nat}{t:Tg}{x:Expr}{pos:Pos}
def FR.but {G:Stc}(F:FR G σ env ρ h)(hk:∀b o,b∉own->h.get? b=some o->h'.get? b=some o)(z:jn h h')(J:∀b∈own,b∉envX env):FR G σ env ρ h':=by
 have#[m,#[o,es,ep,B,r],hm]:=F.ns;have W:=hk _ _ (λq=>J _ q (.head _)) B;apply#[#[m,#[o,es,ep,W,r],λi y e=>(hm i y e).mono z],λi y k e O=>?_,F.inj,F.loc,λag e=>?_,F.new,λp I=>?_]
 ·have#[c,w,h1,#[oc,U,hd],h3,h4,h5]:=F.cells i y k e O;apply#[c,w,h1,#[oc,hk _ _ (λq=>J _ q (.tail _ (ee.mpr #[(y,c),mem_of_lookup h1,rfl]))) U,hd],h3.mono z,h4,h5]
 ·rw[W]at e;cases e;show F.notfrz o B
 ·have#[o,e]:=F.allc p I;apply#[o,hk _ _ (λq=>J _ q (.tail _ (ee.mpr #[p,I,rfl]))) e]
def Evo.but {X:List Addr}{h₀:Heap}(x:Evo X σ h₀ σ' h)(hk:∀b o,b∉own->h.get? b=some o->h'.get? b=some o)(O:∀b∈own,h₀.get? b=none):Evo X σ h₀ σ' h':=by
 have U:∀b o,h₀.get? b=some o->b∉own:=λb o e q=>by rw[O b q]at e;cases e
 apply#[λb o e nd J=>hk b o (U b o e) (x.keep b o e nd J),λb o e f=>hk b o (U b o e) (x.frz b o e f),x.dom,λb o e=>by have#[W,e₁]:=x.there b o e;apply#[W,hk b W (U b o e) e₁]]
abbrev DZ (s s':Shared):Prop:=s'.gens=s.gens/\s'.os=s.os
def DZ.rfl {W:Drawn}{tk:Tok}:DZ s #[h,s.gens,W,tk,s.os]:=#[Eq.refl _,Eq.refl _]
def Go.but {X:List Addr}{s₀:Shared}(x:Go X σ s₀ σ' s)(hk:∀b o,b∉own->s.heap.get? b=some o->s'.heap.get? b=some o)(g:DZ s s')(W:∀b∈own,s₀.heap.get? b=none):Go X σ s₀ σ' s':=#[x.e.but hk W,g.1.trans x.g,g.2.trans x.o]
abbrev Q4 (own:List Addr)(pos:Nat->Heap->Prop):Prop:=∀i h h',pos i h->(∀b∈own,∀o,h.get? b=some o->h'.get? b=some o)->jn h h'->pos i h'
abbrev SN (own:List Addr)(pos:Nat->Heap->Prop):Prop:=∀i h,pos i h->∀b∈own,∃o,h.get? b=some o/\¬Frz o
abbrev Q0 (G:Stc)(it:Addr)(pos:Nat->Heap->Prop):Prop:=∀(A:Around) (E:QqV) (s:Shared) (i:Nat) (Q:QqV),pos i s.heap->Q (.ref it) s->wpAny G.M A (pyIter (.ref it)) Q E s
abbrev BS (own:List Addr)(s s':Shared):Prop:=(∀b o,b∉own->s.heap.get? b=some o->s'.heap.get? b=some o)/\DZ s s'
abbrev Q2 (G:Stc)(it:Addr)(own:List Addr)(vs:List V)(Gd:St->Prop)(tup:Bool)(pos:Nat->Heap->Prop):Prop:=∀(A:Around) (E:QqV) (s:Shared) (σ:St) (i:Nat) (v:V) (target:Expr) (Q:QqV),A.handled=none->Rel G σ s.heap->Gd σ->pos i s.heap->vs[i]?=some v->(tup=true->∃es k p,target=.Tuple es k p) ->
  (∀w s',BS own s s'->(jn s.heap s'.heap->VR G s'.heap v w/\pos (i+1) s'.heap)->Q w s') ->
  wpAny G.M A (pyNext (.ref it)) (λr s₁=>match r with|none=>False|some w=>wpAny G.M A (letOwnedTupleGo target (.ref it) w) (λ_ s₂=>Q w s₂) E s₁) E s
abbrev PZ (G:Stc)(it:Addr)(own:List Addr)(vs:List V)(Gd:St->Prop)(pos:Nat->Heap->Prop):Prop:=∀(A:Around) (E:QqV) (s:Shared) (σ:St) (i:Nat) (Q:Option Value->Shared->Prop),A.handled=none->Rel G σ s.heap->Gd σ->pos i s.heap->vs[i]?=none ->
  (∀s',BS own s s'->Q none s')->wpAny G.M A (pyNext (.ref it)) Q E s
structure Itr (G:Stc) where
 it:Addr
 own:List Addr
 vs:List V
 Gd:St->Prop
 tup:Bool
 pos:Nat->Heap->Prop
 keep:Q4 own pos
 obj:SN own pos
 self:Q0 G it pos
 next:Q2 G it own vs Gd tup pos
 stop:PZ G it own vs Gd pos
def nX {it:Addr}(h:Heap.SameBut it s.heap s'.heap)(g:DZ s s'):BS [it] s s':=#[λb o hb e=>by rw[h.2 b λq=>hb (q▸.head _)];show e,g]
def n9 {it:Addr}(h:Heap.ExtBut it s.heap s'.heap)(W:it∈own)(g:DZ s s'):BS own s s':=#[λb o hb e=>h b o (λq=>hb (q▸W)) e,g]
section
variable {G:Stc}{C:Cal}{sc:Scope}{d:Nat}
def Itr.there (I:Itr G)(W:I.pos i h){b:Addr}(hb:b∈I.own):∃o,h.get? b=some o:=by have#[o,e,_]:=I.obj i h W b hb;apply#[o,e]
def Itr.AR (I:Itr G)(W:I.pos i h){b:Addr}(hb:b∈I.own){o:Obj}(e:h.get? b=some o):¬Frz o:=by have#[o',U,f]:=I.obj i h W b hb;have rfl:=af (e.symm.trans U);show f
def Itr.frz (I:Itr G)(W:I.pos i h)(hk:∀b o,b∉I.own->h.get? b=some o->h'.get? b=some o):jn h h':=λb o e f=>hk b o (λhb=>I.AR W hb e f) e
def Itr.rel (I:Itr G)(W:I.pos i h)(R:Rel G σ h)(hd:∀b∈I.own,¬σ.dom b)(hb:∀b∈I.own,G.hb.get? b=none)(hk:∀b o,b∉I.own->h.get? b=some o->h'.get? b=some o):Rel G σ h':=
 R.same (λb o e U=>hk b o (λq=>hd b q U) e) (λb o e f=>hk b o (λq=>I.AR W q e f) e) λb o e=>hk b o (λq=>by rw[hb b q]at e;cases e) (R.base b o e)
inductive BU (G:Stc)(σ:St)(s:Shared)(tupled:Bool)(P:List V->(St->Prop)->St->Prop)(itv:Value)(s':Shared):Prop
 |mk (I:Itr G) (σ':St):itv=.ref I.it->(I.tup=true->tupled=true)->P I.vs I.Gd σ'->I.pos 0 s'.heap->Rel G σ' s'.heap->Go [] σ s σ' s'->(∀b∈I.own,s.heap.get? b=none)->(∀b∈I.own,¬σ'.dom b)->BU G σ s tupled P itv s'
abbrev eU (G:Stc)(C:Cal)(sc:Scope)(d:Nat)(tupled:Bool)(it:It)(x:Expr):Prop:=
 ∀⦃A E env ρ σ P s⦄,Cx G sc d A env ρ σ s->sL C it ρ σ P->wpAny G.M A (eval x env) (λv s₁=>wpAny G.M A (pyIter v) (BU G σ s tupled P) E s₁) E s
abbrev LX (G:Stc)(X:List Addr)(env:Env)(σ:St)(s:Shared)(K:Fr->Prop)(s':Shared):Prop:=∃ρ',K ρ'/\FR G σ env ρ' s'.heap/\Rel G σ s'.heap/\Go X σ s σ s'
abbrev BQ (G:Stc)(C:Cal)(sc:Scope)(d:Nat)(t:Tg)(x:Expr):Prop:=
 ∀⦃A E env ρ σ K s v w⦄,Cx G sc d A env ρ σ s->VR G s.heap v w->su t v σ ρ K->wpAny G.M A (assign x env w) (λ_ s'=>LX G (envX env) env σ s K s') E s
abbrev isTup (x:Expr):Bool:=fB 25 x
abbrev j4 (x:Expr):List Str:=bif fB 23 x then [mh x] else bif fB 25 x then A8 (kids x) else []
abbrev vt (G:Stc)(C:Cal)(sc:Scope)(d:Nat)(t:Tg)(x:Expr):Prop:=
 ∀⦃A E X env ρ σ K s v w⦄,env.locals∈X->(∀y∈j4 x,∀c,env.cells.lookup y=some c->c∈X)->Cx G sc d A env ρ σ s->VR G s.heap v w->su t v σ ρ K->wpAny G.M A (assign x env w) (λ_ s'=>LX G X env σ s K s') E s
def vt.plain (h:vt G C sc d t x):BQ G C sc d t x:=λ_ _ _ _ _ _ _ _ _ c vr q=>h (.head _) (λy _ c hc=>.tail _ (ee.mpr #[(y,c),mem_of_lookup hc,rfl])) c vr q
def JH {x:Str}{k:NameKind}(hi:sc.names[i]?=some (x,k))(hk:Own G x k):vt G C sc d (.v i) (.Name x pos):=λ_ _ _ _ _ _ _ _ _ _ W U c vr h =>
 assign_Name (iC c.eo c.F c.R (by rw[c.es];show hi) hk vr W (U x (.head _)) λs' J O x=>#[_,h,J,O,x])
def JI {is:List Nat}{l:List Expr}{k:Nat}(U:DX G)(hn:t4 G.cap sc is=true):vt G C sc d (.T is) (.Tuple (ux sc is l) k pos):=λ_ _ _ _ _ _ _ _ _ _ O J c vr h=>by
 have#[vs,e,hl,q]:=h;rw[assign_Tuple];apply ab (je ?_);unfold unpack;rw[kO,iG,hl];apply ab (cy (yc U c.ao.handled c.R vr e λws h' W B hk=>?_));apply lQ c.es c.eo O is l hn hl J (c.F.evo (Evo.keeps hk)) B W λs2 z I x2=>?_;apply#[_,q,z,I,(Evo.keeps hk).trans x2.e,x2.g,x2.o]
inductive qB (I:Itr G)(env:Env)(σ:St)(s:Shared)(T:V->Fr->St->(Fr->St->Prop)->Prop)(K:Fr->St->Prop)(n:Nat)(s':Shared):Prop
 |mk (i:Nat) (σ':St) (ρ':Fr):n=I.vs.length-i->I.pos i s'.heap->FR G σ' env ρ' s'.heap->Rel G σ' s'.heap->Go (envX env) σ s σ' s'->(∀b∈I.own,¬σ'.dom b)->yS (I.vs.drop i) I.Gd T ρ' σ' K->qB I env σ s T K n s'
def qB.next {I:Itr G}{T:V->Fr->St->(Fr->St->Prop)->Prop}{K:Fr->St->Prop}{ρ':Fr}(lt:i<I.vs.length)(W:I.pos (i+1) s'.heap)(F:FR G σ' env ρ' s'.heap)(R:Rel G σ' s'.heap)(x:Go (envX env) σ s σ' s')(hd:∀b∈I.own,¬σ'.dom b)(q:yS (I.vs.drop (i+1)) I.Gd T ρ' σ' K) :
  ∃m,m<I.vs.length-i/\qB I env σ s T K m s':=#[_,by show gp .B .d (.e (.a .A .S) .D) .bN (aa (az .T .a .B lt)) (aa (az .A .a .B lt)),i+1,σ',ρ',rfl,W,F,R,x,hd,q]
def Itr.EU {I:Itr G}{Y:List Addr}{W σb:St}{O hb:Heap}{j:Nat}(J:∀b∈I.own,b∉Y)(U:I.pos j O)(hd:∀c∈I.own,¬W.dom c)(x:Evo Y W O σb hb):I.pos j hb/\∀c∈I.own,¬σb.dom c:=
 #[I.keep _ _ _ U (λc hc o e=>x.keep c o e (hd c hc) (J c hc)) x.frz,λc hc B=>(x.dom c B).elim (hd c hc) λq=>by have#[o,e]:=I.there U hc;rw[e]at q;cases q]
def BH {l:List V}{v:V}(e:l[i]?=some v):i<l.length/\l.drop i=v::l.drop (i+1):=by
 have h:=cu.mp e;apply#[h.1,?_];rw[cg h.1,h.2]
def w7 (h:isTup x=true):∃es k p,x=.Tuple es k p:=kG h
def sZ (F:FR G σ env ρ h)(hn:∀b∈own,h.get? b=none):∀b∈own,b∉envX env:=λb hb U=>by
 rcases bw.mp U with rfl|U
 ·have#[m,#[o,J,ep,W,_],_]:=F.ns;rw[hn _ hb]at W;cases W
 ·have#[p,O,rfl]:=ee.mp U;have#[o,W]:=F.allc p O;rw[hn _ hb]at W;cases W
def d9 (R:Rel G σ h)(hn:∀b∈own,h.get? b=none):∀b∈own,G.hb.get? b=none:=λb hb=>by
 cases hq:G.hb.get? b with
 |none=>rfl
 |some o=>have:=R.base b o hq;rw[hn b hb]at this;cases this
def DK {b:pq}{ys:List Stmt}(ht:BQ G C sc d t x)(hb:hU G C sc d b ys){A:Around}{E:QqV}{I:Itr G}{σ₀:St}{s₁:Shared}{K:Fl->Fr->St->Prop}{v:V}{w:Value}(c:Cx G sc d A env ρ σ s₁)
  (hX:∀b∈I.own,b∉envX env) (lt:i<I.vs.length) (x0:Go (envX env) σ₀ s σ s₁) (hp:I.pos (i+1) s₁.heap) (hd:∀b∈I.own,¬σ.dom b) (vr:VR G s₁.heap v w)
  (hf:su t v σ ρ λρ=>gx C b ρ σ (yh (λρ σ=>yS (I.vs.drop (i+1)) I.Gd (λv ρ σ k=>su t v σ ρ λρ=>gx C b ρ σ (yh k K)) ρ σ λρ σ=>K .next ρ σ) K))
  {Qp:Flow->Shared->Prop} (h1:∀s',(∃m,m<I.vs.length-i/\qB I env σ₀ s (λv ρ σ k=>su t v σ ρ λρ=>gx C b ρ σ (yh k K)) (λρ σ=>K .next ρ σ) m s')->Qp .next s'/\Qp .cont s') (h2:∀s',tc G env σ₀ s K .next s'->Qp .brk s') (h3:∀w s',tc G env σ₀ s K (.ret w) s'->Qp (.ret w) s') :
  wpAny G.M A (assign x env w) (λ_ ai=>wpAny G.M A (execs ys env) Qp E ai) E s₁:=by
 apply di (ht c vr hf) (λ_ ai l=>?_) λ_ _ x=>x;have#[bd,ao,bc,ay,ag]:=l;have#[be,ax]:=I.EU hX hp hd ag.e;apply di (hb (c.at bc ay) ao) (λf bl l=>?_) λ_ _ x=>x;have#[fl,B,J,a,W,O,U,z]:=l;have#[ar,aj]:=I.EU hX be ax z.e;have x5:=(x0.trans ag).trans z;cases a with
 |next=>show(h1 _ (qB.next lt ar O U x5 aj W)).1
 |cont=>show(h1 _ (qB.next lt ar O U x5 aj W)).2
 |brk=>show h2 _ #[.next,B,J,.next,W,O,U,x5]
 |ret v=>show h3 _ _ #[_,B,J,.ret v,W,O,U,x5]
def FI {it:It}{b:pq}{y:Expr}{ys:List Stmt}(ht:BQ G C sc d t x)(hi:eU G C sc d (isTup x) it y)(hb:hU G C sc d b ys)(hs:∀env v,foldedSetIterable y env v=pure v) :
  cY G C sc d (.each t it b) (.For x y ys [] pos):=λA E env ρ σ K s c h=>by
 apply wpAny_For (di (hi c h) (λv s₁ h₁=>di h₁ (λbd s₂ l=>?_) λ_ _ x=>x) λ_ _ x=>x) (hs env);have#[I,σ₁,rfl,ar,hf,hp,r,ai,O,ay]:=l;have ag:=d9 c.R O;have hX:=sZ c.F O;apply codeAny_forLoop_any (qB I env σ s (λv ρ σ k=>su t v σ ρ λρ=>gx C b ρ σ (yh k K)) λρ σ=>K .next ρ σ) ?_ (I.vs.length-0)
  #[0,σ₁,ρ,rfl,hp,c.F.evo ai.e,r,ai.wide,ay,hf]
 intro n s' z;have#[i,σ',ρ',rfl,U,F',R',x',B,J]:=z;cases hq:I.vs[i]? with
 |none =>
  rw[List.drop_eq_nil_of_le (xd.mp hq)]at J;apply I.stop A _ s' σ' i _ c.ao.handled R' J.1 U hq λs2 g=>?_;have#[W,g2]:=g;show wpAny_execs_nil #[.next,ρ',σ',.next,J.2,F'.but W (I.frz U W) hX,I.rel U R' B ag W,x'.but W g2 O]
 |some v =>
  have#[bc,aj]:=BH hq;rw[aj]at J;apply di (I.next A _ s' σ' i v x ?Q c.ao.handled R' J.1 U hq (λq=>w7 (ar q)) ?k) (λr s₁ hr=>?m) λ_ _ x=>x
  case m =>
   cases r with
   |none=>show hr.elim
   |some w=>show hr
  case k =>
   intro w s2 g z;have#[W,g2]:=g;have#[vr,ax]:=z (I.frz U W);show DK ht hb (c.at (F'.but W (I.frz U W) hX) (I.rel U R' B ag W)) hX bc (x'.but W g2 O) ax B vr J.2 (λ_ q=>#[q,q]) (λ_ q=>q) λ_ _ q=>q
end
end MP
end
section
set_option tactic.hygienic true
namespace MP
open PySem PyProof.Rows
abbrev ownsTuple (n:String):Bool:=["enumerate","zip","dict_itemiterator","dict_reverseitemiterator","odict_iterator","itertools.zip_longest","itertools.pairwise"].contains n
section
variable {G:Stc}{A:Around}{E:QqV}{s:Shared}
def zi {it:Addr}{o:Obj}{n:String}{target:Expr}{w:Value}{Q:Unit->Shared->Prop}(W:s.heap.get? it=some o)(hc:o.cls=.type n)(hn:ownsTuple n=false)(h:Q () s):wpAny G.M A (letOwnedTupleGo target (.ref it) w) Q E s:=by
 have go:wpAny G.M A (do
   let (.ref r,.ref a):=(Value.ref it,w)|return
   let o←load r
   match o.cls,o.data with
   |.type n,.fields vs=>if (ownsTuple n&&vs[0]?==some (rawInt a))=true then do rule "for.unpacks-the-owned-tuple";updateField r 0 .none else pure ()
   |_,_=>pure ():Sem Unit) Q E s:=by
  cases w with
  |ref a =>
   apply ab (xy W ?_);rw[hc];cases o.data with
   |fields vs =>
    show wpAny _ _ (if (ownsTuple n&&vs[0]?==some (rawInt a))=true then _ else _) _ _ _;rw[hn,Bool.false_and,aw (by decide)];show ae h
   |_=>show ae h
  |_=>show ae h
 cases target<;>first|show go|show ae h
def qc {o:Obj}{n:String}{vs:Array Value}(hc:o.cls=.type n)(hd:o.data=.fields vs)(U:n ≠ "builtin_function_or_method")(W:n ≠ "method-wrapper"):¬Frz o:=by
 rintro (⟨_,_,_,h⟩|⟨h|h,_⟩|⟨_,h⟩)
 ·rw[hd]at h;cases h
 ·rw[hc]at h;injection h with h;show U h
 ·rw[hc]at h;injection h with h;show W h
 ·rw[hd]at h;cases h
abbrev LA (G:Stc)(it l:Addr)(hne:l≠it)(xs:List V):Itr G where
 it:=it
 own:=[it]
 vs:=xs
 Gd:=λτ=>τ.L l=some xs
 tup:=false
 pos:=λi h=>h.IsListIter it l i
 keep:=λi h h' zz3 hk _=>by have#[o,ho,r]:=zz3;apply#[o,hk it (.head _) o ho,r]
 obj:=λi h z b hb=>by have#[o,ho,hc,hd]:=z;have rfl:=ah.mp hb;apply#[o,ho,qc hc hd (by decide) (by decide)]
 self:=λA E s i Q hp q=>wpAny_pyIter_listiter hp q
 next:=λA E s σ i v target Q hh R hg hp hv htup k=>by
  have#[ws,n,hl,hvs]:=R.L l xs hg;have#[w,hw,vr]:=hvs.get hv;apply wpAny_pyNext_list_item hp hl.isList (by simpa using hw) λh' hp' hs=>?_;have#[o,ho,hc,hd]:=id hp';show zi ho hc (by decide) (k w _ (nX hs .rfl) λhf=>#[vr.mono hf,hp'])
 stop:=λA E s σ i Q hh R hg hp hv k=>by
  have#[ws,n,hl,hvs]:=R.L l xs hg;have hlen:=hvs.length;show wpAny_pyNext_list_end hh hp hl.isList (by simpa[<- hlen] using hv) λh' he=>k _ (n9 he (.head _) .rfl)
end
end MP
end
section
namespace MP
open PySem PyProof.Rows
variable {α:Type}{ps:List Nat}
def slot_set_iter:Slot "set" "__iter__" "set.__iter__":=
 .of (owner:="set") (n:="__iter__") (by rw[gc,dw];kernel_rfl) (by decide +kernel) (by decide +kernel) (by decide +kernel)
  (by first|show .inl (by decide +kernel)|show .inr (by decide +kernel)) (by rw[jy];kernel_rfl)
def pB:entryFor table "set.__iter__"=some Builtin.«frozenset.__iter__»:=
 entryFor_alias (id':="frozenset.__iter__") (by kernel_rfl) (by first|rfl|decide +kernel|(unfold String.splitOn;simp +decide [String.splitOnAux])) (by decide +kernel) (by kernel_rfl)
def qW (a:Value):argsOk "set.__iter__" #[[a],[]]:=by unfold argsOk;kernel_rfl
def jw:Slot "set_iterator" "__next__" "set_iterator.__next__":=
 .of (owner:="set_iterator") (n:="__next__") (by rw[gc,dw];kernel_rfl) (by decide +kernel) (by decide +kernel) (by decide +kernel)
  (by first|show .inl (by decide +kernel)|show .inr (by decide +kernel)) (by rw[jy];kernel_rfl)
def vi:entryFor table "set_iterator.__next__"=some Builtin.«set_iterator.__next__»:=entryFor_of_fast (by kernel_rfl)
def vq (a:Value):argsOk "set_iterator.__next__" #[[a],[]]:=by unfold argsOk;kernel_rfl
def bO:Slot "set_iterator" "__iter__" "set_iterator.__iter__":=
 .of (owner:="set_iterator") (n:="__iter__") (by rw[gc,dw];kernel_rfl) (by decide +kernel) (by decide +kernel) (by decide +kernel)
  (by first|show .inl (by decide +kernel)|show .inr (by decide +kernel)) (by rw[jy];kernel_rfl)
def iM:entryFor table "set_iterator.__iter__"=some Builtin.«dict_keyiterator.__iter__»:=
 entryFor_alias (id':="dict_keyiterator.__iter__") (by kernel_rfl) (by first|rfl|decide +kernel|(unfold String.splitOn;simp +decide [String.splitOnAux])) (by decide +kernel) (by kernel_rfl)
def jO (a:Value):argsOk "set_iterator.__iter__" #[[a],[]]:=by unfold argsOk;kernel_rfl
def iL:∀(l:List α) {i:Nat} (h:i<l.length),(l[i]::l.eraseIdx i).Perm l
 |x::l,0,_=>.refl _
 |x::l,i+1,h=>(List.Perm.swap _ _ _).trans ((iL l (lI h)).cons x)
def AN (next:Nat->Nat):∀(f k:Nat) (l:List α) (W:Array α),l.length=f->(pickOrder.go next f k l W).toList.Perm (W.toList++l)
 |0=>λk l W h=>by
  have rfl:=yo.mp h;dsimp only[pickOrder.go];rw[dk]
 |f+1=>λk l W h=>by
  have O:next k%l.length<l.length:=Nat.mod_lt _ (az .C .r .aB h)
  dsimp only[pickOrder.go];rw[bb O];dsimp only;apply(AN next f (k+1) _ _ (by rw[List.length_eraseIdx_of_lt O];(show fb .D [[1,-1,-1],[1,1,1]] (.e .C .P) .Z h (aa (az .I .a .U O))))).trans ?_;rw[Array.toList_push,bg];show(cO _ (iL l O))
def CX (next:Nat->Nat)(xs:Array α):(pickOrder next xs).toList.Perm xs.toList:=by
 have:=AN next xs.size 0 xs.toList #v[] (by simp)
 simpa[pickOrder] using this
section
variable {G:Stc}{A:Around}{E:QqV}{s:Shared}
abbrev eN (G:Stc)(a:Addr)(es:Array (Int×Value))(ep:Nat):Array (Int×Value):=if G.w.params.followText "set-order" then pickOrder (G.w.params.setOrder a ep) es else es
def o7 (a:Addr)(es:Array (Int×Value))(ep:Nat):(eN G a es ep).toList.Perm es.toList:=by
 unfold eN;split
 ·show CX _ _
 ·show .refl _
def iE (a:Addr)(es:Array (Int×Value))(ep:Nat):(eN G a es ep).size=es.size:=by
 rw[<- gm,(o7 a es ep).length_eq,gm]
def cK {Q:Bool->Shared->Prop}(h:Q (G.w.params.followText "set-order") s):wpAny G.M A setsByText Q E s:=by
 unfold setsByText;show ab (yf (ae h))
def nU {a:Addr}{o:Obj}{es:Array (Int×Value)}{ep slot i:Nat}{t:SetTable}{Q:Option (Value×Nat)->Shared->Prop}(I:s.heap.get? a=some o)(hd:o.data=.set es ep t)(U:t.fits es.size=true)(z:Tbl G.led t)(J:G.led=true->(!t.plain&&decide (es.size>1))=false)
  (hs:G.led=true->SetTable.below t.place slot=i) (h:∀W,(i<es.size->G.led=true->SetTable.below t.place W=i+1)->Q (((eN G a es ep)[i]?).map λe=>(e.2,W)) s):wpAny G.M A (setNext a slot i ep) Q E s:=by
 have hz:t.place.size=es.size:=by
  unfold SetTable.fits at U;show fq.mp (qC.mp U).1
 unfold setNext;apply ab (dR I hd U ?_);dsimp only;apply ab (cK ?_);cases hb:G.w.params.followText "set-order" with
 |true =>
  have hl:G.led=false:=by show(!_)=false;rw[hb];rfl
  simp -iota only[i4,fu,↓reduceIte,pure_bind];unfold setWalk;apply ab (ab (dR I hd U ?_));dsimp only;apply ab (cK ?_);rw[hb];simp -iota only[↓reduceIte];apply ab (yf (ae (ae ?_)));have:=h slot (λ_ q=>by rw[hl]at q;cases q);unfold eN at this;rw[hb]at this;show this
 |false =>
  have hl:G.led=true:=by show(!_)=true;rw[hb];rfl
  have O:(!t.led&&!es.isEmpty)=false:=by rw[z.led,hl];rfl
  simp -iota only[fu,↓reduceIte];show wpAny _ _ (if (!t.plain&&decide (es.size>1))=true then _ else _) _ _ s;rw[J hl,aw (by decide)];apply ab ?_;show wpAny _ _ (if (!t.led&&!es.isEmpty)=true then _ else _) _ _ s;rw[O,aw (by decide)];apply ae ?_;have e0:eN G a es ep=es:=by unfold eN;rw[hb];rfl
  rw[hs hl];rw[e0]at h;rcases my i es.size with c|c
  ·have e1:es[i]?=some es[i]:=fw c;have c2:i<t.place.size:=by(show fb .B .m .aS .G hz c)
   have e2:t.place[i]?=some t.place[i]:=fw c2;have:=h (t.place[i]+1) λ_ _=>zO z.rise e2;rw[e1]at this;rw[e1,e2];show ae this
  ·have:=h slot λq=>by(show λq1=>(fb .aB .p .H .aD c q))
   rw[lL c]at this;rw[lL c];show ae this
abbrev lG (h:Heap)(it a:Addr)(f:Value)(i n ep:Nat):Prop:=
 ∃o,h.get? it=some o/\o.cls=.type "set_iterator"/\o.data=.fields #v[f,.int i 0,.ref a,.int n 0,.int ep 0]
def lG.typeIs {it a f i n ep}(x:lG s.heap it a f i n ep):s.TypeIs (.ref it) "set_iterator":=by
 have#[o,W,hc,_]:=x;apply#[o,W,hc]
def jG {it a:Addr}{f:Value}{i n ep:Nat}{Q:QqV}(hit:lG s.heap it a f i n ep)(h:Q (.ref it) s):wpAny G.M A (pyIter (.ref it)) Q E s:=by
 apply wpAny_pyIter_slot hit.typeIs bO (gy bO hit.typeIs iM ?_ (jO _));show wpAny _ _ (ret (.ref it)) _ _ s;show ae #[_,rfl,"set_iterator",_,hit.typeIs,jw.lookup,h]
def z9 {Q:List α->Shared->Prop}:∀(n:Nat) (xs:List α) (s:Shared),xs.length=n->(∀ys W,ys.Perm xs->Q ys {s with drawn:=W})->wpAny G.M A (drawOrder n xs) Q E s:=by
 intro n;induction n generalizing Q with
 |zero=>intro xs s e h;have rfl:=yo.mp e;show ae (h [] s.drawn (.refl _))
 |succ n U =>
  intro xs s e h;have#[x,l,rfl]:=ow e;dsimp only[drawOrder];apply ab (λI p O=>#[cZ _,?_]);generalize hi:G.M.w.draws Source.order (s.drawn.get Source.order)%(x::l).length=i;have lt:i<(x::l).length:=hi▸Nat.mod_lt _ (Nat.succ_pos _);have:=U ((x::l).eraseIdx i) {s with drawn:=s.drawn.bump .order} (by rw[List.length_eraseIdx_of_lt lt,e];rfl) (Q:=λys s'=>Q ((x::l)[i]::ys) s') λys W J=>h _ W ((J.cons _).trans (iL _ lt));show wpAny _ _ (match (x::l)[i]? with|some y=>_|none=>_) _ _ _;rw[bb lt];show ab (di this (λys s' h=>ae h) λ_ _ x=>x)
public abbrev cP (ps:List Nat):Obj:={cls:=.type "tuple",data:=.seq (ps.map λi:Nat=>rawInt i).toArray}
def HE {a:Addr}{o:Obj}{es:Array (Int×Value)}{ep:Nat}{t:SetTable}{Q:QqV}(W:s.heap.get? a=some o)(hc:o.cls=.type "set")(hd:o.data=.set es ep t)(O:t.fits es.size=true)(hb:es.size<scanBound)
  (h:(G.led=true->(!t.plain&&decide (es.size>1))=false)->Q (.ref s.heap.objs.size) {s with heap:=s.heap.push {cls:=.type "set_iterator",data:=.fields #v[.int (0:Nat) 0,.int (0:Nat) 0,.ref a,.int es.size 0,.int ep 0]}})
  (B:∀ps J,ps.Perm (List.range es.size)->Q (.ref (s.heap.push (cP ps)).objs.size) {s with heap:=(s.heap.push (cP ps)).push {cls:=.type "set_iterator",data:=.fields #v[.ref s.heap.objs.size,.int (0:Nat) 0,.ref a,.int es.size 0,.int ep 0]},drawn:=J}):wpAny G.M A (pyIter (.ref a)) Q E s:=by
 have U:s.TypeIs (.ref a) "set":=#[o,W,hc];apply wpAny_pyIter_slot U slot_set_iter (gy slot_set_iter U pB ?_ (qW _));unfold Builtin.«frozenset.__iter__»;apply ab (ae ?_);apply ab ?_;unfold Builtin.Frozenset.sizeOf;apply ab (hY W hd O (ae ?_));apply ab ?_;unfold setDrawn;apply ab (dR W hd O ?_);dsimp only;apply ab (cK ?_);apply ae ?_;show wpAny _ _ (if (!G.w.params.followText "set-order" && (!t.plain&&decide (es.size>1)))=true then _ else _) _ _ s;by_cases c:(!G.w.params.followText "set-order" && (!t.plain&&decide (es.size>1)))=true
 ·rw[cf c];apply ab (z9 _ _ _ nc λps J I=>?_);apply ab (wpAny_newTuple ?_ (by rw[aq,I.length_eq,nc];show jf (gw hb) (by rw[sizeLine_eq];decide)));apply ab (wpAny_setEpoch_of (ak _ W) hd O ?_);show ab (jg (ae #[_,rfl,"set_iterator",_,#[_,cq _ rfl,rfl],jw.lookup,B ps J I]))
 ·rw[aw c];apply ab (ae ?_);apply ab (wpAny_setEpoch_of W hd O ?_);apply ab (jg (ae #[_,rfl,"set_iterator",_,#[_,cq _ rfl,rfl],jw.lookup,h λq=>?_]));cases e:(!t.plain&&decide (es.size>1)) with
  |false=>rfl
  |true=>show absurd (by rw[e,Bool.and_true];show q) c
def zd {prog:Program}{w:World}{Q:α->Shared->Prop}(W:A.handled=none)
  (h:∀h' e,(∀b o,s.heap.get? b=some o->h'.get? b=some o)->(∃o,h'.get? e=some o/\o.cls=.type "StopIteration")->E (.ref e) {s with heap:=h'}):wpAny (model prog w) A (newExc (.type "StopIteration") []>>=raiseNew) Q E s:=by
 apply ab ?_;unfold newExc newTuple;apply ab (jg ?_ (by size_fits));apply ab (m:=firstArgMember _ _) (fo (a:=Value.none) (by first|rfl|(simp only[firstArgMember];rfl)) ?_);apply jg ?_ (by size_fits);unfold raiseNew;apply ab (wpAny_handled ?_);rw[W];show ab (ae (wpAny_throw (h _ _ (λb o e=>ak _ (ak _ e)) #[_,cq _ rfl,rfl])))
section
variable {it a:Addr}{o:Obj}{es:Array (Int×Value)}{ep i:Nat}{t:SetTable}{Q:Option Value->Shared->Prop}
def qM {slot:Nat}{x:Int×Value}(hit:lG s.heap it a (.int slot 0) i es.size ep)(ho:s.heap.get? a=some o)(hd:o.data=.set es ep t)(hf:t.fits es.size=true)(hT:Tbl G.led t)(I:G.led=true->(!t.plain&&decide (es.size>1))=false)
  (hs:G.led=true->SetTable.below t.place slot=i) (z:(eN G a es ep)[i]?=some x)
  (h:∀(W:Nat) h',lG h' it a (.int W 0) (i+1) es.size ep->(G.led=true->SetTable.below t.place W=i+1)->Heap.SameBut it s.heap h'->Q (some x.2) {s with heap:=h'}):wpAny G.M A (pyNext (.ref it)) Q E s:=by
 have#[oi,O,hc,U]:=id hit;have J:i<es.size:=by
  have#[q,_]:=nj.mp z;rw[iE]at q;show q
 unfold pyNext;apply ab (zq (mv (name:=Str.ofString "__next__") hit.typeIs jw
  (gy jw hit.typeIs vi ?_ (vq _))))
 unfold Builtin.«set_iterator.__next__»;apply ab (ae ?_);apply ab (wpAny_fieldsOf O U ?_);dsimp only;apply ab (hY ho hd hf ?_);rw[aw (by simp)];apply ab (m:=setNext a _ _ _) (nU (i:=i) (slot:=slot) ho hd hf hT I hs λW q=>?_);rw[z];dsimp only[Option.map_some];apply ab (mi O U (by simp) ?_);have g1:=iw (Obj.mapFields (·.setIfInBounds 0 (rawInt W))) O (oq (ix U _));have B:=ix U (·.setIfInBounds 0 (rawInt W));apply ab (mi (s:={s with heap:=s.heap.update it (Obj.mapFields (·.setIfInBounds 0 (rawInt W)))}) g1 B (by simp) (ae #[x.2,rfl,ae (h W _ ?_ (q J) ((gh ..).trans (gh ..)))]));apply⟨_,iw _ g1 (oq (ix B _)),(wt ..).trans ((wt ..).trans hc),by
  rw[ix B];simp[rawInt]⟩
def t8 {slot:Nat}(hh:A.handled=none)(hit:lG s.heap it a (.int slot 0) i es.size ep)(I:s.heap.get? a=some o)(hd:o.data=.set es ep t)(B:t.fits es.size=true)(hT:Tbl G.led t)(J:G.led=true->(!t.plain&&decide (es.size>1))=false)
  (hs:G.led=true->SetTable.below t.place slot=i) (z:(eN G a es ep)[i]?=none)
  (h:∀h',Heap.ExtBut it s.heap h'->Q none {s with heap:=h'}):wpAny G.M A (pyNext (.ref it)) Q E s:=by
 have#[oi,W,hc,U]:=id hit;unfold pyNext;apply ab (zq (mv (name:=Str.ofString "__next__") hit.typeIs jw
  (gy jw hit.typeIs vi ?_ (vq _))))
 unfold Builtin.«set_iterator.__next__»;apply ab (ae ?_);apply ab (wpAny_fieldsOf W U ?_);dsimp only;apply ab (hY I hd B ?_);rw[aw (by simp)];apply ab (m:=setNext a _ _ _) (nU (i:=i) (slot:=slot) I hd B hT J hs λO q=>?_);rw[z];dsimp only[Option.map_none];apply ab (mi W U (by simp) ?_);apply zd hh λh' e hk he=>?_;apply ab (fC (T:="StopIteration") (b:=true) he isSubtype_stop ?_);show ae (h _ λb o n e=>hk b o ((gh ..).extBut b o n e))
def rZ {O:Addr}(hit:lG s.heap it a (.ref O) i es.size ep)(z:s.heap.get? O=some (cP ps))(J:s.heap.get? a=some o)(hd:o.data=.set es ep t)(I:t.fits es.size=true)
  (h1:∀j,ps[i]?=some j->∃x,es[j]?=some x/\∀h',lG h' it a (.ref O) (i+1) es.size ep->Heap.SameBut it s.heap h'->Q (some x.2) {s with heap:=h'})
  (h2:ps[i]?=none->A.handled=none/\∀h',Heap.ExtBut it s.heap h'->Q none {s with heap:=h'}):wpAny G.M A (pyNext (.ref it)) Q E s:=by
 have#[oi,U,hc,W]:=id hit;unfold pyNext;apply ab (zq (mv (name:=Str.ofString "__next__") hit.typeIs jw
  (gy jw hit.typeIs vi ?_ (vq _))))
 unfold Builtin.«set_iterator.__next__»;apply ab (ae ?_);apply ab (wpAny_fieldsOf U W ?_);dsimp only;apply ab (hY J hd I ?_);rw[aw (by simp)];apply ab (pj z rfl ?_);dsimp only;rw[gu,show(ps.map λi:Nat=>rawInt i).toArray[i]?=ps[i]?.map λj:Nat=>rawInt j by simp];cases hj:ps[i]? with
 |some j =>
  have#[x,B,h]:=h1 j hj;show wpAny _ _ (setNextDrawn a _ _>>=_) _ _ _;unfold setNextDrawn;apply ab (ab (dR J hd I ?_));dsimp only;rw[aw (by simp),gu,B];apply ae ?_;apply ab (mi U W (by simp) (ae #[x.2,rfl,ae (h _ ?_ (gh ..))]));apply⟨_,iw _ U (oq (ix W _)),(wt ..).trans hc,by
   rw[ix W];simp[rawInt]⟩
 |none =>
  have#[hh,h]:=h2 hj;show wpAny _ _ (setField _ 0 _>>=_) _ _ _;apply ab (mi U W (by simp) ?_);apply ab (mi (s:={s with heap:=_}) (iw (Obj.mapFields (·.setIfInBounds 0 (rawInt 0))) U (oq (ix W _))) (ix W _) (by simp) ?_);apply zd hh λh' e hk he=>?_;apply ab (fC (T:="StopIteration") (b:=true) he isSubtype_stop ?_);show ae (h _ λb o n e=>hk b o ((gh ..).extBut b o n ((gh ..).extBut b o n e)))
def y2 {W j:Nat}{x:Int×Value}(hit:lG s.heap it a (.ref W) i es.size ep)(J:s.heap.get? W=some (cP ps))(I:s.heap.get? a=some o)(hd:o.data=.set es ep t)(B:t.fits es.size=true)
  (U:ps[i]?=some j) (O:es[j]?=some x)
  (h:∀h',lG h' it a (.ref W) (i+1) es.size ep->Heap.SameBut it s.heap h'->Q (some x.2) {s with heap:=h'}):wpAny G.M A (pyNext (.ref it)) Q E s:=
 rZ hit J I hd B (λk e=>by have rfl:=af (U.symm.trans e);apply#[x,O,h]) (λe=>by rw[U]at e;cases e)
def DL {W:Addr}(I:A.handled=none)(hit:lG s.heap it a (.ref W) i es.size ep)(U:s.heap.get? W=some (cP ps))(O:s.heap.get? a=some o)(hd:o.data=.set es ep t)(B:t.fits es.size=true)
  (J:ps[i]?=none) (h:∀h',Heap.ExtBut it s.heap h'->Q none {s with heap:=h'}):wpAny G.M A (pyNext (.ref it)) Q E s:=
 rZ hit U O hd B (λk e=>by rw[J]at e;cases e) (λ_=>#[I,h])
end
end
section
variable {G:Stc}{A:Around}{E:QqV}{s:Shared}{σ:St}
def mu {env:Env}{x:Str}{pos:Pos}{v:Value}{Q:QqV}(K:GOk G)(B:dQ env)(R:Rel G σ s.heap)(hx:env.scope.names.lookup x=some .globalImplicit)(hn:jr x=true)(W:G.gl x=some v)(h:Q v s):wpAny G.M A (eval (.Name x pos) env) Q E s:=by
 have J:(x==("__debug__":Str))=false:=by simp only[jr,fe,jl]at hn;show hn.1
 apply Calls.Name_function_global B.kind hx ?_ J;have#[z,mb,hg,hb,e]:=K.names;rw[e]at W;have U:s.heap.Ns env.globals z:=by rw[B.globals];show hg.keeps R.base
 have I:s.heap.Ns env.builtins mb:=by rw[B.builtins];show hb.keeps R.base
 cases O:z x with
 |some u=>rw[O]at W;cases W;show Calls.loadGlobal_global U O h
 |none=>rw[O]at W;show Calls.loadGlobal_builtin U O I W h
end
variable {A:Around}{E:QqV}{σ:St}{x:Str}{p pos:Pos}{tupled:Bool}
abbrev HD (G:Stc)(it:Addr)(a c:Int)(n:Nat)(xs:List V)(hl:xs.length=n)(hx:∀i,i<n->xs[i]?=some (.int (a+c*i))):Itr G where
 it:=it
 own:=[it]
 vs:=xs
 Gd:=λ_=>True
 tup:=false
 pos:=λi h=>i<=n/\IsRangeIter h it (a+c*i) (n-i) c
 keep:=λi h h' zz3 hk _=>by have#[hi,hp]:=zz3;apply#[hi,hk it (.head _) _ hp]
 obj:=λi h z b hb=>by have#[_,hp]:=z;have rfl:=ah.mp hb;apply#[_,hp,qc rfl rfl (by decide) (by decide)]
 self:=λA E s i Q hp q=>wpAny_pyIter_rangeiter hp.2 q
 next:=λA E s σ i v target Q hh R hg hp hv htup k=>by
  have#[hi,hp]:=hp;have hlt:i<n:=by rw[<- hl];show(cu.mp hv).1
  obtain rfl:v=.int (a+c*i):=af (hv.symm.trans (hx i hlt));apply wpAny_pyNext_range_item hp (az (.il .O (.s .L .P)) .a .U hlt) λh' hp' hs=>?_;have e:a+c*i+c=a+c*((i+1:Nat):Int):=by push_cast;rw[Int.mul_add];(show SE (.ie (.a (.a .A .B) .C) (.a .A (.a .B (.r .C 1)))) .n)
  have e2:(n:Int)-i-1=n-((i+1:Nat):Int):=by(show cX (.ie (.s (.s .L .P) .U) (.s .L (.t .P))) .n)
  rw[e,e2]at hp';show zi hp' rfl (by decide) (k _ _ (nX hs .rfl) λ_=>#[.int _ _,hlt,hp'])
 stop:=λA E s σ i Q hh R hg hp hv k=>by
  have#[hi,hp]:=hp;have hge:n<=i:=by rw[<- hl];show xd.mp hv
  show wpAny_pyNext_range_end hh hp (az (.ik (.s .L .P) .O) .a .A hge) λh' he=>k _ (n9 he (.head _) .rfl)
def IW {x:Int}{n:Nat}(h:x.natAbs<n):-(n:Int)<=x/\x<=n:=by(show#[((Ar.nab _).elim (λW=>(wZ (.ik (.g .L) .A) .a .a6 W.1)) λW=>(jQ (.ik (.g .L) .A) .d .U (.ie .P (.g .A)) h W.2)),((Ar.nab _).elim (λW=>(jQ (.ik .A .L) .d .U (.ie .P .A) h W.2)) λW=>(wZ (.ik .A .L) .a .aQ W.1))])
def jI {x:Int}(U:-(2^42)<=x)(W:x<=2^42):Builtin.Range.rangeFitsLong x=true:=by
 unfold Builtin.Range.rangeFitsLong;rw[fc (kr (by decide) U),fc (Int.lt_of_le_of_lt W (by decide))];rfl
def vA {a b c:Int}(O:a.natAbs<2^40)(hb:b.natAbs<2^40)(hc:0<c)(W:c<2^40):Builtin.Range.small a b c=true:=by
 have A:=IW O;have B:=IW hb;have U:0<=Builtin.Range.rangeSize a b c/\Builtin.Range.rangeSize a b c<=2^42:=by
  unfold Builtin.Range.rangeSize;rw[cf hc];split
  ·rename_i h;have h0:0<=b-a-1:=Int.le_sub_one_of_lt (Int.sub_pos.mpr h);apply#[Int.add_nonneg (Int.ediv_nonneg h0 (Int.le_of_lt hc)) (by decide),kr (Int.add_le_add_right (Int.ediv_le_self c h0) 1) (by rw[Int.sub_add_cancel];show kr (Int.sub_le_sub B.2 A.1) (by decide))]
  ·apply#[Int.le_refl _,by decide]
 unfold Builtin.Range.small;rw[cf hc,jI (kr (by decide) A.1) (kr A.2 (by decide)),jI (kr (by decide) B.1) (kr B.2 (by decide)),jI (kr (by decide) (Int.le_of_lt hc)) (kr (Int.le_of_lt W) (by decide)),jI (kr (by decide) U.1) U.2,
  jI (x:=b+(c-1)) (kr (by decide) (Int.add_le_add B.1 (Int.le_sub_one_of_lt hc))) (kr (Int.add_le_add B.2 (kr (Int.sub_le_self c (by decide)) (Int.le_of_lt W))) (by decide)),Bool.or_true]
 rfl
section
variable {G:Stc}{C:Cal}{sc:Scope}{d:Nat}
def pf {s:Shared}{env:Env}{ρ:Fr}{T:String}{es:Exs}{args:List Expr}{P:List V->St->Prop}{Q:QqV}(K:GOk G)(U:noStar args=true)(W:rf G C sc d es args)(O:sc.names.lookup x=some .globalImplicit)(hn:jr x=true)(J:G.gl x=some (.type T))(c:Cx G sc d A env ρ σ s)(h:vo C es ρ σ P)
  (k:∀vs σ₁ s₁ ws,P vs σ₁->VRs G s₁.heap vs ws->Rel G σ₁ s₁.heap->Go [] σ s σ₁ s₁->wpAny G.M A (call (.type T) ws) Q E s₁) :
  wpAny G.M A (eval (.Call (.Name x p) args [] pos) env) Q E s:=
 Call_ (mu K c.eo c.R (by rw[c.es];show O) hn J (we (kh U pos env) (ph (kh U pos env) (qI (W c h) k))))
def dW {s:Shared}{env:Env}{ρ:Fr}{id:String}{es:Exs}{args:List Expr}{P:List V->St->Prop}{Q:QqV}(K:GOk G)(J:noStar args=true)(W:rf G C sc d es args)(U:sc.names.lookup x=some .globalImplicit)(hn:jr x=true)(O:G.gl x=some (.builtin id))(c:Cx G sc d A env ρ σ s)(h:vo C es ρ σ P)
  (k:∀vs σ₁ s₁ ws,P vs σ₁->VRs G s₁.heap vs ws->Rel G σ₁ s₁.heap->Go [] σ s σ₁ s₁->wpAny G.M A (call (.builtin id) ws) Q E s₁) :
  wpAny G.M A (eval (.Call (.Name x p) args [] pos) env) Q E s:=
 Call_ (mu K c.eo c.R (by rw[c.es];show U) hn O (qx J W c h k))
def nZ {σ₀:St}{s₀:Shared}{a b c:Int}{t u v:Tok}{xs:List V}{n:Nat}{P:List V->(St->Prop)->St->Prop}{tk:Nat}{dr:Drawn}{s₁:Shared}(R:Rel G σ s₁.heap)(x:Go [] σ₀ s₀ σ s₁)(ha:a.natAbs<2^40)(hb:b.natAbs<2^40)(hc:0<c)(J:c<2^40)
  (O:Builtin.Range.rangeSize a b c=n) (hl:xs.length=n) (B:∀i,i<n->xs[i]?=some (.int (a+c*i))) (q:P xs (λ_=>True) σ) :
  wpAny G.M A (pyIter (.ref s₁.heap.objs.size)) (BU G σ₀ s₀ tupled P) E #[s₁.heap.push {cls:=.type "range",data:=.fields #v[.int a t,.int b u,.int c v]},s₁.gens,dr,tk,s₁.os]:=by
 apply wpAny_pyIter_range (IsRange.new ..) (vA ha hb hc J) ?_;have hk:∀z o,s₁.heap.get? z=some o->((s₁.heap.push {cls:=.type "range",data:=.fields #v[.int a t,.int b u,.int c v]}).push {cls:=.type "range_iterator",data:=.fields #v[rawInt a,rawInt (Builtin.Range.rangeSize a b c),rawInt c]}).get? z=some o:=λz o e=>ak _ (ak _ e);have U:(s₁.heap.push {cls:=.type "range",data:=.fields #v[.int a t,.int b u,.int c v]}).objs.size=s₁.heap.objs.size+1:=iy ..;have W:s₁.heap.get? (s₁.heap.objs.size+1)=none:=pk (qg (.k .A .M) .i);apply#[HD G (s₁.heap.objs.size+1) a c n xs hl B,σ,by rw[<- U];rfl,λh=>(nomatch h),q,#[bz _,?_],R.keeps hk,x.to (Evo.keeps hk),λz hz=>?_,λz hz dm=>?_]
 ·rw[<- U];have:=cq (s₁.heap.push {cls:=.type "range",data:=.fields #v[.int a t,.int b u,.int c v]}) (o:={cls:=.type "range_iterator",data:=.fields #v[rawInt a,rawInt (Builtin.Range.rangeSize a b c),rawInt c]}) rfl;show IsRangeIter _ _ (a+c*((0:Nat):Int)) ((n:Int)-((0:Nat):Int)) c;rw[show a+c*((0:Nat):Int)=a by simp,show(n:Int)-((0:Nat):Int)=n by simp,<- O];show this
 ·have rfl:=ah.mp hz;show x.new W
 ·have I:=ah.mp hz;clear hz;have rfl:=I;have#[o,e]:=R.ud dm;rw[W]at e;cases e
def oP (a b:Int)(n:Nat)(hn:n=(b-a).toNat):(pn a b).length=n/\∀i,i<n->(pn a b)[i]?=some (.int (a+1*i)):=by
 subst hn;apply#[by simp[pn],λi hi=>?_];unfold pn;rw[cp,eX hi];simp
def LD {e:Ex}{y:Expr}(K:GOk G)(B:fk G C sc d e y)(U:noStar [y]=true)(J:sc.names.lookup x=some .globalImplicit)(hn:jr x=true)(I:G.gl x=some (.type "range")) :
  eU G C sc d tupled (.rng1 e) (.Call (.Name x p) [y] [] pos):=λA E env ρ σ P s c h=>by
 have O:rf G C sc d %[e|0] [y]:=ir B ll (fm U).1;apply pf (P:=λvs σ=>on1 vs λv=>∃n:Int,v=.int n/\n.natAbs<2^40/\P (pn 0 n) (λ_=>True) σ) K U O J hn I c h λvs σ₁ s₁ ws q vr r W=>?_;have#[v,rfl,n,rfl,hb,q]:=ze (vs:=vs) q;have#[w,rfl,t,rfl]:=vr.one;have#[g1,g2]:=oP 0 n _ rfl;show call_range_1 (nZ r W (by decide) hb (by decide) (by decide) (by rw[rangeSize_nat]) g1 g2 q)
def LC {e f:Ex}{y z:Expr}(K:GOk G)(he:fk G C sc d e y)(B:fk G C sc d f z)(W:noStar [y,z]=true)(J:sc.names.lookup x=some .globalImplicit)(hn:jr x=true)(I:G.gl x=some (.type "range")) :
  eU G C sc d tupled (.rng2 e f) (.Call (.Name x p) [y,z] [] pos):=λA E env ρ σ P s c h=>by
 have O:rf G C sc d %[e,f|0] [y,z]:=ir he (ir B ll (fm (fm W).2).1) (fm W).1;apply pf (P:=λvs σ=>on2 vs λv u=>∃m n:Int,v=.int m/\u=.int n/\m.natAbs<2^40/\n.natAbs<2^40/\P (pn m n) (λ_=>True) σ) K W O J hn I c h λvs σ₁ s₁ ws q vr r U=>?_;have#[v,u,rfl,m,n,rfl,rfl,ha,hb,q]:=o8 (vs:=vs) q;have#[w,w',rfl,#[t,rfl],#[t',rfl]]:=vr.two;have#[g1,g2]:=oP m n _ rfl;show call_range_2 (nZ r U ha hb (by decide) (by decide) (by rw[rangeSize_nat]) g1 g2 q)
def VRs.three {h:Heap}{v u z:V}{ws:List Value}(x:VRs G h [v,u,z] ws):∃w U W,ws=[w,U,W]/\VR G h v w/\VR G h u U/\VR G h z W:=by
 have#[w,us,e,a,r]:=x;have#[U,W,O,b,c]:=VRs.two r;apply#[w,U,W,e.trans (cc (w::·) O),a,b,c]
end
section
variable {G:Stc}
def kQ {k:Key}{v:Value}(h:G.kk.is k v=true):tF v=k:=jE h
def OZ {h:Heap}{k:Key}{v:Value}(e:G.kk.is k v=true):VR G h k.v v:=by
 rcases vj e with ⟨i,t,rfl,rfl⟩|⟨x,t,rfl,rfl⟩
 ·show .int _ _
 ·show .str _ _
abbrev kP (l:List (Int×Value)):List Key:=l.map λe=>tF e.2
def y4 {l es:List (Int×Value)}{ks:List Key}(O:l.Perm es)(B:ElemsOf G.kk es)(I:∀k,decide (k∈ks)=true↔∃e∈es,G.kk.is k e.2=true)(k:Key):k∈kP l↔k∈ks:=by
 apply Iff.trans #[λh=>?_,λh=>?_] ((I k).symm.trans (by simp))
 ·have#[e,U,W]:=ee.mp h;have J:=O.mem_iff.mp U;have#[#[k',q,_],_]:=B e J;rw[kQ q]at W;apply#[e,J,W▸q]
 ·have#[e,U,W]:=h;show ee.mpr #[e,O.mem_iff.mpr U,kQ W]
def D0 {l es:List (Int×Value)}{i:Nat}{v:V}(I:ElemsOf G.kk es)(J:l.Perm es)(W:((kP l).map Key.v)[i]?=some v):∃x,l[i]?=some x/\∀h,VR G h v x.2:=by
 unfold kP at W;rw[cp,cp]at W;cases U:l[i]? with
 |none=>rw[U]at W;cases W
 |some x =>
  rw[U]at W;have rfl:=af W;have#[#[k',q,_],_]:=I x (J.mem_iff.mp (dt U));apply#[x,rfl,λh=>?_];have O:G.kk.is (tF x.2) x.2=true:=by rw[kQ q];show q
  show OZ O
def z8 {es:Array (Int×Value)}{ps:List Nat}(U:ps.Perm (List.range es.size)):(ps.map λj=>es.getD j (0,.none)).Perm es.toList:=by
 apply(U.map _).trans (.of_eq (kC (by simp) λi O W=>?_));simp at O W;simp[Array.getD,W]
end
abbrev PA (G:Stc)(it t:Addr)(xs:List V):Itr G where
 it:=it
 own:=[it]
 vs:=xs
 Gd:=λ_=>True
 tup:=false
 pos:=λi h=>IsTupIter h it t i/\t≠it/\∃ws n,IsT h t ws.toArray n/\VRs G h xs ws
 keep:=λi h h' zz3 hk hf=>by have#[#[o,ho,r],hne,ws,n,ht,vr]:=zz3;apply#[#[o,hk it (.head _) o ho,r],hne,ws,n,hf t _ (show h.get? t=some {cls:=.type "tuple",dict:=none,data:=.seq ws.toArray n,slots:=#v[]} from ht) (.inl #[show Value.type "tuple" ≠ .type "list" by decide,_,_,rfl]),vr.mono hf]
 obj:=λi h z b hb=>by have#[#[o,ho,hc,hd],_]:=z;have rfl:=ah.mp hb;apply#[o,ho,qc hc hd (by decide) (by decide)]
 self:=λA E s i Q hp q=>wpAny_pyIter_tupleiter hp.1 q
 next:=λA E s σ i v target Q hh R hg hp hv htup k=>by
  have#[hp,hne,ws,n,ht,vrs]:=hp;have#[w,hw,vr]:=vrs.get hv;apply next_tuple_item hp #[_,ht,rfl,n,rfl] (by simpa using hw) λh' hp' hs=>?_;have#[o,ho,hc,hd]:=id hp';show zi ho hc (by decide) (k w _ (nX hs .rfl) λhf=>#[vr.mono hf,hp',hne,ws,n,by rw[IsT,hs.2 _ hne];show ht,vrs.mono hf])
 stop:=λA E s σ i Q hh R hg hp hv k=>by
  have#[hp,hne,ws,n,ht,vrs]:=hp;have hlen:=vrs.length;show next_tuple_end hh hp #[_,ht,rfl,n,rfl] (by simpa[<- hlen] using hv) λh' he=>k _ (n9 he (.head _) .rfl)
section
variable {G:Stc}{C:Cal}{sc:Scope}{d:Nat}
def PB {tupled:Bool}{e:Ex}{y:Expr}(B:fk G C sc d e y):eU G C sc d tupled (.seq e) y:=λA E env ρ σ P s c h=>by
 apply rp (B c h) λv σ₁ s₁ w q vr r x=>?_;have W:s₁.heap.get? s₁.heap.objs.size=none:=none_at_size s₁.heap;have U:s.heap.get? s₁.heap.objs.size=none:=x.new W;have O:¬σ₁.dom s₁.heap.objs.size:=λdm=>by have#[o,e]:=r.ud dm;rw[W]at e;cases e
 cases v with
 |L a =>
  have rfl:=vr;have#[xs,e,q]:=q;have#[ws,n,hl,hv]:=r.L _ _ e;have J:=jz (jd hl);apply mJ hl.isList ?_;apply#[LA G s₁.heap.objs.size _ J xs,σ₁,rfl,λh=>(nomatch h),q,#[_,cq _ rfl,rfl,rfl],r.push _,x.to (Evo.push _ _ _ _),λz hz=>by have rfl:=ah.mp hz;show U,λz hz=>by have rfl:=ah.mp hz;show O]
 |T xs =>
  have#[a,ws,n,rfl,g,I]:=vr;have J:=jz (jd g);apply iter_tuple #[_,g,rfl,_,rfl] ?_;apply#[PA G s₁.heap.objs.size _ _,σ₁,rfl,λh=>(nomatch h),q,#[#[_,cq _ rfl,rfl,rfl],J,_,_,g.push _,I.mono λ_ _ e _=>ak _ e],r.push _,x.to (Evo.push _ _ _ _),λz hz=>by have rfl:=ah.mp hz;show U,λz hz=>by have rfl:=ah.mp hz;show O]
 |_=>show False.elim q
end
section
variable {it:Addr}{Q:QqV}{i:Nat}
variable {prog:Program}{w:World}{A:Around}{E:QqV}{s:Shared}
def cH {T id:String}{b:Builtin}(W:s.TypeIs (.ref it) T)(S:Slot T "__next__" id)(U:entryFor table id=some b)(O:argsOk id #[[.ref it],[]])
  (h:wpAny (model prog w) A.in1 (b #[[.ref it],[]]) (λfin s'=>∃v,fin=.done (.ret v)/\Q v s') E s):wpAny (model prog w) A (Builtin.SmallTypes.nextOf (.ref it)) Q E s:=by
 unfold Builtin.SmallTypes.nextOf;show ab (mv (name:=Str.ofString "__next__") W S (gy S W U (di h (λ_ _ x=>by have#[v,e,q]:=x;apply#[v,e,ae q]) λ_ _ x=>x) O))
def mS {t:Addr}{items:Array Value}{x:Value}(hit:IsTupIter s.heap it t i)(I:IsTup s.heap t items)(J:items[i]?=some x)
  (B:∀h',IsTupIter h' it t (i+1)->Heap.SameBut it s.heap h'->Q x {s with heap:=h'}):wpAny (model prog w) A (Builtin.SmallTypes.nextOf (.ref it)) Q E s:=by
 have#[o,W,hc,hd]:=id hit;have#[ol,U,_,nl,O]:=I;apply cH #[o,W,hc] kq qq (qj _) ?_;show wpAny _ _ (field (.ref it) 0>>=_) _ _ s;apply ab (om W hd (x:=.ref t) rfl ?_);show wpAny _ _ (if (Value.ref t==Value.none)=true then _ else _) _ _ s;rw[aw (show ¬((Value.ref t==Value.none)=true) from fy)];show wpAny _ _ (field (.ref it) 1>>=_) _ _ s;apply ab (om W hd (x:=.int i 0) rfl ?_);show wpAny _ _ (seqItems? (.ref t)>>=_) _ _ s;apply ab (pj U O ?_);simp only[gu,J];apply ab (mi W hd (by simp) (ae #[x,rfl,B _ ?_ (gh ..)]));apply⟨_,iw _ W (oq (ix hd _)),(wt ..).trans hc,by
  rw[ix hd];simp[rawInt]⟩
def oD {t:Addr}{items:Array Value}(B:A.handled=none)(hit:IsTupIter s.heap it t i)(I:IsTup s.heap t items)(J:items[i]?=none)
  (hE:∀h' e,Heap.ExtBut it s.heap h'->(∃o,h'.get? e=some o/\o.cls=.type "StopIteration")->E (.ref e) {s with heap:=h'}):wpAny (model prog w) A (Builtin.SmallTypes.nextOf (.ref it)) Q E s:=by
 have#[o,W,hc,hd]:=id hit;have#[ol,U,_,nl,O]:=I;apply cH #[o,W,hc] kq qq (qj _) ?_;show wpAny _ _ (field (.ref it) 0>>=_) _ _ s;apply ab (om W hd (x:=.ref t) rfl ?_);show wpAny _ _ (if (Value.ref t==Value.none)=true then _ else _) _ _ s;rw[aw (show ¬((Value.ref t==Value.none)=true) from fy)];show wpAny _ _ (field (.ref it) 1>>=_) _ _ s;apply ab (om W hd (x:=.int i 0) rfl ?_);show wpAny _ _ (seqItems? (.ref t)>>=_) _ _ s;apply ab (pj U O ?_);simp only[gu,J];show ab (lq (ab (mi W hd (by simp) (zd (A:=A.in1) B λh' e k z=>hE _ _ (λb o hb x=>k b o ((gh ..).extBut b o hb x)) z))))
def mT {b:Array UInt8}{t:Tok}{c:UInt8}(hit:PySem.W.KBw.IsBytesIter s.heap it b t i)(O:b[i]?=some c)
  (J:∀h',PySem.W.KBw.IsBytesIter h' it b t (i+1)->Heap.SameBut it s.heap h'->Q (.int (c.toNat:Int) s.toks) {s with heap:=h',toks:=s.toks+1}):wpAny (model prog w) A (Builtin.SmallTypes.nextOf (.ref it)) Q E s:=by
 have#[o,U,hc,hd]:=id hit;apply cH (PySem.W.KBw.iter_typeIs hit) PySem.W.KBw.slot_next PySem.W.KBw.entry_next (PySem.W.KBw.args_next _) ?_;show wpAny _ _ (field (.ref it) 0>>=_) _ _ s;apply ab (om U hd (x:=.bytes b t) rfl ?_);show wpAny _ _ (if (Value.bytes b t==Value.none)=true then _ else _) _ _ s;rw[aw (show ¬((Value.bytes b t==Value.none)=true) from fy)];show wpAny _ _ (field (.ref it) 1>>=_) _ _ s;apply ab (om U hd (x:=.int i 0) rfl ?_);apply ab (fo (a:=b) rfl ?_);simp only[gu,O];apply ab (mi U hd (by simp) (ab (wpAny_mkInt (ae #[_,rfl,J _ ?_ (gh ..)]))));apply⟨_,iw _ U (oq (ix hd _)),(wt ..).trans hc,by
  rw[ix hd];simp[rawInt]⟩
def oE {b:Array UInt8}{t:Tok}(J:A.handled=none)(hit:PySem.W.KBw.IsBytesIter s.heap it b t i)(O:b[i]?=none)
  (B:∀h' e,Heap.ExtBut it s.heap h'->(∃o,h'.get? e=some o/\o.cls=.type "StopIteration")->E (.ref e) {s with heap:=h'}):wpAny (model prog w) A (Builtin.SmallTypes.nextOf (.ref it)) Q E s:=by
 have#[o,U,hc,hd]:=id hit;apply cH (PySem.W.KBw.iter_typeIs hit) PySem.W.KBw.slot_next PySem.W.KBw.entry_next (PySem.W.KBw.args_next _) ?_;show wpAny _ _ (field (.ref it) 0>>=_) _ _ s;apply ab (om U hd (x:=.bytes b t) rfl ?_);show wpAny _ _ (if (Value.bytes b t==Value.none)=true then _ else _) _ _ s;rw[aw (show ¬((Value.bytes b t==Value.none)=true) from fy)];show wpAny _ _ (field (.ref it) 1>>=_) _ _ s;apply ab (om U hd (x:=.int i 0) rfl ?_);apply ab (fo (a:=b) rfl ?_);simp only[gu,O];show ab (lq (ab (mi U hd (by simp) (zd (A:=A.in1) J λh' e k I=>B _ _ (λb o hb x=>k b o ((gh ..).extBut b o hb x)) I))))
def zH {c:Value}{Q:Bool->Shared->Prop}(h:∀b,Q b s):wpAny (model prog w) A (Builtin.SmallTypes.calledThroughType c) Q E s:=ab (wpAny_stack_any λ_=>ae (h _))
def oG {v:Value}{ob:Obj}{Pre:Heap->Prop}(J:∀{prog:Program} {w:World} {A:Around} {E:QqV} {s:Shared} {Q:QqV},Pre s.heap->Q (.ref s.heap.objs.size) {s with heap:=s.heap.push ob}->wpAny (model prog w) A (pyIter v) Q E s) :
  Meets (Builtin.«enumerate.__new__» #[[.type "enumerate",v],[]]) (λ_ R s=>Pre s.heap /\
   R (.ok (.ret (.ref (s.heap.push ob).objs.size))) {s with heap:=(s.heap.push ob).push {cls:=.type "enumerate",data:=.fields #v[.none,.bool false,.ref s.heap.objs.size,rawInt 0,.none,.none]}}):=
 .of_wp λprog w A R s h=>by
  have#[W,g,d,tk,os]:=s;have#[hl,h]:=h;have U:=sub_enumerate;have O:∀{A:Around} {E:QqV} {Q:QqV},Q (.ref W.objs.size) #[W.push ob,g,d,tk,os]->wpAny (model prog w) A (pyIter v) Q E #[W,g,d,tk,os]:=λq=>J (s:=#[W,g,d,tk,os]) hl q
  wp_walk using zH
  intro b;cases b
  ·wp_walk using O
   apply#[_,rfl,h]
  ·wp_walk using O
   apply#[_,rfl,h]
def DR {v:Value}{ob:Obj}{Pre:Heap->Prop}(J:ob.isFreed=false)(U:∀{prog:Program} {w:World} {A:Around} {E:QqV} {s:Shared} {Q:QqV},Pre s.heap->Q (.ref s.heap.objs.size) {s with heap:=s.heap.push ob}->wpAny (model prog w) A (pyIter v) Q E s)
  (O:Pre s.heap) (h:∀h',IsEnum h' (s.heap.objs.size+1) s.heap.objs.size 0 .none->h'.get? s.heap.objs.size=some ob->(∀b o,s.heap.get? b=some o->h'.get? b=some o)->Q (.ref (s.heap.objs.size+1)) {s with heap:=h'}) :
  wpAny (model prog w) A (call (.type "enumerate") [v]) Q E s:=by
 apply callType_new PySem.F.called_enumerate (by decide) (PySem.F.typeCall_enumerate_1 _) (PySem.F.newCall_enumerate_1 _) (λobj=>PySem.F.args_object_init_2 obj _) PySem.F.entry_enumerate_new (oG U) #[O,?_];have hz:(s.heap.push ob).objs.size=s.heap.objs.size+1:=iy ..;show _/\_;rw[hz];have W:IsEnum ((s.heap.push ob).push {cls:=.type "enumerate",data:=.fields #v[.none,.bool false,.ref s.heap.objs.size,rawInt 0,.none,.none]}) (s.heap.objs.size+1) s.heap.objs.size 0 .none:=by
  have:=cq (s.heap.push ob) (o:={cls:=.type "enumerate",data:=.fields #v[.none,.bool false,.ref s.heap.objs.size,rawInt 0,.none,.none]}) rfl;rw[hz]at this;show this
 apply#[#[_,W,rfl],h _ W (ak _ (cq _ J)) λb o x=>ak _ (ak _ x)]
end
def HX {prog:Program}{w:World}{A:Around}(z:A.handled=none)(it t:Addr)(I:t≠it)(items:Array Value) :
  Draws prog w A it [it,t] items.size (λi v=>items[i]?=some v) (λi h=>IsTupIter h it t i/\IsTup h t items) where
 live:=λ_ _ st=>let ⟨o,U,_⟩:=st.1;#[o,U]
 frame:=λ_ _ _ st hk=>by have#[#[o,U,r],#[o',J,B]]:=st;apply#[#[o,hk it (.head _) o U,r],#[o',hk t (.tail _ (.head _)) o' J,B]]
 item:=λi s Q E hi st hQ=>mS st.1 st.2 (fw hi) λh' O W=>hQ _ h' s.toks (fw hi) #[O,by have#[_,#[o,U,r]]:=st;apply#[o,W.extBut t o I U,r]] W
 done:=λs Q E st hE=>oD z st.1 st.2 (by simp) hE
def HZ {prog:Program}{w:World}{A:Around}(I:A.handled=none)(it:Addr)(b:Array UInt8)(t:Tok) :
  Draws prog w A it [it] b.size (λi v=>∃c u,b[i]?=some c/\v=.int (c.toNat:Int) u) (λi h=>PySem.W.KBw.IsBytesIter h it b t i) where
 live:=λ_ _ st=>let ⟨o,J,_⟩:=st;#[o,J]
 frame:=λ_ _ _ st hk=>let ⟨o,J,r⟩:=st;#[o,hk it (by simp) o J,r]
 item:=λi s Q E hi st B=>mT st (fw hi) λh' U O=>B _ h' (s.toks+1) #[_,_,fw hi,rfl] U O
 done:=λs Q E st z=>oE I st (by simp) z
def HY {prog:Program}{w:World}{A:Around}(W:A.handled=none)(it:Addr)(x:Str)(t:Tok) :
  Draws prog w A it [it] x.cps.size (λi v=>∃c u,x.cps[i]?=some c/\v=.str #[#v[c]] u) (λi h=>h.IsStrIter it (strIterType x) x t i):=by
 unfold strIterType;cases x.cps.all (·<128)
 ·show Draws.strWide W it x t
 ·show Draws.strAscii W it x t
variable {xs:List V}{a it:Addr}
public abbrev zY (T:String)(x0:Value)(it:Addr)(i:Nat)(h:Heap):Prop:=∃o,h.get? it=some o/\o.cls=.type T/\o.data=.fields #v[x0,.int i 0]
abbrev DY (G:Stc)(v:V)(xs:List V)(it:Addr)(fp:List Addr)(T:String)(x0:Value)(okF:Heap->Prop):Prop:=
 ∀⦃σ:St⦄ ⦃h:Heap⦄ ⦃i:Nat⦄ ⦃A:Around⦄,A.handled=none->okF h->zY T x0 it i h->Rel G σ h->ub σ v=some xs ->
  ∃P St,Draws G.prog G.w A it fp xs.length P St/\St i h/\(∀j h',St j h'->zY T x0 it j h')/\∀u w h',jn h h'->P i w->xs[i]?=some u->VR G h' u w
abbrev LB {G:Stc}{e it:Addr}{v:V}{xs:List V}{fp:List Addr}{T:String}{x0:Value}{okF:Heap->Prop}(hei:e≠it)(hef:e∉fp)(h1:T ≠ "builtin_function_or_method")(h2:T ≠ "method-wrapper")
  (okf:∀h h',okF h->jn h h'->okF h') (src:DY G v xs it fp T x0 okF):Itr G where
 it:=e
 own:=[e,it]
 vs:=xs.zipIdx.map λp=>V.T [.int p.2,p.1]
 Gd:=λτ=>ub τ v=some xs
 tup:=true
 pos:=λi h=>(∃old,IsEnum h e it i old)/\zY T x0 it i h/\okF h/\i<=xs.length
 keep:=λi h h' zz3 hk hf=>by have#[#[old,he],#[o,ho,r],hz]:=zz3;apply#[#[old,hk e (.head _) _ he],#[o,hk it (.tail _ (.head _)) o ho,r],okf _ _ hz.1 hf,hz.2]
 obj:=λi h z b hb=>by
  have#[#[old,he],#[o,ho,hc,hd],hz]:=z;rcases bw.mp hb with rfl|hb
  ·apply#[_,he,qc rfl rfl (by decide) (by decide)]
  ·have rfl:=ah.mp hb;apply#[o,ho,qc hc hd h1 h2]
 self:=λA E s i Q hp q=>by have#[#[old,he],_]:=hp;show wpAny_pyIter_enum he q
 next:=λA E s σ i u target Q hh R hg hp hv htup k=>by
  have#[#[old,he],hit,hok]:=hp;rw[cp,List.getElem?_zipIdx]at hv;cases hxi:xs[i]? with
  |none=>rw[hxi]at hv;cases hv
  |some u' =>
   rw[hxi]at hv;have hv:V.T [.int (0+i:Nat),u']=u:=af hv;rw[mw]at hv;subst hv;have#[es,kk,p,rfl]:=htup rfl;have#[P,St,D,hst,back,val]:=src (A:=A.in1) hh hok.1 hit R hg;have hlt:i<xs.length:=(cu.mp hxi).1;apply wpAny_pyNext_enum_itemD D he hst hlt hei hef λx h' tk hP heo hst' htp hz hk=>?_;apply wpAny_letOwnedTupleGo_enum heo λh₂ he₂ hs₂=>?_;have old':∀b o,b∉[e,it]->s.heap.get? b=some o->h₂.get? b=some o:=λb o hb eb=>by
    have hbe:b≠e:=λq=>hb (q▸.head _);rw[hs₂.2 b hbe];show hk b o hbe (λq=>hb (q▸.tail _ (.head _))) eb
   have hne:s.heap.objs.size≠e:=λq=>jq e (Nat.lt_of_lt_of_eq (jd he) q);have htp2:IsT h₂ s.heap.objs.size [Value.int i tk,x].toArray 0:=by
    show h₂.get? _=_;rw[hs₂.2 _ hne];show htp
   show k _ _ #[old',.rfl] λhf=>#[.T htp2 %[.int _ _,val u' x _ hf hP hxi|0],#[_,by exact_mod_cast he₂],back _ _ (D.frame _ _ _ hst' λb hb o eb=>by rw[hs₂.2 b λq=>hef (q▸hb)];show eb),okf _ _ hok.1 hf,hlt]
 stop:=λA E s σ i Q hh R hg hp hv k=>by
  have#[#[old,he],hit,hok]:=hp;have#[P,St,D,hst,back,val]:=src (A:=A.in1) hh hok.1 hit R hg;have hx:xs.length<=i:=by
   have:=xd.mp hv
   rwa [aq,List.length_zipIdx]at this
  have rfl:=Nat.le_antisymm hok.2 hx;show wpAny_pyNext_enum_endD D he hst λh' hx'=>k _ (n9 hx' (.tail _ (.head _)) .rfl)
section
variable {G:Stc}{C:Cal}{sc:Scope}{d:Nat}
def nC {A:Around}{E:QqV}{σ σ₁:St}{s s₁:Shared}{tp:Bool}{P:List V->(St->Prop)->St->Prop}{v:V}{w x0:Value}{T:String}{fp:List Addr}{Pre okF:Heap->Prop}(B:T ≠ "builtin_function_or_method"/\T ≠ "method-wrapper"/\({cls:=.type T,data:=.fields #v[x0,.int 0 0]}:Obj).isFreed=false)
  (hv:∀{prog:Program} {w':World} {A:Around} {E:QqV} {s:Shared} {Q:QqV},Pre s.heap->Q (.ref s.heap.objs.size) {s with heap:=s.heap.push {cls:=.type T,data:=.fields #v[x0,.int 0 0]}}->wpAny (model prog w') A (pyIter w) Q E s)
  (hp:Pre s₁.heap) (I:∀b∈fp,b<s₁.heap.objs.size+1) (J:tp=true) (ok:okF s₁.heap) (U:∀h h',okF h->jn h h'->okF h') (O:DY G v xs s₁.heap.objs.size fp T x0 okF)
  (q:P (xs.zipIdx.map λp:V×Nat=>V.T [.int p.2,p.1]) (λτ=>ub τ v=some xs) σ₁) (r:Rel G σ₁ s₁.heap) (W:Go [] σ s σ₁ s₁):wpAny G.M A (call (.type "enumerate") [w]) (λv s₂=>wpAny G.M A (pyIter v) (BU G σ s tp P) E s₂) E s₁:=by
 apply DR B.2.2 hv hp λh' hE hI hk=>?_;apply wpAny_pyIter_enum hE ?_;have fresh:∀z∈[s₁.heap.objs.size+1,s₁.heap.objs.size],s₁.heap.get? z=none:=λz hz=>pk (by
  rcases bw.mp hz with rfl|hz
  ·show dS _
  ·have rfl:=ah.mp hz;show av _)
 apply⟨LB (G:=G) (e:=s₁.heap.objs.size+1) (Nat.succ_ne_self _) (λm=>jq _ (I _ m)) B.1 B.2.1 U O,σ₁,rfl,λ_=>J,q,#[#[_,hE],#[_,hI,rfl,rfl],U _ _ ok λb o e _=>hk b o e,bz _],r.keeps hk,W.to (Evo.keeps hk),λz hz=>W.new (fresh z hz),λz hz dm=>by
  have#[o,e]:=r.ud dm;rw[fresh z hz]at e;cases e⟩
def N7 {b:Addr}(h:a<b):∀z∈[b,a],z<b+1:=λz hz=>by
 rcases bw.mp hz with rfl|hz
 ·show tf _
 ·have rfl:=ah.mp hz;show Nat.lt_succ_of_lt h
def H4 {b:Addr}:∀z∈[b],z<b+1:=λz hz=>by have rfl:=ah.mp hz;show tf _
def JS (J:a≠it):DY G (.L a) xs it [it,a] "list_iterator" (.ref a) (λ_=>True):=λσ h i A B _ hit R z=>by
 have#[ws,n,hl,W]:=R.L a xs z;have D:=Draws.list (prog:=G.prog) (w:=G.w) B it a J ws.toArray;rw[show ws.toArray.size=xs.length from cw.trans W.length.symm]at D;apply#[_,_,D,#[hit,hl.isList],λ_ _ x=>x.1,λu w h' hf U I=>?_];have#[w',O,vr]:=W.get I;have U:ws[i]?=some w:=by rw[<- n4];show U
 rw[O]at U;show af U▸vr.mono hf
def JQ {us:List Value}{n:Nat}(O:a≠it):DY G (.T xs) xs it [it,a] "tuple_iterator" (.ref a) (λh=>IsT h a us.toArray n/\VRs G h xs us):=λσ h i A I ok hit R hg=>by
 have D:=HX (prog:=G.prog) (w:=G.w) I it a O us.toArray;rw[show us.toArray.size=xs.length from cw.trans ok.2.length.symm]at D;apply#[_,_,D,#[hit,#[_,ok.1,rfl,_,rfl]],λ_ _ x=>x.1,λu w h' B W J=>?_];have#[z,U,vr]:=ok.2.get J;have W:us[i]?=some w:=by rw[<- n4];show W
 rw[U]at W;show af W▸vr.mono B
def JR {x:Str}{t:Tok}:DY G (.str x) (wh x) it [it] (strIterType x) (.str x t) (λ_=>True):=λσ h i A U _ hit R J=>by
 have D:=HY (prog:=G.prog) (w:=G.w) U it x t;rw[<- show(wh x).length=x.cps.size by unfold wh;rw[aq,gm]]at D;apply#[_,_,D,hit,λ_ _ x=>x,λu w h' I O W=>?_];have#[c,k,hc,rfl]:=O;unfold wh at W;rw[cp,nv,hc]at W;have rfl:=af W;apply#[k,rfl]
def JT {b:Array UInt8}{t:Tok}:DY G (.bys b) (qU b) it [it] "bytes_iterator" (.bytes b t) (λ_=>True):=λσ h i A U _ hit R J=>by
 have D:=HZ (prog:=G.prog) (w:=G.w) U it b t;rw[<- show(qU b).length=b.size by unfold qU;rw[aq,gm]]at D;apply#[_,_,D,hit,λ_ _ x=>x,λu w h' I O W=>?_];have#[c,k,hc,rfl]:=O;unfold qU at W;rw[cp,nv,hc]at W;have rfl:=af W;apply#[k,rfl]
def LF {e:Ex}{x:Str}{y:Expr}{p pos:Pos}(K:GOk G)(he:fk G C sc d e y)(J:noStar [y]=true)(hx:sc.names.lookup x=some .globalImplicit)(hn:jr x=true)(hv:G.gl x=some (.type "enumerate")) :
  eU G C sc d true (.enum e) (.Call (.Name x p) [y] [] pos):=λA E env ρ σ P s c h=>by
 have B:rf G C sc d %[e|0] [y]:=ir he ll (fm J).1;apply pf (P:=λvs σ=>on1 vs λv=>∃xs:List V,ub σ v=some xs/\xs.length<=ba/\P (xs.zipIdx.map λp:V×Nat=>V.T [.int p.2,p.1]) (λτ=>ub τ v=some xs) σ) K J B hx hn hv c h λvs σ₁ s₁ ws q vr r U=>?_;have#[v,rfl,xs,I,hz,q]:=ze (vs:=vs) q;have#[w,rfl,vw]:=vr.one;cases v with
 |L a =>
  have rfl:=vw;have#[us,n,hl,ag]:=r.L _ _ I;have O:=jd hl;show nC (Pre:=λh=>h.IsList a us.toArray) #[by decide,by decide,rfl] (λhl q=>mJ hl q) hl.isList (N7 O) rfl trivial (λ_ _ _ _=>trivial) (JS (jz O)) q r U
 |T ys =>
  have#[a,us,n,rfl,g,rr]:=vw;have rfl:=af I;have O:=jd g;show nC (okF:=λh=>IsT h a us.toArray n/\VRs G h ys us) (Pre:=λh=>IsTup h a us.toArray) #[by decide,by decide,rfl] (λhl q=>iter_tuple hl q) #[_,g,rfl,_,rfl] (N7 O) rfl #[g,rr]
   (λh h' ok z=>#[z a _ (show h.get? a=some {cls:=.type "tuple",dict:=none,data:=.seq us.toArray n,slots:=#v[]} from ok.1) (.inl #[show Value.type "tuple" ≠ .type "list" by decide,_,_,rfl]),ok.2.mono z]) (JQ (jz O)) q r U
 |str x =>
  have#[t,rfl]:=vw;have rfl:=af I;show nC (Pre:=λ_=>True) #[by unfold strIterType;split<;>decide,by unfold strIterType;split<;>decide,rfl] (λ_ q=>wpAny_pyIter_strU q) trivial H4 rfl trivial (λ_ _ _ _=>trivial) JR q r U
 |bys b =>
  have#[t,rfl]:=vw;have rfl:=af I;show nC (Pre:=λ_=>True) #[by decide,by decide,rfl] (λ_ q=>PySem.W.KBw.pyIter_bytes q) trivial H4 rfl trivial (λ_ _ _ _=>trivial) JT q r U
 |_=>cases I
end
variable {α:Type}{x:Str}
def jh:∀(names:List (Str×NameKind)) (n:Nat) (acc:List (Str×Addr)),cellsFrom n names acc=cellsFrom n names []++acc
 | []=>λ_ _=>by simp[cellsFrom]
 |(x,k)::r=>λn acc=>by
  unfold cellsFrom;split
  ·rw[jh r (n+1) ((x,n)::acc),jh r (n+1) [(x,n)]];simp
  ·show jh r n acc
def cW:∀(names:List (Str×NameKind)) (n:Nat) (x:Str) (c:Addr),(x,c)∈cellsFrom n names []->(x,NameKind.cell)∈names
 | []=>λ_ _ _ h=>by simp[cellsFrom]at h
 |(y,k)::r=>λn x c h=>by
  unfold cellsFrom at h;split at h
  ·rename_i hk;rw[jh]at h;rcases dh.mp h with h|h
   ·show .tail _ (cW r _ x c h)
   ·have#[rfl,rfl]:=qa (ah.mp h);rw[fq]at hk;subst hk;show .head _
  ·show .tail _ (cW r _ x c h)
def xt:∀(names:List (Str×NameKind)) (n:Nat) (x:Str),(x,NameKind.cell)∈names->∃c,(x,c)∈cellsFrom n names []
 | []=>λ_ _ h=>by cases h
 |(y,k)::r=>λn x h=>by
  unfold cellsFrom;split
  ·rw[jh];rcases bw.mp h with e|h
   ·have#[rfl,_]:=qa e;apply#[n,dp _ (.head _)]
   ·have#[c,hc]:=xt r (n+1) x h;apply#[c,dj _ hc]
  ·rename_i hk;rcases bw.mp h with e|h
   ·have#[_,rfl]:=qa e;simp at hk
   ·show xt r n x h
def vh {l:List (Str×α)}{c:α}(h:(x,c)∈l):∃W,l.lookup x=some W:=by
 cases hq:l.lookup x with
 |some W=>refine#[W,rfl]
 |none=>rw[tj]at hq;have:=hq _ h;simp at this
def zg {l r:List (Str×α)}{c:α}(h:l.lookup x=some c):(l++r).lookup x=some c:=by
 rw[List.lookup_append,h];rfl
def gV {l r:List (Str×α)}(h:l.lookup x=none):(l++r).lookup x=r.lookup x:=by
 rw[List.lookup_append,h];rfl
def vW {names:List (Str×NameKind)}(nd:(names.map (·.1)).Nodup){k k':NameKind}(h:(x,k)∈names)(h':(x,k')∈names):k=k':=by
 have#[i,hi,e]:=er.mp h;have#[j,O,J]:=er.mp h';have U:names[i]?=some (x,k):=by rw[bb hi,e]
 have W:names[j]?=some (x,k'):=by rw[bb O,J]
 have:=jD nd U W;subst this;rw[U]at W;cases W;rfl
structure J0 (G:Stc)(σ:St)(h:Heap)(names:List (Str×NameKind))(cl:List (Str×Addr))(ρf:Fr):Prop where
 free:∀(i:Nat) (x:Str),names[i]?=some (x,.free)->∃c w,cl.lookup x=some c/\h.IsCell c w/\OV G h (ρf i) w/\¬σ.dom c/\(G.cap x=false->G.hb.get? c=none)
 inj:∀(i j:Nat) (x y:Str) (c:Addr),names[i]?=some (x,.free)->names[j]?=some (y,.free)->cl.lookup x=some c->cl.lookup y=some c->i=j
 all:∀p∈cl,∃o,h.get? p.2=some o
 other:∀(i:Nat) (x:Str) (k:NameKind),names[i]?=some (x,k)->k≠.free->ρf i=none
def oT {G:Stc}{σ:St}{h:Heap}{names:List (Str×NameKind)}{cl:List (Str×Addr)}{ρf:Fr}{env:Env}{T:String}(R:Rel G σ h)(nd:(names.map (·.1)).Nodup)(K:J0 G σ h names cl ρf)
  (hl:env.locals=h.objs.size) (hc:env.cells=cellsFrom (h.objs.size+1) names cl) (hk:∀(i:Nat) (x:Str) (k':NameKind),env.scope.names[i]?=some (x,k')->∃k,names[i]?=some (x,k)/\(k'=k\/(k=.free/\k'=.cell))) :
  FR G σ env ρf (pushCells (h.push {cls:=.type T,data:=.dict #v[]}) names)/\(∀b o,h.get? b=some o->(pushCells (h.push {cls:=.type T,data:=.dict #v[]}) names).get? b=some o):=by
 have keep:∀b o,h.get? b=some o->(pushCells (h.push {cls:=.type T,data:=.dict #v[]}) names).get? b=some o:=λb o e=>pushCells_keeps _ _ b o (ak _ e);have frz:jn h (pushCells (h.push {cls:=.type T,data:=.dict #v[]}) names):=λb o e _=>keep b o e;have ok:=cellsFrom_ok names (h.push {cls:=.type T,data:=.dict #v[]}) (h.objs.size+1) [] #[λ_ _ hm=>(nomatch hm),List.Pairwise.nil] (by rw[iy];show av _);rw[iy]at ok;have O:∀c,h.objs.size<=c->¬σ.dom c:=λc hc d=>by have#[o,e]:=R.ud d;show absurd (jd e) (ru.mpr hc)
 have U:∀c,h.objs.size<=c->G.hb.get? c=none:=λc hc=>by
  cases hq:G.hb.get? c with
  |none=>rfl
  |some o=>show absurd (jd (R.base c o hq)) (ru.mpr hc)
 have J:(pushCells (h.push {cls:=.type T,data:=.dict #v[]}) names).get? h.objs.size=some {cls:=.type T,data:=.dict #v[]}:=pushCells_keeps _ _ _ _ (cq _ rfl);have cellAt:∀(i:Nat) (x:Str),names[i]?=some (x,.cell)->∃c,env.cells.lookup x=some c/\(x,c)∈cellsFrom (h.objs.size+1) names []:=λi x e=>by
  have#[c,hm]:=xt names (h.objs.size+1) x (dt e);have#[c',ag]:=vh hm;apply#[c',by rw[hc,jh];show zg ag,mem_of_lookup ag]
 have W:∀(i:Nat) (x:Str),names[i]?=some (x,.free)->env.cells.lookup x=cl.lookup x:=λi x e=>by
  rw[hc,jh];apply gV ?_;cases hq:(cellsFrom (h.objs.size+1) names []).lookup x with
  |none=>rfl
  |some c=>have:=vW nd (cW _ _ _ _ (mem_of_lookup hq)) (dt e);cases this
 apply#[#[#[_,by rewrite [hl];show(Heap.Ns.new h (.type T)).keeps (pushCells_keeps _ _),λi x e=>?_],λi x k' e bc=>?_,λi j x y k k' c ei ej ax ar lx ly=>?_,by rw[hl];show O _ (av _),λo e=>?_,by rw[hl];show U _ (av _),λp hp=>?_],keep]
 ·have#[k,e',B]:=hk i x _ e;have:ρf i=none:=K.other i x k e' (by rcases B with h|⟨_,h⟩;show h▸(by decide);cases h);rw[this];trivial
 ·have#[k,e',B]:=hk i x _ e;have z:k=.cell\/k=.free:=by rcases B with h|⟨h,_⟩;show h▸bc;show .inr h
  rcases z with rfl|rfl
  ·have#[c,ao,hm]:=cellAt i x e';have I:=ok.empty x c hm;apply#[c,none,ao,I.1,by rewrite [K.other i x _ e' (by decide)];trivial,O c (Nat.le_of_succ_le I.2),by rewrite [hl];show Nat.ne_of_gt (Nat.lt_of_succ_le I.2),λ_=>U c (Nat.le_of_succ_le I.2)]
  ·have#[c,w,h1,h2,h3,h4,h5]:=K.free i x e';apply#[c,w,by rw[W i x e'];show h1,h2.keeps keep,h3.mono frz,h4,?_,h5];rw[hl];show jz h2.lt
 ·have#[k1,e1,ay]:=hk i x _ ei;have#[k2,e2,z]:=hk j y _ ej;have aj:k1=.cell\/k1=.free:=by rcases ay with h|⟨h,_⟩;show h▸ax;show .inr h
  have ai:k2=.cell\/k2=.free:=by rcases z with h|⟨h,_⟩;show h▸ar;show .inr h
  have low:∀(i:Nat) (x:Str) (c:Addr),names[i]?=some (x,.free)->env.cells.lookup x=some c->c<h.objs.size:=λi x c e l=>by
   have#[c',w,h1,h2,_]:=K.free i x e;rw[W i x e,h1]at l;cases (l);show h2.lt
  have high:∀(i:Nat) (x:Str) (c:Addr),names[i]?=some (x,.cell)->env.cells.lookup x=some c->h.objs.size<c/\(x,c)∈cellsFrom (h.objs.size+1) names []:=λi x c e l=>by
   have#[c',h1,h2]:=cellAt i x e;rw[h1]at l;cases (l);apply#[(ok.empty x c h2).2,h2]
  rcases aj with rfl|rfl<;>rcases ai with rfl|rfl
  ·have#[_,m1]:=high i x c e1 lx;have#[_,m2]:=high j y c e2 ly;have:=name_of_addr ok.apart m1 m2;subst this;show jD nd e1 e2
  ·have:=(high i x c e1 lx).1;have:=low j y c e2 ly;show absurd ‹c<h.objs.size› (ru.mpr (gw ‹h.objs.size<c›))
  ·have:=(high j y c e2 ly).1;have:=low i x c e1 lx;show absurd ‹c<h.objs.size› (ru.mpr (gw ‹h.objs.size<c›))
  ·show K.inj i j x y c e1 e2 (by rw[<- W i x e1];show lx) (by rw[<- W j y e2];show ly)
 ·rw[hl,J]at e;cases e;show sr rfl
 ·rw[hc,jh]at hp;rcases dh.mp hp with hp|hp
  ·have#[#[o,ho,_],_]:=ok.empty p.1 p.2 hp;apply#[o,ho]
  ·have#[o,ho]:=K.all p hp;apply#[o,keep _ _ ho]
section
variable {G:Stc}{A:Around}{E:QqV}
def sF {env:Env}{σ:St}{X:List Addr}(eo:dQ env)(I:env.locals∈X)(hN:∀(i:Nat) x c,env.scope.names[i]?=some (x,.cell)->env.cells.lookup x=some c->c∈X/\G.hb.get? c=none)(f:Str×Value->PUnit->Sem (ForInStep PUnit))(hf:∀n v u,f (n,v) u=(do storeName env n v;pure (.yield #[]))) :
  ∀(j:Nat) (ns:List Str) (vs:List V) (ws:List Value) (ρ:Fr) (s:Shared) (Q:PUnit->Shared->Prop),ns.length=ws.length->(∀(i:Nat) (x:Str),ns[i]?=some x->∃k,env.scope.names[j+i]?=some (x,k)/\rP k=true) ->
   FR G σ env ρ s.heap->Rel G σ s.heap->VRs G s.heap vs ws ->
   (∀s' ρ',(∀i,ρ' i=if i<j then ρ i else if i<j+vs.length then vs[i-j]? else ρ i)->FR G σ env ρ' s'.heap->Rel G σ s'.heap->Go X σ s σ s'->Q #[] s') ->
   wpAny G.M A (forIn (ns.zip ws) #[] f) Q E s
 |j,[],vs,ws,ρ,s,Q,hl,hn,F,R,vr,q=>by
  cases ws with
  |cons _ _=>simp at hl
  |nil =>
   cases vs with
   |cons _ _=>have#[_,_,e,_]:=vr;cases e
   |nil =>
    rw[List.zip_nil_left,qk];apply ae (q s ρ (λi=>?_) F R .refl);by_cases h:i<j
    ·simp[h]
    ·simp[h]
 |j,x::ns,vs,ws,ρ,s,Q,hl,hn,F,R,vr,q=>by
  cases vs with
  |nil=>have rfl:=vr;cases hl
  |cons v vs =>
   have#[w,ws,rfl,va,vr]:=vr;rw[List.zip_cons_cons,qu,hf];have#[k,hi,hk]:=hn 0 x rfl;apply ab (ab (iB eo F R hi hk (λc hc e=>(hN _ _ c (e▸hi) hc).2) va I (λc hc e=>(hN _ _ c (e▸hi) hc).1) λs' F' R' x'=>ae ?_));apply sF eo I hN f hf (j+1) ns vs ws _ s' Q (by simpa using hl) (λi y e=>?_) F' R' (vr.mono x'.frz) λs2 ρ' J F2 R2 x2=>?_
   ·have#[k,hi,hk]:=hn (i+1) y (by simpa using e);apply#[k,by rw[show j+1+i=j+(i+1) by(show cX (.e .a2 .a4) .n)];show hi,hk]
   ·apply q s2 ρ' (λi=>?_) F2 R2 (x'.trans x2);rw[J i];simp only[ip,Nat.add_zero];by_cases W:i<j
    ·rw[cf (az .aC .a .B W),cf W,fh (az .bY [[-1,1]] .B W)]
    ·rw[aw W];by_cases h2:i=j
     ·clear q hn J;subst h2;rw[cf (qg (.l .A .M) .i),cf (cX (.l .A .a4) .i),cj];simp
     ·rw[aw ((au h2).elim (λO=>(jc (.g .A .P) .c .bR .B W O)) λO=>(az (.g .A .P) .a .U O))];by_cases z:i<j+1+vs.length
      ·rw[cf z,cf (gz (.l .A .aH) .a (.l .A (.a .P .C)) z),show i-j=(i-(j+1))+1 by(show Ar.sub _ _ (λO p1=>(gp .aB .u (.e .V .D) (.e .aH .D) (aa (az .A .a (.g .B .A) W)) p1)) λO p1=>((au h2).elim (λq2=>(mU .aB [[0,1,0,0,1],[1,0,1,1,0]] (.g .C .D) .bZ (.k .C .Y) .a2 W (aa (az .A .a (.g .B .A) W)) O q2)) λq2=>(mU .aB [[1,-1,0,1,1],[1,1,1,0,0]] (.e .V .D) (.k .D .S) .b4 .a2 (aa (az .A .a (.g .B .A) W)) O p1 q2)))];simp
      ·rw[aw z,aw (gz (.g .A .aH) .a (.g .A (.a .P .C)) z),fh h2]
end
variable {d n:Nat}{a:Addr}{vs dflt:List V}{ws:List Value}{sc:Scope}{body:List Stmt}{Q:V->St->Prop}{C:Cal}
abbrev ur:List Str->List (Str×NameKind)->Bool
 | [],_=>true
 |x::xs,(y,k)::r=>x==y&&rP k&&ur xs r
 |_::_,[]=>false
def lT:∀{xs:List Str} {r:List (Str×NameKind)},ur xs r=true->∀(i:Nat) (x:Str),xs[i]?=some x->∃k,r[i]?=some (x,k)/\rP k=true
 | [],_,_,i,x,e=>by simp at e
 |_::_,[],h,_,_,_=>Bool.noConfusion (show false=true from h)
 |x::xs,(y,k)::r,h,0,z,e=>by
  dsimp only[ur]at h;simp only[fe,fq]at h;simp at e;subst e;apply#[k,by simp[h.1.1],h.1.2]
 |x::xs,(y,k)::r,h,i+1,z,e=>by
  dsimp only[ur]at h;simp only[fe]at h;simpa using lT h.2 i z (by simpa using e)
structure FnAt (G:Stc)(a:Addr)(n:Nat)(dflt:List V)(sc:Scope)(body:List Stmt):Prop where
 lim:G.hb.NoLimit
 kind:sc.kind=.function
 co:sc.isCoroutine=false
 gen:sc.isGenerator=false
 nd:(sc.names.map (·.1)).Nodup
 t7:∀(i:Nat) (x:Str),sc.names[i]?≠some (x,.free)
 here:∃o fd,G.hb.get? a=some o/\o.data=.func fd/\fd.scope=sc/\fd.body=.stmts body/\fd.closure=[]/\fd.globals=mainGlobals/\fd.builtins=builtinsNs/\G.hb.CodeRec fd.code fd.qualname /\
  d7 fd.params=true/\ur (fd.params.args.map (·.arg)) sc.names=true/\fd.params.args.length=n /\
  ((fd.defaults=.none/\dflt=[])\/∃t ot ds m,fd.defaults=.ref t/\G.hb.get? t=some ot/\ot.data=.seq (ds.toArray) m/\VRs G G.hb dflt ds)/\dflt.length<=n
section
variable {G:Stc}{A:Around}{E:QqV}{s:Shared}{σ:St}
def AOk.deep (h:AOk A (d+1))(env:Env):AOk (A.deeper env) d:=
 #[h.handled,by have:=h.depth;show A.depth+1+3*d+20<_;(show gz (.l (.a (.a .M (.m 3 .B)) (.n 20)) .C) .a .b5 this),by have:=h.units;show A.units+3+30*d+300<_;(show gz (.l (.a (.a (.a .A (.n 3)) (.m 30 .B)) .aQ) .C) .a (.l (.a (.a .A (.m 30 .P)) .aQ) .C) this)]
def pI {fd:FuncData}{run:Env->Code}{cl:List (Str×Addr)}{ρf ρ':Fr}{dv:List V}{ds:List Value}{R':Result->Shared->Prop}{o:Obj}(ho:G.hb.get? a=some o)(hd:o.data=.func fd)
  (lim:G.hb.NoLimit) (kind:fd.scope.kind=.function) (nd:(fd.scope.names.map (·.1)).Nodup) (bl:fd.closure=cl) (ch:fd.globals=mainGlobals) (cx:fd.builtins=builtinsNs) (cb:d7 fd.params=true) (ai:ur (fd.params.args.map (·.arg)) fd.scope.names=true) (hn:fd.params.args.length=n)
  (ck:∀(A:Around) (E:QqV) (Q:Option (Array Value)->Shared->Prop),(∀o,(o.getD #v[]).toList=ds->Q o s)->wpAny G.M A (seqItems? fd.defaults) Q E s) (bc:VRs G s.heap dv ds) (ct:dv.length<=n)
  (bd:(wpAny G.M A.in1 (bindArgs fd #[ws,[]]) (λao s₁ =>
   wpAny G.M A.in1 (newFunctionEnv fd.scope fd.globals fd.closure ao (fd.qualname ++ ".<locals>.") (some a) fd.code none fd.builtins)
    (λenv s₂=>s₂.heap.NoLimit/\codeAny G.M A (run env) R' s₂) (λe s'=>R' (.error e) s') s₁) (λe s'=>R' (.error e) s') s)->codeAny G.M A (.call (.ref a) #[ws,[]]) R' s)
  (clo:J0 G σ s.heap fd.scope.names cl ρf) (R:Rel G σ s.heap) (vr:VRs G s.heap vs ws) (h1:vs.length<=n) (h2:n<=vs.length+dv.length)
  (ca:∀i,ρ' i=if i<n then (vs++dv.drop (dv.length-(n-vs.length)))[i]? else ρf i)
  (hb:∀env s' X,env.scope=fd.scope->env.code=fd.code->dQ env->FR G σ env ρ' s'.heap->Rel G σ s'.heap->Go X σ s σ s'->(∀z∈X,s.heap.get? z=none)->(∀z∈X,z∈envX env)->(∀z∈envX env,z∈X\/∃p∈cl,p.2=z)->codeAny G.M A (run env) R' s'):codeAny G.M A (.call (.ref a) #[ws,[]]) R' s:=by
 have W:=vr.length;have U:=bc.length;have cd:(fd.params.args.map (·.arg)).Nodup:=by
  have hp:∀{xs:List Str} {r:List (Str×NameKind)},ur xs r=true->∃ys,r.map (·.1)=xs++ys:=by
   intro xs;induction xs with
   |nil=>intro r _;apply#[_,rfl]
   |cons x xs ih =>
    intro r h;cases r with
    |nil=>show Bool.noConfusion (show false=true from h)
    |cons p r =>
     dsimp only[ur]at h;simp only[fe,fq]at h;have#[ys,e]:=ih h.2;apply#[ys,by simp[e,h.1.1]]
  have#[ys,e]:=hp ai;rw[e]at nd;show(xB.mp nd).1
 apply bd ?_;apply zL (ds:=ds) cb (ck _ _) cd (by rw[hn,<- W];show h1) (by rw[hn,<- W,<- U];show h2) (by rw[hn,<- U];show ct) ?_;rw[hn,bl,ch,cx];simp only[newFunctionEnv,yg,fu,mj];apply ab (wpAny_alloc ?_);apply ab (wpAny_layCells _ (λname kind cells=>by cases hkc:kind==NameKind.cell<;>simp[hkc]) _ _ _ _ ?_);rw[show({s with heap:=s.heap.push {cls:=.type "frame",data:=.dict #v[]}}:Shared).heap.objs.size=s.heap.objs.size+1 from iy ..];have#[bu,ag]:=oT (T:="frame") (env:=newEnv fd.scope s.heap.objs.size mainGlobals (cellsFrom (s.heap.objs.size+1) fd.scope.names cl) (fd.qualname ++ ".<locals>.") (some a) fd.code none builtinsNs) R nd clo rfl rfl λi x k' e=>#[k',e,.inl rfl];have eo:dQ (newEnv fd.scope s.heap.objs.size mainGlobals (cellsFrom (s.heap.objs.size+1) fd.scope.names cl) (fd.qualname ++ ".<locals>.") (some a) fd.code none builtinsNs):=#[kind,nd,rfl,rfl];have ar:Go [] σ s σ {s with heap:=pushCells (s.heap.push {cls:=.type "frame",data:=.dict #v[]}) fd.scope.names}:=Go.refl.to (Evo.keeps ag);have bn:VRs G s.heap (vs++dv.drop (dv.length-(n-vs.length))) (ws++ds.drop (ds.length-(n-ws.length))):=by
  rw[<- U,<- W];show vr.append (bc.drop _)
 have ok:=cellsFrom_ok fd.scope.names (s.heap.push {cls:=.type "frame",data:=.dict #v[]}) (s.heap.objs.size+1) [] #[λ_ _ hm=>(nomatch hm),List.Pairwise.nil] (by rw[iy];show av _);rw[iy]at ok;have hX:∀z∈s.heap.objs.size::(cellsFrom (s.heap.objs.size+1) fd.scope.names []).map (·.2),s.heap.get? z=none:=λz hz=>by
  rcases bw.mp hz with rfl|hz
  ·show none_at_size _
  ·have#[p,hp,rfl]:=ee.mp hz;show pk (Nat.le_of_succ_le (ok.empty p.1 p.2 hp).2)
 have hN:∀(i:Nat) x c,fd.scope.names[i]?=some (x,.cell)->(cellsFrom (s.heap.objs.size+1) fd.scope.names cl).lookup x=some c->c∈s.heap.objs.size::(cellsFrom (s.heap.objs.size+1) fd.scope.names []).map (·.2)/\G.hb.get? c=none:=λi x c e hc=>by
  have hm:c∈s.heap.objs.size::(cellsFrom (s.heap.objs.size+1) fd.scope.names []).map (·.2):=by
   have#[c1,hm]:=xt fd.scope.names (s.heap.objs.size+1) x (dt e);have#[c',be]:=vh hm;rw[jh,zg be]at hc;cases hc;show .tail _ (ee.mpr #[_,mem_of_lookup be,rfl])
  apply#[hm,?_];cases hq:G.hb.get? c with
  |none=>rfl
  |some o=>have:=R.base c o hq;rw[hX c hm]at this;cases this
 have aj:s.heap.objs.size∈s.heap.objs.size::(cellsFrom (s.heap.objs.size+1) fd.scope.names []).map (·.2):=.head _;have bp:∀p∈cellsFrom (s.heap.objs.size+1) fd.scope.names [],p.2∈s.heap.objs.size::(cellsFrom (s.heap.objs.size+1) fd.scope.names []).map (·.2):=λp hp=>.tail _ (ee.mpr #[p,hp,rfl]);have bt:∀z∈s.heap.objs.size::(cellsFrom (s.heap.objs.size+1) fd.scope.names []).map (·.2),z∈s.heap.objs.size::(cellsFrom (s.heap.objs.size+1) fd.scope.names cl).map (·.2):=λz hz=>by
  rcases bw.mp hz with rfl|hz
  ·show .head _
  ·have#[p,hp,rfl]:=ee.mp hz;show .tail _ (ee.mpr #[p,by rw[jh];show dj _ hp,rfl])
 generalize s.heap.objs.size::(cellsFrom (s.heap.objs.size+1) fd.scope.names []).map (·.2)=X at hX hN aj bp bt;apply ab (sF (X:=X) eo aj hN _ (λ_ _ _=>rfl) 0 (fd.params.args.map (·.arg)) (vs++dv.drop (dv.length-(n-vs.length))) _ ρf {s with heap:=pushCells (s.heap.push {cls:=.type "frame",data:=.dict #v[]}) fd.scope.names} _ ?_ (λi x e=>?_) bu (R.keeps ag) (bn.mono λb o e _=>ag b o e) λs' bv ax F' R' x'=>?_)
 ·rw[aq,bq,gf,hn];(show Ar.sub _ _ (λq1 p1=>(Ar.sub _ _ (λq2 p2=>(Ar.sub _ _ (λq3 J=>(lC .aG [[1,1,-1,1],[1,-1,1,-1]] .bT .bI (.e (.a .G .B) .A) p1 p2 J)) λq3 J=>(S7 .aG [[1,1,-1,1,-1,0,1],[1,0,0,0,0,1,0]] (.k .D .A) (.e .D .B) (.e (.a .C .F) .G) (.e (.a .F .H) .G) .A (.e .H .O) h1 W p1 p2 q3 J))) λq2 p2=>(Ar.sub _ _ (λq3 J=>(TP .aG [[1,0,0,0,1,1,0,1],[1,1,1,1,-1,0,1,0]] (.k .A .X) (.e .D .B) (.e .F .G) (.e (.a .C .H) .G) (.k .G .I) (.e .H .O) (.e (.a .I .B) .A) h2 W U p1 q2 p2 J)) λq3 J=>(TM .aG [[1,1,0,-1,0,1,1,0,1],[1,0,1,1,1,-1,0,1,0]] (.k .D .A) (.k .A .X) (.e .D .B) (.e .F .G) (.e (.a .C .H) .G) (.k .G .I) (.e .H .O) (.e .I .O) h1 h2 W U p1 q2 p2 J)))) λq1 p1=>(Ar.sub _ _ (λq2 p2=>(Ar.sub _ _ (λq3 J=>(S7 .aG [[1,1,-1,0,1,0,0],[1,0,0,1,0,1,-1]] (.k .D .A) (.e .D .B) (.k .F .G) .b1 (.e .a7 .F) (.e (.a .H .B) .A) h1 W q1 p1 p2 J)) λq3 J=>(mU .aG [[1,1,-1,1,0],[1,0,0,0,1]] (.k .D .A) (.e .D .B) .b1 .A h1 W p1 q3))) λq2 p2=>(TQ .aG [[1,1,0,-1,0,0,1,0],[1,0,1,1,1,1,0,1]] (.k .D .A) (.k .A .X) (.e .D .B) (.e .F .G) (.k .G .H) .b1 (.e .H .O) h1 h2 W U q1 p1 p2)))
 ·rw[mw];show lT ai i x e
 ·apply ae #[lim.keeps R'.base,?_];have ay:bv=ρ':=by
   funext i
   rw[ax i,ca i,bq,gf];simp only[pe,mj,mw,Nat.sub_zero];rw[show vs.length+(dv.length-(dv.length-(n-vs.length)))=n by(show Ar.sub _ _ (λq1 p1=>(Ar.sub _ _ (λq2 p2=>(Ar.sub _ _ (λq3 J=>(lC .X .o (.e .aF .F) .bI .aN p1 p2 J)) λq3 J=>(u9 .X [[1,0,0,0,1,0],[1,1,1,-1,0,1]] .K (.e .aF .F) .bI .aL (.e .G .O) h1 p1 p2 q3 J))) λq2 p2=>(Ar.sub _ _ (λq3 J=>(u9 .X [[1,1,-1,0,1,0],[1,0,1,1,0,1]] (.k .C .Z) .c5 (.k .D .G) .b2 .aN h2 p1 q2 p2 J)) λq3 J=>(PU .X [[1,0,1,-1,0,1,0],[1,1,0,1,1,0,1]] .K (.k .C .Z) .c5 (.k .D .G) .b2 (.e .G .O) h1 h2 p1 q2 p2 J)))) λq1 p1=>(Ar.sub _ _ (λq2 p2=>(Ar.sub _ _ (λq3 J=>(u9 .X [[1,0,1,0,1,-1],[1,1,0,1,0,0]] .K .bK .b4 (.e .aB .D) .aN h1 q1 p1 p2 J)) λq3 J=>(sd .X [[1,0,0,1],[1,1,1,0]] .K .b4 .aL h1 p1 q3))) λq2 p2=>(IT .X [[1,0,1,1,0,1],[1,1,0,0,1,0]] .K (.k .C .Z) .bK .b4 .b2 h1 h2 q1 p1 p2)))]
  subst ay;apply hb _ s' X rfl rfl eo F' R' ((ar.more (λ_ h=>nomatch h)).trans x') hX bt λz hz=>?_;rcases bw.mp hz with rfl|hz
  ·show .inl aj
  ·have zz:=ee.mp hz;clear hz;have#[p,hp,rfl]:=zz;have hp:p∈cellsFrom (s.heap.objs.size+1) fd.scope.names cl:=hp;rw[jh]at hp;rcases dh.mp hp with hp|hp
   ·show .inl (bp p hp)
   ·show .inr #[p,hp,rfl]
def I8 {b:pq}{Q:QqV}(K:FnAt G a n dflt sc body)
  (hb:∀(A':Around) (E':QqV) (env:Env) (s':Shared),Cx G sc d A' env (frameOf #[n,dflt,b] vs) σ s'->(∀o fd,G.hb.get? a=some o->o.data=.func fd->env.code=fd.code)->Go (envX env) σ s σ s'->(∀z∈envX env,s.heap.get? z=none) ->
   wpAny G.M A' (execs body env) (λf s'=>Q (match f with|.ret v=>v|_=>.none) s') E' s')
  (ao:AOk A (d+1)) (R:Rel G σ s.heap) (vr:VRs G s.heap vs ws)
  (h1:vs.length<=n) (h2:n<=vs.length+dflt.length):codeAny G.M A (.call (.ref a) #[ws,[]]) (wants Q E) s:=by
 have#[o,fd,ho,hd,ar,J,ai,ay,bn,U,ax,ag,hn,be,bd]:=K.here;subst ar;have#[ds,bc,aj]:∃ds,(∀(A:Around) (E:QqV) (Q:Option (Array Value)->Shared->Prop),(∀o,(o.getD #v[]).toList=ds->Q o s)->wpAny G.M A (seqItems? fd.defaults) Q E s)/\VRs G s.heap dflt ds:=by
  rcases be with ⟨e1,e2⟩|⟨t,ot,ds,m,e1,e2,e3,e4⟩
  ·apply#[[],λA E Q q=>?_,by subst e2;show .nil];rw[e1];show wpAny G.M A (do notAStandIn .none;pure none) Q E s;show fo (by rfl) (q none rfl)
  ·apply#[ds,λA E Q q=>?_,e4.mono λb o e _=>R.base b o e];rw[e1];show wpAny G.M A (do match (← load t).data with|.seq xs _=>pure (some xs)|_=>pure none) Q E s;apply ab (xy (R.base _ _ e2) ?_);rw[e3];show ae (q _ (by simp))
 apply pI (run:=λenv=>.func body env) (ρf:=λ_=>none) (ρ':=frameOf #[n,dflt,b] vs) ho hd K.lim K.kind K.nd ai ay bn ax ag hn bc aj bd (λh=>codeAny_call_function (by have:=ao.depth;(show gz .B .a (.l (.a (.a .A (.m 3 .S)) (.n 20)) .B) this)) (R.base _ _ ho) hd K.co K.gen J (U.keeps R.base) h)
  #[λi x e=>absurd e (K.t7 i x),λi j x y c e=>absurd e (K.t7 i x),λp hp=>(nomatch hp),λ_ _ _ _ _=>rfl] R vr h1 h2 (λi=>?_) λenv s' X e1 e2 eo F' R' x' hX bp bl=>?_
 ·split
  ·rfl
  ·unfold frameOf iO;dsimp only;rw[nt];rw[bq,gf];(rename_i z1;show Ar.sub _ _ (λq1 I=>(Ar.sub _ _ (λq2 p2=>(Ar.sub _ _ (λq3 W=>(PV .F [[1,1,1,-1,1]] (.g .C .D) (.e .a5 .G) (.e (.a .F .H) .G) (.e (.a .H .A) .D) z1 I p2 W)) λq3 W=>(IS .F [[1,1,1,1,-1,1]] .a9 (.g .C .D) (.e .a5 .G) (.e (.a .F .H) .G) (.e .H .O) h1 z1 I p2 W))) λq2 p2=>(Ar.sub _ _ (λq3 W=>(PV .F .w (.g .C .D) (.e .a5 .G) (.k .G .H) (.e (.a .H .A) .D) z1 I q2 W)) λq3 W=>(IS .F [[1,1,1,1,1,1]] .a9 (.g .C .D) (.e .a5 .G) (.k .G .H) (.e .H .O) h1 z1 I q2 W)))) λq1 I=>(qt .F .e .a9 (.g .C .D) .b4 h1 z1 I))
 ·show codeAny_func (hb _ _ env s' #[ao.deep _,e1,eo,F',R'] (λo' bt h1 h2=>by have rfl:=af (ho.symm.trans h1);rw[hd]at h2;cases h2;show e2) (x'.more bp) λz hz=>(bl z hz).elim (hX z) λ⟨_,hp,_⟩=>nomatch hp)
def sC {b:pq}(K:FnAt G a n dflt sc body)
  (hb:∀(O:Around) (I:QqV) (env:Env) (s':Shared),Cx G sc d O env (frameOf #[n,dflt,b] vs) σ s'->wpAny G.M O (execs body env) (tc G env σ s' (sU Q)) I s')
  (ao:AOk A (d+1)) (R:Rel G σ s.heap) (vr:VRs G s.heap vs ws)
  (h1:vs.length<=n) (h2:n<=vs.length+dflt.length):codeAny G.M A (.call (.ref a) #[ws,[]]) (wants (km G [] σ s Q) E) s:=by
 apply I8 (b:=b) K (λO I env s' c _ x' hX=>?_) ao R vr h1 h2;apply di (hb O I env s' c) (λf s₂ l=>?_) λ_ _ x=>x;have#[fl,J,σ₂,fr,q,B,W,U]:=l;have x3:Go [] σ s σ₂ s₂:=(x'.trans U).less λz hz=>.inr (hX z hz);cases fr with
 |next=>refine#[.none,σ₂,q,.none,W,x3]
 |ret v=>refine#[_,σ₂,q,v,W,x3]
 |brk=>show q.elim
 |cont=>show q.elim
def sE {b:pq}(K:FnAt G a n dflt sc body)
  (hb:∀(W:Around) (I:QqV) (env:Env) (s':Shared),Cx G sc d W env (frameOf #[n,dflt,b] vs) σ s'->wpAny G.M W (execs body env) (tc G env σ s' (sU Q)) I s')
  (J:AOk A (d+1)) (R:Rel G σ s.heap) (vr:VRs G s.heap vs ws)
  (O:vs.length<=n) (U:n<=vs.length+dflt.length):wpAny G.M A (call (.ref a) ws) (km G [] σ s Q) E s:=ug (sC K hb J R vr O U)
def MF {b:pq}(K:FnAt G a n dflt sc body)(hb:hU G C sc d b body)(O:AOk A (d+1))(R:Rel G σ s.heap)(vr:VRs G s.heap vs ws)
  (U:vs.length<=n) (W:n<=vs.length+dflt.length) (h:gx C b (frameOf #[n,dflt,b] vs) σ (sU Q)):wpAny G.M A (call (.ref a) ws) (km G [] σ s Q) E s:=
 sE (b:=b) K (λI J env s' c=>hb c h) O R vr U W
abbrev fZ (G:Stc)(fa:Nat->Option Addr)(C:Cal)(d:Nat):Prop:=∀(k:Nat) (a:Addr),fa k=some a->(∃o fd,G.hb.get? a=some o/\o.data=.func fd)/\∀{A E vs ws σ Q s},AOk A d->Rel G σ s.heap->VRs G s.heap vs ws ->
 C k vs σ Q->wpAny G.M A (call (.ref a) ws) (km G [] σ s Q) E s
def fJ {env:Env}{ρ:Fr}{f:Addr}{o:Obj}{fd:FuncData}{first:List Value}{es:Exs}{args:List Expr}{pos:Pos}{P:List V->St->Prop}{Q:QqV}(J:G.hb.get? f=some o)(W:o.data=.func fd)(O:noStar args=true)(U:rf G C sc d es args)
  (c:Cx G sc d A env ρ σ s) (h:vo C es ρ σ P)
  (k:∀vs σ₁ s₁ ws,P vs σ₁->VRs G s₁.heap vs ws->Rel G σ₁ s₁.heap->Go [] σ s σ₁ s₁->wpAny G.M A (call (.ref f) (first++ws)) Q E s₁) :
  wpAny G.M A (callWith pos (.ref f) first (backTo pos (starEach args env)) []) Q E s:=
 Calls.callWith_function (o:=o) (fd:=fd) (ph (kh O pos env) (qI (U c h) λvs σ₁ s₁ ws q vr r x=>#[#[r.base _ _ J,W],k vs σ₁ s₁ ws q vr r x]))
def FO {fa:Nat->Option Addr}{k:Nat}{f:Addr}{x:Str}{es:Exs}{args:List Expr}{p pos:Pos}(K:GOk G)(B:fZ G fa C d)(hk:fa k=some f)(W:rf G C sc d es args)(J:noStar args=true)(U:sc.names.lookup x=some .globalImplicit)(hn:jr x=true)(O:G.gl x=some (.ref f)) :
  fk G C sc d (.call k es) (.Call (.Name x p) args [] pos):=λ_ _ _ _ _ _ _ c h=>by
 have#[#[o,fd,I,hd],hc]:=B k f hk;show Call_ (mu K c.eo c.R (by rw[c.es];show U) hn O (fJ I hd J W c h λvs σ₁ s₁ ws q vr r x=>x.back (hc c.ao r vr q)))
structure NJ (G:Stc)(a:Addr)(n:Nat)(cs:List V)(sc:Scope)(e:Expr):Prop where
 lim:G.hb.NoLimit
 kind:sc.kind=.function
 co:sc.isCoroutine=false
 gen:sc.isGenerator=false
 nd:(sc.names.map (·.1)).Nodup
 here:∃o fd,G.hb.get? a=some o/\o.data=.func fd/\fd.scope=sc/\fd.body=.expr e/\fd.globals=mainGlobals/\fd.builtins=builtinsNs/\G.hb.CodeRec fd.code fd.qualname /\
  d7 fd.params=true/\ur (fd.params.args.map (·.arg)) sc.names=true/\fd.params.args.length=n/\fd.defaults=.none /\
  (∀(i:Nat) (x:Str),sc.names[i]?=some (x,.free)->n<=i/\G.cap x=true/\∃c w v,fd.closure.lookup x=some c/\G.hb.IsCell c (some w)/\cs[i-n]?=some v/\VR G G.hb v w) /\
  (∀(i j:Nat) (x y:Str) (c:Addr),sc.names[i]?=some (x,.free)->sc.names[j]?=some (y,.free)->fd.closure.lookup x=some c->fd.closure.lookup y=some c->i=j) /\
  (∀p∈fd.closure,∃o,G.hb.get? p.2=some o)/\(∀(i:Nat) (x:Str) (k:NameKind),sc.names[i]?=some (x,k)->k≠.free->i<n)
def IF {cs:List V}{e:Expr}{b:Ex}(K:NJ G a n cs sc e)(hb:fk G C sc d b e)(ao:AOk A (d+1))(R:Rel G σ s.heap)(vr:VRs G s.heap vs ws)(h1:vs.length=n)
  (h:wpE C b (λi=>(vs++cs)[i]?) σ Q):wpAny G.M A (call (.ref a) ws) (km G [] σ s Q) E s:=by
 have#[o,fd,ho,hd,bd,ag,bl,bt,J,be,ai,hn,bn,O,ar,ay,aj]:=K.here;subst bd;apply ug ?_;apply pI (run:=λenv=>.expr e env) (dv:=[]) (ds:=[]) (ρf:=λi=>if i<n then none else cs[i-n]?) (ρ':=λi=>(vs++cs)[i]?) ho hd K.lim K.kind K.nd rfl bl bt be ai hn (λA E Q q=>?_) .nil (bz _)
  (λh=>PySem.W.kla_callFunE (by have:=ao.depth;(show gz .B .a (.l (.a (.a .A (.m 3 .S)) (.n 20)) .B) this)) (R.base _ _ ho) hd K.co K.gen ag (J.keeps R.base) h) #[λi x ex=>?_,ar,λp hp=>?_,λi x k ex hk=>cf (aj i x k ex hk)] R vr (Nat.le_of_eq h1) (by rw[List.length_nil];(show az .cC .r .b9 h1)) (λi=>?_) λenv s' X e1 e2 eo F' R' x' hX bv bu=>?_
 ·rw[bn];show wpAny G.M A (do notAStandIn .none;pure none) Q E s;show fo (by rfl) (q none rfl)
 ·have#[h2,ax,c,w,v,hc,I,hv,vv]:=O i x ex;have#[oc,U,bp]:=I;apply#[c,some w,hc,#[oc,R.base _ _ U,bp],?_,λdm=>(by rw[R.new c dm]at U;cases U),λq=>(by rw[ax]at q;cases q)];rw[aw (az .bR .a .Y h2),hv];show VR.mono (λb o e _=>R.base b o e) vv
 ·have#[o,ho]:=ay p hp;apply#[o,R.base _ _ ho]
 ·rw[List.drop_nil,dk];by_cases c:i<n
  ·rw[cf c,ew (fb .B .m .aS .G h1 c)]
  ·rw[aw c,aw c,ic (fb .A .b (.e .A .C) (.g .B .C) h1 c),h1]
 ·apply PySem.W.kla_codeExpr (di (hb #[ao.deep env,e1,eo,F',R'] h) (λv s₂ l=>?_) λ_ _ x=>x);have#[u,σ',q,bc,R2,x2]:=l;apply#[u,σ',q,bc,R2,(x'.trans (x2.more λ_ h=>nomatch h)).less λz hz=>.inr (hX z hz)]
abbrev pT (G:Stc)(C:Cal)(d:Nat):Prop:=∀(k:Nat) (cs:List V) (a:Addr),G.clo k cs a->(∃o fd,G.hb.get? a=some o/\o.data=.func fd)/\∀{A E vs ws σ Q s},AOk A d->Rel G σ s.heap->VRs G s.heap vs ws ->
 C (1000+k) (vs++cs) σ Q->wpAny G.M A (call (.ref a) ws) (km G [] σ s Q) E s
end
variable {f:Addr}{d':Nat}
structure MethAt (G:Stc)(name:Str)(f:Addr):Prop where
 here:∃N mN of fd,ClsAt G.hb G.cS N mN/\mN "__getattribute__"=none/\mN "__getattr__"=none/\mN name=some (.ref f)/\G.hb.get? f=some of/\of.cls=.type "function"/\of.data=.func fd
 out:name∉G.attrs
 lk:∃y,typeLookup (.type "object") name=pure y
section
variable {G:Stc}{A:Around}{E:QqV}{s:Shared}{σ:St}{fa:Nat->Option Addr}{C:Cal}{sc:Scope}{d:Nat}
def uY {a:Addr}{name:Str}{pl:Sem Bool}{Q:Value×List Value->Shared->Prop}(M:MethAt G name f)(R:Rel G σ s.heap)(z:(σ.I a).isSome)(q:Q (.ref f,[.ref a]) s):wpAny G.M A (getMethod (.ref a) name pl) Q E s:=by
 have#[N,mN,of,fd,X,O,U,hf,J,B,_]:=M.here;have#[y,hB]:=M.lk;have#[#[dd,g],z]:=cv.mp z;have I:=R.I a dd g z;have#[m,hm,hv,W]:=I.ns;have#[hh,gg,dr,t,os]:=s;have#[nm,q',bs,sn,sub,ag,d2,k0,k1,k2,k3,k5,hC]:=(X.keeps R.base).obj;show method_of hC (X.keeps R.base).ns O U hf (R.base _ _ J) B hB (I.inst hm) (W name M.out) q
def FA {e:Ex}{k:Nat}{name:Str}{es:Exs}{o:Expr}{args:List Expr}{apos pos:Pos}(CO:fZ G fa C d)(hk:fa k=some f)(M:MethAt G name f)(ha:fk G C sc d e o)(B:rf G C sc d es args)(hb:vg o=true)(z:noStar args=true)(J:args.length<30)(W:(apos.endLine==pos.line)=true) :
  fk G C sc d (.meth e k es) (.Call (.Attribute o name apos) args [] pos):=λ_ _ _ _ _ _ _ c h=>by
 apply qy hb z J W (rp (ha c h) λv σ₁ s₁ w q vr r x pl=>?_);have#[a,rfl,hI,q]:=q;have rfl:=vr;have#[#[of,fd,ho,hd],hc]:=CO k f hk;show uY M r hI (fJ ho hd z B (c.go r x) q λvs σ₂ s₂ ws O I r₂ U=>(x.trans U).back (hc c.ao r₂ (.cons (.obj a) I) O))
structure qA (G:Stc)(f:Addr):Prop where
 here:∃N mN of,ClsAt G.hb G.cS N mN/\mN "__init__"=some (.ref f)/\G.hb.get? f=some of/\of.cls=.type "function"
def y7 (C:Addr)(ws:List Value):(Code.builtin "type.__call__" #[.ref C::ws,[]]).cUnits<=10:=by
 show 1+3*(Code.frames (.builtin "type.__call__" #[.ref C::ws,[]]))<=10;show bh rfl
def AOk.make (h:AOk A (d+1))(C:Addr)(ws:List Value):AOk (A.under (.builtin "type.__call__" #[.ref C::ws,[]])) d:=
 #[h.handled,by have:=h.depth;show A.depth+1+3*d+20<_;(show gz (.l (.a (.a .M (.m 3 .B)) (.n 20)) .C) .a .b5 this),by have:=h.units;have:=y7 C ws;show A.units+(Code.cUnits _)+30*d+300<_;(rename_i W;show gp (.l (.a (.a .L (.m 30 .C)) .aQ) .D) .b (.l (.a (.a .A (.m 30 .S)) .aQ) .D) (.k .B (.n 10)) W this)]
def AOk.less (h:AOk A d)(hd:d'<=d):AOk A d':=#[h.handled,by have:=h.depth;(show gp (.l (.a (.a .A (.m 3 .B)) (.n 20)) .C) [[1,3,1]] (.k .B .D) (.l (.a (.a .A (.m 3 .D)) (.n 20)) .C) hd this),by have:=h.units;(show gp (.l (.a (.a .A (.m 30 .B)) .aQ) .C) [[1,30,1]] (.k .B .D) (.l (.a (.a .A (.m 30 .D)) .aQ) .C) hd this)]
def DQ {Q:V->St->Prop}{vs:List V}{ws:List Value}(CO:fZ G fa C (d-1))(hd:1<=d)(hk:fa 0=some f)(M:qA G f)(ao:AOk A d)(q:∀a dd,σ.I a=none->C 0 (.obj a::vs) (σ.ki a dd λ_=>none) λv σ=>v=.none/\Q (.obj a) σ)(vr:VRs G s.heap vs ws)(r:Rel G σ s.heap):wpAny G.M A (call (.ref G.cS) ws) (km G [] σ s Q) E s:=by
 have#[N,mN,of,X,hi,bc,bd]:=M.here;have#[_,hc]:=CO 0 f hk;have be:AOk A (d-1+1):=by rw[aa hd];show ao
 have#[nm,q',bs,sn,sub,bl,d2,k0,k1,k2,k3,k5,hC]:=(X.keeps r.base).obj;apply wpAny_call_obj_init PySem.F.objNew hC (X.keeps r.base).ns hi (r.base _ _ bc) bd λh' W dx made=>?_;have z:σ.I W=none:=by
  cases hq:σ.I W with
  |none=>rfl
  |some y=>have#[o,e]:=r.ud (.inr (.inr (.inr (.inl (by rw[hq];rfl)))));rw[made.newX]at e;cases e
 have hI:fY G h' W dx λ_=>none:=by
  have#[o,ho,aj,ay,hd]:=made.inst;have O:=made.dict o ho;rcases hd with ⟨ag,_⟩|⟨d',ai,ax,ar⟩
  ·rw[O]at ag;cases ag
  ·rw[O]at ai;cases ai;apply#[#[o,ho,aj,O,ay],#[_,ar,λ_ _ _=>trivial,λ_ _=>rfl],ax]
 have r':=r.OL made.newX made.newD hI.ne made.keeps hI;have x':Go [] σ s (σ.ki W dx λ_=>none) {s with heap:=h'}:=Go.refl.to (Evo.OL _ made.newX made.newD made.keeps);apply di (hc (s:={s with heap:=h'}) (be.make _ _) r' (.cons (.obj W) (vr.mono x'.frz)) (q W dx z)) (λw s' l=>?_) λ_ _ x=>x;have#[v,σ₂,#[rfl,B],U,r₂,J]:=l;cases U;apply#[rfl,.obj W,σ₂,B,.obj W,r₂,x'.trans J]
def F9 {x:Str}{es:Exs}{args:List Expr}{p pos:Pos}(K:GOk G)(B:fZ G fa C (d-1))(hd:1<=d)(hk:fa 0=some f)(M:qA G f)(U:rf G C sc d es args)(O:noStar args=true)(W:args≠[])(J:sc.names.lookup x=some .globalImplicit)(hn:jr x=true)(I:G.gl x=some (.ref G.cS)) :
  fk G C sc d (.n es) (.Call (.Name x p) args [] pos):=λ_ _ _ _ _ _ _ c h=>by
 have#[N,mN,of,X,_]:=id M.here;apply Call_ (mu K c.eo c.R (by rw[c.es];show J) hn I ?_);cases args with
 |nil=>show absurd rfl W
 |cons e rest =>
  show callWith_cls X (qI (U c h) λvs σ₁ s₁ ws q vr r x=>#[r.base,x.back (DQ B hd hk M c.ao q vr r)]) ((fm O).1 _) (kh (fm O).2 pos _)
def fZ.more (h:fZ G fa C d)(hd:d<=d'):fZ G fa C d':=λk a hk=>#[(h k a hk).1,λW=>(h k a hk).2 (W.less hd)]
def pT.more {C:Cal}{d:Nat}(h:pT G C d)(hd:d<=d'):pT G C d':=λk cs a hk=>#[(h k cs a hk).1,λW=>(h k cs a hk).2 (W.less hd)]
end
end MP
end
section
set_option tactic.hygienic true
namespace MP
open PySem PyProof.Rows
variable {T id nm:String}{name:Str}{o:Obj}{a:Addr}{Q:QqV}{expr:Bool}
def nS:Slot "method_descriptor" "__get__" "method_descriptor.__get__":=
 .of (owner:="method_descriptor") (n:="__get__") (by rw[gc,dw];kernel_rfl) (by decide +kernel) (by decide +kernel) (by decide +kernel)
  (by first|show .inl (by decide +kernel)|show .inr (by decide +kernel)) (by rw[jy];kernel_rfl)
def wH:entryFor table "method_descriptor.__get__"=some Builtin.«method_descriptor.__get__»:=fD (by kernel_rfl)
def zQ (a b c:Value):argsOk "method_descriptor.__get__" #[[a,b,c],[]]:=by unfold argsOk;kernel_rfl
def GW:typeLookup (.type "method_descriptor") "__set__"=pure none:=by rw[gc,dw];kernel_rfl
def GX:typeLookup (.type "method_descriptor") "__delete__"=pure none:=by rw[gc,dw];kernel_rfl
structure sI (T:String)(name:Str)(id nm:String):Prop where
 lk:typeLookup (.type T) name=pure (some (.builtin id))
 ty:typeOf (.builtin id)=pure (.type "method_descriptor")
 own:(kfb_private% "ownerAndName") id=(T,nm)
 told:Manifest.toldItsClass.contains id=false
 sub:isSubtype (.type T) (.type T)=pure true
 nm1:(["__module__","__name__","__qualname__","__doc__","__annotations__"]:List Str).contains name=false
 tp1:(Value.type T==Value.type "module")=false
def IL:sI "dict" "get" "dict.get" "get" where
 lk:=PySem.F.slot_dict_get.lookup
 ty:=PySem.F.type_dict_get
 own:=by first|decide +kernel|kernel_rfl
 told:=by first|decide +kernel|kernel_rfl
 sub:=by rw[jy];kernel_rfl
 nm1:=by decide +kernel
 tp1:=by decide +kernel
def IK:sI "set" "__contains__" "set.__contains__" "__contains__" where
 lk:=by rw[gc,dw];kernel_rfl
 ty:=by show builtinType _=_;rw[builtinType_eq_fast];kernel_rfl
 own:=by first|decide +kernel|kernel_rfl
 told:=by first|decide +kernel|kernel_rfl
 sub:=by rw[jy];kernel_rfl
 nm1:=by decide +kernel
 tp1:=by decide +kernel
abbrev lB (id:String)(a:Addr):Obj:={cls:=.type "builtin_function_or_method",data:=.fields #v[.builtin id,.ref a]}
section
variable {prog:Program}{w:World}{A:Around}{E:QqV}{s:Shared}
def CU {a:Addr}{P:Fin->Shared->Prop}(B:sI T name id nm)(U:s.heap.get? a=some o)(hc:o.cls=.type T)(h:P (.done (.ret (.ref s.heap.objs.size))) {s with heap:=s.heap.push (lB id a)}) :
  wpAny (model prog w) A (Builtin.«method_descriptor.__get__» #[[.builtin id,.ref a,.type T],[]]) P E s:=by
 have O:s.TypeIs (.ref a) T:=#[_,U,hc];unfold Builtin.«method_descriptor.__get__»;apply ab (fo (a:=(.builtin id,some (.ref a),some (.type T))) (by first|rfl|kernel_rfl) ?_);simp only[B.told];show wpAny _ _ (do
  (do
   let (owner,name):=(kfb_private% "ownerAndName") id
   if !(← isInstance (.ref a) (.type owner)) then
    rule "descr.get.wrong-instance"
    raiseError "TypeError" s!"descriptor '{(Str.ofString name).toString}' for '{← typeName (.type owner)}' objects doesn't apply to a '{← typeNameOf (.ref a)}' object":Sem Unit)
  ret (← newFields "builtin_function_or_method" [.builtin id,.ref a])) _ _ _
 rw[B.own];dsimp only;unfold isInstance;have W:=B.sub;apply ab (ab ?_);apply ab (ye O ?_);apply fo B.sub ?_;apply ae ?_;apply ab ?_;unfold newFields;show jg (ae h)
def zI (B:sI T name id nm)(W:s.heap.get? a=some o)(hc:o.cls=.type T)(h:Q (.ref s.heap.objs.size) {s with heap:=s.heap.push (lB id a)}) :
  wpAny (model prog w) A (call (.builtin "method_descriptor.__get__") [.builtin id,.ref a,.type T]) Q E s:=
 gy nS B.ty wH (CU B W hc #[_,rfl,h]) (zQ _ _ _)
def G7 {tk:Tok}{P:Fin->Shared->Prop}(B:sI T name id nm)(W:s.heap.get? a=some o)(hc:o.cls=.type T)(hd:o.dict=none)(O:∀c,o.data≠.cls c)(h:P (.done (.ret (.ref s.heap.objs.size))) {s with heap:=s.heap.push (lB id a)}) :
  wpAny (model prog w) A (Builtin.«object.__getattribute__» #[[.ref a,.str name tk],[]]) P E s:=by
 have#[J,g,d,t,os]:=s;have z:(#[J,g,d,t,os]:Shared).TypeIs (.ref a) T:=#[_,W,hc];have I:(#[J,g,d,t,os]:Shared).TypeIs (.builtin id) "method_descriptor":=B.ty;have f4:=B.lk;have f5:=B.ty;have f6:=nS.lookup;have f7:=GW;have f8:=GX;have U:=B.nm1;unfold Builtin.«object.__getattribute__»
 repeat (any_goals (first|assumption|wp_step))
 split
 ·rename_i c e;show absurd e (O c)
 ·unfold instanceDict
  repeat (any_goals (first|assumption|(with_reducible refine te W ?_;rw[hc])|with_reducible refine wpAny_loadHead W ?_|wp_step))
  rw[hd]
  repeat (any_goals (first|assumption|wp_step))
  rw[aw (by rw[U];decide)];apply ae ?_
  repeat (any_goals (first|assumption|((with_reducible show wpAny _ _ (call (Value.builtin "method_descriptor.__get__") _ _) _ _ _);apply zI B W hc ?_)|wp_step))
def lX {U:String}(B:sI T name id nm)(O:Slot T "__getattribute__" U)(en:entryFor table U=some Builtin.«object.__getattribute__»)(ar:∀x y,argsOk U #[[x,y],[]])
  (I:s.heap.get? a=some o) (hc:o.cls=.type T) (hd:o.dict=none) (W:∀c,o.data≠.cls c) (h:Q (.ref s.heap.objs.size) {s with heap:=s.heap.push (lB id a),toks:=s.toks+1}) :
  wpAny (model prog w) A (getAttr (.ref a) name expr) Q E s:=by
 have#[z,g,d,t,os]:=s;have#[c,dct,ai,ag]:=o;simp only at hc hd W;subst hc;subst hd;have hT:∀J,(#[z,g,d,J,os]:Shared).TypeIs (.ref a) T:=λ_=>#[_,I,rfl];have f3:=O.lookup;have f4:=O.bind (.ref a);unfold getAttr getAttrBy
 repeat (any_goals (first|assumption|show hT _|((with_reducible show wpAny _ _ (call (Value.builtin U) _ _) _ _ _);apply gy O (hT _) en (G7 B (s:=⟨z,g,d,t+1,os⟩) I rfl rfl W ⟨_,rfl,?_⟩) (ar _ _))|wp_step))
 have e:(expr&&onTheHeap (Value.builtin U))=false:=by cases expr<;>rfl
 rw[aw (by rw[e];decide)];unfold boundAndCalled;apply ab (fo f4 ?_);apply gy O (hT _) en (G7 B (s:=#[z,g,d,t+1,os]) I rfl rfl W #[_,rfl,?_]) (ar _ _);show ae h
def tK (U:s.heap.get? a=some o)(hc:o.cls=.type "dict")(hd:o.dict=none)(W:∀c,o.data≠.cls c)(h:Q (.ref s.heap.objs.size) {s with heap:=s.heap.push (lB "dict.get" a),toks:=s.toks+1}) :
  wpAny (model prog w) A (getAttr (.ref a) "get" expr) Q E s:=
 lX IL PySem.F.slot_dict_getattribute am_entry_dict_getattribute PySem.F.args_dict_getattribute_2 U hc hd W h
def entry_set_ga:entryFor table "set.__getattribute__"=some Builtin.«object.__getattribute__»:=
 entryFor_alias (id':="object.__getattribute__") (by kernel_rfl) (by first|rfl|decide +kernel) (by decide +kernel) (by kernel_rfl)
def tJ (U:s.heap.get? a=some o)(hc:o.cls=.type "set")(hd:o.dict=none)(W:∀c,o.data≠.cls c)(h:Q (.ref s.heap.objs.size) {s with heap:=s.heap.push (lB "set.__contains__" a),toks:=s.toks+1}) :
  wpAny (model prog w) A (getAttr (.ref a) "__contains__" expr) Q E s:=
 lX IK PySem.F.slot_set_getattribute entry_set_ga PySem.F.args_set_getattribute_2 U hc hd W h
def u4 {pos:Pos}{u:Addr}{first:List Value}{args:List (Bool×Sem Value)}(W:args.any (·.1)=false)(J:o.cls=.type "builtin_function_or_method")(O:o.data=.fields #v[.builtin id,.ref a])
  (h:wpAny (model prog w) A (evalArgs (.ref u) true args []) (λx s₁=>s₁.heap.get? u=some o/\wpAny (model prog w) A (call (.ref u) (first++x.pos) x.kw) Q E s₁) E s):wpAny (model prog w) A (callWith pos (.ref u) first args []) Q E s:=by
 unfold callWith;apply ab (cy (di h (λx s₁ h₁=>ab (je ?_)) λ_ _ x=>x));have#[I,U]:=h₁;simp -iota only[W,List.any_nil,iX];apply ab (m:=keeperOf (.ref u)) ?_;unfold keeperOf;apply ab (xy I ?_);simp -iota only[J,O,show(Value.type "builtin_function_or_method" != Value.type "method")=true by decide,show(Value.type "builtin_function_or_method" == Value.type "builtin_function_or_method" ||Value.type "builtin_function_or_method" == Value.type "method-wrapper")=true by decide,zr];apply ae ?_;show ab (di U (λr s₂ hr=>ab (cy (wpAny_point (ae hr)))) λ_ _ x=>x)
def IG {u:Addr}{b:Builtin}{args:List Value}(B:s.heap.get? u=some o)(U:o.cls=.type "builtin_function_or_method")(W:o.data=.fields #v[.builtin id,.ref a])
  (O:∀(A:Around) (E:QqV) (Q:Unit->Shared->Prop),Q () s->wpAny (model prog w) A (checkBoundCall id #[.ref a::args,[]]) Q E s) (I:id.startsWith "lifetime."=false) (z:entryFor table id=some b)
  (h:∀A':Around,wpAny (model prog w) A' (b #[.ref a::args,[]]) (λfin s'=>∃v,fin=.done (.ret v)/\Q v s') E s):wpAny (model prog w) A (call (.ref u) args) Q E s:=by
 apply ug (wd ?_);show wpAny _ A.in1 (callAny (.ref u) #[args,[]]) _ _ s;simp -iota only[callAny];apply ab (xy B ?_);simp -iota only[U,W,show(Value.type "builtin_function_or_method" == Value.type "method" ||Value.type "builtin_function_or_method" == Value.type "builtin_function_or_method" ||Value.type "builtin_function_or_method" == Value.type "method-wrapper")=true by decide,zr];show wpAny _ _ (do checkBoundCall id #[.ref a::args,[]];again (.builtin id #[.ref a::args,[]])) _ _ s;apply ab (O _ _ _ (ae #[kD _ I,sf z ?_]));apply di (h _) (λfin s' h'=>?_) λ_ _ x=>x;have#[v,rfl,J]:=h';show J
def ID (a b c:Value):(match Manifest.signature? "dict.get" with|some W=>Bind.checkArgs "dict.get" {W with full:=s!"{Bind.lastOf "dict"}.{Bind.lastOf "dict.get"}" } #[[a,b,c],[]]|none=>pure ())=pure ():=by
 rw[mY (id:="dict.get") (n:=['t','e','g']) (o:=['t','c','i','d']) (by kernel_rfl) PySem.F.owner_dict];kernel_rfl
def IC (a b:Value):(match Manifest.signature? "set.__contains__" with|some W=>Bind.checkArgs "set.__contains__" {W with full:=s!"{Bind.lastOf "set"}.{Bind.lastOf "set.__contains__"}" } #[[a,b],[]]|none=>pure ())=pure ():=by
 rw[mY (id:="set.__contains__") (n:=['_','_','s','n','i','a','t','n','o','c','_','_']) (o:=['t','e','s']) (by kernel_rfl) PySem.F.owner_set];kernel_rfl
def wR {rest:List Value}{Q:Unit->Shared->Prop}(B:s.heap.get? a=some o)(hc:o.cls=.type T)(O:∀c,o.data≠.cls c)(hk:builtinKind id=some .method)(hm:isSubtype (.type T) (.type "module")=pure false)(hv:Manifest.varargsMethods.contains id=false)
  (J:(match Manifest.signature? id with|some W=>Bind.checkArgs id {W with full:=s!"{Bind.lastOf T}.{Bind.lastOf id}" } #[.ref a::rest,[]]|none=>pure ())=pure ()) (h:Q () s):wpAny (model prog w) A (checkBoundCall id #[.ref a::rest,[]]) Q E s:=by
 have z:s.TypeIs (.ref a) T:=#[_,B,hc];unfold checkBoundCall;cases hsig:Manifest.signature? id with
 |none=>show ae h
 |some W =>
  rw[hsig]at J;dsimp only at J ⊢;rw[hk];dsimp only;rw[aw (by decide)];unfold isInstance;apply ab (ab (ye z ?_));apply fo hm ?_;rw[hv,aw (by decide)];have U:∀I:Bool->Shared->Prop,I false s->wpAny (model prog w) A (isType (.ref a)) I E s:=λI q=>by
   unfold isType loadHead;apply ab (jU B (ae ?_));split
   ·rename_i c e;show absurd e (O c)
   ·show q
  apply ab (U _ ?_);rw[aw (by decide)];apply ab (ye z ?_);show fo J h
def DB:builtinKind "dict.get"=some .method:=by kernel_rfl
def DA:builtinKind "set.__contains__"=some .method:=by kernel_rfl
def NZ:isSubtype (.type "dict") (.type "module")=pure false:=by rw[jy];kernel_rfl
def NY:isSubtype (.type "set") (.type "module")=pure false:=by rw[jy];kernel_rfl
def JA:Manifest.varargsMethods.contains "dict.get"=false:=by decide +kernel
def J9:Manifest.varargsMethods.contains "set.__contains__"=false:=by decide +kernel
def MB {x y:Value}{Q:Unit->Shared->Prop}(U:s.heap.get? a=some o)(hc:o.cls=.type "dict")(W:∀c,o.data≠.cls c)(h:Q () s):wpAny (model prog w) A (checkBoundCall "dict.get" #[[.ref a,x,y],[]]) Q E s:=
 wR U hc W DB NZ JA (ID _ _ _) h
def MA {x:Value}{Q:Unit->Shared->Prop}(U:s.heap.get? a=some o)(hc:o.cls=.type "set")(W:∀c,o.data≠.cls c)(h:Q () s):wpAny (model prog w) A (checkBoundCall "set.__contains__" #[[.ref a,x],[]]) Q E s:=
 wR (T:="set") (id:="set.__contains__") (rest:=[x]) U hc W DA NY J9 (IC (.ref a) x) h
end
end MP
end
section
namespace MP
open PySem PyProof.Rows
def xV:plainId "dict.get"=true:=PySem.F.slot_dict_get.plain
def D5:("dict.get":String).startsWith "lifetime."=false:=by decide +kernel
def D4:("set.__contains__":String).startsWith "lifetime."=false:=by decide +kernel
section
variable {prog:Program}{w:World}{A:Around}{E:QqV}{s:Shared}
def DS {u a:Addr}{id:String}{o:Obj}{b:Builtin}{args:List Value}{S:PySem.Spec}{Q:QqV}(B:s.heap.get? u=some o)(U:o.cls=.type "builtin_function_or_method")(W:o.data=.fields #v[.builtin id,.ref a])
  (O:∀(A:Around) (E:QqV) (Q:Unit->Shared->Prop),Q () s->wpAny (model prog w) A (checkBoundCall id #[.ref a::args,[]]) Q E s) (J:id.startsWith "lifetime."=false) (z:entryFor table id=some b) (I:plainId id=true)
  (g:MeetsIn prog w (b #[.ref a::args,[]]) S) (h:S A (wants Q E) s):wpAny (model prog w) A (call (.ref u) args) Q E s:=by
 apply ug (wd ?_);show wpAny _ A.in1 (callAny (.ref u) #[args,[]]) _ _ s;simp -iota only[callAny];apply ab (xy B ?_);simp -iota only[U,W,show(Value.type "builtin_function_or_method" == Value.type "method" ||Value.type "builtin_function_or_method" == Value.type "builtin_function_or_method" ||Value.type "builtin_function_or_method" == Value.type "method-wrapper")=true by decide,zr];show wpAny _ _ (do checkBoundCall id #[.ref a::args,[]];again (.builtin id #[.ref a::args,[]])) _ _ s;apply ab (O _ _ _ (ae #[kD _ J,sf z ?_]));rw[tq I];show g A (wants Q E) s h
def qE {K:Type}[DecidableEq K]{knd:KeyKind prog w K}{a:Addr}{k:K}{key:Value}{S:K->Bool}{n:Nat}{Q:QqV}(W:knd.is k key=true)(U:key.scannable=true)(O:s.heap.SetOf knd a S n)
  (h:Q (.bool (S k)) {s with toks:=s.toks+1}):wpAny (model prog w) A (Builtin.«frozenset.__contains__» #[[.ref a,key],[]]) (λfin s'=>∃v,fin=.done (.ret v)/\Q v s') E s:=by
 unfold Builtin.«frozenset.__contains__» Builtin.Frozenset.oneOther;simp only[List.isEmpty_nil,bind_assoc];unfold Builtin.Frozenset.addrOf Builtin.Frozenset.withSetAsKey setContains;apply ab (ae ?_)
 try dsimp only
 apply ab (ae ?_)
 try dsimp only
 apply ab (wpAny_tryCatch ?_);apply cy ?_;apply ab (knd.pyHash W ?_);apply ab (wpAny_setFind_of (s:={s with toks:=s.toks+1}) W U O λr hr=>?_);apply ae ?_;show wpAny _ _ (ret (Value.bool r.isSome)) _ _ _;rw[hr];show ae #[_,rfl,h]
end
section
variable {pos:Pos}
variable {G:Stc}{C:Cal}{sc:Scope}{d:Nat}
def xK {e:Ex}{x:Expr}(B:fk G C sc d e x)(hb:vg x=true):fk G C sc d (.g e) (.Attribute x "get" pos):=λ_ _ _ _ _ _ _ c h =>
 Attribute_any_ (rp (B c h) λv σ₁ s₁ w q vr r x=>by
  have#[a,rfl,z,q]:=q;have rfl:=vr;have#[ag,e]:=cv.mp z;have#[ds,hd,_]:=r.D _ _ e;have U:=hd.mapOf.noDict a rfl;have#[o,ai,ep,I,hc,O,_]:=id hd;have#[o',W,J]:=U;have rfl:=af (I.symm.trans W);apply tK I hc.1 J (λc q=>by rw[O]at q;cases q) ?_;apply#[.iN a,σ₁,q,.iN (cq _ rfl) rfl rfl,r.push _,x.to (Evo.push _ _ _ _)]) (by rw[arm_eval_Attribute,eG hb])
def xJ {e:Ex}{x:Expr}(I:fk G C sc d e x)(hb:vg x=true):fk G C sc d (.h e) (.Attribute x "__contains__" pos):=λ_ _ _ _ _ _ _ c h =>
 Attribute_any_ (rp (I c h) λv σ₁ s₁ w q vr r x=>by
  have#[a,rfl,B,q]:=q;have rfl:=vr;have#[z,e]:=cv.mp B;have hd:=r.S _ _ e;have#[o',W,O]:=hd.of.noDict a rfl;have#[o,ag,ep,t,J,hc,U,_]:=id hd;have rfl:=af (J.symm.trans W);apply tJ J hc.1 O (λc q=>by rw[U]at q;cases q) ?_;apply#[.j9 a,σ₁,q,.j9 (cq _ rfl) rfl rfl,r.push _,x.to (Evo.push _ _ _ _)]) (by rw[arm_eval_Attribute,eG hb])
def sD {A:Around}{E:QqV}{s:Shared}{σ:St}{env:Env}{ρ:Fr}{u a:Addr}{id:String}{o:Obj}{es:Exs}{args:List Expr}{P:List V->St->Prop}{Q:QqV}(B:s.heap.get? u=some o)(U:o.cls=.type "builtin_function_or_method")(W:o.data=.fields #v[.builtin id,.ref a])(I:noStar args=true)(O:rf G C sc d es args)
  (c:Cx G sc d A env ρ σ s) (h:vo C es ρ σ P)
  (k:∀vs σ₁ s₁ ws,P vs σ₁->VRs G s₁.heap vs ws->Rel G σ₁ s₁.heap->Go [] σ s σ₁ s₁->s₁.heap.get? u=some o->wpAny G.M A (call (.ref u) ws) Q E s₁) :
  wpAny G.M A (callWith pos (.ref u) [] (backTo pos (starEach args env)) []) Q E s:=
 u4 (o:=o) (kh I pos env) U W (ph (kh I pos env) (qI (O c h) λvs σ₁ s₁ ws q vr r x=>by
  have J:=x.frz _ _ B (.inr (.inl #[.inl U,_,W]));apply#[J,k vs σ₁ s₁ ws q vr r x J]))
def rF {f:Nat}{es:Exs}{x:Str}{kd:NameKind}{args:List Expr}{p:Pos}(K:GOk G)(LO:pT G C d)(hi:sc.names[f]?=some (x,kd))(hk:isVar kd=true)(hx:jr x=true)(B:rf G C sc d es args)(hs:noStar args=true):fk G C sc d (.w f es) (.Call (.Name x p) args [] pos):=λA E env ρ σ Q s c h=>by
 have#[v,hv,h]:=h;have aj:(x==("__debug__":Str))=false:=by simp only[jr,fe,jl]at hx;show hx.1
 apply Call_ (wpAny_Name (j7 c.eo c.F (by rw[c.es];show hi) hk hx hv λw vr=>?_) aj);have no:(∀vs σ,¬PX v vs C 1000 σ Q)->wpAny G.M A (callWith pos w [] (backTo pos (starEach args env)) []) (km G [] σ s Q) E s:=λax=>by
  unfold callWith;show ab (cy (ph (kh hs pos env) (qI (B c h) λvs σ₁ s₁ ws q vr r x=>(ax _ _ q).elim)))
 cases v with
 |iN a =>
  have#[q,o,rfl,ho,I,J]:=vr;apply sD ho I J hs B c h λvs σ₁ s₁ ws W z r O hu=>?_;have#[k,dd,rfl,bc,kk,e,U,W]:=o8 (vs:=vs) W;have#[wa,wb,rfl,va,vb]:=z.two;have#[ds,hd,ar]:=r.D _ _ e;have#[od,ay,ep,ag,hcd,ai,_]:=id hd;have hl:=ar.look kk;apply DS hu I J (λA E Q q=>MB ag hcd.1 (λc q=>by rw[ai]at q;cases q) q) D5 PySem.F.entry_dict_get xV (meets_dict_get_default G.kk _ (key_is U va) (n8 K r (.inr (.inl (by rw[e];rfl)))) _) #[_,hd.mapOf,?_];apply#[_,σ₁,W,hl.getD vb,r,O.tok]
 |j9 a =>
  have#[q,o,rfl,ho,I,J]:=vr;apply sD ho I J hs B c h λvs σ₁ s₁ ws W z r O hu=>?_;have#[k,rfl,ks,kk,e,U,W]:=ze (vs:=vs) W;have#[wa,rfl,va]:=z.one;have hS:=r.S _ _ e;have#[od,ay,ep,t,ag,hcd,ai,_]:=id hS;apply IG hu I J (λA E Q q=>MA ag hcd.1 (λc q=>by rw[ai]at q;cases q) q) D4 PySem.entry_set_contains λA'=>?_;apply qE (key_is U va) (HB U va) hS.of ?_;apply#[_,σ₁,W,.bool _,r,O.tok]
 |clo k cs =>
  have#[a,_,rfl,hk,_]:=vr;have#[#[o,fd,ho,hd],hc]:=LO k cs a hk;show fJ ho hd hs B c h λvs σ₁ s₁ ws q vr r x=>x.back (hc c.ao r vr q)
 |_=>show no λ_ _ q=>q
end
end MP
end
section
namespace MP
open PySem PyProof.Rows
def At.grow {h h':Heap}{a:Addr}{o:Obj}(hn:h.get? a=none)(hk:∀b o,h.get? b=some o->h'.get? b=some o)(W:h'.get? a=some o):At a h h':=
 #[λb o _ e=>hk b o e,#[_,W],λo e=>by rw[hn]at e;cases e]
section
variable {G:Stc}{C:Cal}{sc:Scope}{d:Nat}
def gL {X:List Addr}{σ σ₁:St}{s s₁:Shared}{W:Heap}{B:Drawn}{tk:Nat}{Q:V->St->Prop}{vs:List V}{ws:List Value}{a n:Nat}(r:Rel G σ₁ s₁.heap)(x:Go X σ s σ₁ s₁)(hn:s₁.heap.get? a=none)(hk:∀b o,s₁.heap.get? b=some o->W.get? b=some o)(hl:IsL W a ws.toArray n)(O:VRs G s₁.heap vs ws)(hz:vs.length<=ba)
  (q:∀c,σ₁.L c=none->Q (.L c) (σ₁.eh c vs)):km G X σ s Q (.ref a) #[W,s₁.gens,B,tk,s₁.os]:=by
 have U:At a s₁.heap W:=At.grow hn hk hl;have I:σ₁.L a=none:=by
  cases hq:σ₁.L a with
  |none=>rfl
  |some ys=>have#[o,J,_]:=r.tX hq;rw[hn]at J;cases J
 apply#[.L _,_,q _ I,.L _,r.putL U (λ_=>hn) hl O hz,x.to (Evo.putL U (λ_=>hn) _)]
def K0 {e:Ex}{x:Str}{y:Expr}{p pos:Pos}(K:GOk G)(he:fk G C sc d e y)(z:noStar [y]=true)(hx:sc.names.lookup x=some .globalImplicit)(hn:jr x=true)(hv:G.gl x=some (.builtin "len")) :
  fk G C sc d (.bf .len %[e|0]) (.Call (.Name x p) [y] [] pos):=λ_ _ _ _ _ _ _ c h=>by
 apply dW K z (ir he ll (fm z).1) hx hn hv c h λvs σ₁ s₁ ws q vr r U=>?_;have#[v,rfl,q]:=ze (vs:=vs) q;have zz:=vr.one;clear vr;have#[w,rfl,J]:=zz;cases v with
 |L a =>
  have rfl:=J;have#[xs,e,q]:=q;have#[us,n,hl,I]:=r.L _ _ e;rw[I.length]at q;show PySem.Calls.call_len_list hl.isList (yC (iR r e I)) #[_,σ₁,q,.int _ _,r,U.tok]
 |T xs =>
  have#[a,us,n,rfl,g,rr]:=J;have#[hz,q]:=q;rw[rr.length]at q hz;show PyProof.Rows.len_tuple #[_,g,rfl,_,rfl] (yC hz) #[_,σ₁,q,.int _ _,r,U.tok]
 |ro ns =>
  have#[a,us,n,rfl,g,rr]:=J;have#[hz,q]:=q;rw[<- rr.length]at q hz;show PySem.Calls.call_len_list (IsL.isList (r.base _ _ g)) (yC hz) #[_,σ₁,q,.int _ _,r,U.tok]
 |str x =>
  have#[t,rfl]:=J;have#[hz,q]:=q;show PySem.P.len_str (Int.not_le.mpr (yC hz)) #[_,σ₁,q,.int _ _,r,U.tok]
 |bys b =>
  have#[t,rfl]:=J;have#[hz,q]:=q;show PySem.W.len_bytes (by unfold ba at hz;(show fj (.k .A (.n 1099511627776)) .a .a1 hz)) #[_,σ₁,q,.int _ _,r,U.tok]
 |dct a =>
  have rfl:=J;have#[ai,e,q]:=q;have#[ds,hd,ag]:=r.D _ _ e;have O:=ag.length;have hz:=r.Dl _ _ e;unfold ba at hz;apply call_len_dict (n8 K r (.inr (.inl (by rw[e];rfl)))) hd (jc (.il .L .M) .m .b9 (.k .B .T) O hz) ?_;rw[O]at q;apply#[_,σ₁,q,.int _ _,r,U.tok]
 |_=>show False.elim q
def F5 {x:Str}{p pos:Pos}(K:GOk G)(O:sc.names.lookup x=some .globalImplicit)(hn:jr x=true)(J:G.gl x=some (.type "set")) :
  fk G C sc d (.bf .set .nil) (.Call (.Name x p) [] [] pos):=λA E env ρ σ Q s c h=>by
 apply pf (P:=λvs σ=>C6 .set vs σ Q) K rfl ll O hn J c h λvs σ₁ s₁ ws q vr r W=>?_;have#[rfl,q]:=AQ (vs:=vs) q;have rfl:=vr;have U:At s₁.heap.objs.size s₁.heap (s₁.heap.push (xR G)):=At.push s₁.heap;show u0 #[.set _,_,q _ r.PF r.freshD,.set _,r.OE U (λ_=>none_at_size _) (CS s₁.heap),W.to (Evo.OE U (λ_=>none_at_size _) _)]
end
end MP
end
section
namespace MP
open PySem PyProof.Rows
variable {σ:St}{env:Env}{e:Expr}{depth:Nat}{acc:Value}{gens:List Comprehension}
abbrev Tg.vars:Tg->List Nat
 |.v x=>[x]
 |.T xs=>xs
abbrev Gens.vars:Gens->List Nat
 |.elt _=>[]
 |.eltK _=>[]
 |.cons _ t _ more=>t.vars++more.vars
def nW:∀(xs:List Nat) (vs:List V) (ρ:Fr) (i:Nat),i∉xs->ji xs vs ρ i=ρ i
 | [],_,_,_,_=>rfl
 |_::_,[],_,_,_=>rfl
 |x::xs,v::vs,ρ,i,h=>by
  have h:=sJ h;show(nW xs vs _ i h.2).trans (fh h.1)
def zM {t:Tg}{v:V}{ρ:Fr}{K:Fr->Prop}(h:su t v σ ρ K):su t v σ ρ λρ'=>K ρ'/\∀i,i∉t.vars->ρ' i=ρ i:=by
 cases t with
 |v x=>refine#[h,λi hi=>fh (by simpa[Tg.vars] using hi)]
 |T xs =>
  have#[vs,e,hl,h]:=h;apply#[vs,e,hl,h,λi hi=>nW _ _ _ _ hi]
def Rel.PY {G:Stc}{h:Heap}{a:Addr}{xs:List V}{ws:List Value}{n:Nat}(R:Rel G σ h)(hd:¬σ.dom a)(hb:G.hb.get? a=none)(hl:IsL h a ws.toArray n)(U:VRs G h xs ws)(hz:xs.length<=ba):Rel G (σ.eh a xs) h:=by
 apply#[λb ys e=>?_,R.D,R.S,R.I,R.Z,λb ys e=>?_,R.Dl,R.inj,R.apart,R.sep,λb d=>?_,R.base]
 ·by_cases W:b=a
  ·subst W;simp only[St.eh,cj,gr]at e;subst e;apply#[ws,n,hl,U]
  ·simp only[St.eh,fh W]at e;show R.L b ys e
 ·by_cases W:b=a
  ·subst W;simp only[St.eh,cj,gr]at e;show e▸hz
  ·simp only[St.eh,fh W]at e;show R.Ll b ys e
 ·rcases dI d with d|rfl
  ·show R.new b d
  ·show hb
structure Acc (G:Stc) where
 B:Heap->Addr->List V->Prop
 keep:∀h h' D acc,B h D acc->(∀o,h.get? D=some o->h'.get? D=some o)->jn h h'->B h' D acc
 there:∀h D acc,B h D acc->∃o,h.get? D=some o
abbrev DW (G:Stc):Acc G where
 B:=λh D acc=>acc.length<=ba/\∃ws n,IsL h D ws.toArray n/\VRs G h acc ws
 keep:=λh h' D acc b hk hf=>by have#[z,ws,n,hl,hv]:=b;apply#[z,ws,n,hk _ hl,hv.mono hf]
 there:=λh D acc b=>by have#[z,ws,n,hl,hv]:=b;apply#[_,hl]
inductive BV (G:Stc)(B:Acc G)(env:Env)(D:Addr)(X:List Addr)(tv:List Nat)(ρ:Fr)(σ:St)(s:Shared)(K:Fr->List V->St->Prop)(s':Shared):Prop
 |mk (ρ':Fr) (acc':List V) (σ':St):K ρ' acc' σ'->FR G σ' env ρ' s'.heap->Rel G σ' s'.heap->B.B s'.heap D acc'->¬σ'.dom D->Go (D::X) σ s σ' s'->(∀i,i∉tv->ρ' i=ρ i)->BV G B env D X tv ρ σ s K s'
structure eV (G:Stc)(B:Acc G)(env:Env)(D:Addr)(σ:St)(h:Heap)(acc:List V):Prop where
 here:B.B h D acc
 out:¬σ.dom D
 off:D∉envX env
 base:G.hb.get? D=none
def eV.evo {G:Stc}{B:Acc G}{D:Addr}{σ':St}{h h':Heap}{acc:List V}{X:List Addr}(a:eV G B env D σ h acc)(x:Evo X σ h σ' h')(U:D∉X):eV G B env D σ' h' acc:=by
 have#[o,W]:=B.there _ _ _ a.here;apply#[B.keep _ _ _ _ a.here (λo e=>x.keep _ _ e a.out U) x.frz,λd=>(x.dom D d).elim a.out λq=>(by rw[W]at q;cases q),a.off,a.base]
abbrev ue (e:Expr)(gens:List Comprehension)(fin:Value->Env->Sem Unit)(depth:Nat)(acc:Value)(env:Env):Sem Unit:=
 match gens[depth+1]? with
 |some g'=>eval g'.iter env>>=λx=>standAt g'.iter.pos>>=λ_=>foldedSetIterable g'.iter env x>>=λx=>holding [x] (pyIter x)>>=λi =>
  runOwn (.compStart e (depth+1) i acc env) env>>=λ_=>pure ()
 |none=>fin acc env
abbrev yV (elt:Expr)(acc:Value)(env:Env):Sem Unit:=eval elt env>>=λx=>call (.builtin "list.append") [acc,x]>>=λ_=>pure ()
abbrev LN (elt:Expr)(acc:Value)(env:Env):Sem Unit:=eval elt env>>=λx=>standAt elt.pos>>=λ_=>call (.builtin "set.add") [acc,x]>>=λ_=>pure ()
abbrev tests (ifs:List Expr)(env:Env):Sem Bool:=forIn ifs true λc r=>if r=true then do let ok←isTrue c env (eval c env);pure (ForInStep.yield ok) else pure (ForInStep.yield r)
structure mI (e:Expr)(gens:List Comprehension)(fin:Value->Env->Sem Unit):Prop where
 cl:clausesOf e=gens
 turn:∀{depth:Nat} {it acc:Value} {env:Env} {target iter:Expr} {ifs:List Expr},gens[depth]?=some #[target,iter,ifs,0]->(∀g',gens[depth+1]?=some g'->g'.is_async=0) ->
  compTurn e depth it acc env=(standAt iter.pos>>=λ_=>pyNext it>>=λr=>match r with
   |none=>pure (.done .next)
   |some v=>letOwnedTupleGo target it v>>=λ_=>assign target env v>>=λ_=>tests ifs env>>=λok =>
    if ok=true then ue e gens fin depth acc env>>=λ_=>again (.compLoop e depth it acc env) else again (.compLoop e depth it acc env))
 us:∀(A:Around) (depth:Nat) (it acc:Value) (env:Env),A.under (.compStart e depth it acc env)=A
 ul:∀(A:Around) (depth:Nat) (it acc:Value) (env:Env),A.under (.compLoop e depth it acc env)=A
 ds:∀(prog:Program) (w:World) (depth:Nat) (it acc:Value) (env:Env),(model prog w).den (.compStart e depth it acc env)=(compStart e depth it acc env).onRaise (λx=>do noteFrame x env;standAt theWindowsPlace)
 dl:∀(prog:Program) (w:World) (depth:Nat) (it acc:Value) (env:Env),(model prog w).den (.compLoop e depth it acc env)=(compTurn e depth it acc env).onRaise (λx=>do noteFrame x env;theTreesLotGoes x)
def pR {b:Expr}{k:Sem Fin}:((eval b env>>=λx=>standAt b.pos>>=λ_=>foldedSetIterable b env x>>=λx=>holding [x] (pyIter x)>>=λi=>runOwn (.compStart e (depth+1) i acc env) env>>=λ_=>(pure ():Sem Unit))>>=λ_=>k) =
  (eval b env>>=λx=>standAt b.pos>>=λ_=>foldedSetIterable b env x>>=λx=>holding [x] (pyIter x)>>=λi=>runOwn (.compStart e (depth+1) i acc env) env>>=λ_=>k):=by simp only[bind_assoc,pure_bind]
def tY {elt:Expr}{scope:Scope}{pos:Pos}:mI (.ListComp elt gens scope pos) gens (yV elt):=⟨rfl,λ{depth it acc env target iter ifs} U W=>by
 delta compTurn
 dsimp only;rw[U];apply cc (standAt iter.pos>>=·) (funext λ_=>cc (pyNext it>>=·) (funext λr=>?_));cases r with
 |none=>rfl
 |some v =>
  apply cc (letOwnedTupleGo target it v>>=·) (funext λ_=>cc (assign target env v>>=·) (funext λ_=>cc (tests ifs env>>=·) (funext λok=>?_)));cases ok with
  |false=>rfl
  |true =>
   delta ue
   cases hq:gens[depth+1]? with
   |none=>rfl
   |some O =>
    have#[a,b,c,d]:=O;obtain rfl:d=0:=W _ hq;show pR.symm,λ_ _ _ _ _=>rfl,λ_ _ _ _ _=>rfl,λ_ _ _ _ _ _=>rfl,λ_ _ _ _ _ _=>rfl⟩
def PQ {elt:Expr}{scope:Scope}{pos:Pos}:mI (.SetComp elt gens scope pos) gens (LN elt):=⟨rfl,λ{depth it acc env target iter ifs} U W=>by
 delta compTurn
 dsimp only;rw[U];apply cc (standAt iter.pos>>=·) (funext λ_=>cc (pyNext it>>=·) (funext λr=>?_));cases r with
 |none=>rfl
 |some v =>
  apply cc (letOwnedTupleGo target it v>>=·) (funext λ_=>cc (assign target env v>>=·) (funext λ_=>cc (tests ifs env>>=·) (funext λok=>?_)));cases ok with
  |false=>rfl
  |true =>
   delta ue
   cases hq:gens[depth+1]? with
   |none=>rfl
   |some O =>
    have#[a,b,c,d]:=O;obtain rfl:d=0:=W _ hq;show pR.symm,λ_ _ _ _ _=>rfl,λ_ _ _ _ _=>rfl,λ_ _ _ _ _ _=>rfl,λ_ _ _ _ _ _=>rfl⟩
section
variable {prog:Program}{w:World}{A:Around}{R:Result->Shared->Prop}{s:Shared}
def jL {fin:Value->Env->Sem Unit}{it:Value}{target iter:Expr}{ifs:List Expr}(U:mI e gens fin)(O:gens[depth]?=some #[target,iter,ifs,0])
  (h0:codeAny (model prog w) A (.compLoop e depth it acc env) R s)
  (h:wpAny (model prog w) A (pyIter it) (λW s'=>codeAny (model prog w) A (.compLoop e depth W acc env) R s') (notedBy (model prog w) A env λx s'=>R (.error x) s') s) :
  codeAny (model prog w) A (.compStart e depth it acc env) R s:=by
 apply wd ?_;rw[U.us,U.ds];apply wpAny_notedAt ?_;unfold compStart;simp only[U.cl,O];show wpAny _ A (ask>>=_) _ _ s;apply ab (yf (wpAny_ite ?_));split
 ·first
   |show ab (ae (ae (And.intro rfl h0)))
   |show ae (And.intro rfl h0)
 ·show ab (lq (ab (je (ab (di h (λW s' h'=>ae (And.intro rfl h')) λ_ _ x=>x)))))
def wM {fin:Value->Env->Sem Unit}{it:Value}{target iter:Expr}{ifs:List Expr}(ck:mI e gens fin)(hg:gens[depth]?=some #[target,iter,ifs,0])(aj:∀g',gens[depth+1]?=some g'->g'.is_async=0)(I:Nat->Shared->Prop)
  (z:∀n s,I n s->wpAny (model prog w) A (pyNext it) (λr s₁=>match r with
   |none=>R (.ok .next) s₁
   |some v=>wpAny (model prog w) A (letOwnedTupleGo target it v) (λ_ U=>wpAny (model prog w) A (assign target env v) (λ_ s₂ =>
     wpAny (model prog w) A (tests ifs env) (λok W=>if ok=true then wpAny (model prog w) A (ue e gens fin depth acc env) (λ_ O=>∃m,m<n/\I m O) (notedBy (model prog w) A env λe s'=>R (.error e) s') W else ∃m,m<n/\I m W)
      (notedBy (model prog w) A env λe s'=>R (.error e) s') s₂) (notedBy (model prog w) A env λe s'=>R (.error e) s') U) (notedBy (model prog w) A env λe s'=>R (.error e) s') s₁) (notedBy (model prog w) A env λe s'=>R (.error e) s') s)
  (n:Nat) (h:I n s):codeAny (model prog w) A (.compLoop e depth it acc env) R s:=by
 apply codeAny_loop rfl I (λn s hI=>?_) n h;rw[ck.ul,ck.dl];apply wpAny_noted ?_;rw[ck.turn hg aj];apply ab (je (ab (di (z n s hI) (λr s₁ h₁=>?_) λ_ _ h'=>h')));cases r with
 |none=>show ae h₁
 |some v =>
  apply ab (di h₁ (λ_ U B=>ab (di B (λ_ s₂ ai=>ab (di ai (λok W J=>?_) λ_ _ h'=>h')) λ_ _ h'=>h')) λ_ _ h'=>h');cases ok with
  |false=>show ae #[rfl,J]
  |true=>show ab (di J (λ_ O ag=>ae #[rfl,ag]) λ_ _ h'=>h')
end
section
variable {A:Around}{s s₀:Shared}{cs:Exs}{gens:List Comprehension}{depth:Nat}{env:Env}{σ₀ σ:St}{D:Addr}{X:List Addr}{ρ:Fr}{K:Fr->List V->St->Prop}{acc:List V}{t:Tg}{more:Gens}{e target:Expr}{fin:Value->Env->Sem Unit}{ifs:List Expr}
variable {G:Stc}{C:Cal}{sc:Scope}{d:Nat}
abbrev rg (G:Stc)(C:Cal)(sc:Scope)(d:Nat)(cs:Exs)(ifs:List Expr):Prop:=
 ∀⦃A E env ρ σ Q s⦄,Cx G sc d A env ρ σ s->aE C cs ρ σ Q->wpAny G.M A (tests ifs env) (nr G [] σ s Q) E s
def lP {E:QqV}{env:Env}{Q:Bool->Shared->Prop}(f:Expr->Bool->Sem (ForInStep Bool))(W:∀c,f c false=pure (.yield false))(h:Q false s):∀ifs:List Expr,wpAny G.M A (forIn ifs false f) Q E s
 | []=>by rw[qk];show ae h
 |c::r=>by
  rw[qu,W];show ab (ae (lP (env:=env) f W h r))
def DN:rg G C sc d .nil []:=λ_ _ _ _ _ _ _ c h=>by
 unfold tests;rw[qk];show ae (nr.here h c.R)
def zC {c:Ex}{x:Expr}{xs:List Expr}(hc:vm G C sc d c x)(hr:rg G C sc d cs xs):rg G C sc d (.cons c cs) (x::xs):=λA E env ρ σ Q s c h=>by
 unfold tests;rw[qu];rw[cf rfl];apply ab (ab (qJ (hc c h) λb σ₁ s₁ q r x=>ae ?_));cases b with
 |true=>show x.wW (hr (c.go r x) q)
 |false=>show lP (env:=env) _ (λc=>by simp) (nr.back x (nr.here q r)) xs
structure XOk (env:Env)(X:List Addr)(gens:List Comprehension):Prop where
 loc:env.locals∈X
 cells:∀g∈gens,∀y∈j4 g.target,∀c,env.cells.lookup y=some c->c∈X
 sub:∀b∈X,b∈envX env
abbrev sv (G:Stc)(B:Acc G)(C:Cal)(sc:Scope)(d:Nat)(more:Gens)(e:Expr)(gens:List Comprehension)(fin:Value->Env->Sem Unit)(depth:Nat):Prop:=
 ∀⦃A E env ρ σ acc K s D X⦄,XOk env X gens->Cx G sc d A env ρ σ s->eV G B env D σ s.heap acc ->
  kF C more ρ acc σ K->wpAny G.M A (ue e gens fin depth (.ref D) env) (λ_ s'=>BV G B env D X more.vars ρ σ s K s') E s
def DV {e:Ex}{elt ce:Expr}(he:fk G C sc d e elt)(hg:gens[depth+1]?=none):sv G (DW G) C sc d (.elt e) ce gens (yV elt) depth:=λA E env ρ σ acc K s D X xo c a h=>by
 unfold ue;rw[hg];apply ab (rp (he c h) λv σ₁ s₁ w q vr r x=>?_);have W:=a.evo x.e (by simp);have#[_,ws,n,hl,z]:=W.here;have U:=z.length;have hz:=q.1;apply ab (fE iU #[_,hl,rfl] PySem.F.entry_list_append (PySem.F.args_list_append_2 _ _) (list_append _ _ _ _ (by simp only[cw];rw[<- U];show nq (az .A .a .B q.1))) #[hl,ae ?_]);have I:=hl.update (λx=>x.push w);have e2:ws.toArray.push w=(ws++[w]).toArray:=by simp
 rw[e2]at I;have J:Heap.SameBut D s₁.heap (s₁.heap.update D (Obj.mapSeq λx=>x.push w)):=gh ..;have O:jn s₁.heap (s₁.heap.update D (Obj.mapSeq λx=>x.push w)):=sh J λo eo=>by
  have rfl:=af (eo.symm.trans hl);show cI rfl rfl
 have hk:∀b o,b∉[D]->s₁.heap.get? b=some o->(s₁.heap.update D (Obj.mapSeq λx=>x.push w)).get? b=some o:=λb o hb e=>by rw[J.2 b (λq=>hb (q▸.head _))];show e
 apply#[ρ,acc++[v],σ₁,q.2,(c.F.evo x.e).but hk O (λb hb=>by have rfl:=ah.mp hb;show a.off),r.frame (o':=default) J W.out a.base O,#[by simp;(show az .T .a .B q.1),ws++[w],_,I,(z.mono O).append %[vr.mono O|0]],W.out,?_,λ_ _=>rfl];show(x.more λ_ h=>nomatch h).to (Evo.frame J I (.head _) O)
abbrev nK (C:Cal)(t:Tg)(cs:Exs)(more:Gens)(v:V)(ρ:Fr)(acc:List V)(σ:St)(K:Fr->List V->St->Prop):Prop:=su t v σ ρ λρ'=>aE C cs ρ' σ λok σ=>if ok then kF C more ρ' acc σ K else K ρ' acc σ
inductive mG (B:Acc G)(I:Itr G)(env:Env)(σ₀:St)(s₀:Shared)(D:Addr)(X:List Addr)(vs:List Nat)(ρ:Fr)(T:V->Fr->List V->St->(Fr->List V->St->Prop)->Prop)(K:Fr->List V->St->Prop)(n:Nat)(s':Shared):Prop
 |mk (i:Nat) (σ':St) (ρ':Fr) (acc':List V):n=I.vs.length-i->I.pos i s'.heap->FR G σ' env ρ' s'.heap->Rel G σ' s'.heap->eV G B env D σ' s'.heap acc'->Go (D::X) σ₀ s₀ σ' s'->(∀b∈I.own,¬σ'.dom b)->(∀j,j∉vs->ρ' j=ρ j)->kT (I.vs.drop i) I.Gd T ρ' acc' σ' K->mG B I env σ₀ s₀ D X vs ρ T K n s'
def mG.next {B:Acc G}{I:Itr G}{s':Shared}{vs:List Nat}{T:V->Fr->List V->St->(Fr->List V->St->Prop)->Prop}{i:Nat}{σ':St}{ρ':Fr}{W:List V}(lt:i<I.vs.length)(U:I.pos (i+1) s'.heap)(F:FR G σ' env ρ' s'.heap)(R:Rel G σ' s'.heap)(a:eV G B env D σ' s'.heap W)(x:Go (D::X) σ₀ s₀ σ' s')(hd:∀b∈I.own,¬σ'.dom b)(O:∀j,j∉vs->ρ' j=ρ j)(q:kT (I.vs.drop (i+1)) I.Gd T ρ' W σ' K) :
  ∃m,m<I.vs.length-i/\mG B I env σ₀ s₀ D X vs ρ T K m s':=#[_,by show gp .B .d (.e (.a .A .S) .D) .bN (aa (az .T .a .B lt)) (aa (az .A .a .B lt)),i+1,σ',ρ',W,rfl,U,F,R,a,x,hd,O,q]
def eV.kept {B:Acc G}{h h':Heap}{own:List Addr}(a:eV G B env D σ h acc)(W:D∉own)(hk:∀b o,b∉own->h.get? b=some o->h'.get? b=some o)(U:jn h h'):eV G B env D σ h' acc:=by
 apply#[B.keep _ _ _ _ a.here (λo e=>hk _ _ W e) U,a.out,a.off,a.base]
def NU {B:Acc G}(ht:vt G C sc d t target)(df:rg G C sc d cs ifs)(dm:sv G B C sc d more e gens fin depth)
  {E:QqV} {W:Fr} {i:Nat} {I:Itr G} {v:V} {w:Value} (xo:XOk env X gens) (bp:∀y∈j4 target,∀c,env.cells.lookup y=some c->c∈X) (c:Cx G sc d A env ρ σ s)
  (hX:∀b∈I.own,b∉envX env) (hD:D∉I.own) (lt:i<I.vs.length) (a:eV G B env D σ s.heap acc) (x0:Go (D::X) σ₀ s₀ σ s) (hp:I.pos (i+1) s.heap) (hd:∀b∈I.own,¬σ.dom b) (ag:∀j,j∉t.vars++more.vars->ρ j=W j) (vr:VR G s.heap v w)
  (hf:nK C t cs more v ρ acc σ λρ acc σ=>kT (I.vs.drop (i+1)) I.Gd (nK C t cs more) ρ acc σ K) :
  wpAny G.M A (assign target env w) (λ_ s₂=>wpAny G.M A (tests ifs env) (λok z=>if ok=true then wpAny G.M A (ue e gens fin depth (.ref D) env) (λ_ J=>∃m,m<I.vs.length-i/\mG B I env σ₀ s₀ D X (t.vars++more.vars) W (nK C t cs more) K m J) E z
   else ∃m,m<I.vs.length-i/\mG B I env σ₀ s₀ D X (t.vars++more.vars) W (nK C t cs more) K m z) E s₂) E s:=by
 have ax:∀c∈I.own,c∉X:=λc hc q=>hX c hc (xo.sub c q);apply di (ht xo.loc bp c vr (zM hf)) (λ_ z l=>?_) λ_ _ x=>x;have#[bl,#[bv,aj],bd,cl,O]:=l;have#[dc,cd]:=I.EU ax hp hd O.e;have a3:=a.evo O.e λq=>a.off (xo.sub D q);apply qJ (df (c.at bd cl) bv) λok be J ar bc U=>?_;have#[ca,ay]:=I.EU (λc _=>ti) dc cd U.e;have a4:=a3.evo U.e ti;have F4:=bd.evo U.e;have x5:Go (D::X) σ₀ s₀ be J:=(x0.trans (O.more λb hb=>.tail _ hb)).trans (U.more λ_ h=>nomatch h);have ch:∀j,j∉t.vars++more.vars->bl j=W j:=λj hj=>(aj j (λq=>hj (dj _ q))).trans (ag j hj);cases ok with
 |false =>
  rw[aw fy];show mG.next lt ca F4 bc a4 x5 ay ch ar
 |true =>
  rw[cf rfl];apply di (dm xo (c.at F4 bc) a4 ar) (λ_ dn l=>?_) λ_ _ x=>x;have#[cS,cx,cM,bu,ct,ck,bt,bn,ao,ai]:=l;have#[da,cb]:=I.EU (λc hc q=>(bw.mp q).elim (λe=>by rw[e]at hc;show hD hc) (ax c hc)) ca ay ao.e;show mG.next lt da ct ck #[bt,bn,a.off,a.base] (x5.trans ao) cb (λj hj=>(ai j (λq=>hj (dp _ q))).trans (ch j hj)) bu
def N8 {B:Acc G}{iter:Expr}(ck:mI e gens fin)(ht:vt G C sc d t target)(bn:rg G C sc d cs ifs)(bp:sv G B C sc d more e gens fin depth)(hg:gens[depth]?=some #[target,iter,ifs,0])(bl:∀g',gens[depth+1]?=some g'->g'.is_async=0)
  {R:Result->Shared->Prop} (I:Itr G) (hI:I.tup=true->isTup target=true) (xo:XOk env X gens) (c:Cx G sc d A env ρ σ s) (a:eV G B env D σ s.heap acc)
  (hp:I.pos 0 s.heap) (ar:Go (D::X) σ₀ s₀ σ s) (ai:∀b∈I.own,s₀.heap.get? b=none) (hX:∀b∈I.own,b∉envX env) (bd:∀b∈I.own,¬σ.dom b) (hD:D∉I.own) (ag:∀b∈I.own,G.hb.get? b=none)
  (hf:kT I.vs I.Gd (nK C t cs more) ρ acc σ K)
  (hR:∀s',BV G B env D X (t.vars++more.vars) ρ σ₀ s₀ K s'->R (.ok .next) s') :
  codeAny G.M A (.compLoop e depth (.ref I.it) (.ref D) env) R s:=by
 apply wM ck hg bl (mG B I env σ₀ s₀ D X (t.vars++more.vars) ρ (nK C t cs more) K) ?_ (I.vs.length-0)
  #[0,σ,ρ,acc,rfl,hp,c.F,c.R,a,ar,bd,λ_ _=>rfl,hf]
 intro n s' zz;have#[i,σ',ρ',ay,rfl,U,F',R',a',x',J,ax,O]:=zz;cases hq:I.vs[i]? with
 |none =>
  rw[List.drop_eq_nil_of_le (xd.mp hq)]at O;apply I.stop A _ s' σ' i _ c.ao.handled R' O.1 U hq λs2 g=>?_;have#[W,g2]:=g;have fz:=I.frz U W;show hR _ #[ρ',ay,σ',O.2,F'.but W fz hX,I.rel U R' J ag W,(a'.kept hD W fz).here,a'.out,x'.but W g2 ai,ax]
 |some v =>
  have#[be,aj]:=BH hq;rw[aj]at O;apply di (I.next A _ s' σ' i v target ?Q c.ao.handled R' O.1 U hq (λq=>w7 (hI q)) ?k) (λr s₁ hr=>?m) λ_ _ x=>x
  case m =>
   cases r with
   |none=>show hr.elim
   |some w=>show hr
  case k =>
   intro w s2 g z;have#[W,g2]:=g;have fz:=I.frz U W;have#[vr,bc]:=z fz;show NU ht bn bp xo (xo.cells _ (dt hg)) (c.at (F'.but W fz hX) (I.rel U R' J ag W)) hX hD be (a'.kept hD W fz) (x'.but W g2 ai) bc J ax vr O.2
def zU {B:Acc G}{it:It}{iter:Expr}(ck:mI e gens fin)(hit:eU G C sc d (isTup target) it iter)(ht:vt G C sc d t target)(ai:rg G C sc d cs ifs)(aj:sv G B C sc d more e gens fin (depth+1))
  (hg:gens[depth+1]?=some #[target,iter,ifs,0]) (ag:∀g',gens[depth+1+1]?=some g'->g'.is_async=0) (hs:∀env v,foldedSetIterable iter env v=pure v):sv G B C sc d (.cons it t cs more) e gens fin depth:=λA E env ρ σ acc K s D X xo c a h=>by
 unfold ue;rw[hg];apply ab (di (hit c h) (λv s₁ h₁=>?_) λ_ _ x=>x);apply ab (je (ab (fo (hs env v) (ab (cy (di h₁ (λitv s₂ l=>?_) λ_ _ x=>x))))));have#[I,σ₁,rfl,J,hf,hp,r,U,W,z]:=l;have hD:D∉I.own:=λq=>by
  have#[o,hl]:=B.there _ _ _ a.here;have:=W D q;rw[hl]at this;cases this
 have O:Go (D::X) σ s σ₁ s₂:=U.more λ_ h=>nomatch h;have loop:∀{R':Result->Shared->Prop},(∀s',BV G B env D X (t.vars++more.vars) ρ σ s K s'->R' (.ok .next) s')->codeAny G.M A (.compLoop e (depth+1) (.ref I.it) (.ref D) env) R' s₂:=λhR =>
  N8 ck ht ai aj hg ag I J xo (c.go r U) (a.evo U.e (by simp)) hp O W (sZ c.F W) z hD (d9 c.R W) hf hR
 apply ab (wpAny_runOwn (jL ck hg (loop λs' l=>ae l) (I.self _ _ _ _ _ hp (loop λs' l=>ae l))))
end
end MP
end
section
set_option tactic.hygienic true
namespace MP
open PySem PyProof.Rows
variable {env:Env}{scope:Scope}{fv:List (Nat×Nat)}{σ:St}{ρ:Fr}{it:It}{t:Tg}{cs:Exs}{more:Gens}{target iter elt:Expr}{ifs:List Expr}{rest:List Comprehension}{pos:Pos}
abbrev rd (cells:List (Str×Addr)):List (Str×NameKind)->List (Str×Addr)->List (Str×Addr)
 | [],acc=>acc
 |(n,k)::r,acc=>if k==.free then rd cells r ((n,(cells.lookup n).getD 0)::acc) else rd cells r acc
def fV (f:Str×NameKind->List (Str×Addr)->Sem (ForInStep (List (Str×Addr))))
  (W:∀n k cs,f (n,k) cs=if k==.free then (do let c←cellOf env n;pure (.yield ((n,c)::cs))) else pure (.yield cs)) :
  ∀(names:List (Str×NameKind)) (acc:List (Str×Addr)),(∀n,(n,NameKind.free)∈names->(env.cells.lookup n).isSome=true)->forIn names acc f=pure (rd env.cells names acc)
 | []=>λacc _=>by rw[qk];rfl
 |(n,k)::r=>λacc h=>by
  have hr:=λacc=>fV f W r acc λm U=>h m (.tail _ U);rw[qu,W];dsimp only[rd];split
  ·rename_i hk;rw[fq]at hk;subst hk;have#[c,hc]:=cv.mp (h n (.head _));have e:cellOf env n=pure c:=by unfold cellOf;rw[hc]
   rw[e,hc];show hr _
  ·show hr acc
def qR (h:∀n,(n,NameKind.free)∈scope.names->(env.cells.lookup n).isSome=true):closureFor scope env=pure (rd env.cells scope.names []):=by
 have e:closureFor scope env=(forIn scope.names [] (λ(x:Str×NameKind) (cs:List (Str×Addr))=>if x.2==.free then (do let c←cellOf env x.1;pure (ForInStep.yield ((x.1,c)::cs))) else pure (ForInStep.yield cs))>>=λcs=>pure cs):=by
  unfold closureFor
  first|rfl|simp
 rw[e,fV _ (λn k cs=>rfl) scope.names [] h];rfl
def dJ (cells:List (Str×Addr)):∀(names:List (Str×NameKind)) (acc:List (Str×Addr)),rd cells names acc=rd cells names []++acc
 | []=>λ_=>rfl
 |(n,k)::r=>λacc=>by
  dsimp only[rd];split
  ·rw[dJ cells r ((n,(cells.lookup n).getD 0)::acc),dJ cells r [(n,(cells.lookup n).getD 0)]];simp
  ·show dJ cells r acc
def uf (cells:List (Str×Addr)):∀(names:List (Str×NameKind)) (x:Str) (c:Addr),(x,c)∈rd cells names []->(x,NameKind.free)∈names/\c=(cells.lookup x).getD 0
 | []=>λ_ _ h=>nomatch h
 |(n,k)::r=>λx c h=>by
  dsimp only[rd]at h;split at h
  ·rename_i hk;rw[dJ]at h;rcases dh.mp h with h|h
   ·apply#[.tail _ (uf cells r x c h).1,(uf cells r x c h).2]
   ·have#[rfl,rfl]:=qa (ah.mp h);rw[fq]at hk;subst hk;apply#[.head _,rfl]
  ·apply#[.tail _ (uf cells r x c h).1,(uf cells r x c h).2]
def lA (cells:List (Str×Addr)):∀(names:List (Str×NameKind)) (x:Str),(x,NameKind.free)∈names->(x,(cells.lookup x).getD 0)∈rd cells names []
 | []=>λ_ h=>by cases h
 |(n,k)::r=>λx h=>by
  dsimp only[rd];split
  ·rw[dJ];rcases bw.mp h with e|h
   ·have#[rfl,_]:=qa e;show dp _ (.head _)
   ·show dj _ (lA cells r x h)
  ·rename_i hk;rcases bw.mp h with e|h
   ·have#[_,rfl]:=qa e;simp at hk
   ·show lA cells r x h
def eF {cells:List (Str×Addr)}{names:List (Str×NameKind)}{x:Str}(h:(x,NameKind.free)∈names):(rd cells names []).lookup x=some ((cells.lookup x).getD 0):=by
 have#[c,hc]:=vh (lA cells names x h);rw[hc];rw[(uf cells names x c (mem_of_lookup hc)).2]
abbrev mn (scope sc:Scope):Scope:=
 {scope with names:=scope.names.map λ(n,k)=>if (k==.free&&sc.kind==.function&&sc.names.lookup n==some .cell) then (n,.cell) else (n,k)}
def G9:relabel scope env=mn scope env.scope:=rfl
abbrev t6 (sc:Scope)(fv:List (Nat×Nat))(i:Nat):Str×NameKind->Bool
 |(x,.free)=>match fv.lookup i with
  |some j=>match sc.names[j]? with
   |some (y,k)=>x==y&&(k==.cell||k==.free)
   |none=>false
  |none=>false
 |(_,_)=>(fv.lookup i).isNone
abbrev mR (sc:Scope)(fv:List (Nat×Nat)):Nat->List (Str×NameKind)->Bool
 |_,[]=>true
 |i,p::r=>t6 sc fv i p&&mR sc fv (i+1) r
def t5 {sc:Scope}:∀{names:List (Str×NameKind)} {i:Nat},mR sc fv i names=true->∀(j:Nat) (p:Str×NameKind),names[j]?=some p->t6 sc fv (i+j) p=true
 | [],_,_,j,p,e=>by simp at e
 |q::r,i,h,0,p,e=>by
  dsimp only[mR]at h;simp only[fe]at h;simp at e;subst e;show h.1
 |q::r,i,h,j+1,p,e=>by
  dsimp only[mR]at h;simp only[fe]at h;have:=t5 h.2 j p (by simpa using e);rw[show i+(j+1)=i+1+j by(show cX (.e .a4 .a2) .n)];show this
abbrev ownIn (scope:Scope)(y:Str):Bool:=match scope.names.lookup y with
 |some .local=>true
 |some .cell=>true
 |_=>false
abbrev iF (scope:Scope)(gens:List Comprehension):Bool:=gens.all λg=>(j4 g.target).all (ownIn scope)
def Evo.adopt {X:List Addr}{σ':St}{h h':Heap}{D:Addr}(xs:List V)(x:Evo X σ h σ' h')(hn:h.get? D=none):Evo X σ h (σ'.eh D xs) h':=
 #[x.keep,x.frz,λb d=>(dI d).elim (x.dom b) λe=>.inr (e▸hn),x.there]
section
variable {G:Stc}{C:Cal}{sc:Scope}{d:Nat}
def IB {h:Heap}(F:FR G σ env ρ h)(es:env.scope=sc)(nd:(scope.names.map (·.1)).Nodup)(W:mR sc fv 0 scope.names=true) :
  (∀n,(n,NameKind.free)∈scope.names->(env.cells.lookup n).isSome=true)/\J0 G σ h scope.names (rd env.cells scope.names []) (eE fv ρ):=by
 have ag:∀(i:Nat) (x:Str),scope.names[i]?=some (x,.free)->∃j k,fv.lookup i=some j/\env.scope.names[j]?=some (x,k)/\(k=.cell\/k=.free):=λi x e=>by
  have:=t5 W i _ e;rw[mw]at this;simp only[t6]at this;split at this
  ·rename_i j hj;split at this
   ·rename_i y k hy;simp only[fe,fq,eM]at this;apply#[j,k,hj,by rw[es,hy,this.1],this.2]
   ·cases this
  ·cases this
 have cellAt:∀(i:Nat) (x:Str),scope.names[i]?=some (x,.free)->∃j k c w,fv.lookup i=some j/\env.scope.names[j]?=some (x,k)/\(k=.cell\/k=.free)/\env.cells.lookup x=some c/\h.IsCell c w/\OV G h (ρ j) w/\¬σ.dom c/\c≠env.locals/\(G.cap x=false->G.hb.get? c=none):=λi x e=>by
  have#[j,k,z,B,I]:=ag i x e;have#[c,w,g1,g2,g3,g4,g5,g6]:=F.cells j x k B I;apply#[j,k,c,w,z,B,I,g1,g2,g3,g4,g5,g6]
 have idx:∀n,(n,NameKind.free)∈scope.names->∃i:Nat,scope.names[i]?=some (n,NameKind.free):=λn hn=>List.getElem?_of_mem hn;apply#[λn hn=>?_,#[λi x e=>?_,λi j x y c ei ej lx ly=>?_,λp hp=>?_,λi x k e hk=>?_]]
 ·have#[i,e]:=idx n hn;have#[j,k,c,w,_,_,_,hc,_]:=cellAt i n e;rw[hc];rfl
 ·have#[j,k,c,w,z,B,I,g1,g2,g3,g4,g5,g6]:=cellAt i x e;apply#[c,w,by rw[eF (dt e),g1];rfl,g2,?_,g4,g6];unfold eE;rw[z];show g3
 ·have#[a,ka,ca,wa,a1,a2,a3,a4,_]:=cellAt i x ei;have#[b,kb,cb,wb,b1,b2,b3,b4,_]:=cellAt j y ej;rw[eF (dt ei),a4]at lx;rw[eF (dt ej),b4]at ly;have O:ca=c:=by simpa using lx
  have U:cb=c:=by simpa using ly
  have J:=F.inj a b x y ka kb c a2 b2 a3 b3 (O▸a4) (U▸b4);subst J;rw[a2]at b2;have#[rfl,_]:=qa (af b2);show jD nd ei ej
 ·have#[hm,hc]:=uf _ _ p.1 p.2 hp;have#[i,e]:=idx _ hm;have#[j,k,c,w,_,_,_,g1,#[o,ho,_],_]:=cellAt i _ e;rw[g1]at hc;apply#[o,by rw[hc];show ho]
 ·have:=t5 W i _ e;rw[mw]at this;unfold eE;cases k<;>first|show absurd rfl hk|(simp only[t6,wq]at this;rw[this];rfl)
abbrev xn (scope:Scope)(env:Env)(cells:List (Str×Addr))(L:Addr):Env:=
 {scope:=relabel scope env,locals:=L,globals:=env.globals,cells:=cells,qual:=env.qual,func:=none,code:=env.code,frame:=env.frame,builtins:=env.builtins}
def wL {B:Acc G}{e:Expr}{fin:Value->Env->Sem Unit}{ai:Sem Value}{o0:Obj}{p0:Pos}{use:Option (Value->Sem Unit)}(ck:mI e (#[target,iter,ifs,0]::rest) fin)
  (dL:∀{A:Around} {E Q:QqV} {s:Shared},Q (.ref s.heap.objs.size) {s with heap:=s.heap.push o0}->wpAny G.M A ai Q E s) (eb:o0.isFreed=false) (ej:∀(h:Heap) (D:Addr),h.get? D=some o0->B.B h D []) (hit:eU G C sc d (isTup target) it iter) (ht:vt G C (mn scope sc) d t target) (ec:rg G C (mn scope sc) d cs ifs)
  (ed:sv G B C (mn scope sc) d more e (#[target,iter,ifs,0]::rest) fin 0) (hs:∀env v,foldedSetIterable iter env v=pure v) (bl:scope.kind=.function) (nd:(scope.names.map (·.1)).Nodup) (da:mR sc fv 0 scope.names=true) (dV:iF scope (#[target,iter,ifs,0]::rest)=true) (df:∀g'∈rest,g'.is_async=0)
  {A:Around} {E:QqV} {env:Env} {Kf:List V->St->Prop} {s:Shared} {P:QqV} (cx:Cx G sc d A env ρ σ s) (h:sL C it ρ σ λvs Gd σ=>kT vs Gd (nK C t cs more) (eE fv ρ) [] σ λ_ acc σ=>Kf acc σ)
  (hP:∀(acc:List V) (σ':St) (s':Shared) (D L:Addr),Kf acc σ'->B.B s'.heap D acc->¬σ'.dom D->G.hb.get? D=none->s.heap.get? D=none->Rel G σ' s'.heap->Go [] σ s σ' s'->s.heap.get? L=none->L≠D->¬σ'.dom L->(∃m,s'.heap.Ns L m)->compPost G.M A E use P (.ref D) L (.ok .next) s') :
  wpAny G.M A (comprehension e scope env p0 ai false (eval iter env) use) P E s:=by
 have#[J,_]:=IB cx.F cx.es nd da;apply wpAny_comprehension_free ck.cl (hs env) (qR J) bl (λx hx hl=>?_) (di (hit cx h) (λv s₁ h₁=>di h₁ (λitv s₂ l=>?_) λ_ _ x=>x) λ_ _ x=>x)
 ·have#[i,e]:=List.getElem?_of_mem hx;have#[y,k]:=x;simp only at hl;subst hl;show xp nd e
 have#[I,σ₁,rfl,ct,hf,hp,r,ar,bd,dy]:=l;have dx:=cx.F.evo ar.e;apply dL ?_;have dv:FR G σ₁ env ρ (s₂.heap.push o0):=dx.evo (Evo.push [] σ₁ s₂.heap o0);have r₂:=r.push o0;have bv:(s₂.heap.push o0).get? s₂.heap.objs.size=some o0:=cq _ eb;have cd:Go [] σ s σ₁ {s₂ with heap:=s₂.heap.push o0}:=ar.to (Evo.push _ _ _ _);have dn:I.pos 0 (s₂.heap.push o0):=I.keep _ _ _ hp (λb _ o e=>ak _ e) λb o e _=>ak _ e;generalize eg:s₂.heap.push o0=H at *;have O:H.objs.size=s₂.heap.objs.size+1:=by rw[<- eg];show iy ..
 have#[_,clo]:=IB dv cx.es nd da;have cM:∀(i:Nat) (x:Str) (k':NameKind),(relabel scope env).names[i]?=some (x,k')->∃k,scope.names[i]?=some (x,k)/\(k'=k\/(k=.free/\k'=.cell)):=λi x k' e=>by
  simp only[relabel,cp]at e;cases hq:scope.names[i]? with
  |none=>rw[hq]at e;cases e
  |some p =>
   have#[y,k]:=p;rw[hq]at e;simp only[Option.map_some,gr]at e;split at e
   ·rename_i hc;have#[rfl,rfl]:=qa e;simp only[fe,fq]at hc;apply#[k,rfl,.inr #[hc.1.1,rfl]]
   ·have#[rfl,rfl]:=qa e;apply#[k,rfl,.inl rfl]
 have#[dr,keep]:=oT (T:="dict") (env:=xn scope env (cellsFrom (H.objs.size+1) scope.names (rd env.cells scope.names [])) H.objs.size) r₂ nd clo rfl rfl cM;have ca:dQ (xn scope env (cellsFrom (H.objs.size+1) scope.names (rd env.cells scope.names [])) H.objs.size):=by
  apply#[bl,?_,cx.eo.globals,cx.eo.builtins];have e:(relabel scope env).names.map (·.1)=scope.names.map (·.1):=by
   simp only[relabel,gq];apply List.map_congr_left λp _=>?_;have#[y,k]:=p;simp only[Function.comp];split<;>rfl
  show((relabel scope env).names.map (·.1)).Nodup;rw[e];show nd
 have ok:=cellsFrom_ok scope.names (H.push {cls:=.type "dict",data:=.dict #v[]}) (H.objs.size+1) [] #[λ_ _ hm=>(nomatch hm),List.Pairwise.nil] (by rw[iy];show av _);rw[iy]at ok;simp only[newFunctionEnv,Option.isSome_some,zr];apply ab (wpAny_alloc ?_);apply ab (wpAny_layCells _ (λname kind cells=>by cases hkc:kind==NameKind.cell<;>simp[hkc]) _ _ _ _ ?_);rw[show(H.push {cls:=.type "dict",data:=.dict #v[]}).objs.size=H.objs.size+1 from iy ..];rw[qk];apply ab (ae (ae ?_));generalize em:pushCells (H.push {cls:=.type "dict",data:=.dict #v[]}) scope.names=H3 at *;have ch:=r₂.keeps keep;have fz:jn H H3:=λb o e _=>keep b o e;have cb:Go [] σ s σ₁ {s₂ with heap:=H3}:=cd.to (Evo.keeps keep);have bu:I.pos 0 H3:=I.keep _ _ _ dn (λb _ o e=>keep b o e) fz;have W:∀b,s₂.heap.objs.size<=b->s.heap.get? b=none:=λb hb=>ar.new (pk hb);have ax:∀b∈I.own,b<s₂.heap.objs.size:=λb hb=>by have#[o,e]:=I.there hp hb;show jd e
 have ef:∀b∈I.own,b∉envX (xn scope env (cellsFrom (H.objs.size+1) scope.names (rd env.cells scope.names [])) H.objs.size):=λb hb hm=>by
  have cS:=ax b hb;rcases bw.mp hm with rfl|hm
  ·show absurd cS (ru.mpr (by show s₂.heap.objs.size<=H.objs.size;(show az .A .r (.e .B .M) O)))
  ·have#[p,ag,rfl]:=ee.mp hm;have ay:p∈cellsFrom (H.objs.size+1) scope.names (rd env.cells scope.names []):=ag;rw[jh]at ay;rcases dh.mp ay with h1|h1
   ·have:=(ok.empty p.1 p.2 h1).2;show jq _ (iq cS (by(show fb .A .m (.e .C .M) (.k .S .B) O this):s₂.heap.objs.size<=p.2))
   ·have#[be,aj]:=uf _ _ p.1 p.2 h1;have#[c,hc]:=cv.mp (J _ be);rw[hc]at aj;simp only[Option.getD_some]at aj;have#[o,ho]:=cx.F.allc (p.1,c) (mem_of_lookup hc);have:=bd p.2 hb;rw[aj]at this;rw[show s.heap.get? c=some o from ho]at this;cases this
 have ei:s₂.heap.objs.size∉envX (xn scope env (cellsFrom (H.objs.size+1) scope.names (rd env.cells scope.names [])) H.objs.size):=λhm=>by
  rcases bw.mp hm with e|hm
  ·have:s₂.heap.objs.size=H.objs.size:=e
   (show jc .ff [[0,-1,-1]] .aB .b9 O this)
  ·have#[p,ag,e]:=ee.mp hm;have ay:p∈cellsFrom (H.objs.size+1) scope.names (rd env.cells scope.names []):=ag;rw[jh]at ay;rcases dh.mp ay with h1|h1
   ·have:=(ok.empty p.1 p.2 h1).2;(show sd .ff [[0,-1,1,1]] .aB (.e .C .B) (.k .M .C) O e this)
   ·have#[be,aj]:=uf _ _ p.1 p.2 h1;have#[c,hc]:=cv.mp (J _ be);rw[hc]at aj;have#[o,ho]:=cx.F.allc (p.1,c) (mem_of_lookup hc);have:=W c (by rw[<- show p.2=c from aj,e];show av _);rw[show s.heap.get? c=some o from ho]at this;cases this
 have U:∀b,s₂.heap.objs.size<=b->G.hb.get? b=none:=λb hb=>by
  cases hq:G.hb.get? b with
  |none=>rfl
  |some o=>show absurd (jd (r.base b o hq)) (ru.mpr hb)
 have bn:∀b,s₂.heap.objs.size<=b->¬σ₁.dom b:=λb hb dm=>by have#[o,e]:=r.ud dm;show absurd (jd e) (ru.mpr hb)
 have bt:eV G B (xn scope env (cellsFrom (H.objs.size+1) scope.names (rd env.cells scope.names [])) H.objs.size) s₂.heap.objs.size σ₁ H3 []:=
  #[ej _ _ (keep _ _ bv),bn _ (av _),ei,U _ (av _)]
 have xo:XOk (xn scope env (cellsFrom (H.objs.size+1) scope.names (rd env.cells scope.names [])) H.objs.size) (H.objs.size::(cellsFrom (H.objs.size+1) scope.names []).map (·.2)) (#[target,iter,ifs,0]::rest):=by
  apply#[.head _,λg hg y hy c hc=>?_,λb hb=>?_]
  ·have bc:=lp.mp (lp.mp dV g hg) y hy;have dc:(cellsFrom (H.objs.size+1) scope.names (rd env.cells scope.names [])).lookup y=some c:=hc;rw[jh]at dc;rcases dh.mp (mem_of_lookup dc) with h1|h1
   ·show .tail _ (ee.mpr #[_,h1,rfl])
   ·have#[be,_]:=uf _ _ y c h1;have#[i,e]:=List.getElem?_of_mem be;have:=xp nd e;unfold ownIn at bc;rw[this]at bc;cases bc
  ·rcases bw.mp hb with rfl|hb
   ·show .head _
   ·have zz:=ee.mp hb;clear hb;have#[p,ag,rfl]:=zz;apply .tail _ (ee.mpr #[p,?_,rfl]);show p∈cellsFrom (H.objs.size+1) scope.names (rd env.cells scope.names []);rw[jh];show dj _ ag
 have ea:∀g',(#[target,iter,ifs,0]::rest:List Comprehension)[0+1]?=some g'->g'.is_async=0:=λg' e=>df g' (dt (by simpa using e));have loop:codeAny G.M A (.compLoop e 0 (.ref I.it) (.ref s₂.heap.objs.size) (xn scope env (cellsFrom (H.objs.size+1) scope.names (rd env.cells scope.names [])) H.objs.size)) (compPost G.M A E use P (.ref s₂.heap.objs.size) H.objs.size) {s₂ with heap:=H3}:=by
  apply N8 (s₀:=s) (σ₀:=σ) ck ht ec ed rfl ea I ct xo #[cx.ao,by show relabel scope env=_;rw[G9,cx.es],ca,dr,ch] bt bu (cb.more λ_ h=>nomatch h) bd ef dy (λq=>absurd (ax _ q) (jq _)) (d9 cx.R bd) hf λs' l=>?_
  ·have#[ρ',acc',σ',q,F',R',hb,hd,x',_]:=l;have bp:∀z∈(s₂.heap.objs.size::H.objs.size::(cellsFrom (H.objs.size+1) scope.names []).map (·.2)),s.heap.get? z=none:=λz hz=>by
    rcases bw.mp hz with rfl|hz
    ·show W _ (av _)
    rcases bw.mp hz with rfl|hz
    ·show W _ (az .A .r (.e .B .M) O)
    ·have#[p,ag,rfl]:=ee.mp hz;have:=(ok.empty p.1 p.2 ag).2;show W _ (fb .A .m (.e .C .M) (.k .S .B) O this)
   have#[m,hm,_]:=F'.ns;show hP acc' σ' s' s₂.heap.objs.size H.objs.size q hb hd (U _ (av _)) (W _ (av _)) R' (x'.less λz hz=>.inr (bp z hz)) (W _ (az .A .r (.e .B .M) O)) (az .bY .r .aB O) F'.loc #[m,hm]
 show jL ck rfl loop (I.self _ _ _ _ _ bu loop)
def s8 {p0:Pos}{use:Option (Value->Sem Unit)}(hit:eU G C sc d (isTup target) it iter)(ht:vt G C (mn scope sc) d t target)(ag:rg G C (mn scope sc) d cs ifs)
  (aj:sv G (DW G) C (mn scope sc) d more (.ListComp elt (#[target,iter,ifs,0]::rest) scope pos) (#[target,iter,ifs,0]::rest) (yV elt) 0) (hs:∀env v,foldedSetIterable iter env v=pure v) (W:scope.kind=.function) (nd:(scope.names.map (·.1)).Nodup) (I:mR sc fv 0 scope.names=true) (J:iF scope (#[target,iter,ifs,0]::rest)=true) (U:∀g'∈rest,g'.is_async=0)
  {A:Around} {E:QqV} {Q:V->St->Prop} {s:Shared} {P:QqV} (cx:Cx G sc d A env ρ σ s) (h:wpE C (.K fv it t cs more) ρ σ Q)
  (hP:∀(v:V) (σ':St) (s':Shared) (w:Value) (L:Addr),Q v σ'->VR G s'.heap v w->Rel G σ' s'.heap->Go [] σ s σ' s'->s.heap.get? L=none->¬σ'.dom L->(∃m,s'.heap.Ns L m)->compPost G.M A E use P w L (.ok .next) s') :
  wpAny G.M A (comprehension (.ListComp elt (#[target,iter,ifs,0]::rest) scope pos) scope env p0 (newList []) false (eval iter env) use) P E s:=by
 apply wL (B:=DW G) (o0:={cls:=.type "list",data:=.seq ([]:List Value).toArray}) (Kf:=λacc σ=>∀c,σ.L c=none->Q (.L c) (σ.eh c acc)) tY (λq=>jg q (by show([]:List Value).toArray.size<=sizeLine;simp)) rfl (λh D e=>#[bz _,[],0,e,.nil]) hit ht ag aj hs W nd I J U cx h λacc σ' s' D L q b hd ai ar R' x hL O z hm=>?_;have#[hz,ws,n,hl,hv]:=b;have ao:σ'.L D=none:=by
  cases hq:σ'.L D with
  |none=>rfl
  |some y=>show absurd (.inl (by rw[hq];rfl)) hd
 show hP (.L D) _ s' _ L (q _ ao) (.L _) (R'.PY hd ai hl hv hz) #[x.e.adopt acc ar,x.g,x.o] hL (λdm=>(dI dm).elim z λe=>O e) hm
def v5 (hit:eU G C sc d (isTup target) it iter)(ht:vt G C (mn scope sc) d t target)(ag:rg G C (mn scope sc) d cs ifs)
  (ai:sv G (DW G) C (mn scope sc) d more (.ListComp elt (#[target,iter,ifs,0]::rest) scope pos) (#[target,iter,ifs,0]::rest) (yV elt) 0) (hs:∀env v,foldedSetIterable iter env v=pure v) (U:scope.kind=.function) (nd:(scope.names.map (·.1)).Nodup) (B:mR sc fv 0 scope.names=true) (I:iF scope (#[target,iter,ifs,0]::rest)=true) (O:∀g'∈rest,g'.is_async=0) :
  fk G C sc d (.K fv it t cs more) (.ListComp elt (#[target,iter,ifs,0]::rest) scope pos):=λA E env ρ σ Q s c h=>by
 rw[eval_ListComp];apply s8 (use:=none) hit ht ag ai hs U nd B I O c h λv σ' s' w L q vr R' x hL hd J=>?_;have#[m,J]:=J;apply#[m,J,λh2 W=>?_];have#[o,aj,ep,ho,z,_]:=id J;have hf:jn s'.heap h2:=sh W λo' e=>by have rfl:=af (ho.symm.trans e);show sr z
 have hn:∀b∈[L],s.heap.get? b=none:=λb hb=>by have rfl:=ah.mp hb;show hL
 apply#[v,σ',q,vr.mono hf,R'.frame (o':=default) W hd (d9 c.R hn L (.head _)) hf,x.but (own:=[L]) (λb o hb e=>by rw[W.2 b (λq=>hb (q▸.head _))];show e) .rfl hn]
def nR {i:Nat}{x:Str}{kd:NameKind}{J W:Pos}(hi:sc.names[i]?=some (x,kd))(hk:Own G x kd)(hit:eU G C sc d (isTup target) it iter)(ht:vt G C (mn scope sc) d t target)(ay:rg G C (mn scope sc) d cs ifs)
  (bc:sv G (DW G) C (mn scope sc) d more (.ListComp elt (#[target,iter,ifs,0]::rest) scope pos) (#[target,iter,ifs,0]::rest) (yV elt) 0) (hs:∀env v,foldedSetIterable iter env v=pure v) (O:scope.kind=.function) (nd:(scope.names.map (·.1)).Nodup) (ar:mR sc fv 0 scope.names=true) (ao:iF scope (#[target,iter,ifs,0]::rest)=true) (I:∀g'∈rest,g'.is_async=0) :
  cY G C sc d (.a [.v i] (.K fv it t cs more)) (.Assign [.Name x J] (.ListComp elt (#[target,iter,ifs,0]::rest) scope pos) W):=λA E env ρ σ K s c h=>by
 have plain:fk G C sc d (.K fv it t cs more) (.ListComp elt (#[target,iter,ifs,0]::rest) scope pos):=v5 hit ht ay bc hs O nd ar ao I;by_cases ag:(env.blockKind==.function&&env.kindOf x==some .local&&J.line==pos.line&&!(scope.names.any λ(n,k)=>n==x&&(k==.local||k==.cell)))=true
 ·have U:swapsWith (.ListComp elt (#[target,iter,ifs,0]::rest) scope pos) (some (.Name x J)) W.line env=pure true:=by
   show(pure _:Sem Bool)=_;show cc pure ag
  rw[exec_Assign_Name_used _ _ _ _ U];apply ab (je (ab ?_));show wpAny G.M A (comprehension _ scope env _ (newList []) false (eval iter env) (some (assign (.Name x J) env))>>=λ_=>pure ()) _ E s;apply ab ?_;apply s8 (use:=some (assign (.Name x J) env)) (Q:=λv σ=>kE C [.v i] v ρ σ λρ σ=>K .next ρ σ) hit ht ay bc hs O nd ar ao I c h λv σ' s' w L q vr R' x' hL hd hm=>?_;have#[m,hm]:=hm;show wpAny G.M A (assign (.Name x J) env w) _ E _;apply assign_Name (gJ c.eo (c.F.evo x'.e) R' (by rw[c.es];show hi) hk vr λs2 F2 R2 x2=>?_);have hn:∀b∈[L],s.heap.get? b=none:=λb hb=>by have rfl:=ah.mp hb;show hL
  have hX:=sZ c.F hn;have#[o,bd,ep,ho,ax,z]:=id hm;have ai:=x2.keep _ _ ho hd (hX L (.head _));apply#[m,#[o,bd,ep,ai,ax,z],λh3 B=>ae (ae ?_)];have hf:jn s2.heap h3:=sh B λo' e=>by have rfl:=af (ai.symm.trans e);show sr ax
  have aj:∀b o,b∉[L]->s2.heap.get? b=some o->h3.get? b=some o:=λb o hb e=>by rw[B.2 b (λq=>hb (q▸.head _))];show e
  apply#[.next,_,σ',.next,q,F2.but aj hf hX,R2.frame (o':=default) B hd (d9 c.R hn L (.head _)) hf,(x'.wide.trans x2).but aj .rfl hn]
 ·have U:swapsWith (.ListComp elt (#[target,iter,ifs,0]::rest) scope pos) (some (.Name x J)) W.line env=pure false:=by
   show(pure _:Sem Bool)=_;show cc pure (Bool.eq_false_iff.mpr ag)
  rw[exec_Assign];apply ab (je ?_);have e1:swapsWithSole [.Name x J] (.ListComp elt (#[target,iter,ifs,0]::rest) scope pos) W.line env=pure false:=U;rw[e1];apply ab (ae ?_);rw[aw (by decide)];apply ab (rp (plain (Q:=λv σ=>kE C [.v i] v ρ σ λρ σ=>K .next ρ σ) c h) λv σ₁ s₁ w q vr r x=>?_);rw[sP (sc:=sc) (r:=none) rfl c.es (by unfold Env.blockKind;rw[c.eo.kind];rfl)];apply ab (ae ?_);show wpAny G.M A (do assignAll w _;pure Flow.next) _ _ _;apply ab (di (AG (.cons (A7 hi hk) (λ_=>rfl) .nil) (c.go r x) vr q) (λ_ s' l=>ae ?_) λ_ _ x=>x);have#[ρ',σ',q',F',R',x']:=l;apply#[.next,ρ',σ',.next,q',F',R',x.wide.trans x']
end
end MP
end
section
namespace MP
open PySem PyProof.Rows
variable {Q:Option Value->Shared->Prop}{it x:Addr}{ox:Obj}{xs:Array Value}{n:Nat}{ws:List Value}
abbrev gU (C N:Addr)(nm q:Str)(k0 k2 k3:Option Value):Obj:=
 {cls:=.type "type",dict:=none,data:=.cls {name:=nm,bases:=[.type "tuple"],mro:=[.ref C,.type "tuple",.type "object"],ns:=N,qualname:=q,hasDict:=false,slotNames:=[],subclasses:=[],abstract:=false,collection:=none,hasDel:=false},slots:=#v[k0,none,k2,k3,some .none,some (.bool false)]}
abbrev dC (C:Addr)(dd:Option Addr)(ws:List Value)(n:Nat):Obj:={cls:=.ref C,dict:=dd,data:=.seq ws.toArray n,slots:=#v[]}
def mro_tuple:mroOf (.type "tuple")=pure [.type "tuple",.type "object"]:=by kernel_rfl
section
variable {prog:Program}{w:World}{M:Model}{A:Around}{E:QqV}{h:Heap}{g:Array GenState}{d:Drawn}{t:Nat}{os:OsState}{C N:Addr}{nm q:Str}{k0 k2 k3:Option Value}{mN:Str->Option Value}{dd:Option Addr}
def lU {base:Value}{Q:Bool->Shared->Prop}(W:h.get? C=some (gU C N nm q k0 k2 k3))(U:Q ([Value.ref C,.type "tuple",.type "object"].contains base) #[h,g,d,t,os]):wpAny M A (isSubtype (.ref C) base) Q E #[h,g,d,t,os]:=by
 unfold gU at W;unfold isSubtype
 repeat (any_goals (first|assumption|wp_step))
def L3 {Q:List Value->Shared->Prop}(W:h.get? C=some (gU C N nm q k0 k2 k3))(U:Q [.ref C,.type "tuple",.type "object"] #[h,g,d,t,os]):wpAny M A (mroOf (.ref C)) Q E #[h,g,d,t,os]:=by
 unfold gU at W;unfold mroOf
 repeat (any_goals (first|assumption|wp_step))
def y9 {name:Str}(U:h.get? C=some (gU C N nm q k0 k2 k3))(hn:h.Ns N mN)(W:Q (mN name) #[h,g,d,t,os]):wpAny M A (classOwn (.ref C) name) Q E #[h,g,d,t,os]:=by
 unfold classOwn;apply ab ?_;unfold classData;apply ab (xy U (ae (wpAny_nsGet hn W)))
def yt {name:Str}{y:Option Value}(J:h.get? C=some (gU C N nm q k0 k2 k3))(hn:h.Ns N mN)(I:typeLookup (.type "tuple") name=pure y)(U:Q ((mN name).or y) #[h,g,d,t,os]):wpAny M A (typeLookup (.ref C) name) Q E #[h,g,d,t,os]:=by
 have W:lookupAlong [.type "tuple",.type "object"] name=pure y:=by rw[typeLookup_eq,mro_tuple]at I;show I
 rw[typeLookup_eq];apply ab (L3 J ?_);rw[lookupAlong_cons];apply ab (y9 J hn ?_);cases O:mN name with
 |some v=>rw[O]at U;show ae U
 |none=>rw[O]at U;show fo W U
def G6 {x:Addr}{i:Nat}{v:Value}{s:Shared}(hit:IsTupIter s.heap it x i)(O:s.heap.get? x=some ox)(hd:ox.data=.seq xs n)(J:xs[i]?=some v)
  (I:∀h',IsTupIter h' it x (i+1)->Heap.SameBut it s.heap h'->Q (some v) {s with heap:=h'}):wpAny (model prog w) A (pyNext (.ref it)) Q E s:=by
 have#[o,U,hc,W]:=id hit;unfold pyNext;apply ab (zq (mv (name:=Str.ofString "__next__") hit.typeIs kq (gy kq hit.typeIs qq ?_ (qj _))));show wpAny _ _ (field (.ref it) 0>>=_) _ _ s;apply ab (om U W (x:=.ref x) rfl ?_);show wpAny _ _ (if (Value.ref x==Value.none)=true then _ else _) _ _ s;rw[aw (show ¬((Value.ref x==Value.none)=true) from fy)];show wpAny _ _ (field (.ref it) 1>>=_) _ _ s;apply ab (om U W (x:=.int i 0) rfl ?_);show wpAny _ _ (seqItems? (.ref x)>>=_) _ _ s;apply ab (pj O hd ?_);dsimp only;rw[gu,J];show wpAny _ _ (setField (.ref it) 1 (rawInt (i+1))>>=_) _ _ _;apply ab (mi U W (by simp) ?_);apply(ae #[v,rfl,ae (I _ #[_,iw _ U (oq (ix W _)),(wt ..).trans hc,?_] (gh ..))]);rw[ix W];simp[rawInt]
def KN {x:Addr}{i:Nat}{s:Shared}(I:A.handled=none)(hit:IsTupIter s.heap it x i)(O:s.heap.get? x=some ox)(hd:ox.data=.seq xs n)(J:xs[i]?=none)
  (z:∀h',Heap.ExtBut it s.heap h'->Q none {s with heap:=h'}):wpAny (model prog w) A (pyNext (.ref it)) Q E s:=by
 have#[o,U,hc,W]:=id hit;unfold pyNext;apply ab (zq (mv (name:=Str.ofString "__next__") hit.typeIs kq (gy kq hit.typeIs qq ?_ (qj _))));show wpAny _ _ (field (.ref it) 0>>=_) _ _ s;apply ab (om U W (x:=.ref x) rfl ?_);show wpAny _ _ (if (Value.ref x==Value.none)=true then _ else _) _ _ s;rw[aw (show ¬((Value.ref x==Value.none)=true) from fy)];show wpAny _ _ (field (.ref it) 1>>=_) _ _ s;apply ab (om U W (x:=.int i 0) rfl ?_);show wpAny _ _ (seqItems? (.ref x)>>=_) _ _ s;apply ab (pj O hd ?_);dsimp only;rw[gu,J];show wpAny _ _ (rule _>>=λ_=>setField (.ref it) 0 .none>>=_) _ _ _;apply ab (lq (ab (mi U W (by simp) ?_)));apply zd I λh' e hk B=>?_;apply ab (fC (T:="StopIteration") (b:=true) B isSubtype_stop ?_);show ae (z _ λb o n e=>hk b o ((gh ..).extBut b o n e))
def L5 {id I:String}{rest:List Value}{Q:Unit->Shared->Prop}(z:h.get? C=some (gU C N nm q k0 k2 k3))(U:h.get? x=some (dC C dd ws n))(B:splitId id=some ("tuple",I))(hk:builtinKind id=some .slot\/builtinKind id=some .method)(O:argsOk id #[.ref x::rest,[]])(J:Q () #[h,g,d,t,os]) :
  wpAny M A (checkBuiltinCall id #[.ref x::rest,[]]) Q E #[h,g,d,t,os]:=by
 have inst:∀{R:Bool->Shared->Prop},R true #[h,g,d,t,os]->wpAny M A (isInstance (.ref x) (.type "tuple")) R E #[h,g,d,t,os]:=λ{R} hr=>by
  unfold isInstance;unfold dC at U
  repeat (first|(with_reducible refine te U ?_)|(with_reducible refine lU z ?_)|wp_step)
  show hr
 rcases hk with hk|hk <;>
 ·simp only[checkBuiltinCall,hk,B];apply ab (inst ?_);simp only[d6,fu,mj];cases hsig:Manifest.signature? id with
  |none=>show ae J
  |some W =>
   simp only[argsOk,hsig]at O;have h2:Bind.checkArgs id W #[.ref x::rest,[]]=pure ():=O;show wpAny M A (Bind.checkArgs id W #[.ref x::rest,[]]) Q E _;rw[h2];show ae J
def yA {id W:String}{b:Builtin}{rest:List Value}{Q:QqV}(hC:h.get? C=some (gU C N nm q k0 k2 k3))(U:h.get? x=some (dC C dd ws n))(J:splitId id=some ("tuple",W))(hk:builtinKind id=some .slot\/builtinKind id=some .method)(I:plainId id=true)(B:entryFor table id=some b)(z:argsOk id #[.ref x::rest,[]])
  (hc:wpAny (model prog w) A.in1 (b #[.ref x::rest,[]]) (λfin s'=>∃v,fin=.done (.ret v)/\Q v s') E #[h,g,d,t,os]):wpAny (model prog w) A (call (.builtin id) (.ref x::rest)) Q E #[h,g,d,t,os]:=by
 apply ug (gC I B (L5 hC U J hk z (di hc (λfin s' h'=>?_) λ_ _ e=>e)));have#[v,rfl,O]:=h';show O
def uU:splitId "tuple.__iter__"=some ("tuple","__iter__"):=by kernel_rfl
def yG:builtinKind "tuple.__iter__"=some .slot:=by kernel_rfl
def OT {Q:QqV}(O:h.get? C=some (gU C N nm q k0 k2 k3))(hn:h.Ns N mN)(hi:mN "__iter__"=none)(U:h.get? x=some (dC C dd ws n))
  (J:Q (.ref h.objs.size) #[h.push {cls:=.type "tuple_iterator",data:=.fields #v[.ref x,.int 0 0]},g,d,t,os]):wpAny (model prog w) A (pyIter (.ref x)) Q E #[h,g,d,t,os]:=by
 have hl:=PySem.F.slot_tuple_iter.lookup;have hb:=PySem.F.slot_tuple_iter.bind (.ref x);have W:=U;unfold pyIter specialOf;unfold dC at U
 repeat (first|(with_reducible refine te U ?_)|(with_reducible refine yt O hn hl ?_;rw[hi])|wp_step)
 have go:∀(E:QqV) (R:Option (Value×List Value)->Shared->Prop),R (some (.builtin "tuple.__iter__",[.ref x])) #[h,g,d,t,os]->wpAny (model prog w) A (do let r←bindSpecial (Value.builtin "tuple.__iter__") (Value.ref x);pure (some r)) R E #[h,g,d,t,os]:=λE R hr=>ab (fo hb (ae hr));have fin:wpAny (model prog w) A (call (.builtin "tuple.__iter__") [.ref x]) (λr s'=>∃y,r=.ref y/\y=h.objs.size/\s'=#[h.push {cls:=.type "tuple_iterator",data:=.fields #v[.ref x,.int 0 0]},g,d,t,os]) E #[h,g,d,t,os]:=by
  apply yA O W uU (.inl yG) PySem.F.slot_tuple_iter.plain PySem.F.entry_tuple_iter (PySem.F.args_tuple_iter_1 _) ?_;show wpAny _ _ (do ret (← newFields "tuple_iterator" [.ref x,rawInt 0])) _ _ _;show ab (jg (ae #[_,rfl,_,rfl,rfl,rfl]))
 have tail:wpAny (model prog w) A (match (some (Value.builtin "tuple.__iter__",[Value.ref x]):Option (Value×List Value)) with
    |some (g,first)=>if (g==Value.none)=true then (do let r←(do rule "iter.none";raiseError "TypeError" s!"'{← typeNameOf (.ref x)}' object is not iterable":Sem Value);pure (some r)) else (do let r←call g first;pure (some r))
    |_=>pure none:Sem (Option Value)) (λa s'=>wpAny (model prog w) A (match a with
     |some it=>(do match←(do typeLookup (← typeOf it) "__next__":Sem (Option Value)) with
       |none=>(do rule "iter.non-iterator";raiseError "TypeError" s!"iter() returned non-iterator of type '{← typeNameOf it}'":Sem Value)
       |some _=>pure it)
     |none=>(do match←bindSpecialIfBound? (.ref x) "__getitem__" with
       |none=>(do rule "iter.not-iterable";raiseError "TypeError" s!"'{← typeNameOf (.ref x)}' object is not iterable":Sem Value)
       |some _=>(do rule "iter.getitem-fallback";newFields "iterator" [.ref x,<- mkInt 0]))) Q E s') E #[h,g,d,t,os]:=by
  dsimp only;rw[aw (show ¬((Value.builtin "tuple.__iter__" == Value.none)=true) from fy)];apply ab (di fin (λr s' hr=>?_) λ_ _ e=>e);have#[y,rfl,rfl,rfl]:=hr;apply ae ?_;dsimp only;apply ab (ab (ye (T:="tuple_iterator") #[_,cq _ rfl,rfl] (fo kq.lookup ?_)));show ae J
 apply yf ?_;split
 ·show go _ _ tail
 ·show wpAny_tryCatch (go _ _ tail)
def vE {k:Nat}(z:x≠it)(hd:ox.data=.seq xs k):∀(n i:Nat) (s:Shared) (Q:List Value->Shared->Prop),IsTupIter s.heap it x i->s.heap.get? x=some ox->i+n<=xs.size ->
  (∀h',IsTupIter h' it x (i+n)->Heap.SameBut it s.heap h'->Q ((xs.toList.drop i).take n) {s with heap:=h'})->wpAny (model prog w) A (draw (.ref it) n) Q E s
 |0=>λi s Q hit hx hn hQ=>by
  dsimp only[draw];show ae (by simpa using hQ s.heap hit (.refl ..))
 |n+1=>λi s Q hit hx hn hQ=>by
  dsimp only[draw];have hv:xs[i]?=some xs[i]:=fw (gz .B .a .cD hn);apply ab (G6 hit hx hd hv λh₁ O W=>?_);apply ab (cy (vE z hd n (i+1) _ _ O (by rw[W.2 x z];show hx) (gz .bS .a .N hn) λI U J=>ae ?_));have ag:xs.toList.drop i=xs[i]::xs.toList.drop (i+1):=by
   rw[cg (by simpa using (by(show gz .B .a .cD hn):i<xs.size))];simp
  have:=hQ I (by rw[show i+(n+1)=i+1+n by(show cX (.e .a4 .a2) .n)];show U) (W.trans J);rw[ag,List.take_succ_cons]at this;show this
end
structure vd (G:Stc):Prop where
 here:∃N mN nm q k0 k2 k3,G.hb.get? G.cM=some (gU G.cM N nm q k0 k2 k3)/\G.hb.Ns N mN/\mN "__iter__"=none/\mN "__lt__"=none/\mN "__len__"=none/\mN "__init__"=none
def SU {G:Stc}(K:vd G):DX G:=λA E s x ws n dd Q hh U hx hQ=>by
 have#[N,mN,nm,q,k0,k2,k3,hC,hN,hi,_]:=K.here;have ag:x≠s.heap.objs.size:=jz (jd hx);have#[h,g,d,t,os]:=s;have ao:=U _ _ hC;have aj:=hN.keeps U;have hl:=PySem.F.slot_tuple_iter.lookup;have ar:h.get? x=some (dC G.cM dd ws n):=hx;have z:h.get? x=some {cls:=.ref G.cM,dict:=dd,data:=.seq ws.toArray n,slots:=#v[]}:=hx;have ni:∀R:Bool->Shared->Prop,R false #[h,g,d,t,os]->wpAny G.M A (notIterableAtAll (.ref x)) R E #[h,g,d,t,os]:=λR hr=>by
  unfold notIterableAtAll specialOf
  repeat (first|(with_reducible refine te z ?_)|(with_reducible refine yt ao aj hl ?_;rw[hi])|wp_step)
  show hr
 unfold unpackItems;apply ab (ni _ ?_);simp only[fu,mj];have hp:(h.push {cls:=.type "tuple_iterator",data:=.fields #v[.ref x,.int 0 0]}).get? x=some {cls:=.ref G.cM,dict:=dd,data:=.seq ws.toArray n,slots:=#v[]}:=ak _ z;apply ab (cy (OT ao aj hi ar ?_));apply ab (cy (vE (xs:=ws.toArray) (k:=n) ag rfl ws.length 0 _ _ #[_,cq _ rfl,rfl,rfl] hp (by simp) λh₁ O W=>?_));have ai:List.take ws.length (List.drop 0 ws.toArray.toList)=ws:=by simp
 rw[ai,aw (by simp)];have J:h₁.get? x=some {cls:=.ref G.cM,dict:=dd,data:=.seq ws.toArray n,slots:=#v[]}:=by rw[W.2 x ag];show hp
 apply ab (cy (KN (xs:=ws.toArray) (n:=n) hh O J rfl (by simp) λB I=>?_));simp only[yg,fu,mj];show ae (hQ B λb o hb e=>I b o hb (W.extBut b o hb (ak _ e)))
variable {x y:Addr}{ns ms:List Int}{n:Nat}
abbrev iI (ns ms:List Int):Option Fin×Unit:=if ns=ms then (none,()) else (some (.done (.ret (.bool (lg ns ms)))),())
def iH:∀ns:List Int,lg ns ns=false
 | []=>rfl
 |a::as=>(cf rfl).trans (iH as)
section
variable {prog:Program}{w:World}{M:Model}{A:Around}{E:QqV}{h:Heap}{g:Array GenState}{d:Drawn}{t:Nat}{os:OsState}{C N:Addr}{nm q:Str}{k0 k2 k3:Option Value}{mN:Str->Option Value}{dd de:Option Addr}
def L7 {s:Shared}(f:Value×Value->Option Fin×Unit->Sem (ForInStep (Option Fin×Unit)))
  (hf:∀a b st,f (a,b) st=(do let r←eqBool a b;if (!r)=true then (do rule "tuple.compare.by-the-first-pair-that-differs";let v←richCompare .Lt a b;let z←ret v;pure (.done (some z,()))) else pure (.yield (none,())))) :
  ∀{ws us:List Value} {ns ms:List Int} {Q:Option Fin×Unit->Shared->Prop},IntsAre ws ns->IntsAre us ms->ns.length=ms.length->Q (iI ns ms) s->wpAny (model prog w) A (forIn (ws.zip us) (none,()) f) Q E s:=by
 intro ws us ns ms Q B;induction B generalizing us ms Q with
 |nil =>
  intro O hl U;cases O with
  |nil=>rw[List.zip_nil_left,qk];show ae U
  |cons=>simp at hl
 | @cons a ta ws ns B ih =>
  intro O hl U;cases O with
  |nil=>simp at hl
  | @cons b tb us ms O =>
   rw[List.zip_cons_cons,qu,hf];apply ab (ab (wpAny_eqBool_int ?_));by_cases W:a=b
   ·subst W;simp -iota only[jW,d6,fu,mj];apply ae (ih O (by simpa using hl) ?_);have e:iI (a::ns) (a::ms)=iI ns ms:=by unfold iI;rw[show lg (a::ns) (a::ms)=lg ns ms from cf rfl];simp
    rw[e]at U;show U
   ·have J:(a==b)=false:=by simpa using W
    rw[J];simp -iota only[Bool.not_false,zr];have e:iI (a::ns) (b::ms)=(some (.done (.ret (.bool (decide (a<b))))),()):=by unfold iI;rw[show lg (a::ns) (b::ms)=decide (a<b) from aw W,aw λq=>W (List.cons.inj q).1]
    rw[e]at U;apply ab (lq (ab ?_));have I:∀R:Value->Shared->Prop,R (.bool (decide (a<b))) s->wpAny (model prog w) A (richCompare .Lt (.int a ta) (.int b tb)) R E s:=λR hr=>lt_int hr;show I _ (ab (ae (ae (ae U))))
def L6 {ox O:Obj}{ws us:List Value}{m:Nat}{P:Fin->Shared->Prop}(z:h.get? x=some ox)(dx:ox.data=.seq ws.toArray n)(B:h.get? y=some O)(dy:O.data=.seq us.toArray m)(I:IntsAre ws ns)(J:IntsAre us ms)(hl:ns.length=ms.length)
  (inst:∀R:Bool->Shared->Prop,R true #[h,g,d,t,os]->wpAny (model prog w) A (isInstance (.ref y) (.type "tuple")) R E #[h,g,d,t,os]) (U:P (.done (.ret (.bool (lg ns ms)))) #[h,g,d,t,os]):wpAny (model prog w) A (Builtin.«tuple.__lt__» #[[.ref x,.ref y],[]]) P E #[h,g,d,t,os]:=by
 unfold Builtin.«tuple.__lt__»;apply ab (fo (a:=(.ref x,[.ref y])) (by rfl) ?_);dsimp only;apply ab (inst _ ?_);simp -iota only[d6,fu,mj];apply ab (m:=Builtin.Tuple.tupleItemsOf (.ref x)) (ab (pj z dx (ae ?_)));apply ab (m:=Builtin.Tuple.tupleItemsOf (.ref y)) (ab (pj B dy (ae ?_)));apply ab (L7 _ (λa b st=>by rfl) (ws:=ws) (us:=us) I J hl ?_);unfold iI;by_cases e:ns=ms
 ·rw[cf e];subst e;rw[iH]at U;have W:ws.toArray.size=us.toArray.size:=by simp[I.length,J.length]
  have e2:Builtin.Tuple.tupleCompareSizes .Lt ws.toArray.size us.toArray.size=.bool false:=by unfold Builtin.Tuple.tupleCompareSizes;rw[W];simp
  show wpAny _ _ (ret (Builtin.Tuple.tupleCompareSizes .Lt ws.toArray.size us.toArray.size)) _ _ _;rw[e2];show ae U
 ·rw[aw e];show ae U
def D3 {ws us:List Value}{m:Nat}{P:Fin->Shared->Prop}(J:h.get? C=some (gU C N nm q k0 k2 k3))(U:h.get? x=some (dC C dd ws n))(W:h.get? y=some (dC C de us m))(B:IntsAre ws ns)(I:IntsAre us ms)(hl:ns.length=ms.length)
  (O:P (.done (.ret (.bool (lg ns ms)))) #[h,g,d,t,os]):wpAny (model prog w) A (Builtin.«tuple.__lt__» #[[.ref x,.ref y],[]]) P E #[h,g,d,t,os]:=L6 U rfl W rfl B I hl (λR hr=>by
  unfold isInstance;unfold dC at W
  repeat (first|(with_reducible refine te W ?_)|(with_reducible refine lU J ?_)|wp_step)
  show hr) O
def CB:splitId "tuple.__lt__"=some ("tuple","__lt__"):=by kernel_rfl
def H9:builtinKind "tuple.__lt__"=some .slot:=by kernel_rfl
def L4 {ws us:List Value}{m:Nat}{Q:Bool->Shared->Prop}(hu:A.units<cLine)(B:h.get? C=some (gU C N nm q k0 k2 k3))(hn:h.Ns N mN)(J:mN "__lt__"=none)(O:h.get? x=some (dC C dd ws n))(hy:h.get? y=some (dC C de us m))(h1:IntsAre ws ns)(h2:IntsAre us ms)(hl:ns.length=ms.length)
  (hQ:Q (lg ns ms) #[h,g,d,t,os]):wpAny (model prog w) A (keyLt' oneType' (.ref x) (.ref y)) Q E #[h,g,d,t,os]:=by
 rw[keyLt'_oneType,oneLt'_eq];simp -iota only[zr];apply ab (wpAny_cRoomFor hu ?_);have I:=PySem.F.slot_tuple_lt.lookup;have W:typeLookup (.type "tuple") "__lt__"=pure (some (.builtin "tuple.__lt__")):=I;have hb:=PySem.F.slot_tuple_lt.bind (.ref x);have U:h.get? x=some {cls:=.ref C,dict:=dd,data:=.seq ws.toArray n,slots:=#v[]}:=O;have fin:∀(E:QqV) (R:QqV),R (.bool (lg ns ms)) #[h,g,d,t,os]->wpAny (model prog w) A (call (.builtin "tuple.__lt__") [.ref x,.ref y]) R E #[h,g,d,t,os]:=λE R hr =>
  yA B O CB (.inl H9) PySem.F.slot_tuple_lt.plain PySem.F.entry_tuple_lt (PySem.F.args_tuple_lt_2 _ _) (D3 B O hy h1 h2 hl #[_,rfl,hr])
 have z:∀(R:Option (Value×List Value)->Shared->Prop),R (some (.builtin "tuple.__lt__",[.ref x])) #[h,g,d,t,os]->wpAny (model prog w) A (bindSpecialIfBound? (.ref x) "__lt__") R E #[h,g,d,t,os]:=λR hr=>by
  have go:∀(E:QqV),wpAny (model prog w) A (do let r←bindSpecial (Value.builtin "tuple.__lt__") (Value.ref x);pure (some r)) R E #[h,g,d,t,os]:=λE=>ab (fo hb (ae hr));unfold bindSpecialIfBound? specialOf
  repeat (first|(with_reducible refine te U ?_)|(with_reducible refine yt B hn W ?_;rw[J])|wp_step)
  apply yf ?_;split
  ·show go _
  ·show wpAny_tryCatch (go _)
 unfold callSpecialIfBound?;apply ab (cy (ab (z _ ?_)));apply ab (fin _ _ (ae ?_));show wo hQ
end
end MP
end
section
set_option tactic.hygienic true
namespace MP
open PySem PyProof.Rows
variable {st:SortSt}
abbrev uy:Bool->Keyed->Array Keyed->Nat->Nat->Nat->StateT SortSt Sem (Option Nat):=sortPriv% PySem.Builtin.gallop
abbrev Ora (M:Model)(A:Around)(s:Shared)(kd:SortKind)(n:Nat)(it:Nat->Keyed)(lt:Nat->Nat->Bool):Prop:=
 ∀i j (C:Bool->Shared->Prop),i<n->j<n->C (lt i j) s->wpAny M A (keyLt' kd (it i).1 (it j).1) C (λ_ _=>False) s
section
variable {prog:Program}{w:World}{A:Around}{E:QqV}{s:Shared}{kd:SortKind}{n:Nat}{it:Nat->Keyed}{lt:Nat->Nat->Bool}
def iZ (O:Ora (model prog w) A s kd n it lt){i j:Nat}{Q:Option Bool->SortSt->Prop}(hk:kindOf st=kd)(hi:i<n)(W:j<n)(h:Q (some (lt i j)) st):PyProof.Rows.wpS (model prog w) A E s (lt' (it i) (it j)) Q st:=by
 rw[lt'_eq];apply cn (uJ ?_);rw[hk];apply cn (wpS_lift (zq (di (O i j (λb s'=>b=lt i j/\s'=s) hi W #[rfl,rfl]) (λb s' hb=>?_) λ_ _ U=>U.elim)));have#[rfl,rfl]:=hb;apply#[rfl,cz h]
def ke {arr:Array Keyed}{i:Nat}{x:Keyed}{Q:Keyed->SortSt->Prop}(e:arr[i]?=some x)(h:Q x st):PyProof.Rows.wpS (model prog w) A E s (elem' arr i) Q st:=by
 rw[elem'_eq,e];show cz h
def xg (O:Ora (model prog w) A s kd n it lt){left:Bool}{key:Nat}{arr:Array Keyed}{p:Nat->Nat}{base m hint:Nat}{Q:Option Nat->SortSt->Prop}(ar:key<n)(hm:hint<m)
  (ay:∀i,i<m->p i<n/\arr[base+i]?=some (it (p i)))
  (B:Nat->Bool) (hB:∀i,i<m->B i=if left=true then lt (p i) key else !lt key (p i)) (mono:∀i j,i<=j->j<m->B j=true->B i=true)
  (hk:kindOf st=kd) (h:∀k,k<=m->(∀i,i<k->B i=true)->(∀i,k<=i->i<m->B i=false)->Q (some k) st) :
  PyProof.Rows.wpS (model prog w) A E s (uy left (it key) arr base m hint) Q st:=by
 have ag:∀(i:Nat) (R:Option Bool->SortSt->Prop),i<m->R (some (B i)) st->PyProof.Rows.wpS (model prog w) A E s (do
   let x←elem' arr (base+i)
   if left=true then lt' x (it key) else do let r←lt' (it key) x;pure (r.map (!·))) R st:=λi R hi hR=>by
  have#[h1,h2]:=ay i hi;apply cn (ke h2 ?_);have hb:=hB i hi;cases left with
  |true=>show iZ O hk h1 ar (by simpa[hb] using hR)
  |false=>show cn (iZ O hk ar h1 (cz (by simpa[hb] using hR)))
 unfold uy;apply cn ?_;apply nk (ag hint (λr W=>r=some (B hint)/\W=st) hm #[rfl,rfl]) λr W hr=>?_;have#[rfl,rfl]:=hr;have fin:∀(F:Nat->Option (Option Nat)×Nat×Nat->StateT SortSt Sem (ForInStep (Option (Option Nat)×Nat×Nat))) (T:Option (Option Nat)×Nat×Nat->StateT SortSt Sem (Option Nat)),
   (∀x lo hi (R:ForInStep (Option (Option Nat)×Nat×Nat)->SortSt->Prop),hi<=m->(lo>=hi->R (.done (none,lo,hi)) W)->(lo<hi->B (lo+(hi-lo)/2)=true->R (.yield (none,lo+(hi-lo)/2+1,hi)) W)->(lo<hi->B (lo+(hi-lo)/2)=false->R (.yield (none,lo,lo+(hi-lo)/2)) W)->PyProof.Rows.wpS (model prog w) A E s (F x (none,lo,hi)) R W) ->
   (∀k,Q (some k) W->PyProof.Rows.wpS (model prog w) A E s (T (none,k,k)) Q W)->∀(lo hi:Nat),lo<=hi->hi<=m->(∀i,i<lo->B i=true)->(∀i,hi<=i->i<m->B i=false)->PyProof.Rows.wpS (model prog w) A E s (forIn [:m] (none,lo,hi) F>>=T) Q W:=λF T hF hT lo hi h1 h2 h3 h4=>by
  apply cn (nk (rz (I:=λx c st=>st=W/\∃lo hi,c=(none,lo,hi)/\lo<=hi/\hi<=m/\hi-lo<=m-x/\(∀i,i<lo->B i=true)/\∀i,hi<=i->i<m->B i=false)
   (Q:=λc st=>st=W/\∃k,c=(none,k,k)/\k<=m/\(∀i,i<k->B i=true)/\∀i,k<=i->i<m->B i=false) ?_ ?_ #[rfl,lo,hi,rfl,h1,h2,by show uu .A .q .aH (.e .aL .C) (.e (.a .B .O) .D) h2 (aa (az .A .a .A h1)) (aa (qg (.k .O .A) .i)),h3,h4]) ?_)
  ·intro x c st _ hx zz;have#[rfl,lo,hi,rfl,h1,h2,hd,h3,h4]:=zz;apply hF x lo hi _ h2 (λc=>?_) (λc hb=>?_) λc hb=>?_
   ·obtain rfl:lo=hi:=by(show jc .D .f .A .Y h1 c)
    apply#[rfl,lo,rfl,h2,h3,h4]
   ·apply#[rfl,_,_,rfl,by show uu (.k .aD .C) [[2,1,1,1]] .G (.e (.a .a6 .D) .F) (.e (.a .F .A) .C) c (Ar.cU _ 2 (by decide)).2 (aa (az .A .a .A h1)),h2,by show Ar.sub _ _ (λq1 p1=>(S8 .A [[1,1,-1,1,-1,1]] .aH (.e (.a .C .F) .G) (.e (.a .D .H) .I) (.e (.a .B (.a .H .U)) .I) (.e (.a .A (.a (.a .F .J) .U)) .G) hd (aa (az .A .a .A h1)) (aa (az .A .a .B hx)) (aa (az .T .a .B hx)) p1)) λq1 p1=>(az .A .a .M p1),λi ax=>mono i _ (gz .c1 .a (.l .A (.a .Q .U)) ax) (jP .J [[2,2,1,1,1]] .bC (.l .A .D) .c7 .cG h2 c (Ar.cU _ 2 (by decide)).2 (aa (az .A .a .A h1))) hb,h4]
   ·apply#[rfl,_,_,rfl,by show cX .bX .i,by show lC .F [[2,2,1,2]] .bC .c7 .cG h2 (Ar.cU _ 2 (by decide)).2 (aa (az .A .a .A h1)),by show S8 .A [[2,1,1,1,2,-1]] .aH (.e (.a (.m 2 .F) .G) .C) (.e (.a .D .H) .I) (.e (.a .A .J) (.a .J .F)) (.e (.a .B (.a .H .U)) .I) hd (Ar.cU _ 2 (by decide)).2 (aa (az .A .a .B hx)) (aa (cX .bX .i)) (aa (az .T .a .B hx)),h3,λi ax ao=>?_];cases hq:B i with
    |false=>rfl
    |true=>rw[mono _ i ax ao hq]at hb;cases hb
  ·intro c st zz;have#[rfl,lo,hi,rfl,h1,h2,hd,h3,h4]:=zz;obtain rfl:lo=hi:=by simp at hd;(show fb .D .z .b1 .aF hd (aa (az .A .a .A h1)))
   apply#[rfl,lo,rfl,h2,h3,h4]
  ·intro c st zz;have#[rfl,k,rfl,h2,h3,h4]:=zz;show hT k (h k h2 h3 h4)
 cases hh:B hint with
 |true =>
  apply cn (nk (rz (I:=λx c st=>st=W/\∃l o,c=(none,l,o)/\x<o/\l<o/\hint+l<m/\B (hint+l)=true)
   (Q:=λc st=>st=W/\∃l o,c=(none,l,o)/\l<o/\hint+l<m/\B (hint+l)=true/\(hint+o<m->B (hint+o)=false)) ?_ ?_ #[rfl,0,1,rfl,by show eH (.l .O .U) .i,by show eH (.l .O .U) .i,by show az (.l (.a .A .O) .B) .a .B hm,hh]) ?_)
  ·intro x c st _ hx zz;have#[rfl,l,o,rfl,aj,ai,hl,hb]:=zz;dsimp only;by_cases c:o>=m-hint
   ·rw[cf c];show cz #[rfl,l,o,rfl,ai,hl,hb,λq=>by show False.elim (qt .ff [[0,1,1,-1]] .A (.l .aC .D) (.e .V .D) c q (aa (gz .A .a (.l .V .B) q)))]
   ·rw[aw c];apply cn (ag _ _ (gp .J .b (.j .D .B) .O c (aa (az .A .a .B hm))) ?_);cases hq:B (hint+o) with
    |true=>show cz #[rfl,_,_,rfl,by show az (.l .M .aP) [[1,2]] .B aj,by show qg (.l .A (.a .aN .U)) .i,by show gp .J .b (.j .D .B) .O c (aa (az .A .a .B hm)),hq]
    |false=>show cz #[rfl,l,o,rfl,ai,hl,hb,λ_=>hq]
  ·intro c st zz;have#[rfl,l,o,rfl,aj,ai,hl,hb]:=zz;apply#[rfl,l,o,rfl,ai,hl,hb,λq=>by simp at aj;(show False.elim (fb .ff .c .J .L q aj))]
  ·intro c st zz;have#[rfl,l,o,rfl,ai,hl,hb,hz]:=zz;apply fin _ _ (λx lo hi R h2 r1 r2 r3=>?_) (λk q=>cz q) (hint+l+1) (hint+min o (m-hint)) ((Ar.jt _ _).2.2.elim (λq1=>(gp (.k .aD .V) .b .S .bC ai q1)) λq1=>(uu (.k .aD .V) .y (.l .L .D) (.e (.a .F .A) .D) .bM hl (aa (az .A .a .B hm)) q1)) (gp .F .b (.k .B .D) .O (Ar.jt _ _).2.1 (aa (az .A .a .B hm))) (λi hi=>mono i (hint+l) (gz .c1 .a (.l .A (.a .Q .U)) hi) hl hb) λi hi ao=>?_
   ·dsimp only;by_cases c:lo>=hi
    ·rw[cf c];show cz (r1 c)
    ·rw[aw c];apply cn (ag _ _ (jP .J [[2,2,1,1,1]] .bC (.j .D .A) .c7 .cG h2 c (Ar.cU _ 2 (by decide)).2 (aa (az .A .a (.j .B .A) c))) ?_);cases hb:B (lo+(hi-lo)/2) with
     |true=>show cz (r2 (az .B .a (.j .B .A) c) hb)
     |false=>show cz (r3 (az .B .a (.j .B .A) c) hb)
   ·cases hq:B i with
    |false=>rfl
    |true =>
     have:=hz ((Ar.jt _ _).2.2.elim (λq1=>(uu .J .e (.k .Z .F) (.l .F .C) (.k .B .D) hi ao q1)) λq1=>(jP .J [[0,1,1,-1,1]] (.k .Z .F) (.l .F .C) .aN (.k .G .D) hi ao (aa (az .A .a .B hm)) q1));rw[mono (hint+o) i ((Ar.jt _ _).2.2.elim (λq1=>(gp .F .b .b0 (.k .B .D) hi q1)) λq1=>(jP .F [[0,1,1,-1,1]] .b0 (.l .C .F) (.e (.a .G .A) .F) (.k .G .D) hi ao (aa (az .A .a .B hm)) q1)) ao hq]at this;cases this
 |false =>
  apply cn (nk (rz (I:=λx c st=>st=W/\∃l o,c=(none,l,o)/\x<o/\l<o/\l<=hint/\B (hint-l)=false)
   (Q:=λc st=>st=W/\∃l o,c=(none,l,o)/\l<o/\l<=hint/\B (hint-l)=false/\(o<=hint->B (hint-o)=true)) ?_ ?_ #[rfl,0,1,rfl,by show eH (.l .O .U) .i,by show eH (.l .O .U) .i,by show qg (.k .O .A) .i,hh]) ?_)
  ·intro x c st _ hx zz;have#[rfl,l,o,rfl,aj,ai,hl,hb]:=zz;dsimp only;by_cases c:o>=hint+1
   ·rw[cf c];show cz #[rfl,l,o,rfl,ai,hl,hb,λq=>by show False.elim (jc .ff .c .T .Y c q)]
   ·rw[aw c];apply cn (ag _ _ (gp .B .b .L .bZ hm (aa (az .A .a (.j .P .A) c))) ?_);cases hq:B (hint-o) with
    |false=>show cz #[rfl,_,_,rfl,by show az (.l .M .aP) [[1,2]] .B aj,by show qg (.l .A (.a .aN .U)) .i,by show az .A .a (.j .P .A) c,hq]
    |true=>show cz #[rfl,l,o,rfl,ai,hl,hb,λ_=>hq]
  ·intro c st zz;have#[rfl,l,o,rfl,aj,ai,hl,hb]:=zz;apply#[rfl,l,o,rfl,ai,hl,hb,λq=>by simp at aj;(show False.elim (sd .ff .l .B .aL .aD hm q aj))]
  ·intro c st zz;have#[rfl,l,o,rfl,ai,hl,hb,hz]:=zz;apply fin _ _ (λx lo hi R h2 r1 r2 r3=>?_) (λk q=>cz q) (hint+1-min o (hint+1)) (hint-l) ((Ar.jt _ _).2.2.elim (λq1=>(jP .A [[1,1,1,-1,1]] .a2 (.e .aL .aA) (.e .Q .G) .bK ai (aa (az .Q .a .Q (Ar.jt _ _).2.1)) (aa (az .A .a .A hl)) q1)) λq1=>(gp .A .b (.e .V .Y) (.k .Y .C) (aa (az .Q .a .Q (Ar.jt _ _).2.1)) q1)) (gp .A .b .L .bZ hm (aa (az .A .a .A hl))) (λi hi=>?_) λi hi ao=>?_
   ·dsimp only;by_cases c:lo>=hi
    ·rw[cf c];show cz (r1 c)
    ·rw[aw c];apply cn (ag _ _ (jP .J [[2,2,1,1,1]] .bC (.j .D .A) .c7 .cG h2 c (Ar.cU _ 2 (by decide)).2 (aa (az .A .a (.j .B .A) c))) ?_);cases hb:B (lo+(hi-lo)/2) with
     |true=>show cz (r2 (az .B .a (.j .B .A) c) hb)
     |false=>show cz (r3 (az .B .a (.j .B .A) c) hb)
   ·show mono i (hint-o) ((Ar.jt _ _).2.2.elim (λq1=>(Ar.sub _ _ (λq2 p2=>(jP .A [[1,1,1,1,-1]] .G (.e .R .a0) (.k .G .D) (.e (.a .B .G) .F) hi (aa (az .Q .a .Q (Ar.jt _ _).2.1)) q1 p2)) λq2 p2=>(jP .A .w .G (.e .R .a0) (.k .G .D) (.k .F .G) hi (aa (az .Q .a .Q (Ar.jt _ _).2.1)) q1 q2))) λq1=>(uu .A .e .G (.e .R .a0) (.k .a0 .D) hi (aa (az .Q .a .Q (Ar.jt _ _).2.1)) q1)) (fb .B .b .L .K hm (oz _ _)) (hz ((Ar.jt _ _).2.2.elim (λq1=>(uu .A .e .a2 (.e .X .P) (.k .A .F) hi (aa (az .Q .a .Q (Ar.jt _ _).2.1)) q1)) λq1=>(uu .A .l .a2 (.e .X .P) (.k .P .F) hi (aa (az .Q .a .Q (Ar.jt _ _).2.1)) q1)))
   ·cases hq:B i with
    |false=>rfl
    |true=>rw[mono _ i hi ao hq]at hb;cases hb
end
end MP
end
section
set_option tactic.hygienic true
namespace MP
section
variable {xs ys all os:List Nat}
variable {lt:Nat->Nat->Bool}
abbrev Le (lt:Nat->Nat->Bool)(x:Nat)(ys:List Nat):Prop:=∀y∈ys,lt y x=false
abbrev Srt (lt:Nat->Nat->Bool)(xs:List Nat):Prop:=xs.Pairwise λx y=>lt y x=false
structure LtT (lt:Nat->Nat->Bool):Prop where
 asym:∀a b,lt a b=true->lt b a=false
 tr:∀a b c,lt b a=false->lt c b=false->lt c a=false
structure Mrg (lt:Nat->Nat->Bool)(all os xs ys:List Nat):Prop where
 perm:(os++(xs++ys)).Perm all
 so:Srt lt os
 sx:Srt lt xs
 sy:Srt lt ys
 ax:∀o∈os,Le lt o xs
 ay:∀o∈os,Le lt o ys
def Srt.app (U:Srt lt xs)(W:Srt lt ys)(h:∀x∈xs,Le lt x ys):Srt lt (xs++ys):=
 ou.mpr #[U,W,h]
def Srt.le (T:LtT lt){x:Nat}(h:Srt lt (x::xs)){z:Nat}(hz:lt x z=false):Le lt z (x::xs):=λy W=>by
 rcases bw.mp W with rfl|W
 ·show hz
 ·show T.tr _ _ _ hz ((kc.mp h).1 y W)
def Mrg.left {zs:List Nat}(m:Mrg lt all os (zs++xs) ys)(h:∀z∈zs,Le lt z ys):Mrg lt all (os++zs) xs ys:=by
 have#[B,I,J]:=ou.mp m.sx;apply#[?_,m.so.app B λo W z hz=>m.ax o W z (dj _ hz),I,m.sy,λo W x O=>?_,λo W y U=>?_]
 ·have:=m.perm;simpa[bg] using this
 ·rcases dh.mp W with W|W
  ·show m.ax o W x (dp _ O)
  ·show J o W x O
 ·rcases dh.mp W with W|W
  ·show m.ay o W y U
  ·show h o W y U
def Mrg.right {zs:List Nat}(m:Mrg lt all os xs (zs++ys))(h:∀z∈zs,Le lt z xs):Mrg lt all (os++zs) xs ys:=by
 have#[B,I,J]:=ou.mp m.sy;apply#[?_,m.so.app B λo W z hz=>m.ay o W z (dj _ hz),m.sx,I,λo W x O=>?_,λo W y U=>?_]
 ·apply List.Perm.trans ?_ m.perm;rw[bg];apply cO _ ?_;rw[<- bg,<- bg];show List.Perm.append_right _ List.perm_append_comm
 ·rcases dh.mp W with W|W
  ·show m.ax o W x O
  ·show h o W x O
 ·rcases dh.mp W with W|W
  ·show m.ay o W y (dp _ U)
  ·show J o W y U
def Mrg.PN (m:Mrg lt all os xs []):(os++xs).Perm all/\Srt lt (os++xs):=
 #[by have:=m.perm;simpa using this,m.so.app m.sx m.ax]
def Mrg.M0 (m:Mrg lt all os xs ys)(h:∀y∈ys,Le lt y xs):(os++ys++xs).Perm all/\Srt lt (os++ys++xs):=by
 have W:Mrg lt all os xs (ys++[]):=by rw[dk];show m
 show(W.right h).PN
end
end MP
end
section
set_option tactic.hygienic true
namespace MP
open PySem PyProof.Rows
abbrev vP:Array Keyed->Array Keyed->StateT SortSt Sem (Array Keyed):=sortPriv% PySem.Builtin.mergeLo
abbrev KA (it:Nat->Keyed)(xs:List Nat):Array Keyed:=(xs.map it).toArray
section
variable {it:Nat->Keyed}{lt:Nat->Nat->Bool}
def og (xs:List Nat):(KA it xs).size=xs.length:=by simp[KA]
def uo (xs ys:List Nat):KA it xs++KA it ys=KA it (xs++ys):=by simp[KA]
def cL (xs:List Nat)(x:Nat):(KA it xs).push (it x)=KA it (xs++[x]):=by simp[KA]
def rt (xs:List Nat)(i j:Nat):(KA it xs).extract i j=KA it ((xs.take j).drop i):=by
 simp only[KA,List.extract_toArray];rw[List.extract_eq_drop_take',List.map_drop,List.map_take]
def uh {xs:List Nat}{i:Nat}(h:i<xs.length):(KA it xs)[i]?=some (it xs[i]):=by simp[KA,h]
abbrev Gst (st st':SortSt):Prop:=∃g,st'=SortSt.mk' (kindOf st) (arrOf st) (pendingOf st) g (failedOf st)
def Gst.kind {st W:SortSt}(h:Gst st W):kindOf W=kindOf st:=by have#[g,rfl]:=h;rfl
def Gst.refl (st:SortSt):Gst st st:=#[gallopOf st,rfl]
def Gst.trans {a b c:SortSt}(h:Gst a b)(k:Gst b c):Gst a c:=by
 have#[g,rfl]:=h;have#[W,rfl]:=k;apply#[W,rfl]
structure MI (lt:Nat->Nat->Bool)(as bs os:List Nat)(ia ib:Nat):Prop where
 m:Mrg lt (as++bs) os (as.drop ia) (bs.drop ib)
 la:ia+1<as.length
 lb:ib<bs.length
def MI.EP {as bs os:List Nat}{ia ib:Nat}(T:LtT lt)(h:MI lt as bs os ia ib)(c:lt (bs[ib]'h.lb) (as[ia]'(jk h.la))=true) :
  Mrg lt (as++bs) (os++[bs[ib]'h.lb]) (as.drop ia) (bs.drop (ib+1)):=by
 have e:bs.drop ib=[bs[ib]'h.lb]++bs.drop (ib+1):=cg h.lb;have m:=h.m;rw[e]at m;apply m.right λz hz=>?_;have rfl:=ah.mp hz;have sx:=m.sx;rw[cg (jk h.la)]at sx ⊢;show sx.le T (T.asym _ _ c)
def MI.ER {as bs os:List Nat}{ia ib:Nat}(T:LtT lt)(h:MI lt as bs os ia ib)(c:lt (bs[ib]'h.lb) (as[ia]'(jk h.la))=false) :
  Mrg lt (as++bs) (os++[as[ia]'(jk h.la)]) (as.drop (ia+1)) (bs.drop ib):=by
 have e:as.drop ia=[as[ia]'(jk h.la)]++as.drop (ia+1):=cg (jk h.la);have m:=h.m;rw[e]at m;apply m.left λz hz=>?_;have rfl:=ah.mp hz;have sy:=m.sy;rw[cg h.lb]at sy ⊢;show sy.le T c
end
section
variable {xs:List Nat}{i:Nat}
variable {prog:Program}{w:World}{A:Around}{E:QqV}{s:Shared}{kd:SortKind}{n:Nat}{it:Nat->Keyed}{lt:Nat->Nat->Bool}
def wI (xs:List Nat)(i k:Nat):xs.drop i=(xs.take (i+k)).drop i++xs.drop (i+k):=by
 rw[List.drop_take,tg,<- List.drop_drop,ek]
def AX {k x:Nat}(h:x∈(xs.take (i+k)).drop i):∃j,j<k/\∃U:i+j<xs.length,x=xs[i+j]:=by
 have#[j,U,rfl]:=er.mp h;rw[gf,et]at U;apply#[j,by show Ar.sub _ _ (λO W=>(uu .B .e .G (.k .D (.a .F .B)) (.e (.a .C .F) .D) U (Ar.jt _ _).1 W)) λO W=>(fb .B .c .G .b1 U W),by show Ar.sub _ _ (λO W=>(uu .J .e .S .bM (.e (.a .D .A) .F) U (Ar.jt _ _).2.1 W)) λO W=>(gp .J .c .S .aT U W),by simp]
def vR {k x:Nat}(h:x∈xs.drop (i+k)):∃j,k<=j/\∃W:i+j<xs.length,x=xs[i+j]:=by
 have#[j,W,rfl]:=er.mp h;rw[gf]at W;apply#[k+j,by show cX .bX .i,by show Ar.sub _ _ (λO U=>(um (.l (.a .A .Q) .D) .b (.l .C .F) (.e (.a .F .L) .D) W U)) λO U=>(um (.l (.a .A .Q) .D) .c (.l .C .F) .b2 W U),by simp[iW]]
def Srt.at (h:Srt lt xs){a b:Nat}(hi:i<=a)(W:a<b)(hb:b<xs.length):lt xs[b] (xs[a]'(Nat.lt_trans W hb))=false:=
 wu.mp h a b _ _ W
def E9 (O:Ora (model prog w) A s kd n it lt)(T:LtT lt){as bs os:List Nat}{ia ib:Nat}{Q:Option Nat->SortSt->Prop}{st:SortSt}(hk:kindOf st=kd)(hn:∀x∈as++bs,x<n)(sa:Srt lt as)
  (m:Mrg lt (as++bs) os (as.drop ia) (bs.drop ib)) (W:ia<as.length) (aj:ib<bs.length)
  (h:∀k,ia+k<=as.length->Mrg lt (as++bs) (os++(as.take (ia+k)).drop ia) (as.drop (ia+k)) (bs.drop ib)->Le lt bs[ib] (as.drop (ia+k))->Q (some k) st) :
  PyProof.Rows.wpS (model prog w) A E s (uy false (it bs[ib]) (KA it as) ia (as.length-ia) 0) Q st:=by
 have ap:∀{i},(hi:i<as.length-ia)->as.getD (ia+i) 0=as[ia+i]'(by show gp .J .b .S .O hi (aa (az .A .a .B W))):=λ{i} hi=>by simp[List.getD,bb (show ia+i<as.length by show gp .J .b .S .O hi (aa (az .A .a .B W)))]
 apply xg O (p:=λi=>as.getD (ia+i) 0) (hn _ (dp _ (du _))) (by show fb .C .d .aD .X W (aa (az .A .a .B W))) (λi hi=>?_) (λi=>!lt bs[ib] (as.getD (ia+i) 0)) (λi hi=>rfl) (λi j ai U hb=>?_) hk λk ag h1 h2=>?_
 ·rw[ap hi];apply#[hn _ (dj _ (du _)),uh (by show gp .J .b .S .O hi (aa (az .A .a .B W)))]
 ·skip
  rw[ap U]at hb;rw[ap (by show fb .B .b .K .L ai U)];have hb:lt bs[ib] (as[ia+j]'(by show gp .J .b .S .O U (aa (az .A .a .B W))))=false:=by simpa using hb
  rcases jo ai with q|rfl
  ·rw[T.tr _ _ _ (sa.at (bz _) (show ia+i<ia+j by show gz (.l .L .V) .a .aD q) (by show gp .J .b .S .O U (aa (az .A .a .B W)))) hb];rfl
  ·rw[hb];rfl
 ·apply h k (by show gp .F .b (.k .B .D) .O ag (aa (az .A .a .B W))) ?_ λx hx=>?_
  ·have m':=m;rw[wI as ia k]at m';apply m'.left λz hz=>?_;have#[j,U,I,rfl]:=AX hz;have:=h1 j U;rw[ap (by show fb .B .b .H .G ag U)]at this;have sy:=m.sy;rw[cg aj]at sy ⊢;show sy.le T (by simpa using this)
  ·have#[j,U,I,rfl]:=vR hx;have:=h2 j U (by show gp .B .d .cA .bN I (aa (az .A .a .B W)));rw[ap (by show gp .B .d .cA .bN I (aa (az .A .a .B W)))]at this;show T.asym _ _ (by simpa using this)
def E8 (O:Ora (model prog w) A s kd n it lt)(T:LtT lt){as bs os:List Nat}{ia ib:Nat}{Q:Option Nat->SortSt->Prop}{st:SortSt}(hk:kindOf st=kd)(hn:∀x∈as++bs,x<n)(sb:Srt lt bs)
  (m:Mrg lt (as++bs) os (as.drop ia) (bs.drop ib)) (aj:ia<as.length) (W:ib<bs.length)
  (h:∀k,ib+k<=bs.length->Mrg lt (as++bs) (os++(bs.take (ib+k)).drop ib) (as.drop ia) (bs.drop (ib+k))->Le lt as[ia] (bs.drop (ib+k))->Q (some k) st) :
  PyProof.Rows.wpS (model prog w) A E s (uy true (it as[ia]) (KA it bs) ib (bs.length-ib) 0) Q st:=by
 have ap:∀{i},(hi:i<bs.length-ib)->bs.getD (ib+i) 0=bs[ib+i]'(by show gp .J .b .S .O hi (aa (az .A .a .B W))):=λ{i} hi=>by simp[List.getD,bb (show ib+i<bs.length by show gp .J .b .S .O hi (aa (az .A .a .B W)))]
 apply xg O (p:=λi=>bs.getD (ib+i) 0) (hn _ (dj _ (du _))) (by show fb .C .d .aD .X W (aa (az .A .a .B W))) (λi hi=>?_) (λi=>lt (bs.getD (ib+i) 0) as[ia]) (λi hi=>rfl) (λi j ai U hb=>?_) hk λk ag h1 h2=>?_
 ·rw[ap hi];apply#[hn _ (dp _ (du _)),uh (by show gp .J .b .S .O hi (aa (az .A .a .B W)))]
 ·skip
  rw[ap U]at hb;rw[ap (by show fb .B .b .K .L ai U)];rcases jo ai with q|rfl
  ·cases e:lt (bs[ib+i]'(by show uu .J .e (.l .D .F) .S (.e (.a .F .A) .C) U q (aa (az .A .a .B W)))) as[ia] with
   |true=>rfl
   |false =>
    have:=T.tr _ _ _ e (sb.at (bz _) (show ib+i<ib+j by show gz (.l .L .V) .a .aD q) (by show gp .J .b .S .O U (aa (az .A .a .B W))));rw[hb]at this;cases this
  ·show hb
 ·apply h k (by show gp .F .b (.k .B .D) .O ag (aa (az .A .a .B W))) ?_ λx hx=>?_
  ·have m':=m;rw[wI bs ib k]at m';apply m'.right λz hz=>?_;have#[j,U,I,rfl]:=AX hz;have:=h1 j U;rw[ap (by show fb .B .b .H .G ag U)]at this;have sx:=m.sx;rw[cg aj]at sx ⊢;show sx.le T (T.asym _ _ this)
  ·have#[j,U,I,rfl]:=vR hx;have:=h2 j U (by show gp .B .d .cA .bN I (aa (az .A .a .B W)));rw[ap (by show gp .B .d .cA .bN I (aa (az .A .a .B W)))]at this;show this
end
variable {α:Type}{st:SortSt}{as bs os:List Nat}{ia ib:Nat}
abbrev O8:Nat->StateT SortSt Sem Unit:=sortPriv% PySem.Builtin.setMinGallop
section
variable {prog:Program}{w:World}{A:Around}{E:QqV}{s:Shared}{kd:SortKind}{n:Nat}{it:Nat->Keyed}{lt:Nat->Nat->Bool}
def dz {c:Prop}[Decidable c]{a b:StateT SortSt Sem α}{Q:α->SortSt->Prop}(h:c)(k:PyProof.Rows.wpS (model prog w) A E s a Q st):PyProof.Rows.wpS (model prog w) A E s (if c then a else b) Q st:=by rw[cf h];show k
def dq {c:Prop}[Decidable c]{a b:StateT SortSt Sem α}{Q:α->SortSt->Prop}(h:¬c)(k:PyProof.Rows.wpS (model prog w) A E s b Q st):PyProof.Rows.wpS (model prog w) A E s (if c then a else b) Q st:=by rw[aw h];show k
def uK {g:Nat}{Q:Unit->SortSt->Prop}(h:∀W,Gst st W->Q () W):PyProof.Rows.wpS (model prog w) A E s (O8 g) Q st:=iY (h _ #[g,rfl])
def yw {U:Type}{m:StateT SortSt Sem α}{k:α->StateT SortSt Sem U}{Q:U->SortSt->Prop}(h:∀k',k'=k->PyProof.Rows.wpS (model prog w) A E s m (λr W=>PyProof.Rows.wpS (model prog w) A E s (k' r) Q W) st):PyProof.Rows.wpS (model prog w) A E s (m>>=k) Q st:=cn (h k rfl)
def rh {U:Type}{a b:Nat}{f:Nat->U->StateT SortSt Sem (ForInStep U)}(I:Nat->U->SortSt->Prop){Q:U->SortSt->Prop}
  (W:∀g,g=f->∀i c st,a<=i->i<b->I i c st->PyProof.Rows.wpS (model prog w) A E s (g i c) (λr O=>match r with|.done B=>Q B O|.yield B=>I (i+1) B O) st)
  (J:∀c st,I (max a b) c st->Q c st) {c:U} (h:I a c st):PyProof.Rows.wpS (model prog w) A E s (forIn [a:b] c f) Q st:=rz I (W f rfl) J h
abbrev qi (it:Nat->Keyed)(lt:Nat->Nat->Bool)(as bs:List Nat)(r:Array Keyed):Prop:=∃os,r=KA it os/\os.Perm (as++bs)/\Srt lt os
def qi.l (m:Mrg lt (as++bs) os (as.drop ia) (bs.drop ib))(e:ib=bs.length) :
  qi it lt as bs (KA it os++(KA it as).extract ia (KA it as).size++(KA it bs).extract ib (KA it bs).size):=by
 rw[og,og];subst e;apply#[os++as.drop ia,?_,?_]
 ·rw[rt,rt,gv,gv,uo,uo,tn,dk]
 ·rw[tn]at m;show m.PN
def qi.r (m:Mrg lt (as++bs) os (as.drop ia) (bs.drop ib))(e:ia+1=as.length)(last:∀(h:ia<as.length),∀y∈bs,lt as[ia] y=false) :
  qi it lt as bs (KA it os++(KA it bs).extract ib (KA it bs).size++(KA it as).extract ia (KA it as).size):=by
 rw[og,og];apply#[os++bs.drop ib++as.drop ia,?_,m.M0 λy U x W=>?_]
 ·rw[rt,rt,gv,gv,uo,uo]
 ·have h:ia<as.length:=by(show az .B .a .a8 e)
  rw[cg h,List.drop_of_length_le (by show az .Q .r .bP e)]at W;have rfl:=ah.mp W;show last h y (dT U)
def qi.d (m:Mrg lt (as++bs) os (as.drop ia) (bs.drop ib))(e:ia=as.length) :
  qi it lt as bs (KA it os++(KA it as).extract ia (KA it as).size++(KA it bs).extract ib (KA it bs).size):=by
 rw[og,og];subst e;rw[tn]at m;apply#[os++bs.drop ib,?_,?_]
 ·rw[rt,rt,gv,gv,uo,uo,tn,dk]
 ·have:=m.M0 λy _ x W=>nomatch W;rw[dk]at this;show this
def uL (O:Ora (model prog w) A s kd n it lt)(T:LtT lt){Q:Array Keyed->SortSt->Prop}(hk:kindOf st=kd)(hn:∀x∈as++bs,x<n)
  (sa:Srt lt as) (sb:Srt lt bs) (la:0<as.length) (lb:0<bs.length) (first:lt bs[0] as[0]=true) (last:∀i (h:i<as.length),i+1=as.length->∀y∈bs,lt as[i] y=false)
  (h:∀r ag,Gst st ag->qi it lt as bs r->Q r ag) :
  PyProof.Rows.wpS (model prog w) A E s (vP (KA it as) (KA it bs)) Q st:=by
 unfold vP;apply cn (wpS_lift (lq #[rfl,?_]));apply cn (ke (uh lb) ?_);have m0:Mrg lt (as++bs) [bs[0]] (as.drop 0) (bs.drop 1):=by
  have e:bs=[bs[0]]++bs.drop 1:=by simpa using cg (l:=bs) (i:=0) lb
  have base:Mrg lt (as++bs) [] as ([bs[0]]++bs.drop 1):=by
   rw[<- e];show {perm:=by simp,so:=.nil,sx:=sa,sy:=sb,ax:=λo ho=>(nomatch ho),ay:=λo ho=>(nomatch ho)}
  apply base.right λz hz=>?_;have rfl:=ah.mp hz;have cM:=sa;rw[<- zv (l:=as),cg la]at cM ⊢;show cM.le T (T.asym _ _ first)
 have zs:∀{i:Nat} {xs:List Nat},(i==(KA it xs).size)=true->i=xs.length:=λh=>(fq.mp h).trans (og _);have zn:∀{i:Nat} {xs:List Nat},¬(i==(KA it xs).size)=true->i≠xs.length:=λh q=>h (fq.mpr (q.trans (og _).symm));by_cases c1:(1==(KA it bs).size)=true
 ·show dz c1 (cz (h _ _ (.refl _) (qi.l m0 (zs c1))))
 apply dq c1 ?_;by_cases c2:(0+1==(KA it as).size)=true
 ·show dz c2 (cz (h _ _ (.refl _) (qi.r m0 (zs c2) λhi=>last _ hi (zs c2))))
 apply dq c2 ?_;apply cn (uJ ?_);have aj:1≠bs.length:=zn c1;have ar:0+1≠as.length:=zn c2;have i0:MI lt as bs [bs[0]] 0 1:=#[m0,by show(au aj).elim (λq1=>((au ar).elim (λq2=>(fj (.l .a1 .A) .a (.l .a1 .A) q2)) λq2=>(uB (.l .a1 .A) .c .C (.l .A .a1) la q2))) λq1=>(jc (.l .a1 .A) .c .V (.l .B .U) lb q1),by show(au aj).elim (λq1=>(fj .a0 .a .a0 q1)) λq1=>(uB .a0 .c .C .c0 lb q1)];generalize gallopOf st=g0;apply yw λk1 ct=>(nk (rh (I:=λx c ag=>Gst st ag/\∃os ia ib g,c=(none,KA it os,ia,ib,g)/\MI lt as bs os ia ib/\x<ia+ib)
  (Q:=λc ag=>Gst st ag/\∃r,c.1=some r/\qi it lt as bs r) (λf1 ea=>?_) ?_ #[.refl _,_,_,_,_,rfl,i0,by show eH (.l .O .a1) .i]) ?_)
 ·intro x c bu _ hx zz;have#[g1,os,ia,ib,g,rfl,I,bt]:=zz;rw[ea];apply yw λk2 cb=>(nk (rh (I:=λ_ c ag=>ag=bu/\∃os ja jb ac bc,c=(none,KA it os,ja,jb,ac,bc)/\MI lt as bs os ja jb/\ia+ib<=ja+jb)
   (Q:=λc ag=>ag=bu/\((∃r t,c=(some r,t)/\qi it lt as bs r)\/∃os ja jb ac bc,c=(none,KA it os,ja,jb,ac,bc)/\MI lt as bs os ja jb/\ia+ib<=ja+jb)) (λf2 dV=>?_) ?_ #[rfl,_,_,_,_,_,rfl,I,av _]) ?_)
  ·intro y c cx _ hy zz;have#[rfl,os,ja,jb,ac,bc,rfl,I,bl]:=zz;rw[dV];have dn:=jk I.la;have na:as[ja]<n:=hn _ (dj _ (du _));have nb:bs[jb]'I.lb<n:=hn _ (dp _ (du _));apply cn (ke (uh I.lb) ?_);apply cn (ke (uh dn) ?_);apply cn (iZ O (g1.kind.trans hk) nb na ?_);cases hc:lt (bs[jb]'I.lb) as[ja] with
   |true =>
    apply cn (ke (uh I.lb) ?_);have m:=I.EP T hc;rw[cL];dsimp only;by_cases e:(jb+1==(KA it bs).size)=true
    ·show dz e (cz #[rfl,.inl #[_,_,rfl,qi.l m (zs e)]])
    ·apply dq e ?_;have I2:MI lt as bs (os++[bs[jb]'I.lb]) ja (jb+1):=#[m,I.la,by have:=I.lb;have:jb+1≠bs.length:=zn e;(rename_i z1;show(au aj).elim (λq1=>((au ar).elim (λq2=>((au this).elim (λq3=>(az .W .a .W q3)) λq3=>(jc .W .c .B (.l .B .M) z1 q3))) λq2=>(fb .W .c .a5 (.l .C .a1) la q2))) λq1=>(jc .W .c .V (.l .B .U) lb q1))];split
     ·show cz #[rfl,.inr #[_,_,_,_,_,rfl,I2,by show mW (.k .L (.a .C .Y)) .a .bD bl]]
     ·show cz #[rfl,_,_,_,_,_,rfl,I2,by show mW (.k .L (.a .C .Y)) .a .bD bl]
   |false =>
    apply cn (ke (uh dn) ?_);have m:=I.ER T hc;rw[cL];dsimp only;by_cases e:(ja+1+1==(KA it as).size)=true
    ·show dz e (cz #[rfl,.inl #[_,_,rfl,qi.r m (zs e) λhi=>last _ hi (zs e)]])
    ·apply dq e ?_;have I2:MI lt as bs (os++[as[ja]]) (ja+1) jb:=#[m,by have:=I.la;have:ja+1+1≠as.length:=zn e;(rename_i z1;show(au aj).elim (λq1=>((au ar).elim (λq2=>((au this).elim (λq3=>(az .a4 .a .a4 q3)) λq3=>(jc .a4 .c .W (.l .B (.a .M .U)) z1 q3))) λq2=>(jc .a4 .c .W (.l .B .a1) z1 q2))) λq1=>(fb .a4 .c .a5 (.l .C .U) lb q1)),I.lb];split
     ·show cz #[rfl,.inr #[_,_,_,_,_,rfl,I2,by show mW (.k .L (.a .S .D)) .a .bD bl]]
     ·show cz #[rfl,_,_,_,_,_,rfl,I2,by show mW (.k .L (.a .S .D)) .a .bD bl]
  ·intro c cx zz;have#[rfl,h2]:=zz;apply#[rfl,.inr h2]
  ·intro c cx zz;have#[rfl,h2]:=zz;rcases h2 with ⟨r,t,rfl,hr⟩|⟨ed,ja,jb,ac,bc,rfl,I2,bl⟩
   ·rw[cb];show cz #[g1,r,rfl,hr]
   ·rw[cb];apply cn (wpS_lift (lq #[rfl,?_]));apply yw λk3 dm=>(nk (rh (I:=λx c ag=>Gst st ag/\∃os ja jb g ac bc,c=(none,KA it os,ja,jb,g,ac,bc)/\MI lt as bs os ja jb/\ia+ib+x<=ja+jb)
     (Q:=λc ag=>Gst st ag/\((∃r t,c=(some r,t)/\qi it lt as bs r)\/∃os ja jb g ac bc,c=(none,KA it os,ja,jb,g,ac,bc)/\MI lt as bs os ja jb/\ia+ib<ja+jb)) (λf3 dL=>?_) ?_ #[g1,_,_,_,_,_,_,rfl,I2,bl]) ?_)
    ·intro y c cl _ hy zz;have#[g3,bv,pa,pb,mg,ac,bc,rfl,I3,hp]:=zz;rw[dL];dsimp -zeta only
     extract_lets s1 o1 s2 a1 s3 b1 s4 m1 s5 ac1 bc1 ib1 jp m2
     have key:∀g' (R:_->SortSt->Prop),(∀r t ag,Gst st ag->qi it lt as bs r->R (.done (some r,t)) ag)->(∀os ja jb g ac bc ag,Gst st ag->MI lt as bs os ja jb->pa+pb<ja+jb->R (.done (none,KA it os,ja,jb,g,ac,bc)) ag) ->
       (∀os ja jb g ac bc ag,Gst st ag->MI lt as bs os ja jb->pa+pb<ja+jb->R (.yield (none,KA it os,ja,jb,g,ac,bc)) ag)->PyProof.Rows.wpS (model prog w) A E s (jp () g') R cl:=λg' R rE rD rY=>by
      apply cn (uK λbe q4=>?_);have g4:=g3.trans q4;have df:=g4.kind.trans hk;have dy:=jk I3.la;apply cn (ke (uh I3.lb) ?_);have G:PyProof.Rows.wpS (model prog w) A E s (uy false (it (bs[pb]'I3.lb)) (KA it as) pa ((KA it as).size-pa) 0) (λr ag=>ag=be/\∃k,r=some k/\pa+k<=as.length/\Mrg lt (as++bs) (bv++(as.take (pa+k)).drop pa) (as.drop (pa+k)) (bs.drop pb)/\Le lt (bs[pb]'I3.lb) (as.drop (pa+k))) be:=by
       rw[og];show E9 O T df hn sa I3.m dy I3.lb λk h1 h2 h3=>#[rfl,k,rfl,h1,h2,h3]
      apply cn (nk G ?_);intro _ dr zz;have#[e5,k,rfl,ct,mA,da]:=zz;rw[e5];dsimp -zeta only
      extract_lets acount jp2 o2 a2
      have ck:∀bn ai,Mrg lt (as++bs) bn (as.drop ai) (bs.drop pb)->ai+1<as.length->Le lt (bs[pb]'I3.lb) (as.drop ai)->pa<=ai->PyProof.Rows.wpS (model prog w) A E s (jp2 () (KA it bn) ai) R be:=λbn ai m' bp dx ec=>by
       apply cn (ke (uh I3.lb) ?_);rw[cL];have e:bs.drop pb=[bs[pb]'I3.lb]++bs.drop (pb+1):=cg I3.lb;have m2:=m';rw[e]at m2;have mB:=m2.right λz hz=>by have rfl:=ah.mp hz;show dx
       by_cases q1:(pb+1==(KA it bs).size)=true
       ·show dz q1 (cz (rE _ _ _ g4 (qi.l mB (zs q1))))
       ·apply dq q1 ?_;have ca:pb+1<bs.length:=by have:=I3.lb;have:pb+1≠bs.length:=zn q1;(rename_i z1;show(au aj).elim (λq1=>((au ar).elim (λq2=>((au this).elim (λq3=>(az .W .a .W q3)) λq3=>(jc .W .c .B (.l .B .M) z1 q3))) λq2=>(gp .W .c (.l .S .D) (.l .D .a1) bp q2))) λq1=>(jc .W .c .V (.l .B .U) lb q1))
        have cd:=jk bp;apply cn (ke (uh cd) ?_);have G:PyProof.Rows.wpS (model prog w) A E s (uy true (it as[ai]) (KA it bs) (pb+1) ((KA it bs).size-(pb+1)) 0) (λr ag=>ag=be/\∃k,r=some k/\pb+1+k<=bs.length/\Mrg lt (as++bs) ((bn++[bs[pb]'I3.lb])++(bs.take (pb+1+k)).drop (pb+1)) (as.drop ai) (bs.drop (pb+1+k))/\Le lt as[ai] (bs.drop (pb+1+k))) be:=by
         rw[og];show E8 O T df hn sb mB cd ca λk h1 h2 h3=>#[rfl,k,rfl,h1,h2,h3]
        apply cn (nk G ?_);intro _ dr zz;have#[e5,k2,rfl,cb,mC,cS]:=zz;rw[e5];dsimp -zeta only
        extract_lets bcount ib3 jp3 o3 b3
        have ch:∀bd ao,Mrg lt (as++bs) bd (as.drop ai) (bs.drop ao)->ao<bs.length->Le lt as[ai] (bs.drop ao)->pb<=ao->PyProof.Rows.wpS (model prog w) A E s (jp3 () (KA it bd) ao) R be:=λbd ao mD dc dv eb=>by
         apply cn (ke (uh cd) ?_);rw[cL];have e:as.drop ai=[as[ai]]++as.drop (ai+1):=cg cd;rw[e]at mD;have mE:=mD.left λz hz=>by have rfl:=ah.mp hz;show dv
         by_cases q2:(ai+1+1==(KA it as).size)=true
         ·show dz q2 (cz (rE _ _ _ g4 (qi.r mE (zs q2) λhi=>last _ hi (zs q2))))
         ·apply dq q2 ?_;have I4:MI lt as bs (bd++[as[ai]]) (ai+1) ao:=#[mE,by have:ai+1+1≠as.length:=zn q2;(show(au aj).elim (λq1=>((au ar).elim (λq2=>((au this).elim (λq3=>(az .a4 .a .a4 q3)) λq3=>(jc .a4 .c .W (.l .B (.a .M .U)) bp q3))) λq2=>(jc .a4 .c .W (.l .B .a1) bp q2))) λq1=>(gp .a4 .c (.l .S .D) (.l .D .U) ca q1)),dc];by_cases q3:(decide (acount<7)&&decide (bcount<7))=true
          ·show dz q3 (cz (rD _ _ _ _ _ _ _ g4 I4 (by omega)))
          ·show dq q3 (cz (rY _ _ _ _ _ _ _ g4 I4 (by omega)))
        by_cases q4:k2>0
        ·apply dz q4 ?_;have eo:o3=KA it (bn++[bs[pb]'I3.lb]++(bs.take (pb+1+k2)).drop (pb+1)):=by
          show KA it _++(KA it bs).extract (pb+1) (pb+1+k2)=_;rw[rt,uo]
         rw[eo];by_cases q5:(pb+1+k2==(KA it bs).size)=true
         ·show dz q5 (cz (rE _ _ _ g4 (qi.l mC (zs q5))))
         ·apply dq q5 (ch _ (pb+1+k2) mC (by have:pb+1+k2≠bs.length:=zn q5;(show(au aj).elim (λq1=>((au ar).elim (λq2=>((au this).elim (λq3=>(gz (.l .a2 .C) .a (.l .a2 .C) q3)) λq3=>(fb (.l .a2 .C) .c .bS (.l .C .a2) cb q3))) λq2=>(um (.l .a2 .C) .c (.l .Y .F) (.l .F .a1) bp q2))) λq1=>(fb (.l .a2 .C) .c (.l .M .C) (.l .C .U) ca q1))) cS (by show cX (.k .A .a2) .i))
        ·apply dq q4 ?_;obtain rfl:k2=0:=by(show fj .M .s (.g .O .A) q4)
         show ch _ (pb+1) mB ca cS (by show qg (.k .A .M) .i)
      by_cases q4:k>0
      ·apply dz q4 ?_;have eo:o2=KA it (bv++(as.take (pa+k)).drop pa):=by
        show KA it _++(KA it as).extract pa (pa+k)=_;rw[rt,uo]
       rw[eo];by_cases q5:(pa+k+1==(KA it as).size)=true
       ·show dz q5 (cz (rE _ _ _ g4 (qi.r mA (zs q5) λhi=>last _ hi (zs q5))))
       ·apply dq q5 ?_;by_cases q6:(pa+k==(KA it as).size)=true
        ·show dz q6 (cz (rE _ _ _ g4 (qi.d mA (zs q6))))
        ·show dq q6 (ck _ (pa+k) mA (by have:pa+k+1≠as.length:=zn q5;have:pa+k≠as.length:=zn q6;(rename_i z1;show(au aj).elim (λq1=>((au ar).elim (λq2=>((au z1).elim (λq3=>(gz (.l .aD .C) .a (.l .aD .C) q3)) λq3=>((au this).elim (λq4=>(fb (.l .aD .C) .c (.l .C .aD) .J q3 q4)) λq4=>(fb (.l .aD .C) .c .F (.l .C .L) ct q4)))) λq2=>(fb (.l .aD .C) .c .a5 (.l .C .a1) la q2))) λq1=>(gp (.l .aD .C) .c (.l .O .D) (.l .D .U) lb q1))) da (by show cX .bX .i))
      ·apply dq q4 ?_;obtain rfl:k=0:=by(show fj .M .s (.g .O .A) q4)
       show ck _ pa I3.m I3.la da (av _)
     split
     ·apply key _ _ ?_ ?_ ?_
      ·intro r t ag g hr;apply#[g,.inl #[r,t,rfl,hr]]
      ·intro os ja jb g ac bc ag q I hl;apply#[q,.inr #[_,_,_,_,_,_,rfl,I,by show uA (.l .L .R) .b (.k (.a .L .F) .a7) (.l .a7 .R) hp hl]]
      ·intro os ja jb g ac bc ag q I hl;apply#[q,_,_,_,_,_,_,rfl,I,by show uA (.k (.a .L .S) .X) .b (.k (.a .L .C) .a7) (.l .a7 .X) hp hl]
     ·apply key _ _ ?_ ?_ ?_
      ·intro r t ag g hr;apply#[g,.inl #[r,t,rfl,hr]]
      ·intro os ja jb g ac bc ag q I hl;apply#[q,.inr #[_,_,_,_,_,_,rfl,I,by show uA (.l .L .R) .b (.k (.a .L .F) .a7) (.l .a7 .R) hp hl]]
      ·intro os ja jb g ac bc ag q I hl;apply#[q,_,_,_,_,_,_,rfl,I,by show uA (.k (.a .L .S) .X) .b (.k (.a .L .C) .a7) (.l .a7 .X) hp hl]
    ·intro c cl zz;have#[g3,bv,pa,pb,mg,ac,bc,rfl,I3,hp]:=zz;have:=I3.la;have:=I3.lb;simp[og]at hp
     (rename_i z1;show#[(False.elim (lC .ff .l .W .a2 (.k (.a .aB .aF) .V) z1 this hp)),(.inl (False.elim (lC .ff .l .W .a2 (.k (.a .aB .aF) .V) z1 this hp)))])
    ·intro c cl zz;have#[g3,h3]:=zz;rcases h3 with ⟨r,t,rfl,hr⟩|⟨bv,pa,pb,mg,ac,bc,rfl,I3,hp⟩
     ·rw[dm];show cz #[g3,r,rfl,hr]
     ·rw[dm];apply cn (iY ?_);show cz #[g3.trans #[_,rfl],_,_,_,_,rfl,I3,by show x+1<pa+pb;(show um (.l .M .Q) .b (.l .A .X) (.l .X .Q) bt hp)]
 ·intro c bu zz;have#[g1,os,ia,ib,g,rfl,I,bt]:=zz;have:=I.la;have:=I.lb;simp[og]at bt
  (rename_i z1;show#[(False.elim (qt .ff .l .W .a2 (.l .aF .V) z1 this bt)),(False.elim (qt .ff .l .W .a2 (.l .aF .V) z1 this bt))])
 ·rintro ⟨r0,c⟩ bu ⟨g1,r,e,hr⟩;obtain rfl:r0=some r:=e;rw[ct];show cz (h _ _ g1 hr)
end
variable {xs as bs os:List Nat}{k na nb:Nat}
abbrev Rl (lt:Nat->Nat->Bool)(x y:Nat):Bool:=lt y x
section
variable {prog:Program}{w:World}{A:Around}{E:QqV}{s:Shared}{kd:SortKind}{n:Nat}{it:Nat->Keyed}{lt:Nat->Nat->Bool}
def LtT.rl (T:LtT lt):LtT (Rl lt):=#[λa b h=>T.asym b a h,λa b c h k=>T.tr c b a k h]
def Srt.rl (h:Srt (Rl lt) xs):Srt lt xs.reverse:=List.pairwise_reverse.mpr h
def Srt.NW (h:Srt lt xs):Srt (Rl lt) xs.reverse:=List.pairwise_reverse.mpr h
def pZ (xs:List Nat):(KA it xs).reverse=KA it xs.reverse:=by simp[KA]
def AK (xs:List Nat){i:Nat}(h:i<=k):(xs.take k).reverse=((xs.take k).drop i).reverse++(xs.take i).reverse:=by
 rw[<- List.reverse_append]
 congr 1
 have:=ek i (xs.take k);rw[List.take_take,eL h]at this;show this.symm
def dX (h0:0<k)(h:k<=xs.length):(xs.take k).reverse=[xs[k-1]'(by show fb .B .b .H .Z h (aa (fj .I .a .C h0)))]++(xs.take (k-1)).reverse:=by
 have e:xs.take k=xs.take (k-1)++[xs[k-1]'(by show fb .B .b .H .Z h (aa (fj .I .a .C h0)))]:=by
  have:=fg (l:=xs) (i:=k-1) (by show fb .B .b .H .Z h (aa (fj .I .a .C h0)));rw[<- this,aa h0]
 rw[e,List.reverse_append];rfl
structure MJ (lt:Nat->Nat->Bool)(as bs os:List Nat)(na nb:Nat):Prop where
 m:Mrg (Rl lt) (as++bs) os (bs.take nb).reverse (as.take na).reverse
 ha:0<na
 hal:na<=as.length
 hb:1<nb
 hbl:nb<=bs.length
def MJ.a0 (h:MJ lt as bs os na nb):na-1<as.length:=by have:=h.ha;have:=h.hal;(rename_i W;show fb .B .b .H .Z this (aa (fj .I .a .C W)))
def MJ.b0 (h:MJ lt as bs os na nb):nb-1<bs.length:=by have:=h.hb;have:=h.hbl;(rename_i W;show fb .B .b .H .Z this (aa (fj .I .a .a0 W)))
def Mrg.tkA (m:Mrg (Rl lt) (as++bs) os (bs.take nb).reverse (as.take na).reverse)(h0:0<na)(h:na<=as.length)(le:Le (Rl lt) (as[na-1]'(by show fb .B .b .H .Z h (aa (fj .I .a .C h0)))) (bs.take nb).reverse) :
  Mrg (Rl lt) (as++bs) (os++[as[na-1]'(by show fb .B .b .H .Z h (aa (fj .I .a .C h0)))]) (bs.take nb).reverse (as.take (na-1)).reverse:=by
 rw[dX h0 h]at m;show m.right λz hz=>by have rfl:=ah.mp hz;show le
def Mrg.tkB (m:Mrg (Rl lt) (as++bs) os (bs.take nb).reverse (as.take na).reverse)(h0:0<nb)(h:nb<=bs.length)(le:Le (Rl lt) (bs[nb-1]'(by show fb .B .b .H .Z h (aa (fj .I .a .C h0)))) (as.take na).reverse) :
  Mrg (Rl lt) (as++bs) (os++[bs[nb-1]'(by show fb .B .b .H .Z h (aa (fj .I .a .C h0)))]) (bs.take (nb-1)).reverse (as.take na).reverse:=by
 rw[dX h0 h]at m;show m.left λz hz=>by have rfl:=ah.mp hz;show le
def MJ.ER (T:LtT lt)(h:MJ lt as bs os na nb)(c:lt (bs[nb-1]'h.b0) (as[na-1]'h.a0)=true) :
  Mrg (Rl lt) (as++bs) (os++[as[na-1]'h.a0]) (bs.take nb).reverse (as.take (na-1)).reverse:=by
 apply h.m.tkA h.ha h.hal ?_;have sx:=h.m.sx;rw[dX (jk h.hb) h.hbl]at sx ⊢;show sx.le T.rl (T.asym _ _ c)
def MJ.EP (T:LtT lt)(h:MJ lt as bs os na nb)(c:lt (bs[nb-1]'h.b0) (as[na-1]'h.a0)=false) :
  Mrg (Rl lt) (as++bs) (os++[bs[nb-1]'h.b0]) (bs.take (nb-1)).reverse (as.take na).reverse:=by
 apply h.m.tkB (jk h.hb) h.hbl ?_;have sy:=h.m.sy;rw[dX h.ha h.hal]at sy ⊢;show sy.le T.rl c
def y5 {x:Nat}(h:x∈(xs.take k).reverse):∃j,j<k/\∃W:j<xs.length,x=xs[j]:=by
 have#[j,W,rfl]:=er.mp (qb.mp h);rw[et]at W;apply#[j,by show fb .B .b .G .H W (Ar.jt _ _).1,by show fb .B .b .G .H W (Ar.jt _ _).2.1,by simp]
def AW {i x:Nat}(h:x∈((xs.take k).drop i).reverse):∃j,i<=j/\j<k/\∃U:j<xs.length,x=xs[j]:=by
 have#[j,U,rfl]:=er.mp (qb.mp h);rw[gf,et]at U;apply#[i+j,by show cX .bX .i,by show Ar.sub _ _ (λO W=>(uu .J .e .S .bM (.e (.a .D .A) .F) U (Ar.jt _ _).1 W)) λO W=>(gp .J .c .S .aT U W),by show Ar.sub _ _ (λO W=>(uu .J .e .S .bM (.e (.a .D .A) .F) U (Ar.jt _ _).2.1 W)) λO W=>(gp .J .c .S .aT U W),by simp]
def C4 (O:Ora (model prog w) A s kd n it lt)(T:LtT lt){Q:Option Nat->SortSt->Prop}{st:SortSt}(hk:kindOf st=kd)(hn:∀x∈as++bs,x<n)(sa:Srt lt as)
  (m:Mrg (Rl lt) (as++bs) os (bs.take nb).reverse (as.take na).reverse) (ha:0<na) (W:na<=as.length) (hb:0<nb) (J:nb<=bs.length)
  (h:∀k,k<=na->Mrg (Rl lt) (as++bs) (os++((as.take na).drop k).reverse) (bs.take nb).reverse (as.take k).reverse->Le (Rl lt) (bs[nb-1]'(by show fb .B .b .H .Z J (aa (fj .I .a .C hb)))) (as.take k).reverse->Q (some k) st) :
  PyProof.Rows.wpS (model prog w) A E s (uy false (it (bs[nb-1]'(by show fb .B .b .H .Z J (aa (fj .I .a .C hb))))) (KA it as) 0 na (na-1)) Q st:=by
 have ar:nb-1<bs.length:=by(show fb .B .b .H .Z J (aa (fj .I .a .C hb)))
 have ap:∀{i},(hi:i<na)->as.getD i 0=as[i]'(by show fb .B .b .H .G W hi):=λ{i} hi=>by simp[List.getD,bb (show i<as.length by show fb .B .b .H .G W hi)]
 apply xg O (p:=λi=>as.getD i 0) (hn _ (dp _ (du _))) (by show az .B .a .a8 (aa (fj .I .a .C ha))) (λi hi=>?_) (λi=>!lt bs[nb-1] (as.getD i 0)) (λi hi=>rfl) (λi j aj U hb=>?_) hk λk ag h1 h2=>?_
 ·rw[ap hi];apply#[hn _ (dj _ (du _)),?_];rw[mw];show uh (by show fb .B .b .H .G W hi)
 ·rw[ap U]at hb;rw[ap (by show fb .B .b .K .L aj U)];have hb:lt bs[nb-1] (as[j]'(by show fb .B .b .H .G W U))=false:=by simpa using hb
  rcases jo aj with q|rfl
  ·rw[T.tr _ _ _ (sa.at (bz _) q (by show fb .B .b .H .G W U)) hb];rfl
  ·rw[hb];rfl
 ·apply h k ag ?_ λx hx=>?_
  ·have m':=m;rw[AK as ag]at m';apply m'.right λz hz=>?_;have#[j,U,ai,ao,rfl]:=AW hz;have:=h2 j U ai;rw[ap ai]at this;have sx:=m.sx;rw[dX hb J]at sx ⊢;show sx.le T.rl (T.asym _ _ (by simpa using this))
  ·have#[j,U,ai,rfl]:=y5 hx;have:=h1 j U;rw[ap (by show fb .B .b .H .G ag U)]at this;show lt _ _=false;simpa using this
def C3 (O:Ora (model prog w) A s kd n it lt)(T:LtT lt){Q:Option Nat->SortSt->Prop}{st:SortSt}(hk:kindOf st=kd)(hn:∀x∈as++bs,x<n)(sb:Srt lt bs)
  (m:Mrg (Rl lt) (as++bs) os (bs.take nb).reverse (as.take na).reverse) (ha:0<na) (J:na<=as.length) (hb:0<nb) (W:nb<=bs.length)
  (h:∀k,k<=nb->Mrg (Rl lt) (as++bs) (os++((bs.take nb).drop k).reverse) (bs.take k).reverse (as.take na).reverse->Le (Rl lt) (as[na-1]'(by show fb .B .b .H .Z J (aa (fj .I .a .C ha)))) (bs.take k).reverse->Q (some k) st) :
  PyProof.Rows.wpS (model prog w) A E s (uy true (it (as[na-1]'(by show fb .B .b .H .Z J (aa (fj .I .a .C ha))))) (KA it bs) 0 nb (nb-1)) Q st:=by
 have ar:na-1<as.length:=by(show fb .B .b .H .Z J (aa (fj .I .a .C ha)))
 have ap:∀{i},(hi:i<nb)->bs.getD i 0=bs[i]'(by show fb .B .b .H .G W hi):=λ{i} hi=>by simp[List.getD,bb (show i<bs.length by show fb .B .b .H .G W hi)]
 apply xg O (p:=λi=>bs.getD i 0) (hn _ (dj _ (du _))) (by show az .B .a .a8 (aa (fj .I .a .C hb))) (λi hi=>?_) (λi=>lt (bs.getD i 0) as[na-1]) (λi hi=>rfl) (λi j aj U hb=>?_) hk λk ag h1 h2=>?_
 ·rw[ap hi];apply#[hn _ (dp _ (du _)),?_];rw[mw];show uh (by show fb .B .b .H .G W hi)
 ·rw[ap U]at hb;rw[ap (by show fb .B .b .K .L aj U)];rcases jo aj with q|rfl
  ·cases e:lt (bs[i]'(by show qt .B .e .H .a9 .aV W aj U)) as[na-1] with
   |true=>rfl
   |false =>
    have:=T.tr _ _ _ e (sb.at (bz _) q (by show fb .B .b .H .G W U));rw[hb]at this;cases this
  ·show hb
 ·apply h k ag ?_ λx hx=>?_
  ·have m':=m;rw[AK bs ag]at m';apply m'.left λz hz=>?_;have#[j,U,ai,ao,rfl]:=AW hz;have:=h2 j U ai;rw[ap ai]at this;have sy:=m.sy;rw[dX ha J]at sy ⊢;show sy.le T.rl this
  ·have#[j,U,ai,rfl]:=y5 hx;have:=h1 j U;rw[ap (by show fb .B .b .H .G ag U)]at this;show T.asym _ _ this
def qi.hl (m:Mrg (Rl lt) (as++bs) os (bs.take nb).reverse (as.take na).reverse)(e:na=0) :
  qi it lt as bs ((KA it as).extract 0 na++(KA it bs).extract 0 nb++(KA it os).reverse):=by
 subst e;apply#[bs.take nb++os.reverse,?_,?_]
 ·rw[rt,rt,pZ,uo,uo];rfl
 ·have:=m.PN;have e:bs.take nb++os.reverse=(os++(bs.take nb).reverse).reverse:=by simp
  rw[e];apply#[(mz _).trans this.1,this.2.rl]
def qi.hd (m:Mrg (Rl lt) (as++bs) os (bs.take nb).reverse (as.take na).reverse)(e:nb=0) :
  qi it lt as bs ((KA it as).extract 0 na++(KA it bs).extract 0 nb++(KA it os).reverse):=by
 subst e;apply#[as.take na++os.reverse,?_,?_]
 ·rw[rt,rt,pZ,uo,uo];simp
 ·have:=m.M0 λy _ x W=>nomatch W;have e:as.take na++os.reverse=(os++(as.take na).reverse++(bs.take 0).reverse).reverse:=by simp
  rw[e];apply#[(mz _).trans this.1,this.2.rl]
def qi.hr (m:Mrg (Rl lt) (as++bs) os (bs.take nb).reverse (as.take na).reverse)(e:nb=1)(first:∀(h:0<bs.length),∀y∈as,lt y bs[0]=false) :
  qi it lt as bs ((KA it bs).extract 0 nb++(KA it as).extract 0 na++(KA it os).reverse):=by
 subst e;apply#[bs.take 1++as.take na++os.reverse,?_,?_]
 ·rw[rt,rt,pZ,uo,uo];rfl
 ·have:=m.M0 λy U x O=>by
   have#[j,J,W,rfl]:=y5 O;obtain rfl:j=0:=by(show fj .M .s .c0 J)
   show first W y (wg (qb.mp U))
  have e:bs.take 1++as.take na++os.reverse=(os++(as.take na).reverse++(bs.take 1).reverse).reverse:=by simp
  rw[e];apply#[(mz _).trans this.1,this.2.rl]
end
abbrev vQ:Array Keyed->Array Keyed->StateT SortSt Sem (Array Keyed):=sortPriv% PySem.Builtin.mergeHi
section
variable {prog:Program}{w:World}{A:Around}{E:QqV}{s:Shared}{kd:SortKind}{n:Nat}{it:Nat->Keyed}{lt:Nat->Nat->Bool}
def uM (O:Ora (model prog w) A s kd n it lt)(T:LtT lt){as bs:List Nat}{Q:Array Keyed->SortSt->Prop}{st:SortSt}(hk:kindOf st=kd)(hn:∀x∈as++bs,x<n)
  (sa:Srt lt as) (sb:Srt lt bs) (la:0<as.length) (lb:0<bs.length) (first:∀(h:0<bs.length),∀y∈as,lt y bs[0]=false) (last:lt (bs[bs.length-1]'(by show az .B .a .a8 (aa (fj .I .a .C lb)))) (as[as.length-1]'(by show az .B .a .a8 (aa (fj .I .a .C la))))=true)
  (h:∀r W,Gst st W->qi it lt as bs r->Q r W) :
  PyProof.Rows.wpS (model prog w) A E s (vQ (KA it as) (KA it bs)) Q st:=by
 unfold vQ;apply cn (wpS_lift (lq #[rfl,?_]));have eb:as.length-1<as.length:=by(show az .B .a .a8 (aa (fj .I .a .C la)))
 have za:=og (it:=it) as;have zb:=og (it:=it) bs;apply cn (ke (show(KA it as)[(KA it as).size-1]?=some (it as[as.length-1]) by rw[za];show uh eb) ?_);have m0:Mrg (Rl lt) (as++bs) [as[as.length-1]] (bs.take bs.length).reverse (as.take (as.length-1)).reverse:=by
  have base:Mrg (Rl lt) (as++bs) [] (bs.take bs.length).reverse (as.take as.length).reverse:=by
   rw[gv,gv];show {perm:=List.Perm.trans (List.perm_append_comm (l₁:=[]++bs.reverse)) (List.Perm.append (mz _) (mz _)),so:=.nil,sx:=sb.NW,sy:=sa.NW,ax:=λo ho=>(nomatch ho),ay:=λo ho=>(nomatch ho)}
  apply base.tkA la (av _) ?_;have sx:=base.sx;rw[dX lb (av _)]at sx ⊢;show sx.le T.rl (T.asym _ _ last)
 have m1:Mrg (Rl lt) (as++bs) [as[as.length-1]] (bs.take (KA it bs).size).reverse (as.take ((KA it as).size-1)).reverse:=by rw[za,zb];show m0
 by_cases c1:((KA it as).size-1==0)=true
 ·show dz c1 (cz (h _ _ (.refl _) (qi.hl m1 (fq.mp c1))))
 apply dq c1 ?_;by_cases c2:((KA it bs).size==1)=true
 ·show dz c2 (cz (h _ _ (.refl _) (qi.hr m1 (fq.mp c2) first)))
 apply dq c2 ?_;apply cn (uJ ?_);have i0:MJ lt as bs [as[as.length-1]] ((KA it as).size-1) (KA it bs).size:=by
  have dr:(KA it as).size-1≠0:=λq=>c1 (fq.mpr q);have ec:(KA it bs).size≠1:=λq=>c2 (fq.mpr q);apply#[m1,by show(au dr).elim (λq1=>(fj .C .k .b3 q1)) λq1=>(fj .C .a .C q1),by show fb .A .b (.e .C .B) .Z za (aa (jc .I .d .V .D la za)),by show(au dr).elim (λq1=>(az .a0 .k (.l .B .O) q1)) λq1=>((au ec).elim (λq2=>(PW .a0 [[0,1,-1,1]] .V .D .c0 lb zb q2)) λq2=>(fj .a0 .a .a0 q2)),by show az .A .a .D zb]
 generalize gallopOf st=g0;apply yw λk1 bv=>(nk (rh (I:=λx c W=>Gst st W/\∃os ia ib g,c=(none,ia,ib,KA it os,g)/\MJ lt as bs os ia ib/\x+ia+ib<=as.length+bs.length)
  (Q:=λc W=>Gst st W/\∃r,c.1=some r/\qi it lt as bs r) (λf1 ea=>?_) ?_ #[.refl _,_,_,_,_,rfl,i0,by show uu (.k (.a (.a .O .A) .B) .R) .e (.e .F .C) (.e .B .D) (.e .M .F) za zb (aa (jc .I .d .V .D la za))]) ?_)
 ·intro x c cb _ hx zz;have#[g1,os,ia,ib,g,rfl,I,aj]:=zz;rw[ea];apply yw λk2 bl=>(nk (rh (I:=λ_ c W=>W=cb/\∃os z J ac bc,c=(none,z,J,KA it os,ac,bc)/\MJ lt as bs os z J/\z+J<=ia+ib)
   (Q:=λc W=>W=cb/\((∃r t,c=(some r,t)/\qi it lt as bs r)\/∃os z J ac bc,c=(none,z,J,KA it os,ac,bc)/\MJ lt as bs os z J/\z+J<=ia+ib)) (λf2 dV=>?_) ?_ #[rfl,_,_,_,_,_,rfl,I,av _]) ?_)
  ·intro y c cM _ hy zz;have#[rfl,os,z,J,ac,bc,rfl,I,be]:=zz;rw[dV];have na:as[z-1]'I.a0<n:=hn _ (dj _ (du _));have nb:bs[J-1]'I.b0<n:=hn _ (dp _ (du _));apply cn (ke (uh I.b0) ?_);apply cn (ke (uh I.a0) ?_);apply cn (iZ O (g1.kind.trans hk) nb na ?_);cases hc:lt (bs[J-1]'I.b0) (as[z-1]'I.a0) with
   |true =>
    apply cn (ke (uh I.a0) ?_);have m:=I.ER T hc;rw[cL];by_cases e:(z-1==0)=true
    ·show dz e (cz #[rfl,.inl #[_,_,rfl,qi.hl m (fq.mp e)]])
    ·apply dq e ?_;have I2:MJ lt as bs (os++[as[z-1]'I.a0]) (z-1) J:=#[m,by have:=I.ha;have:z-1≠0:=λq=>e (fq.mpr q);(rename_i z1;show(au this).elim (λq1=>(fj .C .k .b3 q1)) λq1=>(fj .C .a .C q1)),by have:=I.hal;(show fb .A .b .H .K this (oz _ _)),I.hb,I.hbl];split
     ·show cz #[rfl,.inr #[_,z-1,J,_,_,rfl,I2,by show um .bD .b (.k (.a .F .B) .R) (.k .A .F) be (oz _ _)]]
     ·show cz #[rfl,_,z-1,J,_,_,rfl,I2,by show um .bD .b (.k (.a .F .B) .R) (.k .A .F) be (oz _ _)]
   |false =>
    apply cn (ke (uh I.b0) ?_);have m:=I.EP T hc;rw[cL];by_cases e:(J-1==1)=true
    ·show dz e (cz #[rfl,.inl #[_,_,rfl,qi.hr m (fq.mp e) first]])
    ·apply dq e ?_;have I2:MJ lt as bs (os++[bs[J-1]'I.b0]) z (J-1):=#[m,I.ha,I.hal,by have:=I.hb;have:J-1≠1:=λq=>e (fq.mpr q);(rename_i z1;show(au this).elim (λq1=>(PW .a0 [[0,1,-1,1]] (.l .U .B) .a8 .c0 z1 (aa (fj .I .a .a0 z1)) q1)) λq1=>(fj .a0 .a .a0 q1)),by have:=I.hbl;(show fb .A .b .H .K this (oz _ _))];split
     ·show cz #[rfl,.inr #[_,z,J-1,_,_,rfl,I2,by show um .bD .b (.k .aL .R) (.k .B .F) be (oz _ _)]]
     ·show cz #[rfl,_,z,J-1,_,_,rfl,I2,by show um .bD .b (.k .aL .R) (.k .B .F) be (oz _ _)]
  ·intro c cM zz;have#[rfl,h2]:=zz;apply#[rfl,.inr h2]
  ·intro c cM zz;have#[rfl,h2]:=zz;rcases h2 with ⟨r,t,rfl,hr⟩|⟨ed,z,J,ac,bc,rfl,I2,be⟩
   ·rw[bl];show cz #[g1,r,rfl,hr]
   ·rw[bl];apply cn (wpS_lift (lq #[rfl,?_]));apply yw λk3 dn=>(nk (rh (I:=λx c W=>Gst st W/\∃os z J g ac bc,c=(none,z,J,KA it os,g,ac,bc)/\MJ lt as bs os z J/\x+z+J<=ia+ib)
     (Q:=λc W=>Gst st W/\((∃r t,c=(some r,t)/\qi it lt as bs r)\/∃os z J g ac bc,c=(none,z,J,KA it os,g,ac,bc)/\MJ lt as bs os z J/\z+J<ia+ib)) (λf3 dL=>?_) ?_ #[g1,_,z,J,_,_,_,rfl,I2,by show mW (.k (.a (.a .O .A) .B) .R) .a .bD be]) ?_)
    ·intro y c ct _ hy zz;have#[g3,cd,pa,pb,mg,ac,bc,rfl,I3,hp]:=zz;rw[dL];dsimp -zeta only
     extract_lets s1 a1 s2 b1 s3 o1 s4 m1 s5 ac1 bc1 nb1 jp m2
     have key:∀g' (R:_->SortSt->Prop),(∀r t W,Gst st W->qi it lt as bs r->R (.done (some r,t)) W)->(∀os z J g ac bc W,Gst st W->MJ lt as bs os z J->z+J<pa+pb->R (.done (none,z,J,KA it os,g,ac,bc)) W) ->
       (∀os z J g ac bc W,Gst st W->MJ lt as bs os z J->z+J<pa+pb->R (.yield (none,z,J,KA it os,g,ac,bc)) W)->PyProof.Rows.wpS (model prog w) A E s (jp () g') R ct:=λg' R rE rD rY=>by
      apply cn (uK λar q4=>?_);have g4:=g3.trans q4;have dm:=g4.kind.trans hk;apply cn (ke (uh I3.b0) ?_);have bd:=jk I3.hb;have G:PyProof.Rows.wpS (model prog w) A E s (uy false (it (bs[pb-1]'I3.b0)) (KA it as) 0 pa (pa-1)) (λr W=>W=ar/\∃k,r=some k/\k<=pa/\Mrg (Rl lt) (as++bs) (cd++((as.take pa).drop k).reverse) (bs.take pb).reverse (as.take k).reverse/\Le (Rl lt) (bs[pb-1]'I3.b0) (as.take k).reverse) ar:=
       C4 O T dm hn sa I3.m I3.ha I3.hal bd I3.hbl λk h1 h2 h3=>#[rfl,k,rfl,h1,h2,h3]
      apply cn (nk G ?_);intro _ dv zz;have#[e5,k,rfl,bv,mA,da]:=zz;rw[e5];dsimp -zeta only
      extract_lets kk acount jp2 o2 na2
      have ck:∀bn ag,Mrg (Rl lt) (as++bs) bn (bs.take pb).reverse (as.take ag).reverse->0<ag->ag<=pa->Le (Rl lt) (bs[pb-1]'I3.b0) (as.take ag).reverse->PyProof.Rows.wpS (model prog w) A E s (jp2 () ag (KA it bn)) R ar:=λbn ag m' bp bu dy=>by
       have ca:ag<=as.length:=jf bu I3.hal;apply cn (ke (uh I3.b0) ?_);rw[cL];have mB:=m'.tkB bd I3.hbl dy;by_cases q1:(pb-1==1)=true
       ·show dz q1 (cz (rE _ _ _ g4 (qi.hr mB (fq.mp q1) first)))
       ·apply dq q1 ?_;have df:1<pb-1:=by have:=I3.hb;have:pb-1≠1:=λq=>q1 (fq.mpr q);(rename_i z1;show(au this).elim (λq1=>(PW .a0 [[0,1,-1,1]] (.l .U .B) .a8 .c0 z1 (aa (fj .I .a .C bd)) q1)) λq1=>(fj .a0 .a .a0 q1))
        have cl:pb-1<=bs.length:=by have:=I3.hbl;(show fb .A .b .H .Z this (aa (fj .I .a .C bd)))
        have cx:ag-1<as.length:=by(show fb .B .b .H .Z ca (aa (fj .I .a .C bp)))
        apply cn (ke (uh cx) ?_);have G:PyProof.Rows.wpS (model prog w) A E s (uy true (it as[ag-1]) (KA it bs) 0 (pb-1) (pb-1-1)) (λr W=>W=ar/\∃k,r=some k/\k<=pb-1/\Mrg (Rl lt) (as++bs) ((bn++[bs[pb-1]'I3.b0])++((bs.take (pb-1)).drop k).reverse) (bs.take k).reverse (as.take ag).reverse/\Le (Rl lt) as[ag-1] (bs.take k).reverse) ar:=
         C3 O T dm hn sb mB bp ca (jk df) cl λk h1 h2 h3=>#[rfl,k,rfl,h1,h2,h3]
        apply cn (nk G ?_);intro _ dv zz;have#[e5,k2,rfl,bl,mC,cS]:=zz;rw[e5];dsimp -zeta only
        extract_lets kk2 bcount na3 jp3 o3 b3
        have ch:∀ao ai,Mrg (Rl lt) (as++bs) ao (bs.take ai).reverse (as.take ag).reverse->1<ai->ai<=pb-1->Le (Rl lt) as[ag-1] (bs.take ai).reverse->PyProof.Rows.wpS (model prog w) A E s (jp3 () ai (KA it ao)) R ar:=λao ai mD dc bt dx=>by
         apply cn (ke (uh cx) ?_);rw[cL];have mE:=mD.tkA bp ca dx;by_cases q2:(ag-1==0)=true
         ·show dz q2 (cz (rE _ _ _ g4 (qi.hl mE (fq.mp q2))))
         ·apply dq q2 ?_;have I4:MJ lt as bs (ao++[as[ag-1]]) (ag-1) ai:=#[mE,by have:ag-1≠0:=λq=>q2 (fq.mpr q);(show(au this).elim (λq1=>(fj .C .k .b3 q1)) λq1=>(fj .C .a .C q1)),by show az .A .a .B cx,dc,by show fb .A .b .H .K cl bt];by_cases q3:(decide (acount<7)&&decide (bcount<7))=true
          ·show dz q3 (cz (rD _ (ag-1) ai _ _ _ _ g4 I4 (by show jP (.l .L .R) .w .bM (.k .B .G) (.e .aA .D) (.e .M .F) bu bt (aa (fj .I .a .C bd)) (aa (fj .I .a .C bp)))))
          ·show dq q3 (cz (rY _ (ag-1) ai _ _ _ _ g4 I4 (by show jP (.l .L .R) .w .bM (.k .B .G) (.e .aA .D) (.e .M .F) bu bt (aa (fj .I .a .C bd)) (aa (fj .I .a .C bp)))))
        by_cases q4:pb-1-k2>0
        ·apply dz q4 ?_;have eo:o3=KA it (bn++[bs[pb-1]'I3.b0]++((bs.take (pb-1)).drop k2).reverse):=by
          show KA it _++((KA it bs).extract k2 (pb-1)).reverse=_;rw[rt,pZ,uo]
         rw[eo];by_cases q5:(k2==1)=true
         ·show dz q5 (cz (rE _ _ _ g4 (qi.hr mC (fq.mp q5) first)))
         ·apply dq q5 ?_;by_cases q6:(k2==0)=true
          ·show dz q6 (cz (rE _ _ _ g4 (qi.hd mC (fq.mp q6))))
          ·show dq q6 (ch _ k2 mC (by have:k2≠1:=λq=>q5 (fq.mpr q);have:k2≠0:=λq=>q6 (fq.mpr q);(rename_i z1;show(au z1).elim (λq1=>((au this).elim (λq2=>(fj .a0 .k .b3 q2)) λq2=>(uB .a0 .c .c0 .C q1 q2))) λq1=>(fj .a0 .a .a0 q1))) bl cS)
        ·apply dq q4 ?_;obtain rfl:k2=pb-1:=by(show sd .D [[1,0,1,-1],[1,1,0,0]] .A (.g .O .C) .aF bl q4 (aa (az .A .a .A bl)))
         show ch _ (pb-1) mB df (av _) cS
      by_cases q4:pa-k>0
      ·apply dz q4 ?_;have eo:o2=KA it (cd++((as.take pa).drop k).reverse):=by
        show KA it _++((KA it as).extract k pa).reverse=_;rw[rt,pZ,uo]
       rw[eo];by_cases q5:(k==0)=true
       ·show dz q5 (cz (rE _ _ _ g4 (qi.hl mA (fq.mp q5))))
       ·show dq q5 (ck _ k mA (by have:k≠0:=λq=>q5 (fq.mpr q);(show(au this).elim (λq1=>(fj .C .k .b3 q1)) λq1=>(fj .C .a .C q1))) bv da)
      ·apply dq q4 ?_;obtain rfl:k=pa:=by(show sd .D [[1,0,1,-1],[1,1,0,0]] .A (.g .O .C) .aF bv q4 (aa (az .A .a .A bv)))
       show ck _ k I3.m I3.ha (av _) da
     split
     ·apply key _ _ ?_ ?_ ?_
      ·intro r t W g hr;apply#[g,.inl #[r,t,rfl,hr]]
      ·intro os z J g ac bc W q I hl;apply#[q,.inr #[_,_,_,_,_,_,rfl,I,by show uA (.l .L .R) .b (.k (.a .aB .H) .R) (.l .L .a7) hp hl]]
      ·intro os z J g ac bc W q I hl;apply#[q,_,_,_,_,_,_,rfl,I,by show uA (.k (.a .a2 .C) .X) .b .c9 (.l .Q .a7) hp hl]
     ·apply key _ _ ?_ ?_ ?_
      ·intro r t W g hr;apply#[g,.inl #[r,t,rfl,hr]]
      ·intro os z J g ac bc W q I hl;apply#[q,.inr #[_,_,_,_,_,_,rfl,I,by show uA (.l .L .R) .b (.k (.a .aB .H) .R) (.l .L .a7) hp hl]]
      ·intro os z J g ac bc W q I hl;apply#[q,_,_,_,_,_,_,rfl,I,by show uA (.k (.a .a2 .C) .X) .b .c9 (.l .Q .a7) hp hl]
    ·intro c ct zz;have#[g3,cd,pa,pb,mg,ac,bc,rfl,I3,hp]:=zz;have:=I3.ha;have:=I3.hb;have:=I.hal;have:=I.hbl;simp[og]at hp
     (rename_i z2 z1;show#[(False.elim (MM .ff .l (.k (.a .L .C) .X) (.l .U .G) (.k (.a (.a .X .H) .G) .Q) aj z2 hp)),(.inl (False.elim (MM .ff .l (.k (.a .L .C) .X) (.l .U .G) (.k (.a (.a .X .H) .G) .Q) aj z2 hp)))])
    ·intro c ct zz;have#[g3,h3]:=zz;rcases h3 with ⟨r,t,rfl,hr⟩|⟨cd,pa,pb,mg,ac,bc,rfl,I3,hp⟩
     ·rw[dn];show cz #[g3,r,rfl,hr]
     ·rw[dn];apply cn (iY ?_);show cz #[g3.trans #[_,rfl],_,_,_,_,rfl,I3,by show x+1+pa+pb<=_;(show uA (.k (.a .a2 .C) .X) .b .c9 (.l .Q .a7) aj hp)]
 ·intro c cb zz;have#[g1,os,ia,ib,g,rfl,I,aj]:=zz;have:=I.ha;have:=I.hb;simp[og]at aj
  (show#[(False.elim (gp .ff .c .a0 (.k (.a (.a .Q .D) .A) .Q) this aj)),(False.elim (gp .ff .c .a0 (.k (.a (.a .Q .D) .A) .Q) this aj))])
 ·rintro ⟨r0,c⟩ cb ⟨g1,r,e,hr⟩;obtain rfl:r0=some r:=e;rw[bv];show cz (h _ _ g1 hr)
end
variable {st:SortSt}{pend:Array (Nat×Nat×Nat)}
abbrev oF:Nat->StateT SortSt Sem Bool:=sortPriv% PySem.Builtin.mergeAt
section
variable {prog:Program}{w:World}{A:Around}{E:QqV}{s:Shared}{kd:SortKind}{n:Nat}{it:Nat->Keyed}{lt:Nat->Nat->Bool}
structure SI (kd:SortKind)(it:Nat->Keyed)(st:SortSt)(os:List Nat)(pend:Array (Nat×Nat×Nat)):Prop where
 k:kindOf st=kd
 a:arrOf st=KA it os
 p:pendingOf st=pend
 f:failedOf st=none
def yd (xs:List Nat)(i:Nat):(KA it xs)[i]?=xs[i]?.map it:=by simp[KA]
def vG (U:Nat):∀(ms:List Keyed) (k:Nat) (pre ys post:List Keyed),pre.length=U+k->ys.length=ms.length ->
  (ms.zipIdx k).foldl (λ(a:Array Keyed) (x:Keyed×Nat)=>match x with|(p,j)=>a.setIfInBounds (U+j) p) (pre++(ys++post)).toArray=(pre++(ms++post)).toArray
 | [],k,pre,ys,post,_,W=>by
  obtain rfl:ys=[]:=ui W;rfl
 |m::ms,k,pre,[],post,_,W=>by cases W
 |m::ms,k,pre,y::ys,post,O,W=>by
  rw[List.zipIdx_cons,List.foldl_cons];have e:(match (m,k) with|(p,j)=>(pre++(y::ys++post)).toArray.setIfInBounds (U+j) p)=((pre++[m])++(ys++post)).toArray:=by
   dsimp only;rw[<- O];simp
  rw[e,vG U ms (k+1) (pre++[m]) ys post (by simp[O];(show cX (.e .aD .a4) .n)) (by simpa using W)];simp
def J3 {W:SortSt}{Q:PUnit->SortSt->Prop}(h:Q #[] W):PyProof.Rows.wpS (model prog w) A E s (set W:StateT SortSt Sem PUnit) Q st:=by
 unfold PyProof.Rows.wpS;show ae #[rfl,h]
def C2 {os:List Nat}{U:Array (Nat×Nat×Nat)}{Q:PUnit->SortSt->Prop}(I:SI kd it st os pend)(h:∀W,SI kd it W os U->Q #[] W) :
  PyProof.Rows.wpS (model prog w) A E s (set (SortSt.mk' (kindOf st) (arrOf st) U (gallopOf st) (failedOf st)):StateT SortSt Sem PUnit) Q st:=J3 (h _ #[I.k,I.a,rfl,I.f])
def Gst.si {W:SortSt}(g:Gst st W){os:List Nat}(I:SI kd it st os pend):SI kd it W os pend:=by
 have#[g,rfl]:=g;apply#[I.k,I.a,I.p,I.f]
def uN (O:Ora (model prog w) A s kd n it lt)(T:LtT lt){pre as bs post:List Nat}{i pa pb:Nat}{Q:Bool->SortSt->Prop}(I:SI kd it st (pre++(as++(bs++post))) pend)
  (hn:∀x∈pre++(as++(bs++post)),x<n) (sa:Srt lt as) (sb:Srt lt bs) (la:0<as.length) (lb:0<bs.length)
  (h1:pend[i]?=some (pre.length,as.length,pa)) (h2:pend[i+1]?=some (pre.length+as.length,bs.length,pb))
  (h:∀cs ag,cs.Perm (as++bs)->Srt lt cs->SI kd it ag (pre++(cs++post)) ((pend.setIfInBounds i (pre.length,as.length+bs.length,pa)).eraseIdxIfInBounds (i+1))->Q true ag) :
  PyProof.Rows.wpS (model prog w) A E s (oF i) Q st:=by
 unfold oF;apply cn (uJ ?_);rw[show(sortPriv% PySem.Builtin.SortState.pending) st=pend from I.p,h1,h2];apply cn (C2 I λao I1=>?_);rw[show(sortPriv% PySem.Builtin.SortState.a) st=KA it (pre++(as++(bs++post))) from I.a];generalize he:pre++(as++(bs++post))=os at hn I I1 ⊢;have atA:∀{j} (h:j<as.length),(KA it os)[pre.length+j]?=some (it as[j]):=λ{j} hj=>by
  subst he;rw[yd,ic (oh _ _),tg,ew hj,bb hj];rfl
 have atB:∀{j} (h:j<bs.length),(KA it os)[pre.length+as.length+j]?=some (it bs[j]):=λ{j} hj=>by
  subst he;rw[yd,iW,ic (oh _ _),tg,ic (oh _ _),tg,ew hj,bb hj];rfl
 have bc:∀x∈as,x<n:=λx W=>hn x (by subst he;simp[W]);have ay:∀x∈bs,x<n:=λx W=>hn x (by subst he;simp[W]);have ap:∀{i},(hi:i<as.length)->as.getD i 0=as[i]'(by show az .B .a .B hi):=λ{i} hi=>by simp[List.getD,bb (show i<as.length by show az .B .a .B hi)]
 have bp:∀{i},(hi:i<bs.length)->bs.getD i 0=bs[i]'(by show az .B .a .B hi):=λ{i} hi=>by simp[List.getD,bb (show i<bs.length by show az .B .a .B hi)]
 apply cn (ke (x:=it bs[0]) (atB lb) ?_);have G:PyProof.Rows.wpS (model prog w) A E s (uy false (it bs[0]) (KA it os) pre.length as.length 0) (λr ag=>ag=ao/\∃k,r=some k/\k<=as.length/\(∀x∈as.take k,lt bs[0] x=false)/\∀x∈as.drop k,lt bs[0] x=true) ao:=by
  apply xg O (p:=λi=>as.getD i 0) (ay _ (du _)) la (λi hi=>?_) (λi=>!lt bs[0] (as.getD i 0)) (λi hi=>rfl) (λi j aj hj hb=>?_) I1.k λk ai h1 h2=>#[rfl,k,rfl,ai,λx W=>?_,λx W=>?_]
  ·rw[ap hi];apply#[bc _ (du _),atA hi]
  ·rw[ap hj]at hb;rw[ap (by show fb .B .b .K .L aj hj)];have hb:lt bs[0] (as[j]'(by show az .B .a .B hj))=false:=by simpa using hb
   rcases jo aj with q|rfl
   ·rw[T.tr _ _ _ (sa.at (bz _) q (by show az .B .a .B hj)) hb];rfl
   ·rw[hb];rfl
  ·have#[j,hj,rfl]:=er.mp W;rw[et]at hj;have:=h1 j (by show fb .B .b .G .H hj (Ar.jt _ _).1);rw[ap (by show fb .B .b .G .H hj (Ar.jt _ _).2.1)]at this;simpa using this
  ·have#[j,hj,rfl]:=er.mp W;rw[gf]at hj;have:=h2 (k+j) (by show cX .bX .i) (by show gp .J .b .S .O hj (aa (az .A .a .A ai)));rw[ap (by show gp .J .b .S .O hj (aa (az .A .a .A ai)))]at this;simpa using this
 apply cn (nk G ?_);intro _ ca zz;have#[e2,k,rfl,bd,ck,bt]:=zz;rw[e2];have bu:∀x∈bs,lt x bs[0]=false:=λx W=>by
  have#[j,hj,rfl]:=er.mp W;rcases gF j with rfl|q
  ·cases e:lt bs[0] bs[0] with
   |false=>rfl
   |true=>have:=T.asym _ _ e;rw[e]at this;cases this
  ·show sb.at (bz _) q hj
 have all1:∀x∈as.take k,Le lt x bs:=λx W y hy=>T.tr _ _ _ (ck x W) (bu y hy);dsimp -zeta only;by_cases q1:(as.length-k==0)=true
 ·apply dz q1 (cz (h (as++bs) _ (List.Perm.refl _) ?_ ?_))
  ·have:=fq.mp q1;obtain rfl:k=as.length:=by(show fb .D .z .b1 .aF this (aa (az .A .a .A bd)))
   rw[gv]at all1;show sa.app sb all1
  ·rw[bg,he];show I1
 apply dq q1 ?_;have ar:k<as.length:=by have:as.length-k≠0:=λq=>q1 (fq.mpr q);(show(au this).elim (λq1=>(gz .B .k (.l .C .O) q1)) λq1=>(fb .B .b .aF .a5 (aa (az .A .a .A bd)) q1))
 have hL:as.length-1<as.length:=by(show az .B .a .a8 (aa (fj .I .a .C la)))
 apply cn (ke (x:=it as[as.length-1]) (by rw[show pre.length+k+(as.length-k)-1=pre.length+(as.length-1) by(show Ar.sub _ _ (λq1 p1=>(Ar.sub _ _ (λq2 p2=>(lC .aG .x (.e .S .D) (.e .aB .D) (.e .M (.a (.a .B .G) .F)) (aa (fj .I .a .C la)) p1 p2)) λq2 p2=>(jP .aG [[1,1,-1,1,0],[1,0,0,0,1]] (.e .S .D) (.e .aB .D) (.k (.a (.a .B .G) .F) .U) .M (aa (fj .I .a .C la)) p1 q2 p2))) λq1 p1=>(um .aG .p (.l .D .F) (.k .F .D) ar q1))];show atA hL) ?_);have G:PyProof.Rows.wpS (model prog w) A E s (uy true (it as[as.length-1]) (KA it os) (pre.length+as.length) bs.length (bs.length-1)) (λr ag=>ag=ao/\∃k,r=some k/\k<=bs.length/\(∀x∈bs.take k,lt x as[as.length-1]=true)/\∀x∈bs.drop k,lt x as[as.length-1]=false) ao:=by
  apply xg O (p:=λi=>bs.getD i 0) (bc _ (du _)) (by show az .B .a .a8 (aa (fj .I .a .C lb))) (λi hi=>?_) (λi=>lt (bs.getD i 0) as[as.length-1]) (λi hi=>rfl) (λi j aj hj hb=>?_) I1.k λk ai h1 h2=>#[rfl,k,rfl,ai,λx W=>?_,λx W=>?_]
  ·rw[bp hi];apply#[ay _ (du _),atB hi]
  ·rw[bp hj]at hb;rw[bp (by show fb .B .b .K .L aj hj)];rcases jo aj with q|rfl
   ·cases e:lt (bs[i]'(by show fb .B .b .K .L aj hj)) as[as.length-1] with
    |true=>rfl
    |false =>
     have:=T.tr _ _ _ e (sb.at (bz _) q (by show az .B .a .B hj));rw[hb]at this;cases this
   ·show hb
  ·have#[j,hj,rfl]:=er.mp W;rw[et]at hj;have:=h1 j (by show fb .B .b .G .H hj (Ar.jt _ _).1);rw[bp (by show fb .B .b .G .H hj (Ar.jt _ _).2.1)]at this;simpa using this
  ·have#[j,hj,rfl]:=er.mp W;rw[gf]at hj;have:=h2 (k+j) (by show cX .bX .i) (by show gp .J .b .S .O hj (aa (az .A .a .A ai)));rw[bp (by show gp .J .b .S .O hj (aa (az .A .a .A ai)))]at this;simpa using this
 apply cn (nk G ?_);intro _ ca zz;have#[e2,k2,rfl,cd,bn,ch]:=zz;rw[e2];have bv:∀x∈as,lt as[as.length-1] x=false:=λx W=>by
  have#[j,hj,rfl]:=er.mp W;rcases my j (as.length-1) with q|q
  ·show sa.at (bz _) q hL
  ·obtain rfl:j=as.length-1:=by(show sd .D [[1,0,1,0],[1,1,0,-1]] .G .Y (.e .P .C) hj q (aa (fj .I .a .C la)))
   cases e:lt as[as.length-1] as[as.length-1] with
   |false=>rfl
   |true=>have:=T.asym _ _ e;rw[e]at this;cases this
 have all2:∀x∈as,Le lt x (bs.drop k2):=λx W y hy=>T.tr _ _ _ (bv x W) (ch y hy);dsimp -zeta only;by_cases q2:(k2==0)=true
 ·apply dz q2 (cz (h (as++bs) _ (List.Perm.refl _) ?_ ?_))
  ·have:=fq.mp q2;subst this;show sa.app sb all2
  ·rw[bg,he];show I1
 apply dq q2 ?_;have cb:0<k2:=by have:k2≠0:=λq=>q2 (fq.mpr q);(show(au this).elim (λq1=>(fj .C .k .b3 q1)) λq1=>(fj .C .a .C q1))
 rw[rt,rt];have eA:(os.take (pre.length+as.length)).drop (pre.length+k)=as.drop k:=by
  subst he;rw[<- bg,List.take_left' (by simp),<- List.drop_drop,List.drop_left]
 have eB:(os.take (pre.length+as.length+k2)).drop (pre.length+as.length)=bs.take k2:=by
  subst he;rw[<- bg,show pre.length+as.length=(pre++as).length by simp,List.take_length_add_append,List.drop_left,List.take_append_of_le_length cd]
 rw[eA,eB]
 extract_lets x y jp
 have key:∀r ag,Gst ao ag->qi it lt (as.drop k) (bs.take k2) r->PyProof.Rows.wpS (model prog w) A E s (jp r) Q ag:=λr ag g hr=>by
  have#[ms,rfl,pm,sm]:=hr;have I3:=g.si I1;have hA:=ou.mp (show Srt lt (as.take k++as.drop k) by rw[ek];show sa);have hB:=ou.mp (show Srt lt (bs.take k2++bs.drop k2) by rw[ek];show sb);have e1:as.take k++(as.drop k++bs.take k2)++bs.drop k2=as++bs:=by
   rw[<- bg,ek,bg,ek]
  have ef:(KA it ms).toList.zipIdx.foldl (λ(a:Array Keyed) (x:Keyed×Nat)=>match x with|(p,j)=>a.setIfInBounds (pre.length+k+j) p) (arrOf ag)=KA it (pre++((as.take k++ms++bs.drop k2)++post)):=by
   have eo:os=(pre++as.take k)++((as.drop k++bs.take k2)++(bs.drop k2++post)):=by
    have:os=pre++((as++bs)++post):=by rw[<- he,bg as]
    rw[this,<- e1];simp only[bg]
   have:=vG (pre.length+k) (ms.map it) 0 ((pre++as.take k).map it) ((as.drop k++bs.take k2).map it) ((bs.drop k2++post).map it) (by simp;(show(Ar.jt _ _).2.2.elim (λq1=>(jc .D .f .A .Y (Ar.jt _ _).1 q1)) λq1=>(sd .D .h .aD .A .aL ar (Ar.jt _ _).1 q1))) (by simpa using pm.length_eq.symm);rw[<- gk,<- gk,<- eo,<- gk,<- gk]at this;rw[I3.a];apply Eq.trans this ?_;simp only[bg];rfl
  apply cn (iY ?_);apply cn (uJ ?_);apply cz ?_;rw[show(failedOf ag).isNone=true by rw[I3.f];rfl];apply h (as.take k++ms++bs.drop k2) _ ?_ ?_ #[I3.k,ef,I3.p,I3.f]
  ·apply((pm.append_left _).append_right _).trans ?_;rw[e1]
  ·apply Srt.app (Srt.app hA.1 sm λx W y hy=>?_) hB.2.1 λx W=>?_
   ·rcases dh.mp (pm.mem_iff.mp hy) with hy|hy
    ·show hA.2.2 x W y hy
    ·show all1 x W y (wg hy)
   ·rcases dh.mp W with W|W
    ·show all2 x (wg W)
    ·rcases dh.mp (pm.mem_iff.mp W) with W|W
     ·show all2 x (dT W)
     ·show hB.2.2 x W
 have be:∀x∈as.drop k++bs.take k2,x<n:=λx W=>by
  rcases dh.mp W with W|W
  ·show bc _ (dT W)
  ·show ay _ (wg W)
 have ax:0<(as.drop k).length:=by rw[gf];(show fb .C .d .aD .X ar (aa (az .A .a .A bd)))
 have bl:0<(bs.take k2).length:=by rw[et];(show(Ar.jt _ _).2.2.elim (λq1=>(jc .C .b .V .Y cb q1)) λq1=>(jc .C .b .V .Y lb q1))
 have b0:(bs.take k2)[0]=bs[0]:=nh;have al:(as.drop k)[(as.drop k).length-1]'(by show az .B .a .a8 (aa (fj .I .a .C ax)))=as[as.length-1]:=by
  rw[i8]
  congr 1
  rw[gf];(show Ar.sub _ _ (λq1 p1=>(Ar.sub _ _ (λq2 p2=>(uu .X .x (.e .S .D) (.e (.a .F .A) .D) (.e .P .F) (aa (fj .I .a .C la)) p1 p2)) λq2 p2=>(IT .X [[1,0,1,-1,1,0],[1,1,-1,0,0,1]] (.l .A .D) (.e .S .D) (.e (.a .F .A) .D) (.k .F .U) .b4 ar (aa (fj .I .a .C la)) p1 q2 p2))) λq1 p1=>(qt .X [[1,0,1,1],[0,1,0,1]] (.l .A .D) (.e .S .D) (.k .D .A) ar (aa (fj .I .a .C la)) q1))
 split
 ·apply cn (uL O T I1.k be (sa.sublist (List.drop_sublist _ _)) (sb.sublist (List.take_sublist _ _)) ax bl ?_ (λi hi e y hy=>?_) key)
  ·rw[b0];show bt _ (du _)
  ·have:=bn y hy;rw[<- al]at this;obtain rfl:i=(as.drop k).length-1:=by(show fb .D .u .Z (.e .P .C) e (aa (fj .I .a .C ax)))
   show T.asym _ _ this
 ·apply cn (uM O T I1.k be (sa.sublist (List.drop_sublist _ _)) (sb.sublist (List.take_sublist _ _)) ax bl (λ_ y hy=>?_) ?_ key)
  ·rw[b0];show T.asym _ _ (bt y hy)
  ·rw[al];show bn _ (du _)
end
section
variable {st:SortSt}{pend:Array (Nat×Nat×Nat)}{m q:Nat}{xs rest X Y Z:List Nat}
variable {prog:Program}{w:World}{A:Around}{E:QqV}{s:Shared}{kd:SortKind}{n:Nat}{it:Nat->Keyed}{lt:Nat->Nat->Bool}
def yv (O:Ora (model prog w) A s kd n it lt){os:List Nat}{i j x y:Nat}{Q:Option Bool->SortSt->Prop}(I:SI kd it st os pend)(hn:∀x∈os,x<n)
  (hi:os[i]?=some x) (W:os[j]?=some y) (h:Q (some (lt x y)) st):PyProof.Rows.wpS (model prog w) A E s (ltAt' i j) Q st:=by
 rw[ltAt'_eq];apply cn (uJ ?_);dsimp only;rw[show arrOf st=KA it os from I.a];apply cn (ke (x:=it x) (by rw[yd,hi];rfl) ?_);apply cn (ke (x:=it y) (by rw[yd,W];rfl) ?_);show iZ O I.k (hn _ (dt hi)) (hn _ (dt W)) h
def qe {α:Type}{pre rest:List α}:(pre++rest)[pre.length+m]?=rest[m]?:=by
 rw[ic (oh _ _),tg]
def y3 (xs ys zs:List Nat):mirror (KA it (xs++(ys++zs))) xs.length (xs.length+ys.length) ((xs.length+ys.length-xs.length)/2)=KA it (xs++(ys.reverse++zs)):=by
 apply gG λk=>?_;rw[getElem?_mirror_all (by rw[og];simp),yd,yd,yd];rcases my k xs.length with q|q
 ·rw[aw λh=>jY h.1 q,ew q,ew q]
 have#[d,rfl]:=yn q;rw[qe,qe];rcases my d ys.length with h|h
 ·rw[cf #[q,Nat.add_lt_add_left h _],show xs.length+(xs.length+ys.length)-1-(xs.length+d)=xs.length+(ys.length-1-d) by show PV .aG [[1,-1,1,-1,1],[1,1,-1,1,-1]] (.e .Y (.a .B .a5)) (.e .aA .F) (.e (.a .A (.a .B .H)) .D) (.e (.a .C .H) .G) (aa (gz (.k .U (.a .A .L)) .a .L h)) (aa (az .I .a .U h)) (aa (gp .F .d .S (.e .S (.a .A .Z)) h (aa (gz (.k .U (.a .A .L)) .a .L h)))) (aa (fb .A .d .G (.e .P .C) h (aa (az .I .a .U h)))),qe,ew (by show Ar.sub _ _ (λz W=>(Ar.sub _ _ (λJ O=>(gp .B .b (.e .V .D) (.e .Y .B) W O)) λJ O=>(qt .B .e .L (.e .V .D) .aT h W O))) λz W=>(fb .B .b .L .M h W)),ew (by rw[eW];show h),List.getElem?_reverse h]
 ·rw[aw λx=>jY h (Nat.lt_of_add_lt_add_left x.2)];have#[e,rfl]:=yn h;rw[qe,<- eW (as:=ys),qe]
def n5 {ys zs:List Nat}{i j:Nat}{Q:Unit->SortSt->Prop}(I:SI kd it st (xs++(ys++zs)) pend)(hi:i=xs.length)(U:j=xs.length+ys.length)
  (h:∀W,SI kd it W (xs++(ys.reverse++zs)) pend->Q () W):PyProof.Rows.wpS (model prog w) A E s (reverseSlice' i j) Q st:=by
 subst hi;subst U;rw[reverseSlice'_eq];apply iY (h _ #[I.k,?_,I.p,I.f]);show mirror (arrOf st) _ _ _=_;rw[show arrOf st=KA it (xs++(ys++zs)) from I.a,y3]
def Srt.last (T:LtT lt)(h:Srt lt xs)(h0:0<xs.length):∀x∈xs,lt (xs[xs.length-1]'(by show az .B .a .a8 (aa (fj .I .a .C h0)))) x=false:=λx U=>by
 have#[j,W,rfl]:=er.mp U;rcases my j (xs.length-1) with q|q
 ·show h.at (bz _) q (by show az .B .a .a8 (aa (fj .I .a .C h0)))
 ·obtain rfl:j=xs.length-1:=by(show sd .D [[1,0,1,0],[1,1,0,-1]] .G .Y (.e .P .C) W q (aa (fj .I .a .C h0)))
  cases e:lt (xs[xs.length-1]'(by show az .B .a .B W)) (xs[xs.length-1]'(by show az .B .a .B W)) with
  |false=>rfl
  |true=>have:=T.asym _ _ e;rw[e]at this;cases this
def Srt.snoc (T:LtT lt){l z:Nat}(h:Srt lt xs)(hl:xs.getLast?=some l)(hz:lt z l=false):Srt lt (xs++[z]):=by
 apply Srt.app h (lh _ _) λx J y O=>?_;have rfl:=ah.mp O;have#[U,rfl]:=List.getLast?_eq_some_iff.mp hl;have W:lt l x=false:=by
  have:=h.last T (by simp) x J;simpa using this
 show T.tr _ _ _ W hz
def A2 (T:LtT lt){W:Nat}{Q:Option (Option Nat)×Nat->SortSt->Prop}{F:Nat->Option (Option Nat)×Nat->StateT SortSt Sem (ForInStep (Option (Option Nat)×Nat))}(hr:rest.length=W)
  (hF:∀x m a b (R:ForInStep (Option (Option Nat)×Nat)->SortSt->Prop),0<m->rest[m]?=some a->rest[m-1]?=some b->(lt a b=true->R (.done (none,m)) st)->(lt a b=false->R (.yield (none,m+1)) st)->PyProof.Rows.wpS (model prog w) A E s (F x (none,m)) R st)
  {O:Nat} (h0:0<O) (hm:O<=W) (so:Srt lt (rest.take O))
  (h:∀m,O<=m->m<=W->Srt lt (rest.take m)->(m=W\/∃a b,rest[m]?=some a/\rest[m-1]?=some b/\lt a b=true)->Q (none,m) st) :
  PyProof.Rows.wpS (model prog w) A E s (forIn [O:W] (none,O) F) Q st:=by
 apply nk (rz (I:=λx c U=>U=st/\c=(none,x)/\O<=x/\x<=W/\Srt lt (rest.take x))
  (Q:=λc U=>U=st/\∃m,c=(none,m)/\O<=m/\m<=W/\Srt lt (rest.take m)/\(m=W\/∃a b,rest[m]?=some a/\rest[m-1]?=some b/\lt a b=true)) ?_ ?_ #[rfl,rfl,av _,hm,so]) ?_
 ·intro x c U _ hx zz;have#[rfl,rfl,h1,h2,z]:=zz;have ag:x<rest.length:=by(show fb .B .m .aS .G hr hx)
  have ai:x-1<rest.length:=by(rename_i J;show qt .B [[1,-1,1,1]] .aS .aV (.e .M .D) hr hx (aa (jc .I .b .V .Y h0 J)))
  have e1:=bb ag;have e2:=bb ai;apply hF x x _ _ _ (by(rename_i J;show jc .C .b .V .Y h0 J)) e1 e2 (λc=>?_) λc=>?_
  ·apply#[rfl,x,rfl,h1,h2,z,.inr #[_,_,e1,e2,c]]
  ·apply#[rfl,rfl,by(rename_i J;show az .Q .a .A J),by show az .T .a .B hx,?_];rw[fg ag];apply z.snoc T ?_ c;rw[List.getLast?_eq_getElem?,et,eL (by show fb .A .m .aS .G hr hx),List.getElem?_take_of_lt (by(rename_i J;show az .B .a .a8 (aa (jc .I .b .V .Y h0 J)))),e2]
 ·intro c U zz;have#[rfl,rfl,h1,h2,z]:=zz;rw[Nat.max_eq_right hm]at z ⊢;apply#[rfl,W,rfl,hm,av _,z,.inl rfl]
 ·intro c U zz;have#[rfl,m,rfl,h1,h2,z,h4]:=zz;show h m h1 h2 z h4
def nE {pre:List Nat}(h:0<m):(pre++rest)[pre.length+m-1]?=rest[m-1]?:=by
 rw[Nat.add_sub_assoc h,qe]
structure DI (lt:Nat->Nat->Bool)(rest X Y Z:List Nat)(m q:Nat):Prop where
 n:X.length+Y.length=m
 y:Y.length=q+1
 p:(X++(Y++Z)).Perm rest
 so:Srt (Rl lt) (X++Y)
 eq:∀a∈Y,∀b∈Y,lt a b=false
def DI.rev (d:DI lt rest X Y Z m q):Srt (Rl lt) (X++Y.reverse):=by
 have#[I,B,J]:=ou.mp d.so;apply Srt.app I ?_ λx U y W=>J x U y (qb.mp W);apply List.pairwise_of_forall_mem_list λa O b hb=>?_;show d.eq a (qb.mp O) b (qb.mp hb)
def DI.TA (d:DI lt rest X Y Z m q)(h:m<rest.length):∃z W,Z=z::W:=by
 cases Z with
 |nil=>have:=d.p.length_eq;have:=d.n;simp at *;(rename_i U;show qt .ff [[0,1,1,-1]] .B (.e .R .A) (.e .R .B) h U this)
 |cons z W=>refine#[z,W,rfl]
def DI.getL (d:DI lt rest X Y Z m q):∃W l,Y=W++[l]:=by
 have h:Y≠[]:=λe=>by have:=d.y;rw[e]at this;cases this
 apply#[Y.dropLast,Y.getLast h,(List.dropLast_concat_getLast h).symm]
def qD (O:Ora (model prog w) A s kd n it lt)(T:LtT lt){pre:List Nat}{Q:Option Nat->SortSt->Prop}(I:SI kd it st (pre++rest) pend)
  (hn:∀x∈pre++rest,x<n) (h0:0<rest.length)
  (h:∀m ao J,0<m->m<=rest.length->ao.Perm rest->Srt lt (ao.take m)->SI kd it J (pre++ao) pend->Q (some m) J) :
  PyProof.Rows.wpS (model prog w) A E s (countRun' pre.length rest.length) Q st:=by
 rw[countRun'_eq];have nn:∀{r:List Nat},r.Perm rest->∀x∈pre++r,x<n:=λ{r} hp x hx=>hn x (by
  rcases dh.mp hx with hx|hx
  ·show dj _ hx
  ·show dp _ (hp.mem_iff.mp hx))
 apply cn (A2 T rfl (λx m a b R hm e1 e2 r1 r2=>?_) Nat.one_pos h0 ?_ λm ai ar so hq=>?_)
 ·apply cn (yv O I hn (qe.trans e1) ((nE hm).trans e2) ?_);cases hc:lt a b with
  |true=>show cz (r1 hc)
  |false=>show cz (r2 hc)
 ·rw[fg h0];show lh _ _
 dsimp -zeta only;by_cases c1:(m==rest.length)=true
 ·show dz c1 (cz (h m rest st ai ar (.refl _) so I))
 apply dq c1 ?_;have bt:m<rest.length:=by have:m≠rest.length:=λq=>c1 (fq.mpr q);(show(au this).elim (λq1=>(az .B .a .B q1)) λq1=>(jc .B .c .A .U ar q1))
 have#[z,b,ez,eb,bl]:∃a b,rest[m]?=some a/\rest[m-1]?=some b/\lt a b=true:=by
  rcases hq with q|q
  ·(show False.elim (jc .ff [[0,1,-1]] .B .D bt q))
  ·show q
 have#[hz,rfl]:=cu.mp ez;have#[aj,rfl]:=cu.mp eb;have eZ:rest.drop m=rest[m]::rest.drop (m+1):=cg hz;have lm:(rest.take m).length=m:=by rw[et];(show hq.elim (λq1=>(fb .D [[0,1,-1],[0,1,-1]] .aD .aS bt q1)) λq1=>((Ar.jt _ _).2.2.elim (λq2=>(jc .D .f .A .Y (Ar.jt _ _).1 q2)) λq2=>(sd .D .h .bB .A .aL ar (Ar.jt _ _).1 q2)))
 extract_lets n1 q0 jp
 have key:∀X J,SI kd it J (pre++(X++([rest[m]]++rest.drop (m+1)))) pend->X.Perm (rest.take m)->Srt (Rl lt) (X++[rest[m]])->PyProof.Rows.wpS (model prog w) A E s (jp ()) Q J:=λX J I' pX sX=>by
  apply cn (wpS_lift (lq #[rfl,?_]));have d0:DI lt rest X [rest[m]] (rest.drop (m+1)) (m+1) 0:={
   n:=by rw[pX.length_eq,lm];rfl
   y:=rfl
   p:=by
    apply(pX.append_right _).trans ?_;rw[List.singleton_append,<- eZ,ek]
   so:=sX
   eq:=λa ha b hb=>by
    have rfl:=ah.mp ha;have rfl:=ah.mp hb;cases e:lt rest[m] rest[m] with
    |false=>rfl
    |true=>have:=T.asym _ _ e;rw[e]at this;cases this}
  apply cn (nk (rz (I:=λx c J=>∃X Y Z q,c=(none,x,q)/\SI kd it J (pre++(X++(Y++Z))) pend/\DI lt rest X Y Z x q/\m<x/\x<=rest.length)
   (Q:=λc J=>∃X Y Z q x,c=(none,x,q)/\SI kd it J (pre++(X++(Y++Z))) pend/\DI lt rest X Y Z x q/\m<x/\x<=rest.length) ?_ ?_ #[X,_,_,0,rfl,I',d0,by omega,by omega]) ?_)
  ·intro x c bd _ hx zz;have#[X,Y,Z,q,rfl,I2,d,h1,h2]:=zz;have#[z,Z',rfl]:=d.TA hx;have#[Y',l,rfl]:=d.getL;have dn:=d.n;have dy:=d.y;rw[bq,kn]at dn dy;have bn:=nn d.p;have ea:(pre++(X++(Y'++[l]++z::Z')))[pre.length+x]?=some z:=by
    rw[qe,<- bg,ic (by simp;(show gz .N .a (.e .a4 .C) dn))];simp;rw[show x-(X.length+(Y'.length+1))=0 by(show gp .M [[1,0,0],[1,-1,1]] (.e .aH .D) (.e (.a .A .aH) .D) dn (aa (gz .N .a (.e .a4 .C) dn)))];rfl
   have eb:(pre++(X++(Y'++[l]++z::Z')))[pre.length+x-1]?=some l:=by
    rw[nE (by show az .C .a .U h1),ic (by show gp .A .d (.e (.a .A .S) .D) (.e .P .D) dn (aa (gz .I .a (.e .aH .A) dn))),bg,ic (by show Ar.sub _ _ (λq1 p1=>(Ar.sub _ _ (λq2 p2=>(uu .A [[1,1,-1,-1]] (.e (.a .C .M) .D) (.e .a0 .D) (.e .Q .F) dn p1 p2)) λq2 p2=>(uu .A .y (.e (.a .C .M) .D) (.e .a0 .D) .bM dn p1 q2))) λq1 p1=>(gp .A .b (.e (.a .C .M) .D) (.k .D .U) dn q1)),show x-1-X.length-Y'.length=0 by(show Ar.sub _ _ (λq1 p1=>(Ar.sub _ _ (λq2 p2=>(Ar.sub _ _ (λq3 p3=>(jP .M [[1,0,0,0,0],[1,-1,1,1,1]] (.e .aH .D) (.e .V .F) (.e (.a .F .B) .G) (.e .aA .D) dn p1 p2 p3)) λq3 p3=>(uu .M [[1,0,0,0],[1,1,1,1]] .X .bT .b2 p1 p2 p3))) λq2 p2=>(fb .M .t .X .b1 p1 p2))) λq1 p1=>(fj .M .s .M p1))];rfl
   have sn:lt l z=false->Srt (Rl lt) (X++(Y'++[l])++[z]):=λe=>d.so.snoc T.rl (by simp) e;have be:lt z z=false:=by
    cases e:lt z z with
    |false=>rfl
    |true=>have:=T.asym _ _ e;rw[e]at this;cases this
   have grow:∀ag,SI kd it ag (pre++(X++((Y'++[l]).reverse++z::Z'))) pend->lt z l=true ->
     ∃X2 Y2 Z2,SI kd it ag (pre++(X2++(Y2++Z2))) pend/\DI lt rest X2 Y2 Z2 (x+1) 0:=λag I4 hc=>by
    have cb:=T.asym _ _ hc;apply#[X++(Y'++[l]).reverse,[z],Z',by rw[bg];show I4,?_,rfl,?_,?_,?_]
    ·simp;(show gz (.e .a4 .C) .j (.e .a4 .C) dn)
    ·apply List.Perm.trans ?_ d.p;rw[bg];show((mz _).append_right _).append_left _
    ·apply Srt.app d.rev (lh _ _) λa ha y hy=>?_;have rfl:=ah.mp hy;show lt a y=false;have:Rl lt l a=false:=by
      have bu:Srt (Rl lt) ((X++Y')++[l]):=by rw[bg];show d.so
      have:=bu.last T.rl (by simp only[bq,kn];(show cX (.l .O .aD) .i)) a (by
       rw[bg];rcases dh.mp ha with ha|ha
       ·show dj _ ha
       ·show dp _ (qb.mp ha))
      simpa using this
     show T.tr _ _ _ cb this
    ·intro a ha b hb;have rfl:=ah.mp ha;have rfl:=ah.mp hb;show be
   apply cn (yv O I2 bn ea eb ?_);cases hc:lt z l with
   |true =>
    apply dz rfl ?_
    extract_lets jp3
    by_cases c3:q>0
    ·apply dz c3 (cn (n5 (xs:=pre++X) (ys:=Y'++[l]) (zs:=z::Z') (by rw[bg];show I2) (by simp;(show lC .aG .x (.e (.a .C .Y) .F) (.e .Y .aA) (.e (.a .A .aA) .a5) dn dy (aa (um (.k .M .Q) .d (.e (.a .D .a0) .C) (.e .a0 .M) dn dy)))) (by simp;(show mW (.e .L (.a .V .Y)) .g (.e (.a .C .Y) .B) dn)) λag I4=>?_));rw[bg]at I4;have#[X2,Y2,Z2,I5,d5]:=grow ag I4 hc;show cz #[X2,Y2,Z2,0,rfl,I5,d5,by show az .aC .a .B h1,by show az .T .a .B hx]
    ·apply dq c3 ?_;obtain rfl:Y'=[]:=ui (by show jc .M .t (.e .M .P) (.g .O .B) dy c3);have#[X2,Y2,Z2,I5,d5]:=grow bd I2 hc;show cz #[X2,Y2,Z2,0,rfl,I5,d5,by show az .aC .a .B h1,by show az .T .a .B hx]
   |false =>
    apply dq fy ?_;apply cn (yv O I2 bn eb ea ?_);cases hc2:lt l z with
    |true=>show dz rfl (cz #[X,_,_,q,x,rfl,I2,d,h1,by show az .A .a .B hx])
    |false =>
     apply dq fy ?_;apply cz #[X,Y'++[l]++[z],Z',q+1,rfl,by simpa using I2,#[by simp;(show gz (.e (.a .A (.a .B .W)) .S) .j (.e .a4 .C) dn),by simp;(show az .D .j (.e .M .P) dy),by simpa using d.p,by simpa using sn hc2,?_],by show az .aC .a .B h1,by show az .T .a .B hx];have al:∀a∈Y'++[l],lt a z=false/\lt z a=false:=λa ha =>
      #[T.tr _ _ _ hc2 (d.eq a ha l (by simp)),T.tr _ _ _ (d.eq l (by simp) a ha) hc]
     intro a ha b hb;rcases dh.mp ha with ax|ax
     ·rcases dh.mp hb with aj|aj
      ·show d.eq a ax b aj
      ·rw[ah.mp aj];show(al a ax).1
     ·rw[ah.mp ax];rcases dh.mp hb with aj|aj
      ·show(al b aj).2
      ·rw[ah.mp aj];show be
  ·intro c bd zz;have#[X,Y,Z,q,rfl,I2,d,h1,h2]:=zz;apply#[X,Y,Z,q,_,rfl,I2,d,h1,h2]
  ·intro c bd zz;have#[X,Y,Z,q,x,rfl,I2,d,h1,h2]:=zz;have dn:=d.n;have dy:=d.y;dsimp -zeta only
   extract_lets r2 s2 n2 q2 jp2
   have ck:s2.fst=x:=rfl;have ch:s2.snd=q:=rfl;have ay:∀bc,SI kd it bc (pre++(X++(Y.reverse++Z))) pend->PyProof.Rows.wpS (model prog w) A E s (jp2 ()) Q bc:=λbc I3=>by
    apply cn (n5 (xs:=pre) (ys:=X++Y.reverse) (zs:=Z) (by rw[bg];show I3) rfl (by simp;(show gz .aG .g (.e .Q .A) dn)) λag I4=>?_);have hp:((X++Y.reverse).reverse++Z).Perm rest:=by
     apply List.Perm.trans ?_ d.p;rw[<- bg];show((mz _).trans ((mz _).append_left _)).append_right _
    have bp:((X++Y.reverse).reverse).length=x:=by simp;(show gz .X .j (.e .a9 .C) dn)
    have bv:Srt lt (((X++Y.reverse).reverse++Z).take x):=by
     rw[List.take_left' bp];show d.rev.rl
    apply cn (A2 T hp.length_eq (λx m a b R hm e1 e2 r1 r2=>?_) (by show az .C .a .U h1) h2 bv λm' ai ar so hq=>?_)
    ·apply cn (yv O I4 (nn hp) (qe.trans e1) ((nE hm).trans e2) ?_);cases hc:lt a b with
     |true=>show cz (r1 hc)
     |false=>show cz (r2 hc)
    ·show cz (h m' _ _ (by show fb .C .b .aD .aL h1 ai) ar hp so I4)
   by_cases c3:q>0
   ·apply dz c3 (cn (n5 (xs:=pre++X) (ys:=Y) (zs:=Z) (by rw[bg];show I2) (by simp;(show lC .aG .x .bT (.e .D .aA) (.e (.a .A .aA) .a5) dn dy (aa (um (.k .M .Q) .d (.e .X .C) (.e .F .M) dn dy)))) (by simp;(show mW (.e .L (.a .V .D)) .g (.e .R .B) dn)) λag I4=>?_));rw[bg]at I4;show ay _ I4
   ·apply dq c3 (ay _ ?_);have:Y.reverse=Y:=by
     match Y,dy with
     | [y],_=>rfl
     | [],dy=>cases dy
     |a::b::Y,dy=>simp at dy;(show False.elim (jc .ff .c (.g .O .A) .bP c3 dy))
    rw[this];show I2
 have eR:rest=rest.take m++([rest[m]]++rest.drop (m+1)):=by rw[List.singleton_append,<- eZ,ek]
 have ca:(rest.take m).getLast?=some (rest[m-1]):=by
  rw[List.getLast?_eq_getElem?,lm,List.getElem?_take_of_lt (by show az .B .a .a8 (aa (fj .I .a .I ai))),eb]
 by_cases c2:m>1
 ·apply dz c2 ?_;have e0:rest[0]?=some rest[0]:=bb h0;apply cn (yv O I hn (by rw[<- Nat.add_zero pre.length];show qe.trans e0) ((nE ai).trans eb) ?_);cases hc:lt rest[0] rest[m-1] with
  |true=>show dz rfl (cz (h m rest st ai ar (.refl _) so I))
  |false =>
   apply dq fy ?_;apply cn (n5 (xs:=pre) (ys:=rest.take m) (zs:=[rest[m]]++rest.drop (m+1)) (by rw[<- eR];show I) rfl (by rw[lm]) λag I4=>?_);apply key _ _ I4 (mz _) ?_;have cd:=T.asym _ _ bl;apply Srt.app so.NW (lh _ _) λa ha y hy=>?_;have rfl:=ah.mp hy;show lt a rest[m]=false;have ha:=qb.mp ha;have#[j,hj,rfl]:=er.mp ha;rw[lm]at hj;have e1:lt ((rest.take m)[j]'(by(rename_i z2 z1;show az .B .a .B z2))) rest[0]=false:=by
    rcases gF j with rfl|q
    ·cases e:lt ((rest.take m)[0]'(by show jc .C .d (.k .U .B) .D ai lm)) rest[0] with
     |false=>rfl
     |true=>rw[nh]at e;have:=T.asym _ _ e;rw[e]at this;cases this
    ·have:=so.at (i:=0) (bz _) q (by(rename_i z2 z1;show az .B .a .B z2));rw[nh (i:=0)]at this;show this
   show T.tr _ _ _ cd (T.tr _ _ _ hc e1)
 ·apply dq c2 ?_;obtain rfl:m=1:=by(show uB (.e .A .U) [[1,1,0],[1,0,1]] .I (.g .U .A) ai c2)
  apply key _ _ (by rw[<- eR];show I) (.refl _) ?_;have:rest.take 1=[rest[0]]:=by rw[fg h0];rfl
  rw[this];apply Srt.app (lh _ _) (lh _ _) λa ha y hy=>?_;have rfl:=ah.mp hy;have rfl:=ah.mp ha;show T.asym _ _ bl
end
section
variable {prog:Program}{w:World}{A:Around}{E:QqV}{s:Shared}{kd:SortKind}{n:Nat}{it:Nat->Keyed}{lt:Nat->Nat->Bool}
def zK (xs ys zs:List Nat)(z:Nat):bubble (KA it (xs++(ys++z::zs))) (xs.length+ys.length) ys.length=KA it (xs++(z::(ys++zs))):=by
 apply gG λk=>?_;rw[getElem?_bubble (by rw[og];simp) _ (Nat.le_add_left _ _),yd,yd,yd,yd,Nat.add_sub_cancel];rcases my k xs.length with q|q
 ·rw[aw (jz q),aw λh=>Nat.lt_asymm q h.1,ew q,ew q]
 have#[d,rfl]:=yn q;cases d with
 |zero =>
  rw[cf (Nat.add_zero _),qe,qe,<- Nat.add_zero ys.length,qe];rfl
 |succ d =>
  rw[aw (Nat.ne_of_gt (ym (Nat.succ_pos d))),qe,qe,show xs.length+(d+1)-1=xs.length+d from rfl,qe];rcases my d ys.length with h|h
  ·rw[cf #[ym (Nat.succ_pos d),Nat.add_le_add_left h _],ew h,yp,ew h]
  ·rw[aw λx=>jY h (Nat.le_of_add_le_add_left x.2)];have#[e,rfl]:=yn h;rw[iW,qe,yp,show(z::(ys++zs))[ys.length+(e+1)]?=(ys++zs)[ys.length+e]? from yp,qe]
def mK (O:Ora (model prog w) A s kd n it lt)(T:LtT lt){pre rest:List Nat}{pend:Array (Nat×Nat×Nat)}{m ok:Nat}{Q:Bool->SortSt->Prop}{st:SortSt}(I:SI kd it st (pre++rest) pend)
  (hn:∀x∈pre++rest,x<n) (hm:m<=rest.length) (bn:ok<=m) (h0:0<ok) (so:Srt lt (rest.take ok))
  (h:∀ao aj,ao.Perm rest->Srt lt (ao.take m)->SI kd it aj (pre++ao) pend->Q true aj) :
  PyProof.Rows.wpS (model prog w) A E s (binarySort' pre.length m ok) Q st:=by
 rw[binarySort'_eq];rw[Nat.max_eq_left h0];apply cn (nk (rz (I:=λk c aj=>∃r',c=(none,())/\r'.Perm rest/\Srt lt (r'.take k)/\SI kd it aj (pre++r') pend)
  (Q:=λc aj=>∃r',c=(none,())/\r'.Perm rest/\Srt lt (r'.take m)/\SI kd it aj (pre++r') pend) ?_ ?_ #[rest,rfl,.refl _,so,I]) ?_)
 ·intro k c ar bu bt zz;have#[r',rfl,hp,hs,I2]:=zz;have hl:=hp.length_eq;have bp:∀x∈pre++r',x<n:=λx hx=>hn x (by
   rcases dh.mp hx with hx|hx
   ·show dj _ hx
   ·show dp _ (hp.mem_iff.mp hx))
  have ag:k<r'.length:=by(show qt .B .q .aH .G (.e .B .D) hm bt hl)
  have ez:(pre++r')[pre.length+k]?=some r'[k]:=qe.trans (bb ag);have sat:∀{i j} (bc:i<=j) (hj:j<k),lt (r'[j]'(by show fb .B .b .L .G ag hj)) (r'[i]'(by show qt .B .e .L .a9 .aV ag bc hj))=false:=λ{i j} bc hj=>by
   rcases jo bc with q|rfl
   ·have:=hs.at (bz _) q (by rw[et];(show(Ar.jt _ _).2.2.elim (λq1=>(fb .B .b .G .H hj q1)) λq1=>(qt .B .e .a2 .G .bL ag hj q1)));rw[nh,nh]at this;show this
   ·cases e:lt (r'[i]'(by show fb .B .b .L .G ag hj)) (r'[i]'(by show fb .B .b .L .G ag hj)) with
    |false=>rfl
    |true=>have:=T.asym _ _ e;rw[e]at this;cases this
  apply cn (nk (rz (I:=λx c aj=>aj=ar/\∃l r,c=(none,l,r)/\l<=r/\r<=k/\r-l<=k-x/\(∀i (hi:i<l) (ai:i<k),lt r'[k] (r'[i]'(by show fb .B .b .L .G ag ai))=false)/\∀i (hi:r<=i) (ai:i<k),lt r'[k] (r'[i]'(by show fb .B .b .L .G ag ai))=true)
   (Q:=λc aj=>aj=ar/\∃l,c=(none,l,l)/\l<=k/\(∀i (hi:i<l) (ai:i<k),lt r'[k] (r'[i]'(by show fb .B .b .L .G ag ai))=false)/\∀i (hi:l<=i) (ai:i<k),lt r'[k] (r'[i]'(by show fb .B .b .L .G ag ai))=true) ?_ ?_
   #[rfl,0,k,rfl,bz _,av _,av _,λi hi=>absurd hi (pe _),λi hi ai=>absurd ai (ru.mpr hi)]) ?_)
  ·intro x c ax _ hx zz;have#[rfl,l,r,rfl,h1,h2,h3,h4,h5]:=zz;by_cases c1:l>=r
   ·apply dz c1 (cz ?_);obtain rfl:l=r:=by(show jc .D .f .A .Y h1 c1)
    apply#[rfl,l,rfl,h2,h4,h5]
   ·apply dq c1 ?_;have ay:(l+r)/2<k:=by(show uu .B [[2,2,1,1]] .H (.j .C .D) (.e (.a .aN .F) .aI) h2 c1 (Ar.cU _ 2 (by decide)).2)
    apply cn (yv O I2 bp ez (qe.trans (bb (show(l+r)/2<r'.length by show fb .B .b .L .G ag ay))) ?_);cases hc:lt r'[k] (r'[(l+r)/2]'(by show fb .B .b .L .G ag ay)) with
    |true =>
     apply dz rfl (cz #[rfl,l,(l+r)/2,rfl,by show qt .A [[2,1,1,-1]] (.j .C .A) (.l .D .W) (.e (.a .a6 .D) .V) c1 (Ar.cU _ 2 (by decide)).1 (Ar.cU _ 2 (by decide)).2,by show az .A .a .B ay,by show S6 .A [[2,1,1,-1,1,2,-1]] .aH (.e (.a (.m 2 .F) .G) (.a .H .I)) (.e (.a .C .H) .I) (.e (.a .D .J) .K) (.e (.a .A .H) .F) (.e (.a .B (.a .J .U)) .K) h3 (Ar.cU _ 2 (by decide)).2 (aa (az .A .a .A h1)) (aa (az .A .a .B hx)) (aa (qt .A [[2,1,1,-1]] (.j .C .A) (.l .D .W) (.e (.a .a6 .D) .V) c1 (Ar.cU _ 2 (by decide)).1 (Ar.cU _ 2 (by decide)).2)) (aa (az .T .a .B hx)),h4,λi hi ai=>?_]);cases e:lt r'[k] (r'[i]'(by show fb .B .b .L .G ag ai)) with
     |true=>rfl
     |false=>have:=T.tr _ _ _ (sat hi ai) e;rw[hc]at this;cases this
    |false =>
     apply dq fy (cz #[rfl,(l+r)/2+1,r,rfl,by show gp .T [[2,1,1]] (.j .B .C) (.e (.a .aN .D) .aC) c1 (Ar.cU _ 2 (by decide)).2,by show az .A .a .A h2,by show TO .A [[2,1,1,-1,-1,1,2,-1]] .aH (.l .F .W) (.e (.a (.m 2 .G) .F) (.a .H .I)) (.e (.a .C .H) .I) (.e (.a .D .J) .K) (.e (.a .A .aA) .I) (.e (.a .B (.a .J .U)) .K) h3 (Ar.cU _ 2 (by decide)).1 (Ar.cU _ 2 (by decide)).2 (aa (az .A .a .A h1)) (aa (az .A .a .B hx)) (aa (gp .T [[2,1,1]] (.j .B .C) (.e (.a .aN .D) .aC) c1 (Ar.cU _ 2 (by decide)).2)) (aa (az .T .a .B hx)),λi hi ai=>?_,h5]);show T.tr _ _ _ (sat (show i<=(l+r)/2 by show az .A .a .aC hi) ay) hc
  ·intro c ax zz;have#[rfl,l,r,rfl,h1,h2,h3,h4,h5]:=zz;obtain rfl:l=r:=by simp at h3;(show fb .D .z .b1 .aF h3 (aa (az .A .a .A h1)))
   apply#[rfl,l,rfl,h2,h4,h5]
  ·intro c ax zz;have#[rfl,l,rfl,h2,h4,h5]:=zz;have eR:r'=r'.take l++((r'.take k).drop l++r'[k]::r'.drop (k+1)):=by
    rw[<- cg ag,<- bg];have:r'.take l++(r'.take k).drop l=r'.take k:=by
     have:=ek l (r'.take k)
     rwa [List.take_take,eL h2]at this
    rw[this,ek]
   have lx:(r'.take l).length=l:=by rw[et];(show(Ar.jt _ _).2.2.elim (λq1=>(jc .D .f .A .Y (Ar.jt _ _).1 q1)) λq1=>(mU .D [[1,1,1,0,1],[1,0,0,1,0]] .a2 .bB .A (.k .D .A) ag h2 (Ar.jt _ _).1 q1))
   have ly:((r'.take k).drop l).length=k-l:=by rw[gf,et];(show(Ar.jt _ _).2.2.elim (λq1=>(Ar.sub _ _ (λq2 p2=>(zR .D [[1,0,1,1,-1],[1,1,-1,0,1]] .aH .c5 .bC (.e .aL .C) (Ar.jt _ _).1 (aa (az .A .a .A h2)) q1 p2)) λq2 p2=>(zR .D [[1,1,1,1,0],[1,0,0,0,1]] .bN .bK .bM .M (aa (az .A .a .A h2)) q1 q2 p2))) λq1=>(uu .D [[0,1,1,1],[0,1,1,1]] .a2 .bM .bK ag (Ar.jt _ _).1 q1))
   apply cn (m:=moveDown' _ _) ?_;rw[moveDown'_eq];apply iY (cz #[r'.take l++(r'[k]::((r'.take k).drop l++r'.drop (k+1))),rfl,?_,?_,#[I2.k,?_,I2.p,I2.f]])
   ·apply List.Perm.trans ?_ hp
    conv=>rhs;rw[eR]
    show List.perm_middle.symm.append_left _
   ·have e:(r'.take l++(r'[k]::((r'.take k).drop l++r'.drop (k+1)))).take (k+1)=r'.take l++(r'[k]::(r'.take k).drop l):=by
     rw[<- d4,<- bg];show List.take_left' (by rw[bq,ip,lx,ly];(show gz (.e .a4 .S) .j (.e .a9 .C) (aa (az .A .a .A h2))))
    rw[e];have bl:Srt lt (r'.take l++(r'.take k).drop l):=by
     have:=ek l (r'.take k);rw[List.take_take,eL h2]at this;rw[this];show hs
    have#[a1,a2,a3]:=ou.mp bl;have be:∀x∈r'.take l,lt r'[k] x=false:=λx hx=>by
     have#[j,hj,rfl]:=er.mp hx;rw[lx]at hj;rw[nh];show h4 j hj (by(rename_i z1;show qt .B .e .H (.e .D .C) (.l .A .D) h2 lx z1))
    have bd:∀x∈(r'.take k).drop l,lt x r'[k]=false:=λx hx=>by
     have#[j,hj,rfl]:=er.mp hx;rw[ly]at hj;rw[i8,nh];show T.asym _ _ (h5 (l+j) (by show cX .bX .i) (by(rename_i z1;show uu .J .e (.e .D .F) .S (.e (.a .F .A) .C) ly z1 (aa (az .A .a .A h2)))))
    apply Srt.app a1 (kc.mpr #[bd,a2]) λx hx y hy=>?_;rcases bw.mp hy with rfl|hy
    ·show be x hx
    ·show a3 x hx y hy
   ·show bubble (arrOf ax) (pre.length+k) (pre.length+k-(pre.length+l))=_;rw[show arrOf ax=KA it (pre++r') from I2.a];have:=zK (it:=it) (pre++r'.take l) ((r'.take k).drop l) (r'.drop (k+1)) r'[k];rw[bg,<- eR,bq,lx,ly,bg]at this;rw[show pre.length+k-(pre.length+l)=k-l by show um .D .v .bN (.e (.a .A (.a .F .C)) (.a .F .D)) (aa (az .A .a .A h2)) (aa (gz (.k .L .V) .a .bB h2)),<- this]
    congr 1;(show mW (.e .L (.a .V .D)) .g (.e .aI .B) (aa (az .A .a .A h2)))
 ·intro c ar zz;have#[r',rfl,hp,hs,I2]:=zz;rw[Nat.max_eq_right bn]at hs;apply#[r',rfl,hp,hs,I2]
 ·intro c ar zz;have#[r',rfl,hp,hs,I2]:=zz;show cz (h r' ar hp hs I2)
end
variable {st:SortSt}{all rest:List Nat}{rs:List (List Nat×Nat)}
abbrev kH:StateT SortSt Sem Unit:=sortPriv% PySem.Builtin.sortRuns
abbrev nz:Nat->List (List Nat×Nat)->List (Nat×Nat×Nat)
 |_,[]=>[]
 |a,r::rs=>(a,r.1.length,r.2)::nz (a+r.1.length) rs
abbrev flat (rs:List (List Nat×Nat)):List Nat:=rs.flatMap (·.1)
def xv (xs ys:List (List Nat×Nat)):flat (xs++ys)=flat xs++flat ys:=List.flatMap_append
def oo (x:List Nat×Nat)(ys:List (List Nat×Nat)):flat (x::ys)=x.1++flat ys:=rfl
def d8:∀(xs ys:List (List Nat×Nat)) (k:Nat),nz k (xs++ys)=nz k xs++nz (k+(flat xs).length) ys
 | [],ys,k=>rfl
 |x::xs,ys,k=>by
  show _::nz _ (xs++ys)=_::(_++_);rw[d8 xs ys,oo,bq,iW]
def fO:∀(xs:List (List Nat×Nat)) (k:Nat),(nz k xs).length=xs.length
 | [],_=>rfl
 |_::xs,_=>cc (·+1) (fO xs _)
section
variable {prog:Program}{w:World}{A:Around}{E:QqV}{s:Shared}{kd:SortKind}{n:Nat}{it:Nat->Keyed}{lt:Nat->Nat->Bool}
structure RI (kd:SortKind)(it:Nat->Keyed)(lt:Nat->Nat->Bool)(st:SortSt)(all:List Nat)(rs:List (List Nat×Nat))(rest:List Nat):Prop where
 si:SI kd it st (flat rs++rest) (nz 0 rs).toArray
 p:(flat rs++rest).Perm all
 so:∀r∈rs,Srt lt r.1/\0<r.1.length
def RI.le (I:RI kd it lt st all rs rest):rs.length<=(flat rs).length:=by
 have:=I.so;clear I;induction rs with
 |nil=>show av _
 |cons r rs W =>
  have h:=(this r (.head _)).2;have:=W λq U=>this q (.tail _ U);rw[oo,bq,ip];(show fb (.k .M .Q) .b .V .K h this)
def RI.merge (O:Ora (model prog w) A s kd n it lt)(T:LtT lt){i:Nat}{Q:Bool->SortSt->Prop}(I:RI kd it lt st all rs rest)(hn:∀x∈all,x<n)(hi:i+1<rs.length)
  (h:∀z J,z.length+1=rs.length->RI kd it lt J all z rest->(flat z).length=(flat rs).length->Q true J):PyProof.Rows.wpS (model prog w) A E s (oF i) Q st:=by
 have#[xs,a,pa,b,pb,ys,rfl,hx]:∃xs a pa b pb ys,rs=xs++(a,pa)::(b,pb)::ys/\xs.length=i:=
  ⟨rs.take i,(rs[i]'(by show az .B .a .W hi)).1,(rs[i]'(by show az .B .a .W hi)).2,(rs[i+1]'(hi)).1,(rs[i+1]'(hi)).2,rs.drop (i+1+1),by
   show rs=rs.take i++rs[i]'(by show az .B .a .W hi)::rs[i+1]::rs.drop (i+1+1);rw[<- cg hi,<- cg (by show az .B .a .W hi),ek],by rw[et];(show(Ar.jt _ _).2.2.elim (λq1=>(jc .D .f .A .Y (Ar.jt _ _).1 q1)) λq1=>(sd .D [[1,1,0,1],[0,1,1,1]] (.l .P .C) .A .aL hi (Ar.jt _ _).1 q1))⟩
 subst hx;have e0:flat (xs++(a,pa)::(b,pb)::ys)++rest=flat xs++(a++(b++(flat ys++rest))):=by
  rw[xv,oo,oo];simp only[bg]
 have si:=I.si;rw[e0]at si;have pp:=I.p;rw[e0]at pp;have#[sa,la]:=I.so (a,pa) (by simp);have#[sb,lb]:=I.so (b,pb) (by simp);rw[d8]at si;have hl:=fO xs 0;apply uN (pa:=pa) (pb:=pb) O T si (λx hx=>hn x (pp.mem_iff.mp hx)) sa sb la lb ?_ ?_ λcs J hp sc ag=>?_
 ·simp[nz,hl]
 ·simp[nz,hl]
 ·have hc:cs.length=a.length+b.length:=by rw[hp.length_eq,bq]
  have hf:(flat (xs++(cs,pa)::ys)).length=(flat (xs++(a,pa)::(b,pb)::ys)).length:=by
   rw[xv,xv,oo,oo,oo];simp only[bq];(show TR (.e (.a .A .Q) (.a .A (.a .D (.a .F .C)))) .j (.e .B .X) hc)
  apply h (xs++(cs,pa)::ys) J (by simp;(show cX (.e (.a .a4 .U) (.a .A (.a .P .U))) .n)) #[?_,?_,λr hr=>?_] hf
  ·rw[xv,oo,bg,bg,d8];have:((nz 0 xs++nz (0+(flat xs).length) ((a,pa)::(b,pb)::ys)).toArray.setIfInBounds xs.length ((flat xs).length,a.length+b.length,pa)).eraseIdxIfInBounds (xs.length+1)=(nz 0 xs++nz (0+(flat xs).length) ((cs,pa)::ys)).toArray:=by
    simp[nz,<- hl,hc,iW];rw[List.eraseIdx_append_of_length_le (by show qg (.k .A .M) .i)];simp
   rw[<- this];show ag
  ·rw[xv,oo,bg,bg];apply List.Perm.trans ?_ pp;apply cO _ ?_;rw[<- bg a];show hp.append_right _
  ·rcases dh.mp hr with q|q
   ·show I.so r (dj _ q)
   ·rcases bw.mp q with rfl|q
    ·apply#[sc,by show fb .C .d .V (.e .A .aC) lb hc]
    ·show I.so r (dp _ (.tail _ (.tail _ q)))
def RI.len (I:RI kd it lt st all rs rest):(flat rs).length+rest.length=all.length:=by
 have:=I.p.length_eq
 rwa [bq]at this
def RI.push {m:Nat}(I:RI kd it lt st all rs rest)(h0:0<m)(O:m<=rest.length)(so:Srt lt (rest.take m)) :
  RI kd it lt (SortSt.mk' (kindOf st) (arrOf st) ((pendingOf st).push ((flat rs).length,m,0)) (gallopOf st) (failedOf st)) all (rs++[(rest.take m,0)]) (rest.drop m)/\(flat (rs++[(rest.take m,0)])).length=(flat rs).length+m:=by
 have hl:(rest.take m).length=m:=by rw[et];(show(Ar.jt _ _).2.2.elim (λW=>(jc .D .f .A .Y (Ar.jt _ _).1 W)) λW=>(sd .D .h .bB .A .aL O (Ar.jt _ _).1 W))
 have e:flat (rs++[(rest.take m,0)])=flat rs++rest.take m:=by rw[xv,oo];simp[flat]
 have U:flat rs++rest.take m++rest.drop m=flat rs++rest:=by rw[bg,ek]
 apply#[#[#[I.si.k,?_,?_,I.si.f],?_,λr hr=>?_],?_]
 ·rw[e,U];show I.si.a
 ·rw[d8];show(pendingOf st).push _=_;rw[show pendingOf st=(nz 0 rs).toArray from I.si.p,mw];simp[nz,hl]
 ·rw[e,U];show I.p
 ·rcases dh.mp hr with q|q
  ·show I.so r q
  ·have rfl:=ah.mp q;apply#[so,by rw[hl];show h0]
 ·rw[e,bq,hl]
def RI.power {pw:Nat}(I:RI kd it lt st all rs rest)(h0:0<rs.length) :
  ∃W,RI kd it lt (SortSt.mk' (kindOf st) (arrOf st) ((pendingOf st).modify ((pendingOf st).size-1) λx=>(x.1,x.2.1,pw)) (gallopOf st) (failedOf st)) all W rest/\(flat W).length=(flat rs).length:=by
 have#[ys,b,rfl]:∃ys b,rs=ys++[b]:=#[_,_,(List.dropLast_concat_getLast (λe=>by rw[e]at h0;cases h0)).symm];have e:flat (ys++[(b.1,pw)])=flat (ys++[b]):=by rw[xv,xv,oo,oo]
 apply#[ys++[(b.1,pw)],#[#[I.si.k,?_,?_,I.si.f],?_,λr hr=>?_],by rw[e]]
 ·rw[e];show I.si.a
 ·apply Eq.trans (b:=(pendingOf st).modify ((pendingOf st).size-1) λx=>(x.1,x.2.1,pw)) rfl ?_;rw[show pendingOf st=(nz 0 (ys++[b])).toArray from I.si.p,d8,d8];have:=fO ys 0;apply gG λk=>?_;rw[Array.getElem?_modify];simp[nz,this];rcases i5 k ys.length with q|rfl|q
  ·rw[aw (by show az .bY .a .U q),ew (by show fb .B .m .aS .G this q),ew (by show fb .B .m .aS .G this q)]
  ·rw[cf rfl,ic (by show az .A .a .D this),ic (by show az .A .a .D this)];simp[this]
  ·rw[aw (by show az .bY [[-1,1]] .B q),nt (by simp;(show fb .T .b (.e .A .C) .L this q)),nt (by simp;(show fb .T .b (.e .A .C) .L this q))]
 ·rw[e];show I.p
 ·rcases dh.mp hr with q|q
  ·show I.so r (dj _ q)
  ·have rfl:=ah.mp q;show I.so b (by simp)
def wpS_sortRuns (O:Ora (model prog w) A s kd n it lt)(T:LtT lt){Q:Unit->SortSt->Prop}(I:SI kd it st all #v[])(hn:∀x∈all,x<n)
  (h:∀os ai pd,os.Perm all->Srt lt os->SI kd it ai os pd->Q () ai):PyProof.Rows.wpS (model prog w) A E s kH Q st:=by
 unfold kH;apply cn (uJ ?_);rw[show(sortPriv% PySem.Builtin.SortState.a) st=KA it all from I.a,og];dsimp -zeta only
 extract_lets sz minrun lo0
 have bn:sz=all.length:=rfl
 clear_value sz
 have I0:RI kd it lt st all [] all:=#[I,.refl _,λr hr=>nomatch hr];apply cn (nk (rz (I:=λx c st=>∃rs rest,c=(none,(flat rs).length)/\RI kd it lt st all rs rest/\x<=(flat rs).length)
  (Q:=λc st=>∃rs,c=(none,(flat rs).length)/\RI kd it lt st all rs []) ?_ ?_ #[[],all,rfl,I0,bz _]) ?_)
 ·intro x c bu _ hx zz;have#[rs,rest,rfl,I1,bd]:=zz;have ag:=I1.len;rw[<- bn]at ag
  extract_lets lo jp force n3
  by_cases c1:lo>=sz
  ·apply dz c1 (cz #[rs,rfl,?_]);have c1:(flat rs).length>=sz:=c1;obtain rfl:rest=[]:=ui (by(rename_i z1;show fb .M .t (.e .a9 .C) .H ag z1));show I1
  apply dq c1 ?_;have c1:¬(flat rs).length>=sz:=c1;have cx:0<rest.length:=by(rename_i z1;show fb .C .m (.e .a9 .C) (.j .C .B) ag z1)
  have bp:sz-lo=rest.length:=by show sz-(flat rs).length=_;(rename_i z1;show gp .D .v (.e .aC .D) (.e .V .D) ag (aa (az .A .a (.j .B .A) z1)))
  rw[bp];have nn:∀x∈flat rs++rest,x<n:=λx hx=>hn x (I1.p.mem_iff.mp hx);apply cn (qD O T I1.si nn cx λm aj ax ay hm bt bv ca=>?_);have I2:RI kd it lt ax all rs aj:=#[ca,(bt.append_left _).trans I1.p,I1.so];dsimp -zeta only
  extract_lets m1
  have key:∀m z ao (R:ForInStep (Option Unit×Nat)->SortSt->Prop),(∀rs rest ai,RI kd it lt ai all rs rest->x+1<=(flat rs).length->R (.yield (none,(flat rs).length)) ai)->0<m->m<=z.length->Srt lt (z.take m)->RI kd it lt ao all rs z->PyProof.Rows.wpS (model prog w) A E s (jp () m) R ao:=λm z ao R hR ay hm bl I3=>by
   apply cn (uJ ?_);rw[show(sortPriv% PySem.Builtin.SortState.pending) ao=(nz 0 rs).toArray from I3.si.p]
   extract_lets lo2 jp2
   have be:∀J ar,RI kd it lt ar all J z->(flat J).length=(flat rs).length->PyProof.Rows.wpS (model prog w) A E s (jp2 ()) R ar:=λJ ar I4 e4=>by
    have#[I5,e5]:=I4.push ay hm bl;rw[e4]at I5 e5;apply cn (iY (cz ?_));have:=hR _ _ _ I5 (by show qt .T .q .K (.l .O .D) (.e .B .R) bd ay e5);rw[e5]at this;show this
   cases hb:(nz 0 rs).toArray.back? with
   |none=>show be rs ao I3 rfl
   |some v =>
    have h0:0<rs.length:=by
     cases rs with
     |nil=>cases hb
     |cons r rs=>show Nat.succ_pos _
    dsimp -zeta only
    extract_lets pw
    apply cn (nk (rz (I:=λ_ c ai=>c=(none,())/\∃J,RI kd it lt ai all J z/\(flat J).length=(flat rs).length/\0<J.length)
     (Q:=λc ai=>c=(none,())/\∃J,RI kd it lt ai all J z/\(flat J).length=(flat rs).length/\0<J.length) ?_ (λc ai h=>h) #[rfl,rs,I3,rfl,h0]) ?_)
    ·intro y c ar _ hy zz;have#[rfl,J,I4,e4,p4]:=zz;apply cn (uJ ?_);rw[show(sortPriv% PySem.Builtin.SortState.pending) ar=(nz 0 J).toArray from I4.si.p]
     extract_lets p
     have ps:p.size=J.length:=by show(nz 0 J).toArray.size=_;simp[fO]
     cases hq:(if p.size>1 then p[p.size-2]? else none) with
     |none=>show cz #[rfl,J,I4,e4,p4]
     |some v =>
      dsimp -zeta only;by_cases c2:v.2.2<=pw
      ·show dz c2 (cz #[rfl,J,I4,e4,p4])
      ·apply dq c2 ?_;have hs:1<J.length:=by
        rw[ps]at hq;by_cases q:J.length>1
        ·show q
        ·rw[aw q]at hq;cases hq
       apply cn (I4.merge O T hn (by rw[ps];(rename_i z6 z5 z4 z3 z2 z1;show az .W .a (.e .aM .B) (aa (fj (.k .W .A) .a .a0 hs)))) λbc ck l5 I5 e5=>?_);show cz #[rfl,bc,I5,e5.trans e4,by show jc .C .d (.l .U .B) .a8 hs l5]
    ·intro c ar zz;have#[rfl,J,I4,e4,p4]:=zz;have#[bc,I5,e5]:=I4.power (pw:=pw) p4;apply cn (iY ?_);show be bc _ I5 (e5.trans e4)
  by_cases c2:m1<minrun
  ·apply dz c2 ?_;apply cn (wpS_lift (lq #[rfl,?_]));have ch:m<=force:=by
    show m<=min (sz-lo) minrun;have:m<minrun:=c2;rw[bp];(rename_i z1;show(Ar.jt _ _).2.2.elim (λq1=>(fb .A .b .K .H hm q1)) λq1=>(fb .A .b .G .H c2 q1))
   have cd:force<=aj.length:=by
    show min (sz-lo) minrun<=_;rw[bp,bt.length_eq];(show az .A .a .A (Ar.jt _ _).1)
   have ct:∀x∈flat rs++aj,x<n:=λx hx=>hn x (I2.p.mem_iff.mp hx);apply cn (mK O T ca ct cd ch ay bv λz ao cb bl cl=>?_);apply dq (by simp) ?_;show key force z ao _ (λrs rest ai I h=>#[rs,rest,rfl,I,h]) (by show jc .C .b .V .Y ay ch) (by rw[cb.length_eq];show cd) bl #[cl,(cb.append_left _).trans I2.p,I2.so]
  ·apply dq c2 ?_;show key m aj ax _ (λrs rest ai I h=>#[rs,rest,rfl,I,h]) ay (by rw[bt.length_eq];show hm) bv I2
 ·intro c bu zz;have#[rs,rest,rfl,I1,bd]:=zz;have ag:=I1.len;rw[<- bn]at ag;obtain rfl:rest=[]:=ui (by simp at bd;(show fb .M .t (.e .a9 .C) .H ag bd));apply#[rs,rfl,I1]
 ·intro c bu zz;have#[rs,rfl,I1]:=zz;dsimp -zeta only;have cM:=I1.le;have ag:=I1.len;rw[<- bn]at ag;apply cn (nk (rz (I:=λx c ai=>c=(none,())/\∃rs,RI kd it lt ai all rs []/\rs.length+x<=sz)
   (Q:=λc ai=>c=(none,())/\∃rs,RI kd it lt ai all rs []/\rs.length<=1) ?_ ?_ #[rfl,rs,I1,by simp at ag;(show fb (.k (.a .A .O) .B) .b .K (.e .C .B) cM ag)]) ?_)
  ·intro x c ax _ hx zz;have#[rfl,rs,I2,hl]:=zz;apply cn (uJ ?_);rw[show(sortPriv% PySem.Builtin.SortState.pending) ax=(nz 0 rs).toArray from I2.si.p]
   extract_lets p i before j
   have ps:p.size=rs.length:=by show(nz 0 rs).toArray.size=_;simp[fO]
   by_cases c1:p.size<=1
   ·show dz c1 (cz #[rfl,rs,I2,by show jc (.k .A .U) .m .b9 (.k .B .U) ps c1])
   apply dq c1 ?_;have hj:j+1<rs.length:=by
    have:j<=p.size-2:=by
     show(if _ then _ else _)<=_;split
     ·show oz _ _
     ·show av _
    (show qt .W .e (.e .C .B) .a9 (.e (.a .D .W) .C) ps this (aa (fj (.k .W .A) .a (.j .A .U) c1)))
   apply cn (I2.merge O T hn hj λbc ck l5 I5 e5=>?_);show cz #[rfl,bc,I5,by show gp .N .b (.k (.a .D .B) .C) (.e .M .D) hl l5]
  ·intro c ax zz;have#[rfl,rs,I2,hl]:=zz;apply#[rfl,rs,I2,by simp at hl;(show az (.k .A .U) .a (.k .L .B) hl)]
  ·intro c ax zz;have#[rfl,rs,I2,hl]:=zz;apply cz (h _ _ _ I2.p ?_ I2.si);cases rs with
   |nil=>show .nil
   |cons r rs =>
    obtain rfl:rs=[]:=by simpa using hl
    rw[dk,oo];rw[show flat ([]:List (List Nat×Nat))=[] from rfl,dk];show(I2.so r (.head _)).1
end
abbrev itV (vs:List Value)(i:Nat):Keyed:=(vs.getD i Value.none,vs.getD i Value.none)
def xA (vs:List Value):vs.toArray.zip vs.toArray=KA (itV vs) (List.range vs.length):=by
 apply gG λi=>?_;rw[yd];rcases my i vs.length with h|h
 ·rw[eX h];simp[itV,h]
 ·rw[nt (by rw[nc];show h)];simp[h]
section
variable {prog:Program}{w:World}{A:Around}{E:QqV}{s:Shared}{kd:SortKind}{lt:Nat->Nat->Bool}
def fP {a:Addr}{vs:List Value}{n:Nat}{P:Fin->Shared->Prop}(T:LtT lt)(ho:s.heap.get? a=some (seqObj "list" vs.toArray n))(hz:vs.length<=sizeLine)
  (hk:∀H:Heap,(∀b o,b≠a->s.heap.get? b=some o->H.get? b=some o)->2<=vs.length->∀Q:SortKind->Shared->Prop,Q kd {s with heap:=H}->wpAny (model prog w) A (keyKind' vs.toArray) Q E {s with heap:=H})
  (hO:∀H:Heap,(∀b o,b≠a->s.heap.get? b=some o->H.get? b=some o)->Ora (model prog w) A {s with heap:=H} kd vs.length (itV vs) lt)
  (h:∀os h' k,os.Perm (List.range vs.length)->Srt lt os->(∀b o,b≠a->s.heap.get? b=some o->h'.get? b=some o)->h'.get? a=some (seqObj "list" (os.map λi=>vs.getD i Value.none).toArray k)->P (.done (.ret .none)) {s with heap:=h'}) :
  wpAny (model prog w) A (Builtin.«list.sort» #[[.ref a],[]]) P E s:=by
 have s1:=gh s.heap a (Obj.mapSeq λ_=>(#v[]:Array Value));have#[e1,ag]:∃e1,(s.heap.update a (Obj.mapSeq λ_=>(#v[]:Array Value))).get? a=some (seqObj "list" #v[] e1):=#[_,get?_update_seq ho λ_=>#v[]];rw[list_sort_plain];apply ab (listItems_at ho rfl ?_);apply ab (listUpdate_at ho rfl ?_ (by rw[cw];show hz) (bz _));apply ab (seqEpoch_at ag rfl ?_);apply ab (wpAny_newTuple ?_ (by show vs.length<=_;show hz));apply ab (wpAny_newList ?_ (bz _));apply cy ?_;show wpAny _ A _ P E {s with heap:=((s.heap.update a (Obj.mapSeq λ_=>(#v[]:Array Value))).push (seqObj "tuple" vs.toArray 0)).push (seqObj "list" #v[] 0)};dsimp only;have other:∀b o,b≠a->s.heap.get? b=some o->(((s.heap.update a (Obj.mapSeq λ_=>(#v[]:Array Value))).push (seqObj "tuple" vs.toArray 0)).push (seqObj "list" #v[] 0)).get? b=some o:=λb o hb e =>
  ak _ (ak _ (by rw[s1.2 b hb];show e))
 have J:(((s.heap.update a (Obj.mapSeq λ_=>(#v[]:Array Value))).push (seqObj "tuple" vs.toArray 0)).push (seqObj "list" #v[] 0)).get? a=some (seqObj "list" #v[] e1):=ak _ (ak _ ag);generalize ((s.heap.update a (Obj.mapSeq λ_=>(#v[]:Array Value))).push (seqObj "tuple" vs.toArray 0)).push (seqObj "list" #v[] 0)=H at other J;have hl:vs.toArray.size=vs.length:=cw;have fin:∀os:List Nat,os.Perm (List.range vs.length)->Srt lt os->P (.done (.ret .none)) {s with heap:=H.update a (Obj.mapSeq λ_=>(os.map λi=>vs.getD i Value.none).toArray)}:=λos B so=>by
  have#[c2,ai]:∃c2,(H.update a (Obj.mapSeq λ_=>(os.map λi=>vs.getD i Value.none).toArray)).get? a=some (seqObj "list" (os.map λi=>vs.getD i Value.none).toArray c2):=#[_,get?_update_seq J λ_=>(os.map λi=>vs.getD i Value.none).toArray];have s2:=gh H a (Obj.mapSeq λ_=>(os.map λi=>vs.getD i Value.none).toArray);show h os _ c2 B so (λb o hb e=>by rw[s2.2 b hb];show other b o hb e) ai
 have last:∀(U:SortSt) (os:List Nat),arrOf U=KA (itV vs) os->failedOf U=none->os.Perm (List.range vs.length)->Srt lt os ->
   wpAny (model prog w) A (do
    let sorted:=(arrOf U).map (·.2)
    let O:=(← seqEpoch a) != e1
    Builtin.List.listUpdate (.ref a) λ_=>sorted
    if let some e:=failedOf U then rule "list.sort.comparison-raised";throw e
    if O then rule "list.sort.modified";raiseError "ValueError" "list modified during sort"
    ret .none) P E {s with heap:=H}:=λU os ha hf B so=>by
  have e:(arrOf U).map (·.2)=(os.map λi=>vs.getD i Value.none).toArray:=by
   rw[ha];simp[KA,itV]
  rw[e];apply ab (seqEpoch_at J rfl ?_);apply ab (listUpdate_at J rfl ?_ (bz _) (by rw[cw,aq,B.length_eq,nc];(show az .Q .a .A hz)));rw[hf];simp only[i4,fu,mj];show ae (fin os B so)
 by_cases z:vs.toArray.size<2
 ·rw[cf z,cf z];apply ab (ae ?_);rw[StateT.run_pure];apply ab (ae ?_);apply last _ (List.range vs.length) (xA vs) rfl (.refl _) ?_;rw[hl]at z;obtain h3|h3:vs.length=0\/vs.length=1:=by(show xf λq1=>((au (iS.mp q1).1).elim (λq2=>(fj .ff .k .b3 q2)) λq2=>((au (iS.mp q1).2).elim (λq3=>(uB .ff .c .C .c0 q2 q3)) λq3=>(uB .ff .c (.l .A .W) .a0 z q3))))
  ·rw[h3];show .nil
  ·rw[h3];show lh _ _
 ·rw[aw z,aw z];rw[hl]at z;apply ab (hk H other (by show fj (.k .W .A) .a (.g .A .W) z) _ ?_);apply ab (di (show PyProof.Rows.wpS (model prog w) A E {s with heap:=H} kH (λ_ U=>∃os,arrOf U=KA (itV vs) os/\failedOf U=none/\os.Perm (List.range vs.length)/\Srt lt os) (SortSt.mk' kd (vs.toArray.zip vs.toArray) #v[] 7 none) from
   wpS_sortRuns (hO H other) T #[rfl,xA vs,rfl,rfl] (λx hx=>zu.mp hx) λos U pd B so I=>#[os,I.a,I.f,B,so]) ?_ λ_ _ e=>e)
  rintro ⟨⟨⟩,U⟩ s' ⟨rfl,os,ha,hf,B,so⟩;show last U os ha hf B so
end
end MP
end
section
namespace MP
open PySem PyProof.Rows PySem.W
variable {ts:List (Int×Int×Int)}{C:Addr}{h:Heap}{vs:List Value}
abbrev tl (t:Int×Int×Int):List Int:=[t.1,t.2.1,t.2.2]
def B4 (s t:Int×Int×Int):leT s t=!(lg (tl t) (tl s)):=rfl
abbrev LeT (s t:Int×Int×Int):Prop:=s.1<t.1\/(s.1=t.1/\(s.2.1<t.2.1\/(s.2.1=t.2.1/\s.2.2<=t.2.2)))
def zj (s t:Int×Int×Int):leT s t=true↔LeT s t:=by
 rw[B4,jl];unfold LeT;by_cases J:t.1=s.1
 ·rw[show lg (tl t) (tl s)=lg [t.2.1,t.2.2] [s.2.1,s.2.2] from cf J];by_cases z:t.2.1=s.2.1
  ·rw[show lg [t.2.1,t.2.2] [s.2.1,s.2.2]=lg [t.2.2] [s.2.2] from cf z];by_cases h3:t.2.2=s.2.2
   ·rw[show lg [t.2.2] [s.2.2]=false from cf h3];apply#[λ_=>.inr #[J.symm,.inr #[z.symm,fG h3.symm]],λ_=>rfl]
   ·rw[show lg [t.2.2] [s.2.2]=decide (t.2.2<s.2.2) from aw h3,jV]
    (show#[λO=>(.inr #[(uv .a3 .g .c6 J),(.inr #[(uv .a3 .g .c6 z),(uv (.ik .A .B) .a (.ig .B .A) O)])]),λO=>((uq h3).elim (λW=>(O.elim (λU=>(jR .a7 .c .b8 (.il .D .C) J U)) λU=>(U.2.elim (λI=>(jR .a7 .c .b8 (.il .D .C) z I)) λI=>(uv .a7 .a (.ik .B .A) I.2)))) λW=>(uv .a7 .a .aR W))])
  ·rw[show lg [t.2.1,t.2.2] [s.2.1,s.2.2]=decide (t.2.1<s.2.1) from aw z,jV]
   (show#[λO=>(.inr #[(uv .a3 .g .c6 J),(.inl ((uq z).elim (λW=>(wY .aA .c (.ig .B .A) .aR O W)) λW=>(uv .aA .a .aA W)))]),λO=>((uq z).elim (λW=>(O.elim (λU=>(jR .a7 .c .b8 (.il .D .C) J U)) λU=>(U.2.elim (λI=>(uv .a7 .a .aR I)) λI=>(uv .a7 .a .c6 I.1)))) λW=>(uv .a7 .a .aR W))])
 ·rw[show lg (tl t) (tl s)=decide (t.1<s.1) from aw J,jV]
  (show#[λO=>(.inl ((uq J).elim (λW=>(wY .aA .c (.ig .B .A) .aR O W)) λW=>(uv .aA .a .aA W))),λO=>((uq J).elim (λW=>(O.elim (λU=>(uv .a7 .a .aR U)) λU=>(uv .a7 .a .c6 U.1))) λW=>(uv .a7 .a .aR W))])
def LeT.trans {a b c:Int×Int×Int}(J:LeT a b)(O:LeT b c):LeT a c:=by
 unfold LeT at *;rcases J with p|⟨p,U⟩
 ·show .inl (O.elim (λW=>(hJ .aA .b (.il .A .C) (.il .C .B) p W)) λW=>(hJ .aA .b (.il .A .C) (.ie .C .B) p W.1))
 ·rcases O with q|⟨q,W⟩
  ·show .inl (hJ .aA .b (.ie .A .C) (.il .C .B) p q)
  ·apply .inr #[p.trans q,?_];rcases U with p|⟨p,U⟩
   ·show .inl (W.elim (λW=>(hJ .aA .b (.il .A .C) (.il .C .B) p W)) λW=>(hJ .aA .b (.il .A .C) (.ie .C .B) p W.1))
   ·rcases W with q|⟨q,W⟩
    ·show .inl (hJ .aA .b (.ie .A .C) (.il .C .B) p q)
    ·show .inr #[p.trans q,kr U W]
def LeT.total (a b:Int×Int×Int):LeT a b\/LeT b a:=by
 rcases Int.lt_trichotomy a.1 b.1 with h|h|h
 ·show .inl (.inl h)
 ·rcases Int.lt_trichotomy a.2.1 b.2.1 with g|g|g
  ·show .inl (.inr #[h,.inl g])
  ·show(Int.le_total a.2.2 b.2.2).imp (λk=>.inr #[h,.inr #[g,k]]) λk=>.inr #[h.symm,.inr #[g.symm,k]]
  ·show .inr (.inr #[h.symm,.inl g])
 ·show .inr (.inl h)
def LeT.SF {a b:Int×Int×Int}(h1:LeT a b)(z:LeT b a):a=b:=by
 unfold LeT at *;have I:a.1=b.1:=by(show h1.elim (λU=>(z.elim (λW=>(wY .a3 .f .aA .aR U W)) λW=>(uv .a3 .g .c6 W.1))) λU=>(uv .a3 .j .a3 U.1))
 have e2:a.2.1=b.2.1:=by(show h1.elim (λU=>(jR .a3 [[0,-1,1],[0,-1,1]] .b8 (.il .C .D) I U)) λU=>(z.elim (λW=>(jR .a3 .p .b8 (.il .D .C) I W)) λW=>(U.2.elim (λJ=>(W.2.elim (λO=>(wY .a3 .f .aA .aR J O)) λO=>(uv .a3 .g .c6 O.1))) λJ=>(uv .a3 .j .a3 J.1))))
 have e3:a.2.2=b.2.2:=by(show h1.elim (λU=>(jR .a3 [[0,-1,1],[0,-1,1]] .b8 (.il .C .D) I U)) λU=>(z.elim (λW=>(jR .a3 .p .b8 (.il .D .C) I W)) λW=>(U.2.elim (λJ=>(jR .a3 [[0,-1,1],[0,-1,1]] .b8 (.il .C .D) e2 J)) λJ=>(W.2.elim (λO=>(jR .a3 .p .b8 (.il .D .C) e2 O)) λO=>(wY .a3 .f (.ik .A .B) (.ik .B .A) J.2 O.2)))))
 show Prod.ext I (Prod.ext e2 e3)
def gX:∀{a b:List (Int×Int×Int)},a.Perm b->a.Pairwise LeT->b.Pairwise LeT->a=b
 | [],b,W,_,_=>by simpa using W.nil_eq
 |x::a,[],W,_,_=>by have:=W.length_eq;simp at this
 |x::a,y::b,W,I,hb=>by
  have J:=kc.mp I;have O:=kc.mp hb;have U:x=y:=by
   have z:LeT y x:=by
    have:x∈y::b:=W.mem_iff.mp (.head _);rcases bw.mp this with rfl|h
    ·unfold LeT;(show .inr #[(pP (.ie .A .A) .n),(.inr #[(pP (.ie .A .A) .n),(pP (.ik .A .A) .i)])])
    ·show O.1 x h
   have B:LeT x y:=by
    have:y∈x::a:=W.mem_iff.mpr (.head _);rcases bw.mp this with rfl|h
    ·unfold LeT;(show .inr #[(pP (.ie .A .A) .n),(.inr #[(pP (.ie .A .A) .n),(pP (.ik .A .A) .i)])])
    ·show J.1 y h
   show B.SF z
  subst U;rw[gX (W.cons_inv) J.2 O.2]
def h9 (ts:List (Int×Int×Int)):(ts.mergeSort leT).Pairwise LeT:=by
 have h:=List.pairwise_mergeSort (le:=leT) (λa b c O U=>(zj a c).mpr (((zj a b).mp O).trans ((zj b c).mp U))) (λa b=>by
  rcases LeT.total a b with h|h
  ·rw[(zj a b).mpr h];rfl
  ·rw[(zj b a).mpr h];simp) ts
 show h.imp λW=>(zj _ _).mp W
abbrev AY (ts:List (Int×Int×Int))(i j:Nat):Bool:=lg (tl (ts.getD i (0,0,0))) (tl (ts.getD j (0,0,0)))
def dZ {i j:Nat}:AY ts j i=false↔LeT (ts.getD i (0,0,0)) (ts.getD j (0,0,0)):=by
 rw[<- zj,B4];unfold AY;cases lg (tl (ts.getD j (0,0,0))) (tl (ts.getD i (0,0,0)))<;>simp
def L8 (ts:List (Int×Int×Int)):LtT (AY ts) where
 asym:=λa b h=>by
  rw[dZ];have U:¬LeT (ts.getD b (0,0,0)) (ts.getD a (0,0,0)):=λhl=>by rw[<- dZ]at hl;rw[h]at hl;cases hl
  rcases LeT.total (ts.getD a (0,0,0)) (ts.getD b (0,0,0)) with W|W
  ·show W
  ·show absurd W U
 tr:=λa b c U W=>by
  rw[dZ]at *;show U.trans W
def vC {os:List Nat}(J:os.Perm (List.range ts.length))(O:Srt (AY ts) os):os.map (λi=>ts.getD i (0,0,0))=ts.mergeSort leT:=by
 apply gX ?_ ?_ (h9 ts)
 ·have W:=J.map λi=>ts.getD i (0,0,0);have U:((List.range ts.length).map λi=>ts.getD i (0,0,0))=ts:=by
   apply kC ?_ ?_
   ·simp
   ·intro i W U;simp at W;simp[List.getD,W]
  rw[U]at W;show W.trans (List.mergeSort_perm ts leT).symm
 ·show List.pairwise_map.mpr (O.imp λh=>dZ.mp h)
abbrev Mts (C:Addr)(h:Heap):List (Int×Int×Int)->List Value->Prop
 | []=>λvs=>vs=[]
 |t::ts=>λvs=>∃x dd ws n us,vs=.ref x::us/\h.get? x=some (dC C dd ws n)/\IntsAre ws (tl t)/\Mts C h ts us
def Mts.length:{ts:List (Int×Int×Int)}->{vs:List Value}->Mts C h ts vs->ts.length=vs.length
 | []=>λe=>e▸rfl
 |_::_=>λW=>by have#[_,_,_,_,_,e,_,_,r]:=W;show e▸cc (·+1) r.length
def Mts.at (m:Mts C h ts vs)(i:Nat)(hi:i<ts.length):∃x dd ws n,vs.getD i Value.none=.ref x/\h.get? x=some (dC C dd ws n)/\IntsAre ws (tl (ts.getD i (0,0,0))):=by
 induction ts generalizing vs i with
 |nil=>show absurd hi (pe i)
 |cons t ts W =>
  have#[x,dd,ws,n,us,e,g,q,r]:=m;subst e;cases i with
  |zero=>refine#[x,dd,ws,n,rfl,g,q]
  |succ i=>show W r i (lI hi)
def Mts.mono {h':Heap}(hk:jn h h'):{ts:List (Int×Int×Int)}->{vs:List Value}->Mts C h ts vs->Mts C h' ts vs
 | []=>λe=>e
 |_::_=>λW=>by have#[x,dd,ws,n,us,e,g,q,r]:=W;apply#[x,dd,ws,n,us,e,hk _ _ g (.inl #[λq=>(nomatch q),_,_,rfl]),q,r.mono hk]
def Mts.of {G:Stc}:{ts:List (Int×Int×Int)}->{vs:List Value}->VRs G h (ts.map mtV) vs->Mts G.cM h ts vs
 | []=>λe=>e
 |t::_=>λW=>by have#[_,us,e,#[a,ws,n,dd,U,g,r],rest]:=W;apply#[a,dd,ws,n,us,U▸e,g,pg (ns:=tl t) r,Mts.of rest]
def Mts.vr {G:Stc}:{ts:List (Int×Int×Int)}->{vs:List Value}->Mts G.cM h ts vs->VRs G h (ts.map mtV) vs
 | []=>λe=>e
 |t::_=>λW=>by have#[x,_,_,_,us,e,g,q,r]:=W;apply#[.ref x,us,e,.mt g (VRs.ints (ns:=tl t) q),r.vr]
def Mts.pick (m:Mts C h ts vs):(l:List Nat)->(∀i∈l,i<ts.length)->Mts C h (l.map λi=>ts.getD i (0,0,0)) (l.map λi=>vs.getD i Value.none)
 | []=>λ_=>rfl
 |i::l=>λhl=>by
  have#[x,dd,ws,n,e,g,hi]:=m.at i (hl i (.head _));apply#[x,dd,ws,n,l.map λi=>vs.getD i Value.none,cc (·::_) e,g,hi,m.pick l λj W=>hl j (.tail _ W)]
section
variable {G:Stc}{A:Around}{E:QqV}{s:Shared}{σ:St}
def vT (K:vd G){a:Addr}{n:Nat}{P:Fin->Shared->Prop}(hu:A.units<cLine)(U:∀b o,G.hb.get? b=some o->s.heap.get? b=some o)(z:G.hb.get? a=none)(ho:IsL s.heap a vs.toArray n)(m:Mts G.cM s.heap ts vs)(hz:ts.length<=sizeLine)
  (h:∀h' J k,At a s.heap h'->IsL h' a J.toArray k->Mts G.cM s.heap (ts.mergeSort leT) J->P (.done (.ret .none)) {s with heap:=h'}):wpAny G.M A (Builtin.«list.sort» #[[.ref a],[]]) P E s:=by
 have#[N,mN,nm,q,k0,k2,k3,hC,hN,hi,ag,_]:=K.here;have W:=m.length;have frz:∀{H:Heap},(∀b o,b≠a->s.heap.get? b=some o->H.get? b=some o)->jn s.heap H:=λ{H} other b o e f=>other b o (λq=>by subst q;rw[show s.heap.get? b=_ from ho]at e;cases e;show cI rfl rfl f) e;apply fP (kd:=oneType') (L8 ts) ho (by rw[<- W];show hz) (λH other h2 Q' hq=>?_) (λH other i j C hi hj hc=>?_) λos h' k hp so keep I=>?_
 ·have mH:=m.mono (frz other);apply kas_kind (T:=.ref G.cM) h2 (λv hv=>?_) (by rfl) (by simp) hq;have#[i,hi,rfl]:=er.mp hv;have#[x,dd,ws,k,e,g,_]:=mH.at i (fb .B .m .aS .G W hi);have e':vs[i]=.ref x:=by rw[<- e];simp[List.getD,hi]
  rw[e'];intro A Q E s' hk hq;unfold typeOf;apply ab (jU (hk _ _ g) ?_);show ae hq
 ·have mH:=m.mono (frz other);have aj:H.get? G.cM=some (gU G.cM N nm q k0 k2 k3):=other _ _ (λq=>by subst q;rw[z]at hC;cases hC) (U _ _ hC);have ai:H.Ns N mN:=by
   have#[o,es,ep,O,r]:=hN;apply#[o,es,ep,other _ _ (λq=>by subst q;rw[z]at O;cases O) (U _ _ O),r]
  have#[x,dd,ws,k,e,g,hx]:=mH.at i (fb .B .m .aS .G W hi);have#[y,de,us,k',e',g',hy]:=mH.at j (fb .B .m .aS .G W hj);show wpAny _ _ (keyLt' oneType' (vs.getD i Value.none) (vs.getD j Value.none)) _ _ _;rw[e,e'];show L4 hu aj ai ag g g' hx hy rfl hc
 ·apply h h' _ k #[keep,#[_,I],λo e=>by have rfl:=af (e.symm.trans ho);show cI rfl rfl] I ?_;rw[<- vC (by rw[W];show hp) so];apply m.pick os λi hi=>?_;have:=zu.mp (hp.mem_iff.mp hi)
  (show fb .B .m .aS .G W this)
def EY {C:Cal}{sc:Scope}{d:Nat}{a:Ex}{o:Expr}{apos pos:Pos}(K:vd G)(ha:fk G C sc d a o)(hb:vg o=true)(I:(apos.endLine==pos.line)=true) :
  fk G C sc d (.bm .sort a .nil) (.Call (.Attribute o "sort" apos) [] [] pos):=λA E env ρ σ Q s c h =>
 qy hb rfl (by decide) I (rp (ha c h) λv σ₁ s₁ w q vr r x pl =>
  rC (k:=.sort) r vr q.1 (qx rfl ll (c.go r x) q.2 λvs σ₂ s₂ ws z ai r₂ O=>by
   have J:=vr.mono O.frz;have#[b,rfl,U]:=uc (v:=v) z;have#[rfl,ts,e,U]:=AQ (vs:=vs) U;have rfl:=ai;have rfl:=J;have#[us,n,hl,hv]:=r₂.L _ _ e;have aj:=r₂.new b (.inl (by rw[e];rfl));apply gy PySem.F.slot_list_sort #[_,hl,rfl] PyProof.Rows.entry_list_sort (vT K (by have:=c.ao.units;show A.units+1<_;(show gz .W .a (.l (.a (.a .A (.m 30 .C)) .aQ) .B) this)) r₂.base aj hl (Mts.of hv) (nq (by have:=r₂.Ll _ _ e;rwa [aq]at this)) λh' ax k ag ar m'=>#[_,rfl,?_]) (PyProof.Rows.args_list_sort _);have hz:((ts.mergeSort leT).map mtV).length<=ba:=by
    have:=(List.mergeSort_perm ts leT).length_eq;have h2:=r₂.Ll _ _ e;rw[aq]at h2 ⊢;rw[this];show h2
   have R':=r₂.putL ag (λq=>by rw[e]at q;cases q) ar m'.vr hz;apply#[.none,_,U,.none,R',x.trans (O.to (Evo.putL ag (λq=>by rw[e]at q;cases q) _))]))
end
structure rq (G:Stc)(fN fM:Addr):Prop where
 made:Looks G.M G.hb (Bind.madeBy (.ref G.cM)) none
 here:Looks G.M G.hb (Bind.madeHere "tuple.__new__" (.ref G.cM)) ()
 chk:∀x,Looks G.M G.hb (checkBuiltinCall "tuple.__new__" #[[.ref G.cM,x],[]]) ()
 mro:Looks G.M G.hb (mroOf (.ref G.cM)) [.ref G.cM,.type "tuple",.type "object"]
 self:Looks G.M G.hb (isSubtype (.ref G.cM) (.ref G.cM)) true
 tup:Looks G.M G.hb (isSubtype (.ref G.cM) (.type "tuple")) true
 init:Looks G.M G.hb (typeLookup (.ref G.cM) "__init__") (some (.builtin "object.__init__"))
 call:Looks G.M G.hb (specialOf (.ref G.cM) "__call__") (some (.builtin "type.__call__"))
 typ:Looks G.M G.hb (isInstance (.ref G.cM) (.type "type")) true
 isT:Looks G.M G.hb (isType (.ref G.cM)) true
 del:Looks G.M G.hb (classHasDel G.cM) false
 new:∀(A:Around) (E:QqV) (s:Shared) (Q:QqV),(∀b o,G.hb.get? b=some o->s.heap.get? b=some o)->Q (.ref fN) {s with toks:=s.toks+1}->wpAny G.M A (getAttr (.ref G.cM) "__new__") Q E s
 make:∀(A:Around) (E:QqV) (s:Shared) (expr:Bool) (Q:QqV),(∀b o,G.hb.get? b=some o->s.heap.get? b=some o)->Q (.ref s.heap.objs.size) {s with heap:=s.heap.push {cls:=.type "method",data:=.fields #v[.ref fM,.ref G.cM]},toks:=s.toks+1}->wpAny G.M A (getAttr (.ref G.cM) "_make" expr) Q E s
 typNew:∀(A:Around) (E:QqV) (s:Shared) (expr:Bool) (Q:QqV),Q (.builtin "tuple.__new__") {s with toks:=s.toks+1}->wpAny G.M A (getAttr (.type "tuple") "__new__" expr) Q E s
def xU:plainId "tuple.__new__"=true:=by decide +kernel
def yY:entryFor table "tuple.__new__"=some Builtin.«tuple.__new__»:=fD (by kernel_rfl)
section
variable {G:Stc}{A:Around}{E:QqV}{s:Shared}{fN fM:Addr}
public abbrev eJ (G:Stc)(h:Heap):Prop:=∀b o,G.hb.get? b=some o->h.get? b=some o
def CA (K:rq G fN fM){x:Addr}{ws:List Value}{n:Nat}{Q:QqV}(hb:eJ G s.heap)(O:IsT s.heap x ws.toArray n)(hz:ws.length<=ba)
  (h:∀h' y dd,(∀b o,s.heap.get? b=some o->h'.get? b=some o)->s.heap.get? y=none->h'.get? y=some (dC G.cM dd ws 0)->Q (.ref y) {s with heap:=h'}) :
  wpAny G.M A (call (.builtin "tuple.__new__") [.ref G.cM,.ref x]) Q E s:=by
 apply ug (gC xU yY ((K.chk (.ref x)) _ _ _ _ hb ?_));unfold Builtin.«tuple.__new__»;dsimp only;apply ab (K.isT _ _ _ _ hb ?_);simp -iota only[d6,fu,mj];apply ab (K.tup _ _ _ _ hb ?_);simp -iota only[d6,fu,mj];apply ab (K.here _ _ _ _ hb ?_);apply ab (K.init _ _ _ _ hb ?_);rw[cf (by decide)];have U:ws.toArray.size<=sizeLine:=by rw[cw];show nq hz
 apply ab (fo (a:=()) rfl ?_);apply ab (fo (a:=()) rfl ?_);apply ab ?_;apply wpAny_collect_seq x (.inr rfl) O rfl rfl (λh₁ W=>ab (ae ?_)) U;apply ab (wpAny_alloc ?_);unfold newObj newObjAsIs;dsimp only;rw[aw (by simp only[cw]at U ⊢;(show az .bR .a .Y U))];apply ab (ab (wpAny_alloc ?_));have hk:∀b o,s.heap.get? b=some o->((h₁.push {cls:=.type "dict",data:=.dict #v[]}).push (dC G.cM (some h₁.objs.size) ws 0)).get? b=some o:=λb o e=>ak _ (ak _ (W b o e));have e:ws.toArray.toList.toArray=ws.toArray:=by simp
 apply ab (K.del _ _ _ _ (λb o e=>hk b o (hb b o e)) ?_);simp -iota only[fu,mj];apply ae (ae ?_);have J:(h₁.push {cls:=.type "dict",data:=.dict #v[]}).objs.size=h₁.objs.size+1:=iy ..;show Q (.ref (h₁.push {cls:=.type "dict",data:=.dict #v[]}).objs.size) _;apply h _ _ (some h₁.objs.size) hk ?_ (cq _ rfl);rw[J];cases hq:s.heap.get? (h₁.objs.size+1) with
 |none=>rfl
 |some o=>show absurd (jd (W _ _ hq)) (ru.mpr (dS _))
abbrev t9 (p0 p1 p2 p3 p4 p5 p6 p7 p8 p9 p10:Pos)(doc:Str)(c0 c1:Nat):List Stmt:=
 [.Expr (.Constant (.str doc) c0 p0) p1,.Return (some (.Call (.Attribute (.Name "tuple" p2) "__new__" p3) [.Name "_cls" p4,.Tuple [.Name "a" p5,.Name "b" p6,.Name "size" p7] c1 p8] [] p9)) p10]
abbrev dB (more:List (Str×Const)):Scope:=
 {kind:=.function,names:=[("_cls",.local),("a",.local),("b",.local),("size",.local),("tuple",.globalImplicit)],isGenerator:=false,isCoroutine:=false,more:=more}
def sT {C:Cal}{sc:Scope}{d:Nat}{x:Str}{k:Nat}{p pos:Pos}:cY G C sc d .pass (.Expr (.Constant (.str x) k p) pos):=λA E env ρ σ K s c h =>
 wpAny_Expr (by
  show wpAny _ _ (mkText x) _ _ s;apply wpAny_mkText ?_;show tc.here .next h c.F c.R) (by unfold interactive;rw[c.eo.kind];rfl) (fI rfl _ _ _)
def DH (K:rq G fN fM){W:Sem Bool}{Q:Value×List Value->Shared->Prop}(h:Q (.builtin "tuple.__new__",[]) {s with toks:=s.toks+1}):wpAny G.M A (getMethod (.type "tuple") "__new__" W) Q E s:=by
 unfold getMethod specialOf;have U:typeOf (.type "tuple")=pure (.type "type"):=by first|rfl|kernel_rfl
 apply ab (ab (fo U (fo KF.slot_tga.lookup ?_)));dsimp only;rw[cf canon_tga];show ab (K.typNew _ _ _ _ _ (ae h))
variable {σ:St}
def rT {C:Cal}{sc:Scope}{d:Nat}{env:Env}{ρ:Fr}{c e:Ex}{B I:Expr}{p apos pos:Pos}{vs:List V}{τ:St->Prop}{Q:QqV}(Kg:GOk G)(K:rq G fN fM)(hc:fk G C sc d c B)(he:fk G C sc d e I)(W:noStar [B,I]=true)(U:(apos.endLine==pos.line)=true)
  (hx:sc.names.lookup ("tuple":Str)=some .globalImplicit) (hg:G.gl "tuple"=some (.type "tuple")) (z:Cx G sc d A env ρ σ s)
  (hw:wpE C c ρ σ λv σ'=>wpE C e ρ σ' λu O=>v=.obj G.cM/\u=.T vs/\vs.length<=ba/\τ O)
  (k:∀σ₁ s₁ y,τ σ₁->VR G s₁.heap (.mt vs) (.ref y)->Rel G σ₁ s₁.heap->Go [] σ s σ₁ s₁->Q (.ref y) s₁) :
  wpAny G.M A (eval (.Call (.Attribute (.Name "tuple" p) "__new__" apos) [B,I] [] pos) env) Q E s:=by
 apply qy rfl W (by simp) U (mu Kg z.eo z.R (by rw[z.es];show hx) (by decide) hg λpl=>?_);apply DH K ?_;have ag:rf G C sc d %[c,e|0] [B,I]:=ir hc (ir he ll (fm (fm W).2).1) (fm W).1;apply qx (P:=λus σ=>on2 us λv u=>v=.obj G.cM/\u=.T vs/\vs.length<=ba/\τ σ) W ag (z.at (s₁:={s with toks:=s.toks+1}) z.F z.R) hw λus σ₁ s₁ ws q vr r J=>?_;have#[v,u,rfl,rfl,rfl,hz,q]:=o8 (vs:=us) q;have#[w1,w2,rfl,rfl,a,us,n,rfl,g,rr]:=vr.two;apply CA K r.base g (by rw[<- rr.length];show hz) λh' y dd hk hy hm=>?_;show k σ₁ _ y q (.mt hm (rr.mono λb o e _=>hk b o e)) (r.keeps hk) ((Go.refl.tok.trans J).to (Evo.keeps hk))
def dG {n:Nat}{dflt:List V}{b:pq}{vs:List V}{i:Nat}{v:V}(h:vs[i]?=some v):frameOf #[n,dflt,b] vs i=some v:=by
 unfold frameOf iO;rw[ew (cu.mp h).1];show h
def qS {d:Nat}{p0 p1 p2 p3 p4 p5 p6 p7 p8 p9 O:Pos}{doc:Str}{c0 c1:Nat}{more:List (Str×Const)}{x y z:V}{wx wy wz:Value}{Q:V->St->Prop}(Kg:GOk G)(K:rq G fN fM)(Kf:FnAt G fN 4 [] (dB more) (t9 p0 p1 p2 p3 p4 p5 p6 p7 p8 p9 O doc c0 c1))(U:(p3.endLine==p9.line)=true)(hg:G.gl "tuple"=some (.type "tuple"))
  (ao:AOk A (d+1)) (R:Rel G σ s.heap) (vx:VR G s.heap x wx) (vy:VR G s.heap y wy) (vz:VR G s.heap z wz) (h:Q (.mt [x,y,z]) σ):wpAny G.M A (call (.ref fN) [.ref G.cM,wx,wy,wz]) (km G [] σ s Q) E s:=by
 apply sE (b:=.nil) (vs:=[.obj G.cM,x,y,z]) (d:=d) Kf (λA' E' env s' c=>?_) ao R %[.obj _,vx,vy,vz|0] (by simp) (by simp);have B:Cal:=λ_ _ _ _=>False;have l:∀(i:Nat) (nm:Str) (p:Pos),(dB more).names[i]?=some (nm,.local)->jr nm=true->fk G B (dB more) d (.l i) (.Name nm p):=λi nm p hi hn=>n6 hi rfl hn;apply uw (di (sT (C:=B) (K:=λfl ρ' σ'=>fl=.next/\ρ'=frameOf #[4,[],.nil] [.obj G.cM,x,y,z]/\σ'=σ) c #[rfl,rfl,rfl]) (λf ag lf=>?_) λ_ _ x=>x);have#[fl,ρ',σ',fr,#[rfl,rfl,J],I,R2,x2]:=lf;rw[J]at I R2 x2;cases fr;apply uw (wpAny_Return_some ?_);have ht:fk G B (dB more) d (.T %[.l 1,.l 2,.l 3|0]) (.Tuple [.Name "a" p5,.Name "b" p6,.Name "size" p7] c1 p8):=
  AB (ir (l 1 _ _ rfl (by decide)) (ir (l 2 _ _ rfl (by decide)) (ir (l 3 _ _ rfl (by decide)) ll λ_=>rfl) λ_=>rfl) λ_=>rfl)
 apply rT (vs:=[x,y,z]) (τ:=λσ'=>σ'=σ) Kg K (l 0 _ _ rfl (by decide)) ht rfl U rfl hg (c.at I R2) ?_ λσ₁ s₁ yy q vr r W=>?_
 ·apply#[.obj G.cM,dG rfl,x,dG rfl,y,dG rfl,z,dG rfl,bh rfl,rfl,rfl,bh rfl,rfl]
 ·rw[q]at r W;apply#[.ret (.mt [x,y,z]),_,σ,.ret vr,h,I.evo W.e,r,x2.trans W.wide]
end
variable {y:Addr}{dd:Option Addr}{ws:List Value}{n:Nat}
def oA:Slot "object" "__init__" "object.__init__":=
 Slot.of (owner:="object") (n:="__init__") (by rw[gc,dw];kernel_rfl) (by decide +kernel) (by decide +kernel) (by decide +kernel) (.inl (by decide +kernel)) (by rw[jy];kernel_rfl)
def vL:entryFor table "object.__init__"=some Builtin.«object.__init__»:=fD (by kernel_rfl)
def xY:builtinKind "object.__init__"=some .slot:=by kernel_rfl
def vK:splitId "object.__init__"=some ("object","__init__"):=by kernel_rfl
def xZ (a:Value)(rest:List Value):argsOk "object.__init__" #[a::rest,[]]:=by unfold argsOk;kernel_rfl
section
variable {G:Stc}{A:Around}{E:QqV}{s:Shared}{fN fM:Addr}{σ:St}
def oJ (K:rq G fN fM){h:Heap}{base:Value}{r:Bool}(hb:eJ G h)(W:h.get? y=some (dC G.cM dd ws n))(U:Looks G.M G.hb (isSubtype (.ref G.cM) base) r):Looks G.M h (isInstance (.ref y) base) r:=λA Q E s hk O=>by
 unfold isInstance typeOf;apply ab (ab (jU (hk _ _ W) (ae ?_)));show U _ _ _ _ (λb o e=>hk _ _ (hb _ _ e)) O
def DF (K:rq G fN fM){rest:List Value}{P:Fin->Shared->Prop}(hb:eJ G s.heap)(O:s.heap.get? y=some (dC G.cM dd ws n))(U:P (.done (.ret .none)) s) :
  wpAny G.M A (Builtin.«object.__init__» #[.ref y::rest,[]]) P E s:=by
 have W:∀{R:QqV},R (.ref G.cM) s->wpAny G.M A (typeOf (.ref y)) R E s:=λ{R} hr=>by
  unfold typeOf;show ab (jU O (ae hr))
 unfold Builtin.«object.__init__»;dsimp only;by_cases hr:(!rest.isEmpty||!([]:List (Str×Value)).isEmpty)=true
 ·rw[cf hr];apply ab (W (ab (K.init _ _ _ _ hb (ab (K.made _ _ _ _ hb ?_)))));have I:(some (Value.builtin "object.__init__") != some (Value.builtin "object.__init__"))=false:=i4 _;have J:((none:Option String) != some "object.__new__")=true:=rfl;rw[I,J];show ae U
 ·rw[aw hr];show ae U
def DG (K:rq G fN fM)(W:Looks G.M G.hb (isSubtype (.ref G.cM) (.type "object")) true){n:Nat}{rest:List Value}{Q:QqV}(hb:eJ G s.heap)(U:s.heap.get? y=some (dC G.cM dd ws n))(O:Q .none s) :
  wpAny G.M A (call (.builtin "object.__init__") (.ref y::rest)) Q E s:=by
 have J:∀(A:Around) (E:QqV) (R:Unit->Shared->Prop),R () s->wpAny G.M A (checkBuiltinCall "object.__init__" #[.ref y::rest,[]]) R E s:=λA E R hr =>
  check_slot (M:=G.M) (i:="object.__init__") (owner:="object") (n:="__init__") (self:=.ref y) (rest:=rest) (kw:=[]) xY vK (oJ K hb U W) (xZ (.ref y) rest) hr
 apply ug ?_;apply gC (id:="object.__init__") (b:=Builtin.«object.__init__») oA.plain vL ?_;apply J _ _ _ ?_;show DF K hb U O
def sR (K:rq G fN fM)(W:Looks G.M G.hb (isSubtype (.ref G.cM) (.type "object")) true){rest:List Value}{Q:Option Value->Shared->Prop}(hb:eJ G s.heap)(J:s.heap.get? y=some (dC G.cM dd ws n))(I:Q (some .none) s) :
  wpAny G.M A (callSpecial? (.ref y) "__init__" rest []) Q E s:=by
 have U:∀{R:QqV},R (.ref G.cM) s->wpAny G.M A (typeOf (.ref y)) R E s:=λ{R} hr=>by
  unfold typeOf;show ab (jU J (ae hr))
 have O:∀{R:Option Value->Shared->Prop},R (some (.builtin "object.__init__")) s->wpAny G.M A (specialOf (.ref y) "__init__") R E s:=λ{R} hr=>by
  unfold specialOf;show ab (U (K.init _ _ _ _ hb hr))
 unfold callSpecial?;apply ab (O ?_);dsimp only;apply cy ?_;apply ab (fo (oA.bind (.ref y)) ?_);apply ab ?_;show DG K W hb J (ae I)
structure sG (G:Stc)(fN:Addr):Prop where
 fn:∃p0 p1 p2 p3 p4 p5 p6 p7 p8 p9 p10 doc c0 c1 more,FnAt G fN 4 [] (dB more) (t9 p0 p1 p2 p3 p4 p5 p6 p7 p8 p9 p10 doc c0 c1)/\(p3.endLine==p9.line)=true
 tup:G.gl "tuple"=some (.type "tuple")
 obj:Looks G.M G.hb (isSubtype (.ref G.cM) (.type "object")) true
def nJ {d:Nat}{x y z:V}{wx wy B:Value}{Q:V->St->Prop}{P:Fin->Shared->Prop}(Kg:GOk G)(K:rq G fN fM)(J:sG G fN)(ao:AOk A (d+1))(R:Rel G σ s.heap)(vx:VR G s.heap x wx)(vy:VR G s.heap y wy)(vz:VR G s.heap z B)(h:Q (.mt [x,y,z]) σ)
  (hP:∀w s',km G [] σ s Q w s'->P (.done (.ret w)) s'):wpAny G.M A (Builtin.«type.__call__» #[[.ref G.cM,wx,wy,B],[]]) P E s:=by
 have#[p0,p1,p2,p3,p4,p5,p6,p7,p8,p9,ag,doc,c0,c1,more,Kf,W]:=J.fn;have hb:eJ G s.heap:=R.base;unfold Builtin.«type.__call__»;dsimp only;rw[aw (show ¬((Value.ref G.cM==Value.type "type")=true) from fy)];apply ab (K.mro _ _ _ _ hb ?_);rw[aw (by simp)];apply ab (K.made _ _ _ _ hb ?_);dsimp only;apply ab (K.new _ _ _ _ hb ?_);apply ab (cy ?_);apply di (qS (Q:=λv σ'=>v=.mt [x,y,z]/\σ'=σ) Kg K Kf W J.tup ao R vx vy vz #[rfl,rfl]) (λw s' l=>?_) λ_ _ e=>e;have#[v,σ',#[rfl,O],vr,r,I]:=l;rw[O]at r I;have#[yy,ws,n,dd,rfl,g,rr]:=vr;have U:eJ G s'.heap:=r.base;apply ab ((oJ K U g K.self) _ _ _ s' (λ_ _ e=>e) ?_);simp only[d6,fu,mj];apply ab (cy (sR K J.obj U g ?_));simp only[i4,fu,mj];show ae (hP _ _ #[_,σ,h,.mt g rr,r,Go.refl.tok.trans I])
def zJ {d:Nat}{x y z:V}{O U W:Value}{Q:V->St->Prop}(Kg:GOk G)(K:rq G fN fM)(Kn:sG G fN)(Km:vd G)(ao:AOk A (d+2))(R:Rel G σ s.heap)(vx:VR G s.heap x O)(B:VR G s.heap y U)(I:VR G s.heap z W)(h:Q (.mt [x,y,z]) σ) :
  wpAny G.M A (call (.ref G.cM) [O,U,W]) (km G [] σ s Q) E s:=by
 have#[N,mN,nm,q,k0,k2,k3,hC,hN,_]:=Km.here;have J:=R.base _ _ hC;apply ug (wd ?_);show wpAny _ A.in1 (callAny (.ref G.cM) #[[O,U,W],[]]) _ _ s;unfold callAny;apply ab (xy J ?_);show wpAny _ _ (callAny.viaDunder (.ref G.cM) #[[O,U,W],[]]) _ _ s;unfold callAny.viaDunder;apply ab (K.call _ _ _ _ R.base ?_);dsimp only;apply ab (fo (tc_bind (.ref G.cM)) ?_);dsimp only;apply ab (fo (a:=true) (by rfl) ?_);rw[cf rfl];apply ae #[rfl,?_];apply codeAny_call_builtin_at (kD _ (by decide +kernel)) entry_typeCall ?_;apply check_slot (M:=G.M) (i:="type.__call__") (owner:="type") (n:="__call__") tc_kind tc_split (K.typ.keeps R.base) (tc_args _ _ _) ?_;apply nJ (d:=d) Kg K Kn (ao.make _ _) R vx B I h λw s' l=>?_;show l
end
end MP
end
section
namespace MP
open PySem PyProof.Rows PySem.W
section
variable {G:Stc}{A:Around}{E:QqV}{s:Shared}{fN fM:Addr}{σ:St}
def pN (K:rq G fN fM)(J:vd G){pos:Pos}{args:List (Bool×Sem Value)}{Q:QqV}(W:args.any (·.1)=false)
  (h:wpAny G.M A (evalArgs (.ref G.cM) true args []) (λx s₁=>eJ G s₁.heap/\wpAny G.M A (call (.ref G.cM) x.pos x.kw) Q E s₁) E s):wpAny G.M A (callWith pos (.ref G.cM) [] args []) Q E s:=by
 have#[N,mN,nm,q,k0,k2,k3,O,I,_]:=J.here;unfold callWith;apply ab (cy (di h (λx s₁ h₁=>ab (je ?_)) λ_ _ x=>x));have#[hb,U]:=h₁;simp -iota only[W,List.any_nil,iX];apply ab (m:=keeperOf (.ref G.cM)) ?_;unfold keeperOf;apply ab (xy (hb _ _ O) ?_);apply ab (K.call _ _ _ _ hb ?_);rw[cf (by decide)];apply ae ?_;show ab (di U (λr s₂ hr=>ab (cy (wpAny_point (ae hr)))) λ_ _ x=>x)
def sS {C:Cal}{sc:Scope}{d:Nat}{a b c:Ex}{x:Str}{I J O:Expr}{p pos:Pos}(Kg:GOk G)(K:rq G fN fM)(Kn:sG G fN)(Km:vd G)(hd:2<=d)(ha:fk G C sc d a I)(hb:fk G C sc d b J)(hc:fk G C sc d c O)(W:noStar [I,J,O]=true)
  (hx:sc.names.lookup x=some .globalImplicit) (hn:jr x=true) (hv:G.gl x=some (.ref G.cM)):fk G C sc d (.N a b c) (.Call (.Name x p) [I,J,O] [] pos):=λA E env ρ σ Q s z h=>by
 have B:rf G C sc d %[a,b,c|0] [I,J,O]:=ir ha (ir hb (ir hc ll (fm (fm (fm W).2).2).1) (fm (fm W).2).1) (fm W).1;have ag:AOk A (d-2+2):=by rw[aa hd];show z.ao
 apply Call_ (mu Kg z.eo z.R (by rw[z.es];show hx) hn hv (pN K Km (kh W pos env) (ph (kh W pos env) (qI (P:=λvs σ=>on3 vs λx y z=>Q (.mt [x,y,z]) σ) (B z h) λvs σ₁ s₁ ws q vr r U=>#[r.base,?_]))));have#[u1,u2,u3,rfl,q]:=QP q;have#[w1,w2,w3,rfl,va,vb,vc]:=vr.three;show U.back (zJ Kg K Kn Km ag r va vb vc q)
def xG:splitId "tuple.__len__"=some ("tuple","__len__"):=by kernel_rfl
def D9:builtinKind "tuple.__len__"=some .slot:=by kernel_rfl
end
section
variable {prog:Program}{w:World}{A:Around}{E:QqV}{h:Heap}{g:Array GenState}{d:Drawn}{t:Nat}{os:OsState}{C N:Addr}{nm q:Str}{k0 k2 k3:Option Value}{mN:Str->Option Value}{dd:Option Addr}
def QX {x:Addr}{ws:List Value}{n:Nat}{Q:QqV}(J:h.get? C=some (gU C N nm q k0 k2 k3))(hn:h.Ns N mN)(hl:mN "__len__"=none)(O:h.get? x=some (dC C dd ws n))(hz:ws.length<=ba)
  (I:∀u tk,Q (.int ws.length u) #[h,g,d,tk,os]):wpAny (model prog w) A (call (.builtin "len") [.ref x]) Q E #[h,g,d,t,os]:=by
 apply lK kind_len plain_len entry_len (args_len1 _) ?_;unfold Builtin.«len»;have U:=PySem.F.slot_tuple_len.lookup;have W:h.get? x=some {cls:=.ref C,dict:=dd,data:=.seq ws.toArray n,slots:=#v[]}:=O;unfold ba at hz
 repeat (first|(with_reducible refine te W ?_)|(with_reducible refine yt J hn U ?_;rw[hl])|wp_step)
 apply fo (PySem.F.slot_tuple_len.bind (.ref x)) ?_;dsimp only;apply ab (yA J O xG (.inl D9) PySem.F.slot_tuple_len.plain PySem.F.entry_tuple_len (PySem.F.args_tuple_len_1 _) ?_);unfold Builtin.«tuple.__len__»;apply ab (fo (a:=(.ref x,[])) (by rfl) ?_);dsimp only;apply ab (m:=Builtin.Tuple.tupleItemsOf (.ref x)) (ab (pj W rfl (ae ?_)));apply ab (wpAny_mkInt (ae #[_,rfl,ae ?_]));dsimp only;apply ab (cy ?_);apply fo (a:=((ws.toArray.size:Nat):Int)) (by rfl) ?_;apply ab (wpAny_letGo ?_);rw[aw (by simp),aw (by simp only[cw];(show fj (.ij .M .L) .a .a1 hz))];apply ab (wpAny_mkInt (ae #[_,rfl,?_]));simpa using I _ _
end
section
variable {G:Stc}{A:Around}{E:QqV}{s:Shared}{fN fM:Addr}{σ:St}
abbrev oH (p:Fin 20->Pos)(doc:Str)(c0 c1:Nat)(rest:List Stmt):List Stmt:=
 [.Expr (.Constant (.str doc) c0 (p 0)) (p 1),.Assign [.Name "result" (p 2)] (.Call (.Attribute (.Name "tuple" (p 3)) "__new__" (p 4)) [.Name "cls" (p 5),.Name "iterable" (p 6)] [] (p 7)) (p 8),
  .If (.Compare (.Call (.Name "len" (p 9)) [.Name "result" (p 10)] [] (p 11)) [.NotEq] [.Constant (.int 3) c1 (p 12)] (p 13)) rest [] (p 14),.Return (some (.Name "result" (p 15))) (p 16)]
abbrev rn (ns:List (Str×NameKind))(more:List (Str×Const)):Scope:=
 {kind:=.function,names:=("cls",.local)::("iterable",.local)::("result",.local)::ns,isGenerator:=false,isCoroutine:=false,more:=more}
def DP {d:Nat}{p:Fin 20->Pos}{doc:Str}{c0 c1:Nat}{rest:List Stmt}{ns:List (Str×NameKind)}{more:List (Str×Const)}{x y z:V}{w:Value}{Q:V->St->Prop}(Kg:GOk G)(K:rq G fN fM)(Km:vd G)(Kf:FnAt G fM 2 [] (rn ns more) (oH p doc c0 c1 rest))(J:((p 4).endLine==(p 7).line)=true)(hg:G.gl "tuple"=some (.type "tuple"))(ag:G.gl "len"=some (.builtin "len"))
  (ht:(rn ns more).names.lookup ("tuple":Str)=some .globalImplicit) (hl:(rn ns more).names.lookup ("len":Str)=some .globalImplicit)
  (ao:AOk A (d+1)) (R:Rel G σ s.heap) (vx:VR G s.heap (.T [x,y,z]) w) (h:Q (.mt [x,y,z]) σ):codeAny G.M A (.call (.ref fM) #[[.ref G.cM,w],[]]) (wants (km G [] σ s Q) E) s:=by
 have#[N,mN,nm,q,k0,k2,k3,hC,hN,_,_,bd,_]:=Km.here;apply sC (b:=.nil) (vs:=[.obj G.cM,.T [x,y,z]]) (d:=d) Kf (λA' E' env s' c=>?_) ao R %[.obj _,vx|0] (by simp) (by simp);have C0:Cal:=λ_ _ _ _=>False;have l:∀(i:Nat) (nm:Str) (p:Pos),(rn ns more).names[i]?=some (nm,.local)->jr nm=true->fk G C0 (rn ns more) d (.l i) (.Name nm p):=λi nm p hi hn=>n6 hi rfl hn;apply uw (di (sT (C:=C0) (K:=λfl ρ' σ'=>fl=.next/\ρ'=frameOf #[2,[],.nil] [.obj G.cM,.T [x,y,z]]/\σ'=σ) c #[rfl,rfl,rfl]) (λf bp lf=>?_) λ_ _ x=>x);have#[fl,ρ',σ',fr,#[rfl,rfl,bc],F2,R2,x2]:=lf;rw[bc]at F2 R2 x2;cases fr;apply uw ?_;rw[exec_Assign];apply ab (je ?_);rw[yb rfl];apply ab (ae ?_);rw[aw (by decide)];apply ab (rT (vs:=[x,y,z]) (τ:=λσ'=>σ'=σ) Kg K (l 0 _ _ rfl (by decide)) (l 1 _ _ rfl (by decide)) rfl J ht hg (c.at F2 R2) #[.obj G.cM,dG rfl,.T [x,y,z],dG rfl,rfl,rfl,bh rfl,rfl] λσ₁ s₁ yy I vr r U=>?_);rw[I]at r U;rw[sP (sc:=rn ns more) (r:=none) rfl c.es (by unfold Env.blockKind;rw[c.eo.kind];rfl)];apply ab (ae ?_);show wpAny G.M A' (do assignAll (.ref yy) [assign (.Name "result" (p 2)) env];pure Flow.next) _ _ _;apply ab ?_;show wpAny G.M A' (assign (.Name "result" (p 2)) env (.ref yy)) _ _ _;apply assign_Name (iB (X:=envX env) (i:=2) (k:=.local) c.eo (F2.evo U.e) r (by rw[c.es];rfl) rfl (λ_ _ e=>nomatch e) vr (.head _) (λ_ _ e=>nomatch e) λW F3 R3 x3=>ae ?_);dsimp only;have#[_,ws,n,dd,ey,g,rr]:=vr.mono x3.frz;cases ey;have bt:=rr.length;have B:upd (frameOf #[2,[],.nil] [.obj G.cM,.T [x,y,z]]) 2 (V.mt [x,y,z]) 2=some (.mt [x,y,z]):=cj _ _ _;apply uw (wpAny_If ?_);apply eP ?_ rfl;have aj:eJ G W.heap:=R3.base;have ai:∀(E:QqV) (Q:QqV) (tk:Nat) (pp:Pos),(∀w,VR G W.heap (.mt [x,y,z]) w->Q w {W with toks:=tk})->wpAny G.M A' (eval (.Name "result" pp) env) Q E {W with toks:=tk}:=λE Q tk pp hq =>
  wpAny_Name (j7 (s:={W with toks:=tk}) (i:=2) (k:=.local) c.eo F3 (by rw[c.es];rfl) rfl (by decide) B hq) (by decide)
 apply Call_ (mu Kg c.eo R3 (by rw[c.es];show hl) (by decide) ag ?_);apply Calls.callWith_builtin rfl (Calls.evalArgs_plain (Calls.spliced_cons (ai _ _ _ _ λw ar=>dU ?_)));have#[be,bl,n',bu,rfl,g',ay]:=ar;have O:=ay.length;apply QX (aj _ _ hC) (hN.keeps aj) bd g' (by rw[<- O];simp[ba]) λu bn=>?_;apply wpAny_Constant_int ?_;rw[<- O];apply ne_int (wo ?_);have e:((([x,y,z]:List V).length:Int) != 3)=false:=rfl;rw[e];apply wpAny_execs_nil ?_;dsimp only;apply uw (wpAny_Return_some (ai _ _ _ _ λw2 ax=>?_));apply#[.ret (.mt [x,y,z]),_,σ,.ret ax,h,F3,R3,x2.trans (U.wide.trans x3.tok)]
end
end MP
end
section
namespace MP
open PySem PyProof.Rows PySem.W
def rM:Manifest.owners.lookup (String.ofList ['p','a','m'].reverse)=some Manifest.sig_map:=by kernel_rfl
def cR:Slot "map" "__next__" "map.__next__":=
 .of (owner:="map") (n:="__next__") (by rw[gc,dw];kernel_rfl) (by decide +kernel) (by decide +kernel) (by decide +kernel)
  (by first|show .inl (by decide +kernel)|show .inr (by decide +kernel)) (by rw[jy];kernel_rfl)
def gY:Slot "map" "__iter__" "map.__iter__":=
 .of (owner:="map") (n:="__iter__") (by rw[gc,dw];kernel_rfl) (by decide +kernel) (by decide +kernel) (by decide +kernel)
  (by first|show .inl (by decide +kernel)|show .inr (by decide +kernel)) (by rw[jy];kernel_rfl)
def qH:Slot "map" "__init__" "object.__init__":=
 .of (owner:="object") (n:="__init__") (by rw[gc,dw];kernel_rfl) (by decide +kernel) (by decide +kernel) (by decide +kernel)
  (by first|show .inl (by decide +kernel)|show .inr (by decide +kernel)) (by rw[jy];kernel_rfl)
def pC:entryFor table "map.__next__"=some Builtin.«map.__next__»:=fD (by kernel_rfl)
def qP:entryFor table "map.__new__"=some Builtin.«map.__new__»:=fD (by kernel_rfl)
def pD:entryFor table "map.__iter__"=some Builtin.«dict_keyiterator.__iter__»:=
 entryFor_alias (id':="dict_keyiterator.__iter__") (by kernel_rfl) (by first|rfl|decide +kernel|(unfold String.splitOn;simp +decide [String.splitOnAux])) (by decide +kernel) (by kernel_rfl)
def qX (a:Value):argsOk "map.__next__" #[[a],[]]:=by
 unfold argsOk;rw[mY (id:="map.__next__") (n:=['_','_','t','x','e','n','_','_']) (o:=['p','a','m']) (by kernel_rfl) rM];kernel_rfl
def qY (a:Value):argsOk "map.__iter__" #[[a],[]]:=by
 unfold argsOk;rw[mY (id:="map.__iter__") (n:=['_','_','r','e','t','i','_','_']) (o:=['p','a','m']) (by kernel_rfl) rM];kernel_rfl
def wX (a b c:Value):argsOk "object.__init__" #[[a,b,c],[]]:=by
 unfold argsOk;rw[mY (id:="object.__init__") (n:=['_','_','t','i','n','i','_','_']) (o:=['t','c','e','j','b','o']) (by kernel_rfl) F.owner_object];kernel_rfl
def AS:mroOf (.type "map")=pure [.type "map",.type "object"]:=by rw[mroOf_type];kernel_rfl
def oI:typeLookup (.type "map") "__new__"=pure (some (.builtin "map.__new__")):=by rw[gc,dw];kernel_rfl
def zG:TypeCalled "map" "map.__new__" "object.__init__":=
 #[by decide +kernel,by decide +kernel,#[_,_,AS],madeBy_type AS oI (by decide +kernel),by decide +kernel,by rw[jy];kernel_rfl,qH]
def sM (a b:Value):checkTypeCall "map" #[[a,b],[]]=pure ():=by kernel_rfl
def vN (a b:Value):checkBuiltinCall "map.__new__" #[[.type "map",a,b],[]]=pure ():=by kernel_rfl
def y6:typeLookup (.type "map") "__len__"=pure none:=by rw[gc,dw];kernel_rfl
def vS:typeLookup (.type "map") "__length_hint__"=pure none:=by rw[gc,dw];kernel_rfl
def JO:isSubtype (.type "map") (.type "map")=pure true:=by rw[jy];kernel_rfl
variable {f:Value}
public abbrev mF (h:Heap)(m t it:Addr)(f:Value):Prop:=h.get? m=some {cls:=.type "map",data:=.fields #v[.ref t,f]}/\h.get? t=some {cls:=.type "tuple",data:=.seq #v[.ref it]}
section
variable {prog:Program}{w:World}{A:Around}{E:QqV}{s:Shared}
def L2 (f:Value)(l:Addr)(items:Array Value) :
  Meets (Builtin.«map.__new__» #[[.type "map",f,.ref l],[]]) (λ_ R s=>s.heap.IsList l items /\
   R (.ok (.ret (.ref (s.heap.objs.size+2)))) {s with heap:=((s.heap.push {cls:=.type "list_iterator",data:=.fields #v[.ref l,.int 0 0]}).push {cls:=.type "tuple",data:=.seq #v[.ref s.heap.objs.size]}).push {cls:=.type "map",data:=.fields #v[.ref (s.heap.objs.size+1),f]}}):=
 .of_wp λprog w A R s h=>by
  have#[U,h]:=h;have W:(s.heap.push {cls:=.type "list_iterator",data:=.fields #v[.ref l,.int 0 0]}).objs.size=s.heap.objs.size+1:=iy ..;unfold Builtin.«map.__new__» Builtin.SmallTypes.newClass;apply ab ?_;dsimp only;apply ab (fo (a:=true) (by rfl) ?_);rw[aw (by decide)];apply ab (fo (a:=true) JO ?_);rw[aw (by decide)];apply ae ?_;dsimp only;apply ab (fo (a:=()) (by rfl) ?_);rw[aw (by simp)];unfold Builtin.SmallTypes.iterAll;apply ab ?_;simp only[List.drop_succ_cons,zv,qu,qk];apply ab (ab (ab (cy (mJ U (ae ?_)))));dsimp only;apply ae (ae ?_);show wpAny _ _ (newTuple [Value.ref s.heap.objs.size]>>=_) _ _ _;apply ab (m:=newTuple _) (jg ?_ (by first|size_fits|rfl));apply ab ?_;show wpAny _ _ (newObj (.type "map") (.fields [_,_].toArray)) _ _ _;apply jg ?_ (by first|size_fits|rfl);apply ae #[_,rfl,?_];have O:((s.heap.push {cls:=.type "list_iterator",data:=.fields #v[.ref l,.int 0 0]}).push {cls:=.type "tuple",data:=.seq #v[.ref s.heap.objs.size]}).objs.size=s.heap.objs.size+2:=by rw[iy,W]
  simp only[Array.toList_push,List.nil_append,W,O,List.headD];show h
def IE {l:Addr}{items:Array Value}{Q:QqV}(I:s.heap.IsList l items)
  (h:∀h',mF h' (s.heap.objs.size+2) (s.heap.objs.size+1) s.heap.objs.size f->h'.IsListIter s.heap.objs.size l 0->h'.objs.size=s.heap.objs.size+3->(∀b o,s.heap.get? b=some o->h'.get? b=some o)->Q (.ref (s.heap.objs.size+2)) {s with heap:=h'}) :
  wpAny (model prog w) A (call (.type "map") [f,.ref l]) Q E s:=by
 apply callType_new zG (by decide) (sM _ _) (vN _ _) (λobj=>wX obj _ _) qP (L2 f l items) #[I,?_];have J:(s.heap.push {cls:=.type "list_iterator",data:=.fields #v[.ref l,.int 0 0]}).objs.size=s.heap.objs.size+1:=iy ..;have O:((s.heap.push {cls:=.type "list_iterator",data:=.fields #v[.ref l,.int 0 0]}).push {cls:=.type "tuple",data:=.seq #v[.ref s.heap.objs.size]}).objs.size=s.heap.objs.size+2:=by rw[iy,J]
 have W:=cq ((s.heap.push {cls:=.type "list_iterator",data:=.fields #v[.ref l,.int 0 0]}).push {cls:=.type "tuple",data:=.seq #v[.ref s.heap.objs.size]}) (o:={cls:=.type "map",data:=.fields #v[.ref (s.heap.objs.size+1),f]}) rfl;have U:=cq (s.heap.push {cls:=.type "list_iterator",data:=.fields #v[.ref l,.int 0 0]}) (o:={cls:=.type "tuple",data:=.seq #v[.ref s.heap.objs.size]}) rfl;rw[O]at W;rw[J]at U;apply#[#[_,W,rfl],h _ #[W,ak _ U] #[_,ak _ (ak _ (cq _ rfl)),rfl,rfl] (by rw[iy,O]) λb o x=>ak _ (ak _ (ak _ x))]
def wQ {W f:Addr}{v:Value}{args:List Value}{R:Result->Shared->Prop}(U:s.heap.get? W=some {cls:=.type "method",data:=.fields #v[.ref f,v]})(h:codeAny (model prog w) A (.call (.ref f) #[v::args,[]]) R s):codeAny (model prog w) A (.call (.ref W) #[args,[]]) R s:=by
 apply wd ?_;show wpAny _ _ (callAny (.ref W) #[args,[]]) _ _ _;unfold callAny;apply ab (xy U ?_);dsimp only;rw[cf (by decide)];show ae #[rfl,h]
def xT {m t it:Addr}{Q:QqV}(U:mF s.heap m t it f)(h:Q (.ref m) s):wpAny (model prog w) A (pyIter (.ref m)) Q E s:=by
 have W:s.TypeIs (.ref m) "map":=#[_,U.1,rfl];apply wpAny_pyIter_slot W gY (gy gY W pD ?_ (qY _));show wpAny _ _ (ret (.ref m)) _ _ s;show ae #[_,rfl,"map",_,W,cR.lookup,h]
def o6 {m t it:Addr}{Q:Option Value->Shared->Prop}(O:mF s.heap m t it f)
  (h:wpAny (model prog w) A.in1 (Builtin.SmallTypes.nextOf (.ref it)) (λx s₁=>mF s₁.heap m t it f/\wpAny (model prog w) A.in1 (call f [x]) (λv s'=>Q (some v) s') (λ_ _=>False) s₁) (λe s'=>s'.TypeIs e "StopIteration"/\Q none s') s):wpAny (model prog w) A (pyNext (.ref m)) Q E s:=by
 have J:s.TypeIs (.ref m) "map":=#[_,O.1,rfl];unfold pyNext;apply ab (zq (mv (name:=Str.ofString "__next__") J cR (gy cR J pC ?_ (qX _))));show wpAny _ _ (field (.ref m) 0>>=_) _ _ s;apply ab (om O.1 rfl (x:=.ref t) rfl ?_);apply ab (pj O.2 rfl ?_);dsimp only;apply ab ?_;simp only[List.forIn_toArray,qu,qk];apply ab (ab (cy (di h (λx s₁ h₁=>ae ?_) λe s₁ h₁=>?_)))
 ·dsimp only;apply ae ?_;have#[W,h₁]:=h₁;apply ab (om W.1 rfl (x:=f) rfl ?_);apply ab (cy (di h₁ (λv s₂ U=>?_) λ_ _ x=>x.elim));show ab (wpAny_letGo (ae #[_,rfl,ae U]))
 ·show ab (fC (T:="StopIteration") (b:=true) h₁.1 isSubtype_stop (ae h₁.2))
end
end MP
end
section
namespace MP
open PySem PyProof.Rows PySem.W
structure pS (G:Stc)(fM:Addr):Prop where
 here:∃(p:Fin 20->Pos) (doc:Str) (c0 c1:Nat) (rest:List Stmt) (ns:List (Str×NameKind)) (more:List (Str×Const)),FnAt G fM 2 [] (rn ns more) (oH p doc c0 c1 rest)/\((p 4).endLine==(p 7).line)=true /\
  (rn ns more).names.lookup ("tuple":Str)=some .globalImplicit/\(rn ns more).names.lookup ("len":Str)=some .globalImplicit
 tup:G.gl "tuple"=some (.type "tuple")
 len:G.gl "len"=some (.builtin "len")
def yx (σ:St)(a:Addr)(xs ys:List V):(σ.eh a xs).eh a ys=σ.eh a ys:=by
 unfold St.eh
 congr 1
 funext j
 simp only[upd];split<;>rfl
def AOk.ins {A:Around}{d k:Nat}(h:AOk A (d+1))(hk:k<=30):AOk {A with units:=A.units+k} d:=#[h.handled,by have:=h.depth;dsimp only;(show gz (.l (.a (.a .A (.m 3 .B)) (.n 20)) .C) .a .b5 this),by have:=h.units;dsimp only;(show gp (.l (.a (.a .L (.m 30 .C)) .aQ) .D) .b (.k .B (.n 30)) (.l (.a (.a .A (.m 30 .S)) .aQ) .D) hk this)]
def AL {G:Stc}{σ:St}{h h':Heap}{it:Addr}(R:Rel G σ h)(hd:¬σ.dom it)(hb:G.hb.get? it=none)(W:∀o,h.get? it=some o->¬Frz o)(hk:∀b o,b≠it->h.get? b=some o->h'.get? b=some o):Rel G σ h':=
 R.same (λb o e U=>hk b o (λq=>hd (q▸U)) e) (λb o e f=>hk b o (λq=>W o (q▸e) f) e) λb o e=>hk b o (λq=>by rw[q,hb]at e;cases e) (R.base b o e)
section
variable {G:Stc}{A:Around}{E:QqV}{s:Shared}{fN fM:Addr}{σ₀ σ:St}
def NT {α:Type}{l:List α}(h:l.length=2):∃a b,l=[a,b]:=by
 have#[a,r,rfl]:=ow h;have#[b,r,rfl]:=ow (mx h);have rfl:=yo.mp (mx (mx h));apply#[a,b,rfl]
def EK {α:Type}{l:List α}(h:l.length=3):∃a b c,l=[a,b,c]:=by
 have#[a,r,rfl]:=ow h;have#[b,c,rfl]:=NT (mx h);apply#[a,b,c,rfl]
def D1 {d:Nat}{l S it m t q:Addr}{ts:List (List V)}{res:Value}{R:Result->Shared->Prop}(Kg:GOk G)(K:rq G fN fM)(Km:vd G)(Mk:pS G fM)(ao:AOk A (d+2))(dc:∀t∈ts,t.length=3)(dV:l≠S)(cS:σ.L l=some (ts.map V.T))(hz:ts.length<=ba)
  (own:∀b∈[it,m,t,q],s.heap.get? b=none/\¬σ.dom b/\b≠S/\G.hb.get? b=none) (dy:m≠it) (dn:t≠it) (dr:q≠it)
  (hR:∀s',Rel G (σ.eh S (ts.map V.mt)) s'.heap->Go [] σ₀ s (σ.eh S (ts.map V.mt)) s'->R (.ok (.ret res)) s') :
  ∀(k i:Nat) (s':Shared),ts.length-i=k->i<=ts.length->Rel G (σ.eh S ((ts.take i).map V.mt)) s'.heap->Go [] σ₀ s (σ.eh S ((ts.take i).map V.mt)) s'->mF s'.heap m t it (.ref q)->s'.heap.get? q=some {cls:=.type "method",data:=.fields #v[.ref fM,.ref G.cM]}->s'.heap.IsListIter it l i ->
   codeAny G.M A (.builtin "list.extend.loop" #[[.ref S,.ref m,res],[]]) R s':=by
 have#[p,doc,c0,c1,rest,ns,more,Kf,cb,cl,dL]:=Mk.here;have nd:∀(xs:List V),∀b∈[it,m,t,q],¬(σ.eh S xs).dom b:=λxs b hb dm=>(dI dm).elim (own b hb).2.1 (own b hb).2.2.1;have I:it∈[it,m,t,q]:=.head _;have mm:m∈[it,m,t,q]:=.tail _ (.head _);have tm:t∈[it,m,t,q]:=.tail _ (.tail _ (.head _));have qm:q∈[it,m,t,q]:=.tail _ (.tail _ (.tail _ (.head _)));have nf:∀{h:Heap} {i:Nat},h.IsListIter it l i->∀o,h.get? it=some o->¬Frz o:=λ{h i} cx o e=>by
  have#[o',dx,ed,ec]:=cx;have rfl:=af (dx.symm.trans e);show qc ed ec (by decide) (by decide)
 have hL:∀(xs:List V),(σ.eh S xs).L l=some (ts.map V.T):=λxs=>by simp only[St.eh,fh dV];show cS
 have ck:∀b∈[it],s.heap.get? b=none:=λb hb=>by have rfl:=ah.mp hb;show(own _ I).1
 intro k;induction k with
 |zero =>
  intro i s' hk hi Rr x hm hq hit;have ea:i=ts.length:=by(show fb .D .z .b1 .aF hk (aa (az .A .a .A hi)))
  subst ea;apply sf F.entry_extend_loop ?_;rw[tq F.plain_extend_loop _];show wpAny _ A.in1 (pyNext (.ref m)>>=_) _ _ _;have#[ws,n,hl,bv]:=Rr.L l _ (hL _);have bl:=bv.length;apply ab (o6 hm (wpAny_nextOf_list_end (A:=A.in1.in1) ao.handled hit hl.isList (by rw[n4,<- xd.symm];simp at bl;(show az .A .r .b9 bl)) λh' e he da=>#[da,?_]));have J:∀b o,b≠it->s'.heap.get? b=some o->h'.get? b=some o:=he;have R':=AL Rr (nd _ _ I) (own _ I).2.2.2 (nf hit) J;have x':=x.but (s':={s' with heap:=h'}) (λb o hb e=>J b o (λq=>hb (q▸.head _)) e) .rfl ck;rw[gv]at R' x';show ae (hR _ R' x')
 |succ k ih =>
  intro i s' hk hi Rr x hm hq hit;have ai:i<ts.length:=by(show gp .B .m (.e .C .Y) .aF hk (aa (az .A .a .A hi)))
  apply sf F.entry_extend_loop ?_;rw[tq F.plain_extend_loop _];show wpAny _ A.in1 (pyNext (.ref m)>>=_) _ _ _;have#[ws,n,hl,bv]:=Rr.L l _ (hL _);have#[w,hw,vr]:=bv.get (i:=i) (v:=.T ts[i]) (by simp[ai]);apply ab (o6 hm (wpAny_nextOf_list_item hit hl.isList (by simpa using hw) λh₁ bc ca=>?_));have J:∀b o,b≠it->s'.heap.get? b=some o->h₁.get? b=some o:=λb o hb e=>by rw[ca.2 b hb];show e
  have ct:=AL Rr (nd _ _ I) (own _ I).2.2.2 (nf hit) J;have cd:=x.but (s':={s' with heap:=h₁}) (λb o hb e=>J b o (λq=>hb (q▸.head _)) e) .rfl ck;have ag:mF h₁ m t it (.ref q):=#[J _ _ dy hm.1,J _ _ dn hm.2];have ar:=J _ _ dr hq;apply#[ag,ug (wQ ar ?_)];have hf:jn s'.heap h₁:=λb o e f=>J b o (λq=>nf hit o (q▸e) f) e;have h3:=dc ts[i] (du ai);have#[a,b,c,bn]:=EK h3;rw[bn]at vr;apply codeAny_mono (DP (s:={s' with heap:=h₁}) (A:=A.in1.in1) (d:=d) (Q:=λv σ'=>v=.mt [a,b,c]/\σ'=σ.eh S ((ts.take i).map V.mt)) (E:=λ_ _=>False) Kg K Km Kf cb Mk.tup Mk.len cl dL (ao.ins (k:=2) (eH (.k .W (.n 30)) .i)) ct (vr.mono hf) #[rfl,rfl]) λr s₂ hr=>?_;cases r with
  |error e=>show hr.elim
  |ok fl =>
   cases fl with
   |ret w' =>
    have#[v,σ',#[rfl,rfl],bu,bt,be]:=hr;have O:∀b∈[it,m,t,q],∀o,h₁.get? b=some o->s₂.heap.get? b=some o:=λb hb o e=>be.keep b o e (nd _ b hb) (λh=>nomatch h);have hS:(σ.eh S ((ts.take i).map V.mt)).L S=some ((ts.take i).map V.mt):=cj _ _ _;have#[us,n',ax,aj]:=bt.L S _ hS;have ay:=aj.length;have eb:us.length=i:=by rw[<- ay];simp;(show(Ar.jt _ _).2.2.elim (λq1=>(jc .D .f .A .Y (Ar.jt _ _).1 q1)) λq1=>(sd .D .h .bB .A .aL hi (Ar.jt _ _).1 q1))
    have df:(ts.take (i+1)).map V.mt=(ts.take i).map V.mt++[.mt [a,b,c]]:=by rw[fg ai,bn];simp
    have ch:us.length+1<=sizeLine:=by rw[eb];show nq (fb .T .b .H .G hz ai)
    have#[bp,bd]:=EH (f:=λx=>x.push w') bt hS ax (aj.append %[bu|0]) (by simp;(show qt .T .e .H .aV .a9 hz ai (Ar.jt _ _).1)) (by simp);rw[yx,<- df]at bp bd;show wpAny _ A.in1 (updateSeq S (·.push w')>>=_) _ _ _;have ne:∀z∈[it,m,t,q],S≠z:=λz hz e=>(own z hz).2.2.1 e.symm;have U:∀z∈[it,m,t,q],∀o,s₂.heap.get? z=some o->(s₂.heap.update S (Obj.mapSeq (·.push w'))).get? z=some o:=λz hz o e=>(nu _ _ (ne z hz)).trans e;apply ab (zw ax rfl (ae #[mZ F.plain_extend_loop _,?_]) (by simp only[cw];(show az .A .a .T ch)) (by simp only[Array.size_push,cw];(show az .aI .a .T ch)));have#[o1,dv,r1]:=bc;show ih (i+1) _ (uu .D .o (.e .C .P) .bT (.e (.a .A .Y) .F) hk (aa (az .A .a .A hi)) (aa (az .T .a .B ai))) (az .T .a .B ai) bp ((cd.trans be).to bd) #[U _ mm _ (O _ mm _ ag.1),U _ tm _ (O _ tm _ ag.2)] (U _ qm _ (O _ qm _ ar)) #[o1,U _ I _ (O _ I _ dv),r1]
   |_=>show hr.elim
end
section
variable {prog:Program}{w:World}{A:Around}{E:QqV}{s:Shared}
def qT {m t it:Addr}{f:Value}{Q:QqV}(hm:mF s.heap m t it f)
  (h:∀h' n',(∀b o,s.heap.get? b=some o->h'.get? b=some o)->IsL h' s.heap.objs.size #v[] n'->codeAny (model prog w) A.in1 (.builtin "list.extend.loop" #[[.ref s.heap.objs.size,.ref m,.none],[]]) (wants (λr s₂=>r=.none/\Q (.ref s.heap.objs.size) s₂) E) {s with heap:=h'}) :
  wpAny (model prog w) A (call (.type "list") [.ref m]) Q E s:=by
 apply callType_codes (Q₁:=λobj s₁=>obj=.ref s.heap.objs.size/\s₁={s with heap:=s.heap.push {cls:=.type "list",data:=.seq #v[]}}) F.called_list (F.typeCall_list_1 _) F.entry_list_init
  (code_list_new _ #[rfl,rfl]) λobj s₁ h₁=>?_
 have#[rfl,rfl]:=h₁;have B:(s.heap.push {cls:=.type "list",data:=.seq #v[]}).get? s.heap.objs.size=some {cls:=.type "list",data:=.seq #v[]}:=cq _ rfl;apply#[#[_,B,rfl],F.args_list_init_2 _ _,?_];generalize ag:s.heap.objs.size=S at B h;have lt:∀{b:Addr} {o:Obj},s.heap.get? b=some o->S≠b:=λ{b o} e q=>by have:=jd e;rw[ag,q]at this;show jq _ this
 have z:S≠m:=lt hm.1;show wpAny _ _ (do let old←Builtin.List.listItems (.ref S);Builtin.List.listUpdate (.ref S) (λ_=>#v[]);letGo old.toList.reverse;Builtin.List.listExtendWith (.ref S) (.ref m) .none) _ _ _;apply ab ?_;unfold Builtin.List.listItems;apply ab (pj B rfl (ae ?_));show wpAny _ _ (updateSeq S (λ_=>#v[])>>=λ_=>letGo (#v[]:Array Value).toList.reverse>>=λ_=>Builtin.List.listExtendWith (.ref S) (.ref m) .none) _ _ _;apply ab (zw B rfl ?_);have O:=iw (Obj.mapSeq (λ_=>(#v[]:Array Value))) B rfl;apply ab (wpAny_letGo ?_);have J:∀b o,s.heap.get? b=some o->((s.heap.push {cls:=.type "list",data:=.seq #v[]}).update S (Obj.mapSeq (λ_=>(#v[]:Array Value)))).get? b=some o:=
  λb o e=>(nu _ _ (lt e)).trans (ak _ e)
 have W:mF ((s.heap.push {cls:=.type "list",data:=.seq #v[]}).update S (Obj.mapSeq (λ_=>(#v[]:Array Value)))) m t it f:=#[J _ _ hm.1,J _ _ hm.2];unfold Builtin.List.listExtendWith;apply ab (ye (T:="map") #[_,W.1,rfl] ?_);have h1:Builtin.List.listSameRef (.ref S) (.ref m)=false:=by simp[Builtin.List.listSameRef,z]
 have h2:(Value.type "map" == Value.type "list")=false:=by decide
 have h3:(Value.type "map" == Value.type "tuple")=false:=by decide
 simp only[h1,h2,h3,iX,fu,mj];apply ab (xT W ?_);apply ab (cy ?_);unfold Builtin.List.listLengthHint;apply ab (zx (T:="map") #[_,W.1,rfl] y6 ?_);show wpAny _ _ (specialOf (Value.ref m) (Str.ofString "__length_hint__")>>=_) _ _ _;apply ab (zx (T:="map") #[_,W.1,rfl] vS ?_);apply ae ?_;show wpAny _ _ (rule "list.extend.makes-room" >>= λ_=>Builtin.List.listTouch (.ref S)>>=λ_=>again (.builtin "list.extend.loop" #[[.ref S,.ref m,.none],[]])) _ _ _;apply ab (lq ?_);apply ab ?_;show wpAny _ _ (updateSeq S (·.push .none)>>=λ_=>updateSeq S (·.pop)) _ _ _;apply ab (zw O rfl ?_);have U:=iw (Obj.mapSeq (·.push Value.none)) O rfl;apply zw (hz:=by seq_fits) U rfl ?_;have I:=iw (Obj.mapSeq (·.pop)) U rfl;apply ae #[mZ F.plain_extend_loop _,h _ _ (λb o e=>?_) I];have hb:S≠b:=lt e;show(nu _ _ hb).trans ((nu _ _ hb).trans (J b o e))
end
end MP
end
section
namespace MP
open PySem PyProof.Rows PySem.W
section
variable {G:Stc}{fN fM:Addr}{C:Cal}{sc:Scope}{d:Nat}
def qG {e:Ex}{xl xm xM:Str}{y:Expr}{p p' bc ap pos z:Pos}(Kg:GOk G)(K:rq G fN fM)(Km:vd G)(Mk:pS G fM)(hd:3<=d)(he:fk G C sc d e y)(bt:noStar [y]=true)
  (hl:sc.names.lookup xl=some .globalImplicit) (dr:jr xl=true) (dn:G.gl xl=some (.type "list"))
  (hm:sc.names.lookup xm=some .globalImplicit) (df:jr xm=true) (dc:G.gl xm=some (.type "map"))
  (hM:sc.names.lookup xM=some .globalImplicit) (dy:jr xM=true) (dx:G.gl xM=some (.ref G.cM)) :
  fk G C sc d (.M e) (.Call (.Name xl p) [.Call (.Name xm p') [.Attribute (.Name xM bc) "_make" ap,y] [] z] [] pos):=λA E env ρ σ Q s c h=>by
 have R:=c.R;have be:noStar [.Attribute (.Name xM bc) "_make" ap,y]=true:=bt;apply Call_ (mu Kg c.eo R (by rw[c.es];show hl) dr dn (we (kh (args:=[.Call (.Name xm p') [.Attribute (.Name xM bc) "_make" ap,y] [] z]) rfl pos env) (ph (kh (args:=[.Call (.Name xm p') [.Attribute (.Name xM bc) "_make" ap,y] [] z]) rfl pos env) (spliced_more ?_ rfl))));apply Call_ (mu Kg c.eo R (by rw[c.es];show hm) df dc (we (kh be z env) (ph (kh be z env) (spliced_more ?_ rfl))));apply Attribute_name (mu Kg c.eo R (by rw[c.es];show hM) dy dx (K.make _ _ _ _ _ R.base ?_));have R0:=R.push {cls:=.type "method",data:=.fields #v[.ref fM,.ref G.cM]};have x0:Go [] σ s σ {s with heap:=s.heap.push {cls:=.type "method",data:=.fields #v[.ref fM,.ref G.cM]},toks:=s.toks+1}:=Go.refl.to (Evo.push _ _ _ _);apply spliced_more (rp (he (c.go R0 x0) h) λv σ₁ s₁ w q vr r ai=>?_) ((fm bt).1 env);have#[l,ts,rfl,aj,h3,q]:=q;have rfl:=vr;apply dU ?_;have#[us,n,hL,dL]:=r.L _ _ aj;have hz:=r.Ll _ _ aj;simp only[aq]at hz;have ar:s.heap.get? s.heap.objs.size=none:=none_at_size _;have bv:¬σ.dom s.heap.objs.size:=λdm=>by have#[o,e]:=R.ud dm;rw[ar]at e;cases e
 have cb:(s.heap.push {cls:=.type "method",data:=.fields #v[.ref fM,.ref G.cM]}).get? s.heap.objs.size=some {cls:=.type "method",data:=.fields #v[.ref fM,.ref G.cM]}:=cq _ rfl;have ca:=ai.keep _ _ cb bv (λh=>nomatch h);have bu:¬σ₁.dom s.heap.objs.size:=λdm=>(ai.dom _ dm).elim bv λe=>by rw[cb]at e;cases e
 apply IE hL.isList λO ax hit ag hk=>?_;have r₂:=r.keeps hk;have bp:Go [] σ s σ₁ {s₁ with heap:=O}:=(x0.trans ai).to (Evo.keeps hk);apply dU ?_;apply qT ax λbd n' J ay=>?_;have hS:O.get? O.objs.size=none:=none_at_size _;have ck:At O.objs.size O bd:=At.grow hS J ay;have ch:σ₁.L O.objs.size=none:=by
  cases hq:σ₁.L O.objs.size with
  |none=>rfl
  |some ys=>have#[o,ho,_]:=r₂.tX hq;rw[hS]at ho;cases ho
 have cl:=r₂.putL (ws:=[]) (xs:=[]) ck (λ_=>hS) ay .nil (bh rfl);have bn:Evo [] σ₁ O (σ₁.eh O.objs.size []) bd:=Evo.putL ck (λ_=>hS) [];have old:∀b,s₁.heap.objs.size<=b->s.heap.get? b=none/\¬σ₁.dom b/\G.hb.get? b=none:=λb hb=>by
  have e1:s₁.heap.get? b=none:=pk hb;apply#[(x0.trans ai).new e1,λdm=>?_,?_]
  ·have#[o,e]:=r.ud dm;rw[e1]at e;cases e
  ·cases hq:G.hb.get? b with
   |none=>rfl
   |some o=>have:=r.base _ _ hq;rw[e1]at this;cases this
 have bl:s.heap.objs.size<s₁.heap.objs.size:=jd ca;have own:∀b∈[s₁.heap.objs.size,s₁.heap.objs.size+2,s₁.heap.objs.size+1,s.heap.objs.size],s.heap.get? b=none/\¬σ₁.dom b/\b≠O.objs.size/\G.hb.get? b=none:=λb hb=>by
  have cd:b<O.objs.size:=by
   simp only[bw,ti,or_false]at hb;rcases hb with rfl|rfl|rfl|rfl<;>(first|show az .B .r .aK ag Ar.y|show az (.l .aM .B) .r .aK ag Ar.y|show az .W .r .aK ag Ar.y|show fb .B .m (.e .B (.a .C (.n 3))) .G ag bl Ar.y|omega)
  by_cases I:s₁.heap.objs.size<=b
  ·have#[o1,o2,o3]:=old b I;apply#[o1,o2,jz cd,o3]
  ·simp only[bw,ti,or_false]at hb;rcases hb with rfl|rfl|rfl|rfl
   ·(show#[(False.elim (fj .ff .k (.j .A .A) I)),#[(λq1=>(fj .ff .k (.j .A .A) I)),#[(az .bY [[-1,-1]] .aK ag),(False.elim (fj .ff .k (.j .A .A) I))]]])
   ·(show#[(False.elim (fj .ff .k (.j .A .aM) I)),#[(λq1=>(fj .ff .k (.j .A .aM) I)),#[(az (.u .aM .B) [[-1,-1]] .aK ag),(False.elim (fj .ff .k (.j .A .aM) I))]]])
   ·(show#[(False.elim (fj .ff .k (.j .A .M) I)),#[(λq1=>(fj .ff .k (.j .A .M) I)),#[(az (.u .M .B) [[-1,-1]] .aK ag),(False.elim (fj .ff .k (.j .A .M) I))]]])
   ·apply#[ar,bu,jz cd,?_];cases hq:G.hb.get? s.heap.objs.size with
    |none=>rfl
    |some o=>have:=R.base _ _ hq;rw[ar]at this;cases this
 have dv:l≠O.objs.size:=λe=>by rw[e,ch]at aj;cases aj
 have#[oi,da,ri]:=hit;have cS:(s₁.heap.objs.size+2:Nat)≠s₁.heap.objs.size:=by(show qg (.u .aM .A) .i)
 have cx:(s₁.heap.objs.size+1:Nat)≠s₁.heap.objs.size:=by(show qg (.u .M .A) .i)
 have ct:(s.heap.objs.size:Nat)≠s₁.heap.objs.size:=by(show az .bY [[-1,1]] .B bl)
 apply D1 (it:=s₁.heap.objs.size) (m:=s₁.heap.objs.size+2) (t:=s₁.heap.objs.size+1) (q:=s.heap.objs.size) (S:=O.objs.size) (l:=l) (σ₀:=σ) (σ:=σ₁) (s:=s) (d:=d-3) (A:=A.in1) Kg K Km Mk ((AOk.less c.ao (d':=d-3+2+1) (az (.k (.a .aM .U) .B) .a (.e (.a .A (.n 3)) .B) (aa (fj (.k (.n 3) .A) .a (.k (.n 3) .A) hd)))).ins (k:=1) (eH (.k .U (.n 30)) .i)) h3 dv aj hz own cS cx ct
  (λs' R' x'=>#[rfl,_,_,q _ ch,.L _,R',x']) ts.length 0 _ rfl (bz _) (by simpa using cl) (by simpa using bp.to bn) #[J _ _ ax.1,J _ _ ax.2] (J _ _ (hk _ _ ca)) #[oi,J _ _ da,ri]
end
variable {k:Nat}{ts:List (List Int)}
def H5 {a b:List Int}(h:lg a b=true):lg b a=false:=by
 induction a generalizing b with
 |nil=>cases h
 |cons x a W =>
  cases b with
  |nil=>rfl
  |cons y b =>
   have h:(if x=y then lg a b else decide (x<y))=true:=h;show(if y=x then lg b a else decide (y<x))=false;by_cases c:x=y
   ·rw[cf c]at h;rw[cf c.symm];show W h
   ·rw[aw c]at h;rw[aw λq=>c q.symm];have h:=br h;show dg (uv .a7 .a .aR h)
def OY {a b c:List Int}(J:a.length=b.length)(h2:b.length=c.length)(g1:lg b a=false)(g2:lg c b=false):lg c a=false:=by
 induction a generalizing b c with
 |nil=>cases c<;>rfl
 |cons x a I =>
  cases b with
  |nil=>cases J
  |cons y b =>
   cases c with
   |nil=>rfl
   |cons z c =>
    have g1:(if y=x then lg b a else decide (y<x))=false:=g1;have g2:(if z=y then lg c b else decide (z<y))=false:=g2;show(if z=x then lg c a else decide (z<x))=false;by_cases U:y=x
    ·subst U;rw[cf rfl]at g1;by_cases W:z=y
     ·rw[cf W]at g2 ⊢;show I (mx J) (mx h2) g1 g2
     ·rw[aw W]at g2 ⊢;show g2
    ·rw[aw U]at g1;have g1:=gA g1;by_cases W:z=y
     ·subst W;rw[aw U];show dg g1
     ·rw[aw W]at g2;have g2:=gA g2;rw[aw ((uq U).elim (λO=>(hJ (.iu .A .B) .c (.ig .C .B) (.il .C .B) g1 O)) λO=>(hJ (.iu .A .B) .b (.ig .A .C) (.il .B .C) g2 O))];show dg (hJ .a7 .b (.ig .C .B) (.ig .A .C) g1 g2)
abbrev itT (k:Nat)(ts:List (List Int))(i:Nat):List Int:=ts.getD i (List.replicate k 0)
abbrev ltT (k:Nat)(ts:List (List Int))(i j:Nat):Bool:=lg (itT k ts i) (itT k ts j)
def gN (h:∀t∈ts,t.length=k)(i:Nat):(itT k ts i).length=k:=by
 unfold itT;rw[jv];rcases my i ts.length with q|q
 ·rw[bb q];show h _ (du _)
 ·rw[nt q];show List.length_replicate
def OU (h:∀t∈ts,t.length=k):LtT (ltT k ts):=
 #[λa b=>H5,λa b c=>OY ((gN h _).trans (gN h _).symm) ((gN h _).trans (gN h _).symm)]
abbrev TpI (h:Heap)(v:Value)(ns:List Int):Prop:=∃a ws n,v=.ref a/\IsT h a ws.toArray n/\IntsAre ws ns
section
variable {prog:Program}{w:World}{A:Around}{E:QqV}{s:Shared}
def OX {Q:Bool->Shared->Prop}{ns ms:List Int}{ws us:List Value}(J:IntsAre ws ns)(i:Nat)(O:IntsAre us ms)(hl:ns.length=ms.length)(U:Q (lg ns ms) s):KatLex prog w A true false Q (ws.zip us) i s:=by
 induction J generalizing us ms i with
 |nil =>
  cases O with
  |nil=>show kat_nil U
  |cons=>cases hl
 | @cons a z ws ns J I =>
  cases O with
  |nil=>cases hl
  | @cons b B us ms O =>
   have U:Q (if a=b then lg ns ms else decide (a<b)) s:=U;apply kat_cons (wpAny_eqBool_int ?_);by_cases W:a=b
   ·rw[cf W]at U;rw[show(a==b)=true from fq.mpr W];show kat_yes (I (i+1) O (mx hl) U)
   ·rw[aw W]at U;rw[show(a==b)=false from sg.mpr W];apply kat_no ?_;cases i with
    |zero=>show oneLt_int U
    |succ i=>show kat_one _ _ (lt_int U)
def kat_tups {h:Heap}{vs:List Value}(hl:vs.length=ts.length)(J:∀(i:Nat) v t,vs[i]?=some v->ts[i]?=some t->TpI h v t/\t≠[]):∃U,KatTups h vs U/\U.length=vs.length/\∀v∈U,∃n t,v=Value.int n t:=by
 induction vs generalizing ts with
 |nil=>refine#[[],.nil,rfl,λv W=>nomatch W]
 |cons v vs B =>
  cases ts with
  |nil=>cases hl
  |cons t ts =>
   have#[U,h1,h2,z]:=B (mx hl) λi v t e1 e2=>J (i+1) v t e1 e2;have#[#[a,ws,n,rfl,g,hi],O]:=J 0 _ _ rfl rfl;cases hi with
   |nil=>show(O rfl).elim
   | @cons x I ws ns hi =>
    apply#[.int x I::U,.cons g rfl rfl rfl h1,cc (·+1) h2,λv W=>?_];rcases bw.mp W with rfl|W
    ·apply#[_,_,rfl]
    ·show z v W
def uV {l:Addr}{ws:List Value}{Q:QqV}(hl:s.heap.IsList l ws.toArray)(hz:ws.length<=sizeLine)(O:ws.length=ts.length)(hk:∀t∈ts,t.length=k)(k0:k≠0)(ht:∀(i:Nat) v t,ws[i]?=some v->ts[i]?=some t->TpI s.heap v t)
  (h:∀os h' c e,os.Perm (List.range ts.length)->Srt (ltT k ts) os->(∀b o,s.heap.get? b=some o->h'.get? b=some o)->s.heap.get? c=none->h'.get? c=some (seqObj "list" (os.map λi=>ws.getD i Value.none).toArray e)->Q (.ref c) {s with heap:=h'}) :
  wpAny (model prog w) A (call (.builtin "sorted") [.ref l]) Q E s:=by
 apply lK kind_sorted plain_sorted entry_sorted (args_sorted1 _) ?_;unfold Builtin.«sorted»;apply ab (m:=checkCount "sorted" 1 1 _) (ae ?_);apply ab (collect_list hl ?_ (by simpa using hz));apply ab (wpAny_newList ?_ (by simpa using hz));have J:((s.heap.push (seqObj "list" #v[] 0)).update s.heap.objs.size (Obj.mapSeq (·++ws.toArray))).objs.size=s.heap.objs.size+1:=by
  rw[Heap.size_update,size_push']
 have ag:(((s.heap.push (seqObj "list" #v[] 0)).update s.heap.objs.size (Obj.mapSeq (·++ws.toArray))).push (seqObj "list" ws.toArray 0)).get? (s.heap.objs.size+1)=some (seqObj "list" ws.toArray 0):=by
  rw[<- J];show cq _ rfl
 have keep:∀b o,s.heap.get? b=some o->(((s.heap.push (seqObj "list" #v[] 0)).update s.heap.objs.size (Obj.mapSeq (·++ws.toArray))).push (seqObj "list" ws.toArray 0)).get? b=some o:=λb o q=>by
  have I:b<s.heap.objs.size:=jd q;rw[Heap.get?_push_ne _ _ _ (by rw[J];show jz (Nat.lt_succ_of_lt I)),Heap.get?_update_ne _ _ _ _ (jz I),Heap.get?_push_ne _ _ _ (jz I)];show q
 show wpAny _ _ _ _ _ {s with heap:=((s.heap.push (seqObj "list" #v[] 0)).update s.heap.objs.size (Obj.mapSeq (·++ws.toArray))).push (seqObj "list" ws.toArray 0)};rw[J];have U:s.heap.get? (s.heap.objs.size+1)=none:=pk (dS _);have old:∀{H:Heap},(∀b o,b≠s.heap.objs.size+1->(((s.heap.push (seqObj "list" #v[] 0)).update s.heap.objs.size (Obj.mapSeq (·++ws.toArray))).push (seqObj "list" ws.toArray 0)).get? b=some o->H.get? b=some o)->∀b o,s.heap.get? b=some o->H.get? b=some o:=λz b o e =>
  z b o (λq=>by rw[q,U]at e;cases e) (keep b o e)
 apply ab (cy (gy slot_list_sort #[_,ag,rfl] entry_list_sort ?body (args_list_sort _)))
 case body =>
  apply fP (s:={s with heap:=((s.heap.push (seqObj "list" #v[] 0)).update s.heap.objs.size (Obj.mapSeq (·++ws.toArray))).push (seqObj "list" ws.toArray 0)}) (kd:=tuples' true) (OU hk) ag hz (λH z h2 Q' hq=>?_) (λH z i j C hi hj hc=>?_) λos h' e hp so z ar=>?_
  ·have o:=old z;have#[fs,f1,f2,f3]:=kat_tups (h:=H) O λi v t e1 e2=>by
    have#[a,us,n,rfl,g,hi]:=ht i v t e1 e2;apply#[#[a,us,n,rfl,o _ _ g,hi],λq=>?_];have:=hk t (dt e2);rw[q]at this;show k0 this.symm
   apply kat_kind (T:=.type "int") f1 (jc .C .d (.k .W .B) .D h2 f2) (λv hv=>?_) (by decide +kernel) ?_
   ·have#[n,t,rfl]:=f3 v hv;show Looks.of_pure rfl
   ·rw[show(Value.type "int" != Value.type "tuple")=true by decide +kernel];show hq
  ·have o:=old z;have aj:∀{i},i<ws.length->TpI H (ws.getD i Value.none) (itT k ts i):=λ{i} hi=>by
    have e1:=bb hi;have e2:=bb (show i<ts.length by show fb .B .b (.e .C .B) .G O hi);have#[a,us,n,e,g,ao]:=ht i _ _ e1 e2;unfold itT;rw[jv,jv,e1,e2];apply#[a,us,n,e,o _ _ g,ao]
   have#[a,us,n,ea,ga,ia]:=aj hi;have#[b,zs,m,eb,gb,ib]:=aj hj;show wpAny _ _ (keyLt' (tuples' true) (ws.getD i Value.none) (ws.getD j Value.none)) _ _ _;rw[ea,eb];apply kat_lt ga rfl gb rfl ?_;have ai:(itT k ts i).length=(itT k ts j).length:=(gN hk _).trans (gN hk _).symm;have hd:decide (us.toArray.size<zs.toArray.size)=false:=dg (by rw[cw,cw,ia.length,ib.length,ai];show jq _);rw[hd];show OX ia 0 ib ai hc
  ·apply#[_,rfl,ae #[_,rfl,h os h' _ e (by rw[<- O];show hp) so (old z) U ar]]
end
end MP
end
section
namespace MP
open PySem PyProof.Rows
section
variable {G:Stc}{C:Cal}{sc:Scope}{d:Nat}
def K4 {k:BF}{id:String}{e:Ex}{x:Str}{y:Expr}{p pos:Pos}{W:Addr->St->(V->St->Prop)->Prop}(K:GOk G)(B:fk G C sc d e y)(O:noStar [y]=true)(J:sc.names.lookup x=some .globalImplicit)(hn:jr x=true)(I:G.gl x=some (.builtin id))
  (hk:∀vs σ Q,C6 k vs σ Q->on1 vs λv=>yi v λa=>W a σ Q)
  (hc:∀{A E σ s a Q},AOk A d->Rel G σ s.heap->W a σ Q->wpAny G.M A (call (.builtin id) [.ref a]) (km G [] σ s Q) E s) :
  fk G C sc d (.bf k %[e|0]) (.Call (.Name x p) [y] [] pos):=λA E env ρ σ Q s c h=>by
 apply dW (P:=λvs σ=>C6 k vs σ Q) K O (ir B ll (fm O).1) J hn I c h λvs σ₁ s₁ ws q vr r U=>?_;have#[v,rfl,q]:=ze (vs:=vs) (hk vs σ₁ Q q);have#[a,rfl,q]:=uc (v:=v) q;have#[w,rfl,rfl]:=vr.one;show U.back (hc c.ao r q)
def VRs.pick {h:Heap}{f:Nat->V}{g:Nat->Value}:(l:List Nat)->(∀i∈l,VR G h (f i) (g i))->VRs G h (l.map f) (l.map g)
 | []=>λ_=>.nil
 |i::l=>λhl=>.cons (hl i (.head _)) (VRs.pick l λj W=>hl j (.tail _ W))
def xI {e:Ex}{x:Str}{y:Expr}{p pos:Pos}(K:GOk G)(he:fk G C sc d e y)(ag:noStar [y]=true)(hx:sc.names.lookup x=some .globalImplicit)(hn:jr x=true)(hv:G.gl x=some (.builtin "sorted")) :
  fk G C sc d (.bf .sorted %[e|0]) (.Call (.Name x p) [y] [] pos):=K4 (k:=.sorted) (W:=λa σ Q=>∃(ts:List (List Int)) (k:Nat),k≠0/\σ.L a=some (ts.map iT)/\(∀t∈ts,t.length=k)/\∀J:List (List Int),J.Perm ts->J.Pairwise (λx y=>lg y x=false)->∀c,σ.L c=Option.none->Q (.L c) (σ.eh c (J.map iT))) K he ag hx hn hv (λ_ _ _ q=>q) @λA E σ s a Q ao R q=>by
 have#[ts,k,k0,e,hk,q]:=q;have#[ws,n,hl,O]:=R.L _ _ e;have U:ws.length=ts.length:=by have:=O.length;simpa using this.symm
 have hz:=R.Ll _ _ e;have B:ts.length<=ba:=by rwa [aq]at hz
 apply uV hl.isList (by rw[U];show nq B) U hk k0 (λi v t hv ht=>?_) λos h' c e' hp so keep I hc=>?_
 ·have#[w,hw,vr]:=O.get (i:=i) (v:=iT t) (by rw[cp,ht];rfl);rw[hv]at hw;cases hw;have#[a,us,n,rfl,g,r]:=vr;apply#[a,us,n,rfl,g,pg (ns:=t) r]
 ·have hm:∀i∈os,i<ts.length:=λi hi=>zu.mp (hp.mem_iff.mp hi);have z:(os.map (itT k ts)).Perm ts:=by
   have h1:=hp.map (itT k ts);have h2:(List.range ts.length).map (itT k ts)=ts:=by
    apply kC ?_ ?_
    ·simp
    ·intro i h1 h2;simp at h1;simp[itT,List.getD,h1]
   rwa [h2]at h1
  apply gL (vs:=(os.map (itT k ts)).map iT) (ws:=os.map λi=>ws.getD i Value.none) (n:=e') R .refl I keep hc ?_ ?_ (q _ z (List.pairwise_map.mpr so))
  ·rw[gq];apply VRs.pick os λi hi=>?_;have e1:=bb (hm i hi);have#[w,hw,vr]:=O.get (i:=i) (v:=iT (ts[i]'(hm i hi))) (by rw[cp,e1];rfl);show VR G _ (iT (itT k ts i)) (ws.getD i Value.none);unfold itT;rw[jv,jv,e1,hw];show vr
  ·rw[aq,z.length_eq];show B
end
section
variable {G:Stc}{C:Cal}{sc:Scope}{d:Nat}
end
section
variable {G:Stc}{C:Cal}{sc:Scope}{d:Nat}
end
variable {h:Heap}{x:Str}{e:Ex}{pos p:Pos}{y:Expr}
def VRs.N4 {G:Stc}:{xs:List V}->{ws:List Value}->xs.length=ws.length->(∀(i:Nat) v w,xs[i]?=some v->ws[i]?=some w->VR G h v w)->VRs G h xs ws
 | [],ws=>λhl _=>by have rfl:=yo.mp hl.symm;show .nil
 |x::xs,ws=>λhl W=>by
  cases ws with
  |nil=>cases hl
  |cons w ws=>show .cons (W 0 _ _ rfl rfl) (VRs.N4 (mx hl) λi v u O U=>W (i+1) v u O U)
def VRs.jC {G:Stc}{xs:List V}{acc:Array Value}{n:Nat}{P:Nat->Value->Prop}(I:ItemsOf P acc n)(hl:xs.length=n)(W:∀(i:Nat) v w,xs[i]?=some v->P i w->VR G h v w):VRs G h xs acc.toList:=
 VRs.N4 (by rw[hl,<- I.1,gm]) λi v w O U=>W i v w O (I.2 i w (by rwa [nv]at U))
def AI {G:Stc}{i:Nat}{v:V}{w:Value}(W:(wh x)[i]?=some v)(P:SignAt x i w):VR G h v w:=by
 have#[c,u,hc,rfl]:=P;unfold wh at W;rw[cp,nv,hc]at W;have rfl:=af W;apply#[u,rfl]
def pK:(wh x).length=x.cps.size:=by unfold wh;rw[aq,gm]
section
variable {prog:Program}{w:World}{A:Around}{E:QqV}{s:Shared}
def meets_tuple_new_str (x:Str)(t:Tok)(hz:x.cps.size<=sizeLine) :
  Meets (Builtin.«tuple.__new__» #[[.type "tuple",.str x t],[]]) (λA R s=>A.handled=none/\∀(h':Heap) tk (acc:Array Value),(∀b o,s.heap.get? b=some o->h'.get? b=some o)->ItemsOf (SignAt x) acc x.cps.size->R (.ok (.ret (.ref h'.objs.size))) {s with heap:=h'.push {cls:=.type "tuple",data:=.seq acc},toks:=tk}):=
 .of_wp λprog w A R s h=>by
  have#[hp,g,d,tk,os]:=s;have#[hh,h]:=h;have B:=sub_tuple_self;have J:=init_tuple_lookup;have ag:=madeHere_tuple;have I:A.in1.handled=none:=hh
  wp_walk using wpAny_collect_str (hn:=hz) I x t
  intro s' acc hk hg hd ho W;have#[O,g',d',U,z]:=s';have rfl:=hg;have rfl:=hd;have rfl:=ho;show wpAny _ _ (Builtin.Tuple.tupleExact acc.toList.toArray>>=λv=>ret v) _ _ _;unfold Builtin.Tuple.tupleExact;apply ab (jg ?_ (by show acc.toList.toArray.size<=sizeLine;rw[cw,gm,W.1];show hz));apply ae #[_,rfl,?_];have e:acc.toList.toArray=acc:=by simp
  rw[e];show h O U acc hk W
def call_tuple_str {t:Tok}{Q:QqV}(hz:x.cps.size<=sizeLine)(U:A.handled=none)
  (h:∀(h':Heap) tk (acc:Array Value),(∀b o,s.heap.get? b=some o->h'.get? b=some o)->ItemsOf (SignAt x) acc x.cps.size->Q (.ref h'.objs.size) {s with heap:=h'.push {cls:=.type "tuple",data:=.seq acc},toks:=tk}) :
  wpAny (model prog w) A (call (.type "tuple") [.str x t]) Q E s:=
 callType_new PySem.F.called_tuple (by decide) (PySem.F.typeCall_tuple_1 _) (PySem.F.newCall_tuple_1 _) (λobj=>PySem.F.args_object_init_2 obj _) PySem.F.entry_tuple_new
  (meets_tuple_new_str x t hz) #[U,λh' tk acc hk W=>#[#[_,cq _ rfl,rfl],h h' tk acc hk W]]
end
def yI (cs:List Nat):Txt.join #[#v[]] (cs.map λc=>(#[#v[c]]:Str))=#[cs.toArray]:=by
 have h:=join_nil_signs #[cs.toArray];unfold signs at h;show Builtin.Str.glued #[#v[]] _=_;rw[StrLaws.glued_eq_join];show h
def CR (cs:List Nat):((cs.map λc=>(#[#v[c]]:Str)).map (·.length)).sum=cs.length:=by
 induction cs with
 |nil=>rfl
 |cons c cs W=>rw[mr,mr,List.sum_cons,W,ip,Nat.add_comm];rfl
def A9 {G:Stc}:{ss:List Str}->{ws:List Value}->VRs G h (ss.map V.str) ws->StrsAre ws ss
 | []=>λr=>by have rfl:=r;show .nil
 |s::ss=>λr=>by have#[w,us,rfl,#[t,rfl],r]:=r;show .cons s t (A9 r)
def IV {ks:List Key}{v:V}:(x7 ks v).length<=ks.length+1:=by
 unfold x7;split
 ·split
  ·show dS _
  ·rw[bq];show av _
 ·show dS _
def vX (acc:List V)(v:V):keysOf (acc++[v])=x7 (keysOf acc) v:=by
 unfold keysOf;rw[List.foldl_append];rfl
def yH (acc:List V):(keysOf acc).length<=acc.length:=by
 have:∀(acc:List V) (ks:List Key),(acc.foldl x7 ks).length<=ks.length+acc.length:=λacc=>by
  induction acc with
  |nil=>show λks=>av _
  |cons v acc W =>
   intro ks;have O:=W (x7 ks v);have U:=@IV ks v;rw[List.foldl_cons,ip];(show gp (.k .A .aH) .b (.k .A .aI) (.k .D .P) O U)
 have h:=this acc []
 rwa [List.length_nil,mw]at h
section
variable {G:Stc}{C:Cal}{sc:Scope}{d:Nat}
def Rel.zV {σ:St}{a:Addr}{ks:List Key}(R:Rel G σ h)(hd:¬σ.dom a)(hb:G.hb.get? a=none)(U:yl G h a ks):Rel G (σ.uj a ks) h:=by
 apply#[R.L,R.D,λb ys e=>?_,R.I,λb o e=>?_,R.Ll,R.Dl,R.inj,R.apart,R.sep,λb d=>?_,R.base]
 ·by_cases W:b=a
  ·subst W;simp only[St.uj,cj,gr]at e;subst e;show U
  ·simp only[St.uj,fh W]at e;show R.S b ys e
 ·have#[hb,e]:=jM e;have#[q,r]:=R.Z b o e;apply#[q,?_];show _\/(upd σ.S a ks b).isSome=true;rw[fh hb];show r
 ·rcases fU d with d|rfl
  ·show R.new b d
  ·show hb
def Evo.zV {X:List Addr}{σ σ':St}{h':Heap}{D:Addr}(ks:List Key)(x:Evo X σ h σ' h')(hn:h.get? D=none):Evo X σ h (σ'.uj D ks) h':=
 #[x.keep,x.frz,λb d=>(fU d).elim (x.dom b) λe=>.inr (e▸hn),x.there]
abbrev SG (G:Stc):Acc G where
 B:=λh D acc=>acc.length<=4000/\yl G h D (keysOf acc)
 keep:=λh h' D acc b hk hf=>by have#[z,o,es,ep,t,ho,r]:=b;apply#[z,o,es,ep,t,hk _ ho,r]
 there:=λh D acc b=>by have#[z,o,es,ep,t,ho,r]:=b;apply#[o,ho]
def zS {elt ce:Expr}{gens:List Comprehension}{depth:Nat}(he:fk G C sc d e elt)(hg:gens[depth+1]?=none):sv G (SG G) C sc d (.eltK e) ce gens (LN elt) depth:=λA E env ρ σ acc K s D X xo c a h=>by
 unfold ue;rw[hg];show wpAny _ _ (LN elt _ env) _ _ _;unfold LN;apply ab (rp (he c h) λv σ₁ s₁ w q vr r x=>ab (je (ab ?_)));have#[#[i,rfl],hz,q]:=q;have#[t,rfl]:=vr;have#[_,hS]:=(a.evo x.e ti).here;have W:=a.evo x.e ti;have hl:=yH acc;have ag:=id hS;have#[o,es,ep,tt,ho,hc,z,_]:=ag;apply IH (k:=.int i) (key_is (v:=.int i) (h:=s₁.heap) rfl #[t,rfl]) rfl rfl hS (by rw[show scanBound=4096 from rfl];(show jc (.l .M (.n 4096)) .b (.l .B (.n 4000)) .A hz hl)) λh' O U=>ae ?_;have I:jn s₁.heap h':=sh O λo' eo=>by
  have rfl:=af (ho.symm.trans eo);show vD z
 have hk:∀b o,b∉[D]->s₁.heap.get? b=some o->h'.get? b=some o:=λb o hb e=>by rw[O.2 b (λq=>hb (q▸.head _))];show e
 have#[o2,aj,ao,ai,J,_]:=id U;apply#[ρ,acc++[.int i],σ₁,q,(c.F.evo x.e).but hk I (λb hb=>by have rfl:=ah.mp hb;show a.off),r.frame (o':=default) O W.out a.base I,#[by rw[bq];show hz,?_],W.out,?_,λ_ _=>rfl]
 ·rw[vX];show U
 ·show(x.more λ_ h=>nomatch h).to (Evo.frame O J (.head _) I)
def CC {fv:List (Nat×Nat)}{it:It}{t:Tg}{cs:Exs}{elt target iter:Expr}{ifs:List Expr}{scope:Scope}(hit:eU G C sc d (isTup target) it iter)(ht:vt G C (mn scope sc) d t target)(ao:rg G C (mn scope sc) d cs ifs)
  (he:fk G C (mn scope sc) d e elt) (hs:∀env v,foldedSetIterable iter env v=pure v) (U:scope.kind=.function) (nd:(scope.names.map (·.1)).Nodup) (z:mR sc fv 0 scope.names=true) (I:iF scope [#[target,iter,ifs,0]]=true) :
  fk G C sc d (.scomp fv it t cs (.eltK e)) (.SetComp elt [#[target,iter,ifs,0]] scope pos):=λA E env ρ σ Q s c h=>by
 show wpAny G.M A (comprehension (.SetComp elt [#[target,iter,ifs,0]] scope pos) scope env iter.pos (newSet (.type "set")) false (eval iter env)) _ E s;apply wL (B:=SG G) (o0:=xR G) (Kf:=λacc σ=>∀c,σ.S c=none->σ.D c=none->Q (.set c) (σ.uj c (keysOf acc))) (use:=none) PQ (λq=>?_) rfl (λh D e=>#[bz _,?_]) hit ht ao (zS he rfl) hs U nd z I (λg hg=>nomatch hg) c h λacc σ' s' D L q b hd ar ay R' x hL J ai O=>?_
 ·unfold newSet;apply ab (cK ?_);show jg q (bz _)
 ·apply#[_,#v[],0,_,e,#[rfl,rfl,rfl],rfl,λe he=>by simp at he,λk=>by simp[keysOf],by decide,by rfl,by rfl,#[rfl,rfl,.nil]]
 have#[m,O]:=O;have ax:σ'.S D=none:=by
  cases hq:σ'.S D with
  |none=>rfl
  |some y=>show absurd (.inr (.inr (.inl (by rw[hq];rfl)))) hd
 have bc:σ'.D D=none:=by
  cases hq:σ'.D D with
  |none=>rfl
  |some y=>show absurd (.inr (.inl (by rw[hq];rfl))) hd
 apply#[m,O,λh2 W=>?_];have#[o,bd,ep,ho,ag,_]:=id O;have hf:jn s'.heap h2:=sh W λo' e=>by have rfl:=af (ho.symm.trans e);show sr ag
 have hn:∀b∈[L],s.heap.get? b=none:=λb hb=>by have rfl:=ah.mp hb;show hL
 have R2:=R'.zV hd ar b.2;have x2:Go [] σ s (σ'.uj D (keysOf acc)) s':=#[x.e.zV _ ay,x.g,x.o];have aj:¬(σ'.uj D (keysOf acc)).dom L:=λdm=>(fU dm).elim ai λe=>J e;apply#[.set D,_,q _ ax bc,.set _,R2.frame (o':=default) W aj (d9 c.R hn L (.head _)) hf,x2.but (own:=[L]) (λb o hb e=>by rw[W.2 b (λq=>hb (q▸.head _))];show e) .rfl hn]
def FD {f:Ex}{I:Str}{z:Expr}{p' U:Pos}(K:GOk G)(he:fk G C sc d e y)(hf:fk G C sc d f z)(J:noStar [y,z]=true)(hx:sc.names.lookup x=some .globalImplicit)(hn:jr x=true)(hv:G.gl x=some (.type "list"))
  (ar:sc.names.lookup I=some .globalImplicit) (ay:jr I=true) (ax:G.gl I=some (.type "range")) :
  fk G C sc d (.lrng e f) (.Call (.Name x p) [.Call (.Name I p') [y,z] [] U] [] pos):=λA E env ρ σ Q s c h=>by
 apply Call_ (mu K c.eo c.R (by rw[c.es];show hx) hn hv (we (kh (args:=[.Call (.Name I p') [y,z] [] U]) rfl pos env) (ph (kh (args:=[.Call (.Name I p') [y,z] [] U]) rfl pos env) (spliced_more ?_ rfl))));apply pf (P:=λvs σ=>on2 vs λv u=>yj v λm=>yj u λn=>m.natAbs<2^40/\n.natAbs<2^40/\n-m<=ba/\∀c,σ.L c=Option.none->Q (.L c) (σ.eh c (pn m n))) K J (ir he (ir hf ll (fm (fm J).2).1) (fm J).1) ar ay ax c h λvs σ₁ s₁ ws q vr r ag=>?_;have#[v,u,rfl,q]:=o8 (vs:=vs) q;have#[m,rfl,q]:=rv (v:=v) q;have#[n,rfl,hm,hn,hz,q]:=rv (v:=u) q;have#[w,w',rfl,#[t,rfl],#[t',rfl]]:=vr.two;unfold ba at hz;apply call_range_2 (dU ?_);have r':=r.push {cls:=.type "range",data:=.fields #v[.int m t,.int n t',.int 1 s₁.toks]};apply call_list_range (n:=(n-m).toNat) c.ao.handled (IsRange.new ..) (vA hm hn (by decide) (by decide)) (by rw[rangeSize_one];split<;>(first|(rename_i z1;show(Ar.ton _).elim (λW=>(SA (.ie .R .L) .g (.ie .L .R) W.2)) λW=>(S9 (.ie .R .L) .h .aR (.ik .R .O) .M z1 W.1 W.2))|(rename_i z1;show(Ar.ton _).elim (λW=>(IU (.ie .O .L) [[1,1,1],[1,0,0]] .a7 (.ie .L (.s .B .A)) z1 W.2)) λW=>(fj (.ie .O .L) [[1,1],[1,0]] .M W.2))|omega)) ((Ar.ton _).elim (λW=>(IU (.k .A .aJ) .b (.ik .R (.t .T)) (.ie .L .R) hz W.2)) λW=>(fj (.k .A .aJ) .a .M W.2)) λh' bd aj c' hk bc ai=>?_;have hl:(pn m n).length=(n-m).toNat:=by unfold pn;rw[aq,nc]
 apply gL (s₁:={s₁ with heap:=s₁.heap.push {cls:=.type "range",data:=.fields #v[.int m t,.int n t',.int 1 s₁.toks]}}) (ws:=aj.toList) (vs:=pn m n) r' (ag.to (Evo.push _ _ _ _)) (none_at_size _) hk (n:=c') (by show h'.get? _=_;rw[bc]) (VRs.jC ai hl λi v w e1 e2=>?_) (by rw[hl];unfold ba;(show(Ar.ton _).elim (λW=>(IU .a1 .b (.ik .R (.t .T)) (.ie .L .R) hz W.2)) λW=>(fj .a1 .a .M W.2))) q;have#[tt,rfl]:=e2;unfold pn at e1;rw[cp]at e1;have#[j,hj,rfl]:=gj.mp e1;have#[hi,rfl]:=cu.mp hj;rw[List.getElem_range];apply#[tt,by rw[Int.mul_one]]
def FG {k:Nat}{apos:Pos}(z:fk G C sc d e y)(W:noStar [y]=true)(U:(apos.endLine==pos.line)=true):fk G C sc d (.join e) (.Call (.Attribute (.Constant (.str "") k p) "join" apos) [y] [] pos):=λA E env ρ σ Q s c h=>by
 apply qy rfl W (by show 1<30;decide) U (rp (AE (C:=C) c (Q:=λv σ'=>v=.str ""/\σ'=σ) (show V.str ""=V.str ""/\σ=σ from#[rfl,rfl])) λv σ₁ s₁ w q vr r x pl=>?_);have#[rfl,rfl]:=q;have#[t,rfl]:=vr;apply GM.join ?_;apply qx (first:=[.str "" t]) (P:=λvs σ=>on1 vs λv=>yi v λa=>∃cs:List Nat,σ.L a=some (cs.map λc=>V.str #[#v[c]])/\Q (.str #[cs.toArray]) σ) W (ir z ll (fm W).1) (c.go r x) h λvs σ₂ s₂ ws q I r₂ J=>?_;have#[v,rfl,q]:=ze (vs:=vs) q;have#[a,rfl,cs,e,q]:=uc (v:=v) q;have#[w,rfl,rfl]:=I.one;have#[us,n,hl,B]:=r₂.L _ _ e;have hz:=r₂.Ll _ _ e;rw[aq]at hz;unfold ba at hz;have hi:StrsAre us (cs.map λc=>(#[#v[c]]:Str)):=A9 (by rw[gq];show B);apply join_list (items:=us.toArray) (ys:=cs.map λc=>(#[#v[c]]:Str)) hl.isList hi ?_ λt' k=>?_
 ·rw[CR,show(("":Str)).length=0 from rfl,Nat.mul_zero];(show fj (.k (.a .A .O) (.n 16777216)) .a .a1 hz)
 ·rw[show(("":Str))=#[#v[]] from rfl,yI];apply#[.str _,σ₂,q,.str _ _,r₂,(x.trans J).tok]
def K6 (K:GOk G)(B:fk G C sc d e y)(U:noStar [y]=true)(J:sc.names.lookup x=some .globalImplicit)(hn:jr x=true)(I:G.gl x=some (.builtin "chr")) :
  fk G C sc d (.bx .chr e) (.Call (.Name x p) [y] [] pos):=λA E env ρ σ Q s c h=>by
 apply dW (P:=λvs σ=>on1 vs λv=>C5 .chr v σ Q) K U (ir B ll (fm U).1) J hn I c h λvs σ₁ s₁ ws q vr r W=>?_;have#[v,rfl,q]:=ze (vs:=vs) q;have#[i,rfl,h0,z,q]:=rv (v:=v) q;have#[w,rfl,t,rfl]:=vr.one;show PySem.P.chr_of_int (by rw[dg (pz (.ig .A .O) .a .a6 h0),dg (pz (.ig (.n 1114111) .A) .a (.il .A (.n 256)) z)];rfl) #[_,σ₁,q,.str _ _,r,W.tok]
def CK (K:GOk G)(B:fk G C sc d e y)(O:noStar [y]=true)(J:sc.names.lookup x=some .globalImplicit)(hn:jr x=true)(I:G.gl x=some (.type "bytes")) :
  fk G C sc d (.bx .bytes e) (.Call (.Name x p) [y] [] pos):=λA E env ρ σ Q s c h=>by
 apply pf (P:=λvs σ=>on1 vs λv=>C5 .bytes v σ Q) K O (ir B ll (fm O).1) J hn I c h λvs σ₁ s₁ ws q vr r W=>?_;have#[v,rfl,q]:=ze (vs:=vs) q;have#[a,rfl,ns,e,hr,q]:=uc (v:=v) q;have#[w,rfl,rfl]:=vr.one;have#[us,n,hl,U]:=r.L _ _ e;have is:=pg U;show PySem.call_bytes_ints hl.isList is hr (nq (iR r e U)) c.ao.handled λh' t k hk=>#[.bys _,σ₁,q,#[t,rfl],r.keeps hk,W.to (Evo.keeps hk)]
def EW (K:GOk G)(z:fk G C sc d e y)(U:noStar [y]=true)(I:sc.names.lookup x=some .globalImplicit)(hn:jr x=true)(B:G.gl x=some (.type "tuple")) :
  fk G C sc d (.bx .tupS e) (.Call (.Name x p) [y] [] pos):=λA E env ρ σ Q s c h=>by
 apply pf (P:=λvs σ=>on1 vs λv=>C5 .tupS v σ Q) K U (ir z ll (fm U).1) I hn B c h λvs σ₁ s₁ ws q vr r W=>?_;have#[v,rfl,q]:=ze (vs:=vs) q;have#[u,rfl,hz,q]:=AO (v:=v) q;have#[w,rfl,t,rfl]:=vr.one;apply call_tuple_str (nq hz) c.ao.handled λh' tk acc hk J=>?_;have R':=r.keeps hk;have O:∀b o,s₁.heap.get? b=some o->(h'.push {cls:=.type "tuple",data:=.seq acc}).get? b=some o:=λb o e=>ak _ (hk b o e);have g:IsT (h'.push {cls:=.type "tuple",data:=.seq acc}) h'.objs.size acc.toList.toArray 0:=by
  rw[Array.toArray_toList];show cq _ rfl
 apply#[.T (wh u),σ₁,q,.T g (VRs.jC J pK λi v w e1 e2=>AI e1 e2),r.keeps O,W.to (Evo.keeps O)]
def FC (K:GOk G)(he:fk G C sc d e y)(U:noStar [y]=true)(B:sc.names.lookup x=some .globalImplicit)(hn:jr x=true)(z:G.gl x=some (.type "list")) :
  fk G C sc d (.bx .lstS e) (.Call (.Name x p) [y] [] pos):=λA E env ρ σ Q s c h=>by
 apply pf (P:=λvs σ=>on1 vs λv=>C5 .lstS v σ Q) K U (ir he ll (fm U).1) B hn z c h λvs σ₁ s₁ ws q vr r W=>?_;have#[v,rfl,q]:=ze (vs:=vs) q;have#[u,rfl,hz,q]:=AO (v:=v) q;have#[w,rfl,t,rfl]:=vr.one;apply call_list_str c.ao.handled u t (λh' tk J c' hk I O=>?_) (nq hz);show gL (s₁:=s₁) (ws:=J.toList) (vs:=wh u) r W (none_at_size _) hk (n:=c') (by show h'.get? _=_;rw[I]) (VRs.jC O pK λi v w e1 e2=>AI e1 e2) (by rw[pK];show hz) q
end
end MP
end
section
namespace MP
open PySem PyProof.Rows PySem.W
section
variable {a:Addr}{o:Obj}{es:Array (Int×Value)}{ep:Nat}{t:SetTable}{ns:List Int}
variable {G:Stc}{A:Around}{E:QqV}{s:Shared}
def EF (hh:A.handled=none){it:Addr}(ao:a≠it)(hd:o.data=.set es ep t)(hf:t.fits es.size=true)(hT:Tbl G.led t)(I:G.led=true->(!t.plain&&decide (es.size>1))=false) :
  Walks G.prog G.w A it [it,a] [it] es.size (λi v=>∃x,(eN G a es ep).toList[i]?=some x/\v=x.2) (λi h=>h.get? a=some o/\∃slot:Nat,lG h it a (.int slot 0) i es.size ep/\(G.led=true->SetTable.below t.place slot=i)) where
 sub:=λb hb=>by have rfl:=ah.mp hb;show .head _
 frame:=λi h h' z hk=>by
  have#[U,slot,#[oi,aj,r],q]:=z;apply#[hk a (.tail _ (.head _)) o U,slot,#[oi,hk it (.head _) oi aj,r],q]
 item:=λi s Q E hi z k=>by
  have#[U,slot,J,B]:=z;have#[x,hx]:∃x,(eN G a es ep)[i]?=some x:=#[_,fw (by rw[iE];show hi)];apply qM J U hd hf hT I B hx λW h' ai ag O=>?_;show k _ _ s.toks #[x,by rw[nv];show hx,rfl] #[by rw[O.2 a ao];show U,W,ai,ag] λb o hb e=>by rw[O.2 b λq=>hb (q▸.head _)];show e
 done:=λs Q E z k=>by
  have#[U,slot,J,B]:=z;show t8 hh J U hd hf hT I B (lL (by rw[iE];show av _)) λh' he=>k _ s.toks λb o hb e=>he b o (λq=>hb (q▸.head _)) e
 self:=λi s Q E z k=>by have#[U,slot,J,B]:=z;show jG J k
def xD (hh:A.handled=none){it U:Addr}{ps:List Nat}(hp:ps.Perm (List.range es.size))(aj:a≠it)(ai:U≠it)(hd:o.data=.set es ep t)(hf:t.fits es.size=true) :
  Walks G.prog G.w A it [it,a,U] [it] es.size (λi v=>∃x,(ps.map λj=>es.getD j (0,.none))[i]?=some x/\v=x.2) (λi h=>h.get? a=some o/\h.get? U=some (cP ps)/\lG h it a (.ref U) i es.size ep) where
 sub:=λb hb=>by have rfl:=ah.mp hb;show .head _
 frame:=λi h h' z hk=>by
  have#[J,O,#[oi,ag,r]]:=z;apply#[hk a (.tail _ (.head _)) o J,hk U (.tail _ (.tail _ (.head _))) _ O,#[oi,hk it (.head _) oi ag,r]]
 item:=λi s Q E hi z k=>by
  have#[J,O,I]:=z;have hl:ps.length=es.size:=by rw[hp.length_eq,nc]
  have hj:ps[i]?=some ps[i]:=bb (by rw[hl];show hi);have lt:ps[i]<es.size:=zu.mp (hp.mem_iff.mp (du _));apply y2 I O J hd hf hj (show es[ps[i]]?=some (es.getD ps[i] (0,.none)) by simp[Array.getD,lt]) λh' B W=>?_;show k _ _ s.toks #[_,by rw[cp,hj];rfl,rfl] #[by rw[W.2 a aj];show J,by rw[W.2 U ai];show O,B] λb o hb e=>by rw[W.2 b λq=>hb (q▸.head _)];show e
 done:=λs Q E z k=>by
  have#[J,O,I]:=z;show DL hh I O J hd hf (nt (by rw[hp.length_eq,nc];show av _)) λh' he=>k _ s.toks λb o hb e=>he b o (λq=>hb (q▸.head _)) e
 self:=λi s Q E z k=>jG z.2.2 k
def yK {Q:QqV}(U:s.heap.get? a=some o)(hc:o.cls=.type "set")(hd:o.data=.set es ep t)(I:t.fits es.size=true)(hb:es.size<scanBound)(hT:Tbl G.led t)
  (h:∀(it:Addr) H2 dr (l:List (Int×Value)) (fp:List Addr) St,l.Perm es.toList->(∀b o,s.heap.get? b=some o->H2.get? b=some o)->(∀b∈fp,b=a\/s.heap.get? b=none)->s.heap.get? it=none ->
   (∀A:Around,A.handled=none->Walks G.prog G.w A it fp [it] es.size (λi v=>∃x,l[i]?=some x/\v=x.2) St)->St 0 H2->Q (.ref it) #[H2,s.gens,dr,s.toks,s.os]):wpAny G.M A (pyIter (.ref a)) Q E s:=by
 have W:=jd U;apply HE U hc hd I hb (λz=>?_) λps dr hp=>?_
 ·have O:=ak {cls:=.type "set_iterator",data:=.fields #v[.int (0:Nat) 0,.int (0:Nat) 0,.ref a,.int es.size 0,.int ep 0]} U;apply h s.heap.objs.size _ s.drawn (eN G a es ep).toList [s.heap.objs.size,a] _ (o7 a es ep) (λb o e=>ak _ e) (λb hb=>?_) (none_at_size _) (λA J=>EF J (jz W) hd I hT z) #[O,0,#[_,cq _ rfl,rfl,rfl],λ_=>zN hT.rise];rcases bw.mp hb with rfl|hb
  ·show .inr (none_at_size _)
  ·show .inl (ah.mp hb)
 ·have hz:(s.heap.push (cP ps)).objs.size=s.heap.objs.size+1:=iy ..;have n1:s.heap.get? (s.heap.push (cP ps)).objs.size=none:=pk (az .A .r (.e .B .M) hz);apply h (s.heap.push (cP ps)).objs.size _ dr (ps.map λj=>es.getD j (0,.none)) [(s.heap.push (cP ps)).objs.size,a,s.heap.objs.size] _ (z8 hp) (λb o e=>ak _ (ak _ e)) (λb hb=>?_) n1 (λA J=>xD J hp (fb .bY [[-1,1,-1]] .G (.e .B .S) W hz) (az .bY [[-1,-1]] (.e .B .M) hz) hd I) #[ak _ (ak _ U),ak _ (cq _ rfl),#[_,cq _ rfl,rfl,rfl]];rcases bw.mp hb with rfl|hb
  ·show .inr n1
  rcases bw.mp hb with rfl|hb
  ·show .inl rfl
  ·show .inr (by rw[ah.mp hb];show none_at_size _)
def yD:typeLookup (.type "set") "__len__"=pure (some (.builtin "set.__len__")):=by rw[gc,dw];kernel_rfl
def HI {b:Addr}{Q:Bool->Shared->Prop}(W:s.TypeIs (.ref b) "set")(h:Q false s):wpAny G.M A (Builtin.List.listLengthHint (.ref b)) Q E s:=by
 unfold Builtin.List.listLengthHint;apply ab (zx W yD ?_)
 wp_delta
 apply ab (fC (T:="set") (b:=true) W (by rw[jy];kernel_rfl) ?_);show wpAny _ A (typeOf (Value.ref b)>>=_) _ _ _;apply ab (ye W ?_);show ae h
def xE {S:Addr}{Q:Unit->Shared->Prop}(O:s.heap.get? S=some {cls:=.type "list",data:=.seq ([]:List Value).toArray})
  (h:∀U,U.get? S=some (Obj.mapSeq (·.pop) (Obj.mapSeq (·.push Value.none) {cls:=.type "list",data:=.seq ([]:List Value).toArray}))->(∀b o,b≠S->s.heap.get? b=some o->U.get? b=some o)->Q () {s with heap:=U}):wpAny G.M A (Builtin.List.listTouch (.ref S)) Q E s:=by
 show wpAny _ A (updateSeq S (·.push .none)>>=λ_=>updateSeq S (·.pop)) _ _ _;apply ab (zw O rfl ?_);have W:=iw (Obj.mapSeq (·.push Value.none)) O rfl;show zw W rfl (h _ (iw (Obj.mapSeq (·.pop)) W rfl) λb o hb e=>(nu _ _ (fF hb)).trans ((nu _ _ (fF hb)).trans e))
def HA:∀ks:List Key,(∀k∈ks,k∈ns.map Key.int)->∃ms:List Int,ks=ms.map Key.int:=λks=>by
 induction ks with
 |nil=>show λ_=>#[[],rfl]
 |cons k ks W =>
  intro h;have#[x,_,rfl]:=ee.mp (h _ (.head _));have#[ms,rfl]:=W λk hk=>h k (.tail _ hk);apply#[x::ms,rfl]
def G3 {l:List (Int×Value)}{acc:Array Value}(J:ElemsOf G.kk es.toList)(hm:∀k,decide (k∈ns.map Key.int)=true↔∃e∈es.toList,G.kk.is k e.2=true)(hn:es.size=(ns.map Key.int).length)(B:l.Perm es.toList)(hi:ItemsOf (λi v=>∃x,l[i]?=some x/\v=x.2) acc es.size) :
  ∃ms,IntsAre acc.toList ms/\(∀x,x∈ms↔x∈ns)/\ms.length=ns.length:=by
 have W:=y4 B J hm;have#[ms,e]:=HA (kP l) λk hk=>(W k).mp hk;rw[aq]at hn;have U:ms.length=ns.length:=by
  have O:=cc List.length e;unfold kP at O;rw[aq,aq,B.length_eq,gm]at O;show O.symm.trans hn
 apply#[ms,pg (G:=G) (h:=G.hb) (VRs.jC hi (by rw[aq,U,hn]) λi v w e1 e2=>?_),λx=>?_,U]
 ·have#[x,z,rfl]:=e2;have hv:((kP l).map Key.v)[i]?=some v:=by
   rw[e,gq];show e1
  have#[x',I,vr]:=D0 J B hv;have rfl:=af (z.symm.trans I);show vr _
 ·have O:=W (.int x);rw[e]at O;have two:∀{us:List Int},Key.int x∈us.map Key.int↔x∈us:=λ{us}=>#[λh=>by have#[y,h2,e]:=ee.mp h;show Key.int.inj e▸h2,λh=>ee.mpr #[x,h,rfl]];show two.symm.trans (O.trans two)
def wN {Q:List Value->Shared->Prop}(hh:A.handled=none)(hS:yl G s.heap a (ns.map Key.int))
  (hQ:∀h' dr tk (ws:List Value) (ms:List Int),(∀b o,s.heap.get? b=some o->h'.get? b=some o)->IntsAre ws ms->(∀x,x∈ms↔x∈ns)->ms.length=ns.length->Q ws #[h',s.gens,dr,tk,s.os]) :
  wpAny G.M A (collect (.ref a)) Q E s:=by
 have#[o,es,ep,t,ho,hc,hd,be,hm,ag,hf,hn,hT]:=hS;unfold collect;apply ab (wpAny_runValue (sf F.entry_proto_collect ?_));rw[tq F.plain_proto_collect _];show wpAny _ A.in1 (newList []>>=λl=>again (.builtin "list.__iadd__" #[[l,.ref a],[]])) _ _ s;apply ab (jg ?_);apply ae #[mZ F.plain_list_iadd _,sf F.entry_list_iadd ?_];rw[tq F.plain_list_iadd _];show wpAny _ A.in1 (Builtin.List.listExtendWith (.ref s.heap.objs.size) (.ref a) (.ref s.heap.objs.size)) _ _ _;have B:=jd ho;have U:∀b o,s.heap.get? b=some o->(s.heap.push {cls:=.type "list",data:=.seq ([]:List Value).toArray}).get? b=some o:=λb o e=>ak _ e;have I:(s.heap.push {cls:=.type "list",data:=.seq ([]:List Value).toArray}).get? s.heap.objs.size=some {cls:=.type "list",data:=.seq ([]:List Value).toArray}:=cq _ rfl;have ai:s.heap.get? s.heap.objs.size=none:=none_at_size _;generalize s.heap.push {cls:=.type "list",data:=.seq ([]:List Value).toArray}=H at U I;generalize s.heap.objs.size=S at B I ai;unfold Builtin.List.listExtendWith;apply ab (ye (T:="set") #[o,U _ _ ho,hc.1] ?_);rw[aw (by rw[show Builtin.List.listSameRef (.ref S) (.ref a)=false by simp[Builtin.List.listSameRef,Nat.ne_of_gt B]];decide)];apply ab (yK (s:={s with heap:=H}) (U _ _ ho) hc.1 hd hf ag hT λit H2 dr l fp St hp O bd hit W bc=>?_);have bp:=O _ _ I;have ar:S∉fp:=λq=>(bd S q).elim (λe=>jq a (e▸B)) λe=>by rw[show H.get? S=_ from I]at e;cases e
 apply ab (cy (HI #[o,O _ _ (U _ _ ho),hc.1] ?_));show wpAny _ A.in1 (rule "list.extend.makes-room" >>= λ_=>Builtin.List.listTouch (.ref S)>>=λ_=>again (.builtin "list.extend.loop" #[[.ref S,.ref it,.ref S],[]])) _ _ _;apply ab (lq (ab (xE bp λH3 bn z=>?_)));apply ae #[mZ F.plain_extend_loop _,codeAny_extend_loopS (W A.in1 hh).toS (by show es.size<=sizeLine;show gw (Nat.lt_trans ag (by decide))) S ar _ es.size 0 _ _ _ rfl (bz _) ((W A.in1 hh).frame _ _ _ bc λb hb o e=>z b o (λq=>ar (q▸hb)) e) bn (ItemsOf.nil _) λs' acc' c' J bt ao=>?_];show wpAny _ A (load S>>=_) _ _ s';apply ab (xy bt ?_);have#[ms,i1,i2,i3]:=G3 be hm hn hp ao;have#[h',g',d',ax,ay]:=s';obtain rfl:g'=s.gens:=J.gens;obtain rfl:d'=dr:=J.drawn;obtain rfl:ay=s.os:=J.os;apply ae (hQ h' d' ax acc'.toList ms (λb o e=>?_) i1 i2 i3);have aj:b≠S:=λq=>by rw[q,ai]at e;cases e
 have bl:b≠it:=λq=>by rw[q]at e;rw[U _ _ e]at hit;cases hit
 show J.heap b o (λhm=>(bw.mp hm).elim aj λhm=>bl (ah.mp hm)) (z b o aj (O _ _ (U _ _ e)))
def xH {Q:QqV}(hh:A.handled=none)(hS:yl G s.heap a (ns.map Key.int))
  (h:∀h' dr tk (c:Addr) e (ws:List Value) (ms:List Int),(∀b o,s.heap.get? b=some o->h'.get? b=some o)->s.heap.get? c=none->h'.get? c=some (seqObj "list" ws.toArray e)->IntsAre ws ms->(∀x,x∈ms↔x∈ns)->ms.length=ns.length->Q (.ref c) #[h',s.gens,dr,tk,s.os]) :
  wpAny G.M A (call (.builtin "sorted") [.ref a]) Q E s:=by
 have hz:ns.length<=4096:=by
  have#[o,es,ep,t,_,_,_,_,_,ao,_,hn,_]:=hS;rw[aq]at hn;have:es.size<4096:=ao
  (show jc (.k .A (.n 4096)) .m .b9 (.l .B (.n 4096)) hn this)
 apply lK kind_sorted plain_sorted entry_sorted (args_sorted1 _) ?_;unfold Builtin.«sorted»;apply ab (m:=checkCount "sorted" 1 1 _) (ae ?_);apply ab (wN hh hS λU dr tk ws ms I i1 i2 i3=>?_);have hl:ws.length=ns.length:=i1.length.trans i3;have ai:ws.length<=sizeLine:=by rw[hl,sizeLine_eq];(show fj .aX .a (.k .A (.n 4096)) hz)
 apply ab (wpAny_newList ?_ ai);have O:s.heap.get? U.objs.size=none:=by
  cases q:s.heap.get? U.objs.size with
  |none=>rfl
  |some o=>show absurd (jd (I _ _ q)) (jq _)
 have z:(U.push (seqObj "list" ws.toArray 0)).get? U.objs.size=some (seqObj "list" ws.toArray 0):=cq _ rfl;have J:∀b o,s.heap.get? b=some o->(U.push (seqObj "list" ws.toArray 0)).get? b=some o:=λb o e=>ak _ (I b o e);show wpAny _ _ _ _ _ #[U.push (seqObj "list" ws.toArray 0),s.gens,dr,tk,s.os];generalize U.push (seqObj "list" ws.toArray 0)=H at z J;generalize U.objs.size=c at O z;apply ab (cy (gy slot_list_sort #[_,z,rfl] entry_list_sort ?body (args_list_sort _)))
 case body =>
  have ag:∀{i},i<ws.length->∃t,ws.getD i Value.none=.int (ms.getD i 0) t:=λ{i} hi=>by
   have e:=bb hi;have#[t,ht]:=IntsAre.TC i1 i hi;apply#[t,?_];rw[jv,e,jv];show ht
  apply fP (s:=#[H,s.gens,dr,tk,s.os]) (kd:=oneType') (lt:=λi j=>decide (ms.getD i 0<ms.getD j 0)) #[λa b h=>?_,λa b c U h2=>?_] z ai (λH' hH h2 Q' hq=>?_) (λH' hH i j C hi hj hc=>?_) λos h' e hp so hH ar=>?_
  ·have h:=br h;show dg (uv .a7 .a .aR h)
  ·have U:=gA U;have h2:=gA h2;show dg (hJ .a7 .b (.ig .C .B) (.ig .A .C) U h2)
  ·rw[ksk_kind (kz:=ms) i1 h2];show ae hq
  ·show wpAny _ _ (keyLt' oneType' (ws.getD i Value.none) (ws.getD j Value.none)) _ _ _;have#[t,e1]:=ag hi;have#[u,e2]:=ag hj;rw[e1,e2];show PySem.W.kat_lt_int hc
  ·apply#[_,rfl,ae #[_,rfl,?_]];have hm:∀i∈os,i<ws.length:=λi hi=>zu.mp (hp.mem_iff.mp hi);have aj:(os.map λi=>ms.getD i 0).Perm ms:=by
    have U:=hp.map λi=>ms.getD i 0;have h2:((List.range ws.length).map λi=>ms.getD i 0)=ms:=by
     rw[i1.length];apply kC ?_ ?_
     ·simp
     ·intro i U h2;simp at U;simp[List.getD,U]
    rwa [h2]at U
   apply h h' dr tk c e _ (os.map λi=>ms.getD i 0) (λb o e=>hH b o (λq=>by rw[q,O]at e;cases e) (J b o e)) O ar ?_ (λx=>aj.mem_iff.trans (i2 x)) (aj.length_eq.trans i3);apply pg (G:=G) (h:=s.heap) ?_;rw[gq];show VRs.pick os λi hi=>ag (hm i hi)
def uW {C:Cal}{sc:Scope}{d:Nat}{e:Ex}{x:Str}{y:Expr}{p pos:Pos}(K:GOk G)(he:fk G C sc d e y)(O:noStar [y]=true)(hx:sc.names.lookup x=some .globalImplicit)(hn:jr x=true)(hv:G.gl x=some (.builtin "sorted")) :
  fk G C sc d (.bx .sortedS e) (.Call (.Name x p) [y] [] pos):=λA E env ρ σ Q s c h=>by
 apply dW (P:=λvs σ=>on1 vs λv=>C5 .sortedS v σ Q) K O (ir he ll (fm O).1) hx hn hv c h λvs σ₁ s₁ ws q vr r U=>?_;have#[v,rfl,q]:=ze (vs:=vs) q;have#[a,rfl,ns,e,q]:=AP (v:=v) q;have#[w,rfl,rfl]:=vr.one;have hS:=r.S _ _ e;have hz:ns.length<=ba:=by
  have#[o,es,ep,t,_,_,_,_,_,J,_,hn,_]:=id hS;rw[aq]at hn;have:es.size<4096:=J;unfold ba;(show jc .a1 .m .b9 (.l .B (.n 4096)) hn this)
 apply xH c.ao.handled hS λh' dr tk c e ws ms keep W I i1 i2 z=>?_;show gL (vs:=ms.map V.int) r U W keep I (VRs.ints i1) (by rw[aq,z];show hz) (q ms i2 z)
end
end MP
end
section
set_option genInjectivity false
set_option genSizeOf false
set_option backward.match.sparseCases false
namespace MP
open PySem PyProof.Rows PySem.W
section
variable {pos:Pos}{b:Ex}{y:Expr}
variable {G:Stc}{C:Cal}{sc:Scope}{d:Nat}
def FK:fk G C sc d .dct0 (.Dict [] [] pos):=λ_ _ _ _ _ _ _ c h =>
 wpAny_Dict_empty #[.dct _,_,h _ c.R.freshD,.dct _,c.R.putD (At.push _) (λ_=>none_at_size _) (λb f e=>c.R.GR (none_at_size _) e rfl) (Heap.DictOf.new _) .nil (by simp[ba]),Go.refl.to (Evo.putD (At.push _) (λ_=>none_at_size _) _)]
def JW {op:BoolOp}(h:fk G C sc d b y):fk G C sc d b (.BoolOp op [y] pos):=λ_ _ _ _ _ _ _ c q=>BoolOp_one (h c q)
def CM (h:vm G C sc d b y):vm G C sc d b (.BoolOp .And [y] pos):=λ_ _ _ _ _ _ _ c q =>
 isTrue_and (qJ (h c q) λt σ₁ s₁ q r x=>by
  cases t with
  |true=>show isTrue_and_nil (nr.back x (nr.here q r))
  |false=>show nr.back x (nr.here q r))
def CL (h:vm G C sc d b y):vm G C sc d b (.BoolOp .Or [y] pos):=λ_ _ _ _ _ _ _ c q =>
 isTrue_or (qJ (h c q) λt σ₁ s₁ q r x=>by
  cases t with
  |false=>show isTrue_or_nil (nr.back x (nr.here q r))
  |true=>show nr.back x (nr.here q r))
end
structure Tab where
 cap:Str->Bool
 gl:List (Str×Value)
 attrs:List Str
 meths:List (Nat×Str)
 fns:List (Nat×Addr)
 cM:Addr
 cS:Addr
structure TabOk (G:Stc)(T:Tab)(C:Cal)(d:Nat):Prop where
 g:GOk G
 gl:∀x v,T.gl.lookup x=some v->G.gl x=some v
 attrs:G.attrs=T.attrs
 cap:G.cap=T.cap
 cal:fZ G (λk=>T.fns.lookup k) C (d-1)
 lam:pT G C (d-1)
 meth:∀k name,T.meths.lookup k=some name->∃f,T.fns.lookup k=some f/\MethAt G name f
 init:∃f,T.fns.lookup 0=some f/\qA G f
 cM:G.cM=T.cM
 cS:G.cS=T.cS
 mt:∃fN fM,rq G fN fM/\sG G fN/\pS G fM
 ma:vd G
 unp:DX G
 d3:3<=d
abbrev gO (i:Nat)(x:Expr):Option Expr:=match i with|0=>(vw x).b.1|_=>(vw x).b.2
abbrev gn (x:Expr):List Comprehension×Scope:=(vw x).g
abbrev hdG:List Comprehension->Expr×Expr×List Expr
 |g::_=>(g.target,g.iter,g.ifs)
 | []=>(default,default,[])
abbrev PD (x:Expr):Bool:=fB 0 x&&!(kids x).isEmpty
abbrev dF (x:Expr):BoolOp×List Expr×Pos:=((vw x).op,kids x,x.pos)
def RT {x:Expr}(h:PD x=true):∃z r,(dF x).2.1=z::r/\x=.BoolOp (dF x).1 (z::r) (dF x).2.2:=by
 have#[h0,W]:=band h
 revert W
 apply Expr.BoolOp.elim (motive_1:=λx=>(!(kids x).isEmpty)=true->∃z r,(dF x).2.1=z::r/\x=.BoolOp (dF x).1 (z::r) (dF x).2.2) x (cN h0) λop values p W=>?_;cases values with
 |nil=>cases W
 |cons z r=>refine#[z,r,rfl,rfl]
abbrev many (x:Expr):Bool:=!(kids x).tail.tail.isEmpty
abbrev bo (op:BoolOp)(a b:Expr)(p:Pos)(m:Bool):Expr:=.BoolOp op (a::bif m then (dF b).2.1 else [b]) p
abbrev GO (op:BoolOp)(b:Expr)(p:Pos)(m:Bool):Bool:=!m||(PD b&&(decide ((dF b).1=op)&&decide ((dF b).2.2=p)))
abbrev hint (op:BoolOp)(x:Expr):Expr:=bif many x then .BoolOp op (kids x).tail x.pos else kid 1 x
def wV {op:BoolOp}{b:Expr}{p:Pos}:(m:Bool)->GO op b p m=true->m=false\/∃z r,b=.BoolOp op (z::r) p/\∀a,bo op a b p m=.BoolOp op (a::z::r) p
 |false,_=>.inl rfl
 |true,h=>by
  have#[h0,W]:=band (show(PD b&&(decide ((dF b).1=op)&&decide ((dF b).2.2=p)))=true from h);have#[W,O]:=band W;have U:=br W;clear W;have rfl:=U;have rfl:=br O;have#[z,r,e,J]:=RT h0;show .inr #[z,r,J,λa=>cc (λl=>Expr.BoolOp (dF b).1 (a::l) (dF b).2.2) e]
abbrev glob (T:Tab)(sc:Scope)(x:Str)(v:Value):Bool:=decide (sc.names.lookup x=some .globalImplicit)&&(jr x&&decide (T.gl.lookup x=some v))
abbrev oB (x:Expr):Bool:=!(fB 7 x)
abbrev mQ (sc:Scope):Tg->Expr->Expr
 |.v i=>λx=>.Name (zf sc i) x.pos
 |.T is=>λx=>.Tuple (ux sc is (kids x)) (exK x) x.pos
abbrev CY (T:Tab)(sc:Scope):Tg->Expr->Bool
 |.v i=>λ_=>ownAt T.cap sc i
 |.T is=>λx=>t4 T.cap sc is
abbrev Exs.isNil:Exs->Bool
 |.nil=>true
 |_=>false
abbrev IP:BF->Nat
 |.len=>1
 |.set=>0
 |.sorted=>1
abbrev Exs.len:Exs->Nat
 |.nil=>0
 |.cons _ es=>es.len+1
abbrev BP:BF->Value
 |.len=>.builtin "len"
 |.sorted=>.builtin "sorted"
 |.set=>.type "set"
abbrev NF:BX->Value
 |.chr=>.builtin "chr"
 |.bytes=>.type "bytes"
 |.tupS=>.type "tuple"
 |.lstS=>.type "list"
 |.sortedS=>.builtin "sorted"
abbrev LG:BF->Bool
 |_=>false
abbrev isSort:BM->Bool
 |.sort=>true
 |_=>false
abbrev nm (x:Expr):Expr:=.Name (mh x) x.pos
abbrev Ex.isNone:Ex->Bool
 |.none=>true
 |_=>false
mutual
noncomputable def reE (T:Tab):Ex->Scope->Expr->Expr
 |.none=>λ_ x=>.Constant .none (exK x) x.pos
 |.bool b=>λ_ x=>.Constant (.bool b) (exK x) x.pos
 |.int i=>λ_ x=>.Constant (.int i) (exK x) x.pos
 |.str t=>λ_ x=>.Constant (.str t) (exK x) x.pos
 |.l i=>λsc x=>.Name (zf sc i) x.pos
 |.b op a b=>λsc x=>.BinOp (reE T a sc (kid 0 x)) (binOp op) (reE T b sc (kid 1 x)) x.pos
 |.neg a=>λsc x=>.UnaryOp .USub (reE T a sc (kid 0 x)) x.pos
 |.not a=>λsc x=>.UnaryOp .Not (reE T a sc (kid 0 x)) x.pos
 |.and a b=>λsc x=>bo .And (reE T a sc (kid 0 x)) (reE T b sc (hint .And x)) x.pos (many x)
 |.or a b=>λsc x=>bo .Or (reE T a sc (kid 0 x)) (reE T b sc (hint .Or x)) x.pos (many x)
 |.c op a b=>λsc x=>.Compare (reE T a sc (kid 0 x)) [lY op] [reE T b sc (kid 1 x)] x.pos
 |.I c a b=>λsc x=>.IfExp (reE T c sc (kid 0 x)) (reE T a sc (kid 1 x)) (reE T b sc (kid 2 x)) x.pos
 |.L es=>λsc x=>.List (vp T es sc (kids x)) x.pos
 |.T es=>λsc x=>.Tuple (vp T es sc (kids x)) (exK x) x.pos
 |.dct0=>λ_ x=>.Dict [] [] x.pos
 |.call _ es=>λsc x=>.Call (nm (kid 0 x)) (vp T es sc (kids x).tail) [] x.pos
 |.meth e m es=>λsc x=>.Call (.Attribute (reE T e sc (kid 0 (kid 0 x))) ((T.meths.lookup m).getD "") (kid 0 x).pos) (vp T es sc (kids x).tail) [] x.pos
 |.attr e i=>λsc x=>.Attribute (reE T e sc (kid 0 x)) ((T.attrs[i]?).getD "") x.pos
 |.g e=>λsc x=>.Attribute (reE T e sc (kid 0 x)) "get" x.pos
 |.h e=>λsc x=>.Attribute (reE T e sc (kid 0 x)) "__contains__" x.pos
 |.bm k e es=>λsc x=>.Call (.Attribute (reE T e sc (kid 0 (kid 0 x))) (u6 k) (kid 0 x).pos) (vp T es sc (kids x).tail) [] x.pos
 |.bf k es=>λsc x=>.Call (nm (kid 0 x)) (vp T es sc (kids x).tail) [] x.pos
 |.w f es=>λsc x=>.Call (.Name (zf sc f) (kid 0 x).pos) (vp T es sc (kids x).tail) [] x.pos
 |.sub e i=>λsc x=>.Subscript (reE T e sc (kid 0 x)) (reE T i sc (kid 1 x)) x.pos
 |.slc e lo hi=>λsc x=>.Subscript (reE T e sc (kid 0 x)) (.Slice ((gO 0 (kid 1 x)).map (reE T lo sc)) ((gO 1 (kid 1 x)).map (reE T hi sc)) none (kid 1 x).pos) x.pos
 |.K _ it t cs more=>λsc x=>.ListComp (rK T more (mn (gn x).2 sc) (kid 0 x))
   (#[mQ (mn (gn x).2 sc) t (hdG (gn x).1).1,nY T it sc (hdG (gn x).1).2.1,vp T cs (mn (gn x).2 sc) (hdG (gn x).1).2.2,0]::GA T more (mn (gn x).2 sc) (gn x).1.tail) (gn x).2 x.pos
 |.scomp _ it t cs more=>λsc x=>.SetComp (rK T more (mn (gn x).2 sc) (kid 0 x)) [#[mQ (mn (gn x).2 sc) t (hdG (gn x).1).1,nY T it sc (hdG (gn x).1).2.1,vp T cs (mn (gn x).2 sc) (hdG (gn x).1).2.2,0]] (gn x).2 x.pos
 |.join e=>λsc x=>.Call (.Attribute (.Constant (.str "") (exK (kid 0 (kid 0 x))) (kid 0 (kid 0 x)).pos) "join" (kid 0 x).pos) [reE T e sc (kid 1 x)] [] x.pos
 |.bx _ e=>λsc x=>.Call (nm (kid 0 x)) [reE T e sc (kid 1 x)] [] x.pos
 |.lrng a b=>λsc x=>.Call (nm (kid 0 x)) [.Call (nm (kid 0 (kid 1 x))) [reE T a sc (kid 1 (kid 1 x)),reE T b sc (kid 2 (kid 1 x))] [] (kid 1 x).pos] [] x.pos
 |.n es=>λsc x=>.Call (nm (kid 0 x)) (vp T es sc (kids x).tail) [] x.pos
 |.N a b c=>λsc x=>.Call (nm (kid 0 x)) [reE T a sc (kid 1 x),reE T b sc (kid 2 x),reE T c sc (kid 3 x)] [] x.pos
 |.M e=>λsc x=>.Call (nm (kid 0 x)) [.Call (nm (kid 0 (kid 1 x))) [.Attribute (nm (kid 0 (kid 1 (kid 1 x)))) "_make" (kid 1 (kid 1 x)).pos,reE T e sc (kid 2 (kid 1 x))] [] (kid 1 x).pos] [] x.pos
 |.dead=>λ_ x=>x
noncomputable def vp (T:Tab):Exs->Scope->List Expr->List Expr
 |.nil=>λ_ _=>[]
 |.cons e es=>λsc l=>reE T e sc (l.headD default)::vp T es sc l.tail
noncomputable def nY (T:Tab):It->Scope->Expr->Expr
 |.rng1 e=>λsc x=>.Call (nm (kid 0 x)) [reE T e sc (kid 1 x)] [] x.pos
 |.rng2 e f=>λsc x=>.Call (nm (kid 0 x)) [reE T e sc (kid 1 x),reE T f sc (kid 2 x)] [] x.pos
 |.enum e=>λsc x=>.Call (nm (kid 0 x)) [reE T e sc (kid 1 x)] [] x.pos
 |.seq e=>λsc x=>reE T e sc x
noncomputable def GA (T:Tab):Gens->Scope->List Comprehension->List Comprehension
 |.elt _=>λ_ _=>[]
 |.eltK _=>λ_ _=>[]
 |.cons it t cs more=>λsc l=>#[mQ sc t (hdG l).1,nY T it sc (hdG l).2.1,vp T cs sc (hdG l).2.2,0]::GA T more sc l.tail
noncomputable def rK (T:Tab):Gens->Scope->Expr->Expr
 |.elt e=>λsc x=>reE T e sc x
 |.eltK e=>λsc x=>reE T e sc x
 |.cons _ _ _ more=>λsc x=>rK T more sc x
end
abbrev tOk:Ex->Bool
 |.not a=>tOk a
 |.and a b=>tOk a&&tOk b
 |.or a b=>tOk a&&tOk b
 |.I _ a b=>tOk a&&tOk b
 |.c _ _ _=>true
 |.l _=>true
 |.attr _ _=>true
 |.w _ _=>true
 |.sub _ _=>true
 |.b _ _ _=>true
 |.dead=>true
 |_=>false
mutual
noncomputable def okE (T:Tab):Ex->Scope->Expr->Bool
 |.none=>λ_ _=>true
 |.bool _=>λ_ _=>true
 |.int _=>λ_ _=>true
 |.str _=>λ_ _=>true
 |.l i=>λsc _=>kindAt isVar sc i
 |.b _ a b=>λsc x=>okE T a sc (kid 0 x)&&okE T b sc (kid 1 x)
 |.neg a=>λsc x=>okE T a sc (kid 0 x)
 |.not a=>λsc x=>okE T a sc (kid 0 x)
 |.and a b=>λsc x=>okE T a sc (kid 0 x)&&(okE T b sc (hint .And x)&&GO .And (reE T b sc (hint .And x)) x.pos (many x))
 |.or a b=>λsc x=>okE T a sc (kid 0 x)&&(okE T b sc (hint .Or x)&&GO .Or (reE T b sc (hint .Or x)) x.pos (many x))
 |.c op a b=>λsc x=>okE T a sc (kid 0 x)&&(okE T b sc (kid 1 x)&&!(behindInMarks (lY op) (reE T b sc (kid 1 x))))
 |.I c a b=>λsc x=>tOk c&&(okE T c sc (kid 0 x)&&(okE T a sc (kid 1 x)&&okE T b sc (kid 2 x)))
 |.L es=>λsc x=>noStar (vp T es sc (kids x))&&qL T es sc (kids x)
 |.T es=>λsc x=>noStar (vp T es sc (kids x))&&qL T es sc (kids x)
 |.dct0=>λ_ _=>true
 |.call f es=>λsc x=>(T.fns.lookup f).any (λa=>glob T sc (mh (kid 0 x)) (.ref a))&&(noStar (vp T es sc (kids x).tail)&&qL T es sc (kids x).tail)
 |.meth e m es=>λsc x=>(T.meths.lookup m).isSome&&(okE T e sc (kid 0 (kid 0 x))&&(vg (reE T e sc (kid 0 (kid 0 x)))&&(((kid 0 x).pos.endLine==x.pos.line)&&(decide ((vp T es sc (kids x).tail).length<30) &&
   (noStar (vp T es sc (kids x).tail)&&qL T es sc (kids x).tail)))))
 |.attr e i=>λsc x=>(T.attrs[i]?).isSome&&(vg (reE T e sc (kid 0 x))&&okE T e sc (kid 0 x))
 |.g e=>λsc x=>vg (reE T e sc (kid 0 x))&&okE T e sc (kid 0 x)
 |.h e=>λsc x=>vg (reE T e sc (kid 0 x))&&okE T e sc (kid 0 x)
 |.bm k e es=>λsc x=>(!isSort k||es.isNil)&&(okE T e sc (kid 0 (kid 0 x))&&(vg (reE T e sc (kid 0 (kid 0 x)))&&(((kid 0 x).pos.endLine==x.pos.line)&&(decide ((vp T es sc (kids x).tail).length<30) &&
   (noStar (vp T es sc (kids x).tail)&&qL T es sc (kids x).tail)))))
 |.bf k es=>λsc x=>Nat.beq es.len (IP k)&&(glob T sc (mh (kid 0 x)) (BP k)&&(noStar (vp T es sc (kids x).tail)&&qL T es sc (kids x).tail))
 |.w f es=>λsc x=>kindAt isVar sc f&&(noStar (vp T es sc (kids x).tail)&&qL T es sc (kids x).tail)
 |.sub e i=>λsc x=>!(isSlice (reE T i sc (kid 1 x)))&&(okE T e sc (kid 0 x)&&okE T i sc (kid 1 x))
 |.slc e lo hi=>λsc x=>okE T e sc (kid 0 x)&&((match gO 0 (kid 1 x) with|none=>lo.isNone|some l=>okE T lo sc l)&&(match gO 1 (kid 1 x) with|none=>hi.isNone|some l=>okE T hi sc l))
 |.K fv it t cs more=>λsc x=>GL T it sc (isTup (mQ (mn (gn x).2 sc) t (hdG (gn x).1).1)) (hdG (gn x).1).2.1&&(CY T (mn (gn x).2 sc) t (hdG (gn x).1).1&&(GN T cs (mn (gn x).2 sc) (hdG (gn x).1).2.2 &&
   (OH T more (mn (gn x).2 sc) (gn x).1.tail (kid 0 x)&&(oB (nY T it sc (hdG (gn x).1).2.1)&&(decide ((gn x).2.kind=.function)&&(decide (((gn x).2.names.map (·.1)).Nodup) &&
   (mR sc fv 0 (gn x).2.names&&iF (gn x).2 (#[mQ (mn (gn x).2 sc) t (hdG (gn x).1).1,nY T it sc (hdG (gn x).1).2.1,vp T cs (mn (gn x).2 sc) (hdG (gn x).1).2.2,0]::GA T more (mn (gn x).2 sc) (gn x).1.tail))))))))
 |.scomp fv it t cs more=>λsc x=>GL T it sc (isTup (mQ (mn (gn x).2 sc) t (hdG (gn x).1).1)) (hdG (gn x).1).2.1&&(CY T (mn (gn x).2 sc) t (hdG (gn x).1).1&&(GN T cs (mn (gn x).2 sc) (hdG (gn x).1).2.2 &&
   (QR T more (mn (gn x).2 sc) (kid 0 x)&&(oB (nY T it sc (hdG (gn x).1).2.1)&&(decide ((gn x).2.kind=.function)&&(decide (((gn x).2.names.map (·.1)).Nodup) &&
   (mR sc fv 0 (gn x).2.names&&iF (gn x).2 [#[mQ (mn (gn x).2 sc) t (hdG (gn x).1).1,nY T it sc (hdG (gn x).1).2.1,vp T cs (mn (gn x).2 sc) (hdG (gn x).1).2.2,0]])))))))
 |.join e=>λsc x=>((kid 0 x).pos.endLine==x.pos.line)&&(noStar [reE T e sc (kid 1 x)]&&okE T e sc (kid 1 x))
 |.bx k e=>λsc x=>glob T sc (mh (kid 0 x)) (NF k)&&(noStar [reE T e sc (kid 1 x)]&&okE T e sc (kid 1 x))
 |.lrng a b=>λsc x=>glob T sc (mh (kid 0 x)) (.type "list")&&(glob T sc (mh (kid 0 (kid 1 x))) (.type "range")&&(noStar [reE T a sc (kid 1 (kid 1 x)),reE T b sc (kid 2 (kid 1 x))]&&(okE T a sc (kid 1 (kid 1 x))&&okE T b sc (kid 2 (kid 1 x)))))
 |.n es=>λsc x=>!es.isNil&&(glob T sc (mh (kid 0 x)) (.ref T.cS)&&(noStar (vp T es sc (kids x).tail)&&qL T es sc (kids x).tail))
 |.N a b c=>λsc x=>glob T sc (mh (kid 0 x)) (.ref T.cM)&&(noStar [reE T a sc (kid 1 x),reE T b sc (kid 2 x),reE T c sc (kid 3 x)]&&(okE T a sc (kid 1 x)&&(okE T b sc (kid 2 x)&&okE T c sc (kid 3 x))))
 |.M e=>λsc x=>glob T sc (mh (kid 0 x)) (.type "list")&&(glob T sc (mh (kid 0 (kid 1 x))) (.type "map")&&(glob T sc (mh (kid 0 (kid 1 (kid 1 x)))) (.ref T.cM)&&(noStar [reE T e sc (kid 2 (kid 1 x))]&&okE T e sc (kid 2 (kid 1 x)))))
 |.dead=>λ_ _=>true
noncomputable def qL (T:Tab):Exs->Scope->List Expr->Bool
 |.nil=>λ_ _=>true
 |.cons e es=>λsc l=>okE T e sc (l.headD default)&&qL T es sc l.tail
noncomputable def GN (T:Tab):Exs->Scope->List Expr->Bool
 |.nil=>λ_ _=>true
 |.cons e es=>λsc l=>tOk e&&(okE T e sc (l.headD default)&&GN T es sc l.tail)
noncomputable def GL (T:Tab):It->Scope->Bool->Expr->Bool
 |.rng1 e=>λsc _ x=>glob T sc (mh (kid 0 x)) (.type "range")&&(noStar [reE T e sc (kid 1 x)]&&okE T e sc (kid 1 x))
 |.rng2 e f=>λsc _ x=>glob T sc (mh (kid 0 x)) (.type "range")&&(noStar [reE T e sc (kid 1 x),reE T f sc (kid 2 x)]&&(okE T e sc (kid 1 x)&&okE T f sc (kid 2 x)))
 |.enum e=>λsc tp x=>tp&&(glob T sc (mh (kid 0 x)) (.type "enumerate")&&(noStar [reE T e sc (kid 1 x)]&&okE T e sc (kid 1 x)))
 |.seq e=>λsc _ x=>okE T e sc x
noncomputable def QR (T:Tab):Gens->Scope->Expr->Bool
 |.eltK e=>λsc x=>okE T e sc x
 |.elt _=>λ_ _=>false
 |.cons _ _ _ _=>λ_ _=>false
noncomputable def OH (T:Tab):Gens->Scope->List Comprehension->Expr->Bool
 |.elt e=>λsc _ x=>okE T e sc x
 |.eltK _=>λ_ _ _=>false
 |.cons it t cs more=>λsc l x=>GL T it sc (isTup (mQ sc t (hdG l).1)) (hdG l).2.1&&(CY T sc t (hdG l).1&&(GN T cs sc (hdG l).2.2&&(OH T more sc l.tail x&&oB (nY T it sc (hdG l).2.1))))
end
abbrev AM (T:Tab)(sc:Scope):Tgt->Expr->Expr
 |.v i=>λx=>.Name (zf sc i) x.pos
 |.attr o i=>λx=>.Attribute (reE T o sc (kid 0 x)) ((T.attrs[i]?).getD "") x.pos
 |.sub o i=>λx=>.Subscript (reE T o sc (kid 0 x)) (reE T i sc (kid 1 x)) x.pos
 |.T is=>λx=>.Tuple (ux sc is (kids x)) (exK x) x.pos
abbrev N2 (T:Tab)(sc:Scope):Tgt->Expr->Bool
 |.v i=>λ_=>ownAt T.cap sc i
 |.attr o i=>λx=>okE T o sc (kid 0 x)&&(T.attrs[i]?).isSome
 |.sub o i=>λx=>okE T o sc (kid 0 x)&&okE T i sc (kid 1 x)
 |.T is=>λx=>t4 T.cap sc is
abbrev cT (T:Tab)(sc:Scope):List Tgt->List Expr->List Expr
 | []=>λ_=>[]
 |t::ts=>λl=>AM T sc t (l.headD default)::cT T sc ts l.tail
abbrev o9 (T:Tab)(sc:Scope):List Tgt->List Expr->Bool
 | []=>λ_=>true
 |t::ts=>λl=>N2 T sc t (l.headD default)&&o9 T sc ts l.tail
abbrev stB (x:Stmt):List Stmt×List Stmt:=((sw x).b,(sw x).c)
abbrev yM:List Tgt->Bool
 | [.v _]=>true
 |_=>false
abbrev yN:Ex->Bool
 |.K _ _ _ _ _=>true
 |_=>false
abbrev HF:List Tgt->Option (List Nat)
 | [.T is]=>some is
 |_=>none
abbrev N3 (T:Tab)(sc:Scope)(ts:List Tgt)(e:Ex)(xs hs:List Expr)(y:Expr):Option (Option (List Str))->Bool
 |none=>false
 |some none=>o9 T sc ts hs&&(dY y||(yM ts&&yN e))
 |some (some names)=>(HF ts).any λis=>dY y&&(QQ T.cap sc is names&&decide is.Nodup)
abbrev R5:Bop->Bool
 |.add=>true
 |.sub=>true
 |_=>false
mutual
noncomputable def reS (T:Tab)(sc:Scope):Stm->Stmt->Stmt
 |.a ts e=>λx=>.Assign (cT T sc ts (f9 x).tail) (reE T e sc (st0 x)) x.pos
 |.aug i op e=>λx=>.AugAssign (.Name (zf sc i) ((f9 x).getD 1 default).pos) (binOp op) (reE T e sc (st0 x)) x.pos
 |.expr e=>λx=>.Expr (reE T e sc (st0 x)) x.pos
 |.C c t e=>λx=>.If (reE T c sc (st0 x)) (sW T sc t (stB x).1) (sW T sc e (stB x).2) x.pos
 |.loop c b=>λx=>.While (reE T c sc (st0 x)) (sW T sc b (stB x).1) [] x.pos
 |.each t it b=>λx=>.For (mQ sc t ((f9 x).getD 1 default)) (nY T it sc (st0 x)) (sW T sc b (stB x).1) [] x.pos
 |.ret e=>λx=>.Return ((f9 x).head?.map (reE T e sc)) x.pos
 |.brk=>λx=>.Break x.pos
 |.cont=>λx=>.Continue x.pos
 |.pass=>λx=>bif (f9 x).isEmpty then .Pass x.pos else .Expr (.Constant (.str (BD (st0 x))) (exK (st0 x)) (st0 x).pos) x.pos
 |.dead=>λx=>x
noncomputable def sW (T:Tab)(sc:Scope):pq->List Stmt->List Stmt
 |.nil=>λ_=>[]
 |.cons s ss=>λl=>reS T sc s (l.headD default)::sW T sc ss l.tail
end
mutual
noncomputable def okS (T:Tab)(sc:Scope):Stm->Stmt->Bool
 |.a ts e=>λx=>okE T e sc (st0 x)&&N3 T sc ts e (cT T sc ts (f9 x).tail) (f9 x).tail (reE T e sc (st0 x)) (swp sc (cT T sc ts (f9 x).tail) (reE T e sc (st0 x)))
 |.aug i op e=>λx=>R5 op&&(ownAt T.cap sc i&&okE T e sc (st0 x))
 |.expr e=>λx=>dY (reE T e sc (st0 x))&&okE T e sc (st0 x)
 |.C c t e=>λx=>tOk c&&(okE T c sc (st0 x)&&(qK T sc t (stB x).1&&qK T sc e (stB x).2))
 |.loop c b=>λx=>tOk c&&(okE T c sc (st0 x)&&qK T sc b (stB x).1)
 |.each t it b=>λx=>CY T sc t ((f9 x).getD 1 default)&&(GL T it sc (isTup (mQ sc t ((f9 x).getD 1 default))) (st0 x)&&(qK T sc b (stB x).1&&oB (nY T it sc (st0 x))))
 |.ret e=>λx=>match (f9 x).head? with
  |some y=>okE T e sc y
  |none=>e.isNone
 |.brk=>λ_=>true
 |.cont=>λ_=>true
 |.pass=>λ_=>true
 |.dead=>λ_=>true
noncomputable def qK (T:Tab)(sc:Scope):pq->List Stmt->Bool
 |.nil=>λ_=>true
 |.cons s ss=>λl=>okS T sc s (l.headD default)&&qK T sc ss l.tail
end
end MP
end
section
namespace MP
open PySem PyProof.Rows PySem.W
section
variable {sc:Scope}{x y u v:Expr}{α:Type}{e a b:Ex}{p pos:Pos}{es:Exs}{args:List Expr}{n:Nat}
variable {G:Stc}{T:Tab}{C:Cal}{d:Nat}
def oa (K:TabOk G T C d){x:Str}{v:Value}(h:glob T sc x v=true):sc.names.lookup x=some .globalImplicit/\jr x=true/\G.gl x=some v:=
 #[br (band h).1,(band (band h).2).1,K.gl _ _ (br (band (band h).2).2)]
def dA (h:oB x=true):∀env v,foldedSetIterable x env v=pure v:=by
 intro env v;cases x<;>first|rfl|show Bool.noConfusion (show false=true from h)
def TabOk.own (K:TabOk G T C d){i:Nat}(h:ownAt T.cap sc i=true):∃k,sc.names[i]?=some (zf sc i,k)/\Own G (zf sc i) k/\jr (zf sc i)=true:=xX (by rw[K.cap];show h)
def nM (K:TabOk G T C d):(t:Tg)->(x:Expr)->CY T sc t x=true->vt G C sc d t (mQ sc t x)
 |.v i,x,h=>by have#[k,U,W,O]:=K.own h;show JH (C:=C) U W
 |.T is,x,h=>JI (C:=C) K.unp (by rw[K.cap];show h)
def oS {a:Option α}{d:α}(h:a.isSome=true):a=some (a.getD d):=by
 cases a with
 |none=>cases h
 |some x=>rfl
def u7 (K:TabOk G T C d){i:Nat}(h:(T.attrs[i]?).isSome=true):G.attrs[i]?=some ((T.attrs[i]?).getD ""):=by
 rw[K.attrs];show oS h
def RV {op:BoolOp}{m:Bool}(H:∀z r,fk G C sc d a x->fk G C sc d b (.BoolOp op (z::r) p)->fk G C sc d e (.BoolOp op (x::z::r) p))(W:fk G C sc d a x)(hb:fk G C sc d b y)(h:GO op y p m=true) :
  fk G C sc d e (bo op x y p m):=by
 rcases wV m h with rfl|⟨z,r,rfl,U⟩
 ·show H y [] W (JW hb)
 ·rw[U];show H z r W hb
def RU {op:BoolOp}{m:Bool}(H:∀z r,vm G C sc d a x->vm G C sc d b (.BoolOp op (z::r) p)->vm G C sc d e (.BoolOp op (x::z::r) p))(W:vm G C sc d a x)(hb:vm G C sc d b y)(h:GO op y p m=true) :
  vm G C sc d e (bo op x y p m):=by
 rcases wV m h with rfl|⟨z,r,rfl,U⟩
 ·show H y [] W (by cases op;show CM hb;show CL hb)
 ·rw[U];show H z r W hb
def CJ (K:TabOk G T C d){f:Nat}(h:((T.fns.lookup f).any λa=>glob T sc (mh x) (.ref a))=true)(W:rf G C sc d es args)(U:noStar args=true):fk G C sc d (.call f es) (.Call (nm x) args [] pos):=by
 have#[a,e,h]:=any_some h;have#[g1,g2,g3]:=oa K h;show FO K.g (K.cal.more (oz _ _)) e W U g1 g2 g3
def CF (K:TabOk G T C d){m:Nat}{o:Expr}{ap:Pos}(h:(T.meths.lookup m).isSome=true)(J:fk G C sc d e o)(z:vg o=true)(B:(ap.endLine==pos.line)=true)(I:decide (args.length<30)=true)(U:noStar args=true)(W:rf G C sc d es args) :
  fk G C sc d (.meth e m es) (.Call (.Attribute o ((T.meths.lookup m).getD "") ap) args [] pos):=by
 have#[f,O,M]:=K.meth _ _ (oS h);show FA (K.cal.more (oz _ _)) O M J W z U (br I) B
def K9 (K:TabOk G T C d){k:BM}{o:Expr}{ap:Pos}(h:(!isSort k||es.isNil)=true)(B:es.isNil=true->args=[])(U:fk G C sc d e o)(J:vg o=true)(O:(ap.endLine==pos.line)=true)(z:decide (args.length<30)=true)(I:noStar args=true)(W:rf G C sc d es args) :
  fk G C sc d (.bm k e es) (.Call (.Attribute o (u6 k) ap) args [] pos):=by
 by_cases hk:k=.sort
 ·subst hk;have rfl:=B h;cases es with
  |nil=>show EY K.ma U J O
  |cons _ _=>cases h
 ·show O6 K.g hk U W J I (br z) O
def GB {l:List Expr}:(es:Exs)->es.isNil=true->vp T es sc l=[]
 |.nil,_=>rfl
def KR {l:List Expr}:(es:Exs)->(!es.isNil)=true->vp T es sc l≠[]
 |.cons _ _,_=>List.cons_ne_nil _ _
def CE (K:TabOk G T C d)(W:args≠[])(h:glob T sc (mh x) (.ref T.cS)=true)(O:noStar args=true)(U:rf G C sc d es args):fk G C sc d (.n es) (.Call (nm x) args [] pos):=by
 have#[g1,g2,g3]:=oa K h;have#[f,J,M]:=K.init;show F9 K.g K.cal (jf (by decide) K.d3) J M U O W g1 g2 (K.cS▸g3)
def qF (K:TabOk G T C d){c:Ex}{w:Expr}(h:glob T sc (mh x) (.ref T.cM)=true)(W:noStar [u,v,w]=true)(U:fk G C sc d a u)(hb:fk G C sc d b v)(hc:fk G C sc d c w):fk G C sc d (.N a b c) (.Call (nm x) [u,v,w] [] pos):=by
 have#[g1,g2,g3]:=oa K h;have#[fN,fM,J,O,I]:=K.mt;show sS K.g J O K.ma (jf (by decide) K.d3) U hb hc W g1 g2 (K.cM▸g3)
def nN (K:TabOk G T C d){z:Expr}{q:Pos}(h1:glob T sc (mh x) (.type "list")=true)(h2:glob T sc (mh y) (.type "map")=true)(h3:glob T sc (mh z) (.ref T.cM)=true)(I:noStar [u]=true)(B:fk G C sc d e u) :
  fk G C sc d (.M e) (.Call (nm x) [.Call (nm y) [.Attribute (nm z) "_make" q,u] [] p] [] pos):=by
 have#[g1,g2,g3]:=oa K h1;have#[J,k2,k3]:=oa K h2;have#[O,U,W]:=oa K h3;have#[fN,fM,Mk,Mn,Mm]:=K.mt;show qG K.g Mk K.ma Mm K.d3 B I g1 g2 g3 J k2 k3 O U (K.cM▸W)
def kW (h:e.isNone=true):e=.none:=by
 cases e<;>first|rfl|show Bool.noConfusion h
def M3 {l m:List α}{a:α}(h:l.drop n=a::m):l[n]?=some a:=by
 have:=cc (λl=>l[0]?) h;simpa using this
def M1 {l m:List α}{a:α}(h:l.drop n=a::m):l.drop (n+1)=m:=by
 have:=cc (λl=>l.drop 1) h;simpa using this
def fL:(W:Gens)->(l:List Comprehension)->∀g∈GA T W sc l,g.is_async=0
 |.elt _,_,_,h=>nomatch h
 |.eltK _,_,_,h=>nomatch h
 |.cons _ _ _ more,l,g,h=>(bw.mp h).elim (λe=>e▸rfl) (fL more l.tail g)
def ft {p:Prop}(h:false=true):p:=Bool.noConfusion h
def O4 (K:TabOk G T C d):(k:BX)->glob T sc (mh x) (NF k)=true->noStar [u]=true->fk G C sc d e u->fk G C sc d (.bx k e) (.Call (nm x) [u] [] pos)
 |.chr=>λh W U=>by have#[g1,g2,g3]:=oa K h;show K6 K.g U W g1 g2 g3
 |.bytes=>λh W U=>by have#[g1,g2,g3]:=oa K h;show CK K.g U W g1 g2 g3
 |.tupS=>λh W U=>by have#[g1,g2,g3]:=oa K h;show EW K.g U W g1 g2 g3
 |.lstS=>λh W U=>by have#[g1,g2,g3]:=oa K h;show FC K.g U W g1 g2 g3
 |.sortedS=>λh W U=>by have#[g1,g2,g3]:=oa K h;show uW K.g U W g1 g2 g3
def CG (K:TabOk G T C d)(h:glob T sc (mh x) (.type "list")=true)(J:glob T sc (mh y) (.type "range")=true)(U:noStar [u,v]=true)(O:fk G C sc d a u)(hb:fk G C sc d b v):fk G C sc d (.lrng a b) (.Call (nm x) [.Call (nm y) [u,v] [] p] [] pos):=by
 have#[g1,g2,g3]:=oa K h;have#[W,k2,k3]:=oa K J;show FD K.g O hb U g1 g2 g3 W k2 k3
def KD (K:TabOk G T C d):(k:BF)->Nat.beq 1 (IP k)=true->LG k=false->glob T sc (mh x) (BP k)=true->noStar [u]=true->fk G C sc d e u->fk G C sc d (.bf k %[e|0]) (.Call (nm x) [u] [] pos)
 |.len=>λ_ _ h W U=>by have#[g1,g2,g3]:=oa K h;show K0 K.g U W g1 g2 g3
 |.sorted=>λ_ _ h W U=>by have#[g1,g2,g3]:=oa K h;show xI K.g U W g1 g2 g3
 |.set=>λh=>ft h
def KC (K:TabOk G T C d){f:Ex}:(k:BF)->Nat.beq 2 (IP k)=true->glob T sc (mh x) (BP k)=true->noStar [u,v]=true->fk G C sc d e u->fk G C sc d f v->fk G C sc d (.bf k %[e,f|0]) (.Call (nm x) [u,v] [] pos)
 |.len=>λh=>ft h
 |.set=>λh=>ft h
 |.sorted=>λh=>ft h
def KG (K:TabOk G T C d):(k:BF)->Nat.beq 0 (IP k)=true->glob T sc (mh x) (BP k)=true->fk G C sc d (.bf k .nil) (.Call (nm x) [] [] pos)
 |.set=>λ_ h=>by have#[g1,g2,g3]:=oa K h;show F5 K.g g1 g2 g3
 |.len=>λh=>ft h
 |.sorted=>λh=>ft h
def bf3 (k:BF)(h:Nat.beq (n+3) (IP k)=true):False:=by
 cases k<;>first|show nomatch (show Nat.beq (n+2) 0=true from h)|show nomatch (show Nat.beq (n+3) 0=true from h)|show nomatch (show Nat.beq (n+1) 0=true from h)
mutual
theorem md (K:TabOk G T C d):(e:Ex)->(sc:Scope)->(x:Expr)->okE T e sc x=true->fk G C sc d e (reE T e sc x)
 |.none=>λsc x h=>F8
 |.bool b=>λsc x h=>FP
 |.int i=>λsc x h=>K3
 |.str t=>λsc x h=>AE
 |.l i=>λsc x h=>by have#[k,h1,W,U]:=gM h;show n6 h1 W U
 |.b op a b=>λsc x h=>AF (md K a sc _ (band h).1) (md K b sc _ (band h).2)
 |.neg a=>λsc x h=>JY (md K a sc _ h)
 |.not a=>λsc x h=>JX (md K a sc _ h)
 |.and a b=>λsc x h=>let W:=band (band h).2;RV (λ_ _=>snd_and) (md K a sc _ (band h).1) (md K b sc _ W.1) W.2
 |.or a b=>λsc x h=>let W:=band (band h).2;RV (λ_ _=>O0) (md K a sc _ (band h).1) (md K b sc _ W.1) W.2
 |.c op a b=>λsc x h=>let W:=band (band h).2;K5 (md K a sc _ (band h).1) (md K b sc _ W.1) ((jl _).mp W.2)
 |.I c a b=>λsc x h=>let W:=band (band h).2;let U:=band W.2;K1 (mO K c sc _ (band h).1 W.1) (md K a sc _ U.1) (md K b sc _ U.2)
 |.L es=>λsc x h=>JZ (j8 K es sc _ (band h).1 (band h).2)
 |.T es=>λsc x h=>AB (j8 K es sc _ (band h).1 (band h).2)
 |.dct0=>λsc x h=>FK
 |.call f es=>λsc x h=>let W:=band (band h).2;CJ K (band h).1 (j8 K es sc _ W.1 W.2) W.1
 |.meth e m es=>λsc x h=>let W:=band (band h).2;let U:=band W.2;let O:=band U.2;let J:=band O.2;let I:=band J.2
  CF K (band h).1 (md K e sc _ W.1) U.1 O.1 J.1 I.1 (j8 K es sc _ I.1 I.2)
 |.attr e i=>λsc x h=>let W:=band (band h).2;v7 K.g (md K e sc _ W.2) W.1 (u7 K (band h).1)
 |.g e=>λsc x h=>xK (md K e sc _ (band h).2) (band h).1
 |.h e=>λsc x h=>xJ (md K e sc _ (band h).2) (band h).1
 |.bm k e es=>λsc x h=>let W:=band (band h).2;let U:=band W.2;let O:=band U.2;let J:=band O.2;let I:=band J.2
  K9 K (band h).1 (GB es) (md K e sc _ W.1) U.1 O.1 J.1 I.1 (j8 K es sc _ I.1 I.2)
 |.bf k .nil=>λsc x h=>KG K k (band h).1 (band (band h).2).1
 |.bf k %[e|0]=>λsc x h=>let W:=band (band h).2;let O:=band W.2
  KD K k (band h).1 rfl W.1 O.1 (md K e sc _ (band O.2).1)
 |.bf k %[e,f|0]=>λsc x h=>let W:=band (band h).2;let O:=band W.2;let J:=band O.2
  KC K k (band h).1 W.1 O.1 (md K e sc _ J.1) (md K f sc _ (band J.2).1)
 |.bf k (.cons e (.cons f (.cons g r)))=>λsc x h=>(bf3 k (band h).1).elim
 |.w f es=>λsc x h=>let W:=band (band h).2;by have#[k,e1,e2,e3]:=gM (band h).1;show rF K.g (K.lam.more (oz _ _)) e1 e2 e3 (j8 K es sc _ W.1 W.2) W.1
 |.sub e i=>λsc x h=>let W:=band (band h).2;AD (md K e sc _ W.1) (md K i sc _ W.2) ((jl _).mp (band h).1)
 |.slc e lo hi=>λsc x h=>let W:=band (band h).2;JU (md K e sc _ (band h).1)
   (by
    cases e0:gO 0 (kid 1 x) with
    |none=>show .inl #[kW (by have:=W.1;rw[e0]at this;show this),rfl]
    |some y=>show .inr #[_,rfl,md K lo sc y (by have:=W.1;rw[e0]at this;show this)])
   (by
    cases e0:gO 1 (kid 1 x) with
    |none=>show .inl #[kW (by have:=W.2;rw[e0]at this;show this),rfl]
    |some y=>show .inr #[_,rfl,md K hi sc y (by have:=W.2;rw[e0]at this;show this)])
 |.K fv it t cs more=>λsc x h=>let W:=band (band h).2;let U:=band W.2;let O:=band U.2;let J:=band O.2;let I:=band J.2;let z:=band I.2;let B:=band z.2
  v5 (v8 K it sc _ _ (band h).1) (nM K t _ W.1) (v9 K cs _ _ U.1) (FY K more _ _ _ _ _ 0 tY rfl (λg hg=>(bw.mp hg).elim (λe=>e▸rfl) (fL more _ g)) O.1) (dA J.1) (br I.1) (br z.1) B.1 B.2 (fL more _)
 |.scomp fv it t cs more=>λsc x h=>by
  have W:=band (band h).2;have U:=band W.2;have O:=band U.2;have J:=band O.2;have I:=band J.2;have z:=band I.2;have B:=band z.2;have#[e,rfl,he]:=QJ K more _ _ O.1;show CC (v8 K it sc _ _ (band h).1) (nM K t _ W.1) (v9 K cs _ _ U.1) he (dA J.1) (br I.1) (br z.1) B.1 B.2
 |.join e=>λsc x h=>let W:=band (band h).2;FG (md K e sc _ W.2) W.1 (band h).1
 |.bx k e=>λsc x h=>let W:=band (band h).2;O4 K k (band h).1 W.1 (md K e sc _ W.2)
 |.lrng a b=>λsc x h=>let W:=band (band h).2;let U:=band W.2;let O:=band U.2;CG K (band h).1 W.1 U.1 (md K a sc _ O.1) (md K b sc _ O.2)
 |.n es=>λsc x h=>let W:=band (band h).2;let U:=band W.2;CE K (KR es (band h).1) W.1 U.1 (j8 K es sc _ U.1 U.2)
 |.N a b c=>λsc x h=>let W:=band (band h).2;let U:=band W.2;let O:=band U.2;qF K (band h).1 W.1 (md K a sc _ U.1) (md K b sc _ O.1) (md K c sc _ O.2)
 |.M e=>λsc x h=>let W:=band (band h).2;let U:=band W.2;let O:=band U.2;nN K (band h).1 W.1 U.1 O.1 (md K e sc _ O.2)
 |.dead=>λsc x h=>CI
theorem mO (K:TabOk G T C d):(e:Ex)->(sc:Scope)->(x:Expr)->tOk e=true->okE T e sc x=true->vm G C sc d e (reE T e sc x)
 |.not a=>λsc x t h=>FU (mO K a sc _ t h)
 |.and a b=>λsc x t h=>let W:=band (band h).2;RU (λ_ _=>FX) (mO K a sc _ (band t).1 (band h).1) (mO K b sc _ (band t).2 W.1) W.2
 |.or a b=>λsc x t h=>let W:=band (band h).2;RU (λ_ _=>KI) (mO K a sc _ (band t).1 (band h).1) (mO K b sc _ (band t).2 W.1) W.2
 |.c op a b=>λsc x t h=>let W:=band (band h).2;FW (md K a sc _ (band h).1) (md K b sc _ W.1) ((jl _).mp W.2)
 |.I c a b=>λsc x t h=>let W:=band (band h).2;let U:=band W.2;FV (mO K c sc _ (band h).1 W.1) (mO K a sc _ (band t).1 U.1) (mO K b sc _ (band t).2 U.2)
 |.l i=>λsc x t h=>by have#[k,O,W,U]:=gM h;show zc (n6 O W U) (λ_ _=>rfl) λρ σ Q q=>q
 |.attr e i=>λsc x t h=>let W:=band (band h).2;zc (v7 K.g (md K e sc _ W.2) W.1 (u7 K (band h).1)) (λ_ _=>rfl) λρ σ Q q=>q
 |.w f es=>λsc x t h=>let W:=band (band h).2;by have#[k,B,I,J]:=gM (band h).1;show zc (rF K.g (K.lam.more (oz _ _)) B I J (j8 K es sc _ W.1 W.2) W.1) (λ_ _=>rfl) λρ σ Q q=>q
 |.sub e i=>λsc x t h=>let W:=band (band h).2;zc (AD (md K e sc _ W.1) (md K i sc _ W.2) ((jl _).mp (band h).1)) (λ_ _=>rfl) λρ σ Q q=>q
 |.b op a b=>λsc x t h=>zc (AF (md K a sc _ (band h).1) (md K b sc _ (band h).2)) (λ_ _=>rfl) λρ σ Q q=>q
 |.dead=>λsc x t h=>CH
 |.none=>λ_ _ t _=>ft t
 |.bool _=>λ_ _ t _=>ft t
 |.int _=>λ_ _ t _=>ft t
 |.str _=>λ_ _ t _=>ft t
 |.neg _=>λ_ _ t _=>ft t
 |.L _=>λ_ _ t _=>ft t
 |.T _=>λ_ _ t _=>ft t
 |.dct0=>λ_ _ t _=>ft t
 |.call _ _=>λ_ _ t _=>ft t
 |.meth _ _ _=>λ_ _ t _=>ft t
 |.g _=>λ_ _ t _=>ft t
 |.h _=>λ_ _ t _=>ft t
 |.bm _ _ _=>λ_ _ t _=>ft t
 |.bf _ _=>λ_ _ t _=>ft t
 |.slc _ _ _=>λ_ _ t _=>ft t
 |.K _ _ _ _ _=>λ_ _ t _=>ft t
 |.scomp _ _ _ _ _=>λ_ _ t _=>ft t
 |.join _=>λ_ _ t _=>ft t
 |.bx _ _=>λ_ _ t _=>ft t
 |.lrng _ _=>λ_ _ t _=>ft t
 |.n _=>λ_ _ t _=>ft t
 |.N _ _ _=>λ_ _ t _=>ft t
 |.M _=>λ_ _ t _=>ft t
theorem j8 (K:TabOk G T C d):(es:Exs)->(sc:Scope)->(l:List Expr)->noStar (vp T es sc l)=true->qL T es sc l=true->rf G C sc d es (vp T es sc l)
 |.nil=>λsc l W h=>ll
 |.cons e es=>λsc l W h=>ir (md K e sc _ (band h).1) (j8 K es sc _ (fm W).2 (band h).2) (fm W).1
theorem v9 (K:TabOk G T C d):(es:Exs)->(sc:Scope)->(l:List Expr)->GN T es sc l=true->rg G C sc d es (vp T es sc l)
 |.nil=>λsc l h=>DN
 |.cons e es=>λsc l h=>let W:=band (band h).2;zC (mO K e sc _ (band h).1 W.1) (v9 K es sc _ W.2)
theorem v8 (K:TabOk G T C d):(it:It)->(sc:Scope)->(U:Bool)->(x:Expr)->GL T it sc U x=true->eU G C sc d U it (nY T it sc x)
 |.rng1 e,sc,U,x,h=>let W:=band (band h).2;by have#[g1,g2,g3]:=oa K (band h).1;show LD K.g (md K e sc _ W.2) W.1 g1 g2 g3
 |.rng2 e f,sc,U,x,h=>let W:=band (band h).2;let O:=band W.2;by have#[g1,g2,g3]:=oa K (band h).1;show LC K.g (md K e sc _ O.1) (md K f sc _ O.2) W.1 g1 g2 g3
 |.enum e,sc,true,x,h=>let W:=band h;let O:=band W.2;by have#[g1,g2,g3]:=oa K W.1;show LF K.g (md K e sc _ O.2) O.1 g1 g2 g3
 |.enum e,sc,false,x,h=>nomatch h
 |.seq e,sc,U,x,h=>PB (md K e sc _ h)
theorem QJ (K:TabOk G T C d):(W:Gens)->(sc:Scope)->(x:Expr)->QR T W sc x=true->∃e,W=.eltK e/\fk G C sc d e (rK T W sc x)
 |.eltK e=>λsc x h=>#[e,rfl,md K e sc x h]
 |.elt _=>λ_ _ h=>ft h
 |.cons _ _ _ _=>λ_ _ h=>ft h
theorem FY (K:TabOk G T C d):(W:Gens)->(sc:Scope)->(x:Expr)->(l:List Comprehension)->(gens:List Comprehension)->(ce:Expr)->(depth:Nat)->mI ce gens (yV (rK T W sc x))->gens.drop (depth+1)=GA T W sc l->(∀g∈gens,g.is_async=0)->OH T W sc l x=true->sv G (DW G) C sc d W ce gens (yV (rK T W sc x)) depth
 |.elt e=>λsc x l gens ce depth O hd U h=>DV (md K e sc _ h) (xd.mpr (List.drop_eq_nil_iff.mp hd))
 |.eltK e=>λsc x l gens ce depth O hd U h=>ft h
 |.cons it t cs more=>λsc x l gens ce depth O hd U h =>
  let B:=band (band h).2;let I:=band B.2;let J:=band I.2
  zU O (v8 K it sc _ _ (band h).1) (nM K t _ B.1) (v9 K cs _ _ I.1) (FY K more sc x _ gens ce (depth+1) O (M1 hd) U J.1) (M3 hd) (λg' z=>U g' (dt z)) (dA J.2)
end
end
section
variable {e:Ex}
variable {G:Stc}{T:Tab}{C:Cal}{d:Nat}{sc:Scope}
def O7 (K:TabOk G T C d):(t:Tgt)->(x:Expr)->N2 T sc t x=true->lD G C sc d t (AM T sc t x)
 |.v i,x,h=>by have#[k,U,W,O]:=K.own h;show A7 U W
 |.attr o i,x,h=>EM K.g (md K o sc _ (band h).1) (u7 K (band h).2)
 |.sub o i,x,h=>JG (md K o sc _ (band h).1) (md K i sc _ (band h).2)
 |.T is,x,h=>JF K.unp (by rw[K.cap];show h)
def HW (t:Tgt)(x:Expr)(xs:List Expr)(env:Env):assignEach (AM T sc t x::xs) env=(false,assign (AM T sc t x) env)::assignEach xs env:=by
 cases t<;>rfl
def AH (K:TabOk G T C d):(ts:List Tgt)->(l:List Expr)->o9 T sc ts l=true->gT G C sc d ts (cT T sc ts l)
 | [],_,_=>.nil
 |t::ts,l,h=>.cons (O7 K t _ (band h).1) (HW t _ _) (AH K ts _ (band h).2)
def EL:(ts:List Tgt)->(l:List Expr)->yM ts=true->o9 T sc ts l=true->∃i x p,ts=[.v i]/\cT T sc ts l=[.Name x p]/\x=zf sc i/\ownAt T.cap sc i=true
 | []=>λl q h=>ft q
 |t::r=>λl q h=>by
  cases t<;>cases r<;>first|refine⟨_,_,_,rfl,rfl,rfl,(band h).1⟩|show ft q
def SW:(ts:List Tgt)->(is:List Nat)->HF ts=some is->ts=[.T is]
 | []=>λis h=>jx h
 |t::r=>λis h=>by
  cases t<;>cases r<;>first|show jx h|(have rfl:=af h;rfl)
def QF (K:TabOk G T C d)(t:Tg)(x:Expr)(h:CY T sc t x=true):BQ G C sc d t (mQ sc t x):=vt.plain (C:=C) (nM K t x h)
def S5 {op:Bop}(h:R5 op=true):op=.add\/op=.sub:=by
 cases op<;>first|show .inl rfl|show .inr rfl|show Bool.noConfusion h
def M9 (h:yN e=true):∃fv it t cs more,e=.K fv it t cs more:=by
 cases e<;>first|refine⟨_,_,_,_,_,rfl⟩|show Bool.noConfusion h
def KJ (K:TabOk G T C d){ts:List Tgt}{pos:Pos}{l:List Expr}{y:Expr}(hc:yN e=true)(hv:yM ts=true)(ht:o9 T sc ts l=true)(h:okE T e sc y=true):cY G C sc d (.a ts e) (.Assign (cT T sc ts l) (reE T e sc y) pos):=by
  have#[fv,it,t,cs,more,rfl]:=M9 hc;have#[i,x',p',rfl,e2,rfl,hk]:=EL ts l hv ht;have#[kd,o1,o2,o3]:=K.own hk;rw[e2];have z:=band (band h).2;have B:=band z.2;have I:=band B.2;have J:=band I.2;have O:=band J.2;have U:=band O.2;have W:=band U.2;show nR o1 o2 (v8 K it sc _ _ (band h).1) (nM K t _ z.1) (v9 K cs _ _ B.1) (FY K more _ _ _ _ _ 0 tY rfl (λg hg=>(bw.mp hg).elim (λe=>e▸rfl) (fL more _ g)) I.1) (dA J.1) (br O.1) (br U.1) W.1 W.2 (fL more _)
def CP (K:TabOk G T C d){ts:List Tgt}{pos:Pos}{l:List Expr}{y:Expr}(h:okE T e sc y=true):(o:Option (Option (List Str)))->swp sc (cT T sc ts l) (reE T e sc y)=o->N3 T sc ts e (cT T sc ts l) l (reE T e sc y) o=true->cY G C sc d (.a ts e) (.Assign (cT T sc ts l) (reE T e sc y) pos)
 |none,_,U=>nomatch U
 |some none,O,U=>(Classical.em (dY (reE T e sc y)=true)).elim (λhc=>xO (AH K ts l (band U).1) (md K e sc y h) hc O) λhc =>
  ((eM ..).mp (band U).2).elim (λW=>absurd W hc) λW=>KJ K (band W).2 (band W).1 (band U).1 h
 |some (some names),O,U=>by
  have#[is,J,W]:=any_some U;have rfl:=SW ts is J;show snd_swap K.unp (md K e sc y h) (band W).1 O (by rw[K.cap];show(band (band W).2).1) (br (band (band W).2).2)
mutual
theorem SY (K:TabOk G T C d):(s:Stm)->(x:Stmt)->okS T sc s x=true->cY G C sc d s (reS T sc s x)
 |.a ts e=>λx h=>CP K (band h).1 _ rfl (band h).2
 |.aug i op e=>λx h=>by
  have#[k,I,J,O]:=K.own (band (band h).2).1;show KH (S5 (band h).1) (md K e sc _ (band (band h).2).2) I J O
 |.expr e=>λx h=>FH (md K e sc _ (band h).2) (band h).1
 |.C c t e=>λx h=>let W:=band (band h).2;let U:=band W.2;FN (mO K c sc _ (band h).1 W.1) (rG K t _ U.1) (rG K e _ U.2)
 |.loop c b=>λx h=>let W:=band (band h).2;FE (mO K c sc _ (band h).1 W.1) (rG K b _ W.2)
 |.each t it b=>λx h=>let W:=band (band h).2;let U:=band W.2;FI (QF K t _ (band h).1) (v8 K it sc _ _ W.1) (rG K b _ U.1) (dA U.2)
 |.ret e=>λx h=>by
  show cY G C sc d _ (.Return ((f9 x).head?.map (reE T e sc)) x.pos);have h:(match (f9 x).head? with|some y=>okE T e sc y|none=>e.isNone)=true:=h;cases q:(f9 x).head? with
  |some y=>rw[q]at h;show JV (md K e sc y h)
  |none=>rw[q]at h;have rfl:=kW h;show F6
 |.brk=>λx h=>K7
 |.cont=>λx h=>FL
 |.pass=>λx h=>by
  show cY G C sc d _ (bif (f9 x).isEmpty then _ else _);cases (f9 x).isEmpty
  ·show sT
  ·show F7
 |.dead=>λx h=>FJ
theorem rG (K:TabOk G T C d):(b:pq)->(l:List Stmt)->qK T sc b l=true->hU G C sc d b (sW T sc b l)
 |.nil=>λl h=>CN
 |.cons s ss=>λl h=>xP (SY K s _ (band h).1) (rG K ss _ (band h).2)
end
end
structure uI (G:Stc)(T:Tab):Prop where
 g:GOk G
 gl:∀x v,T.gl.lookup x=some v->G.gl x=some v
 attrs:G.attrs=T.attrs
 cap:G.cap=T.cap
 meth:∀k name,T.meths.lookup k=some name->∃f,T.fns.lookup k=some f/\MethAt G name f
 init:∃f,T.fns.lookup 0=some f/\qA G f
 cM:G.cM=T.cM
 cS:G.cS=T.cS
 mt:∃fN fM,rq G fN fM/\sG G fN/\pS G fM
 ma:vd G
structure zX (G:Stc)(T:Tab)(P:Nat->Option Fn):Prop where
 base:uI G T
 lam:∀k cs a,G.clo k cs a->∃n sc e b,P (1000+k)=some #[n+cs.length,[],.cons (.ret b) .nil]/\NJ G a n cs sc e/\okE T b sc e=true/\reE T b sc e=e
 fn:∀k a,T.fns.lookup k=some a->∃fn sc body,P k=some fn/\FnAt G a fn.n fn.dflt sc body/\qK T sc fn.body body=true/\sW T sc fn.body body=body
section
variable {G:Stc}{T:Tab}{P:Nat->Option Fn}
def uI.tab (B:uI G T){C:Cal}{d:Nat}(hc:fZ G (λk=>T.fns.lookup k) C (d-1))(hl:pT G C (d-1))(hd:3<=d):TabOk G T C d:=
 #[B.g,B.gl,B.attrs,B.cap,hc,hl,B.meth,B.init,B.cM,B.cS,B.mt,B.ma,SU B.ma,hd]
def BL (K:zX G T P):∀n,fZ G (λk=>T.fns.lookup k) (jm P n) (2*n+2)/\pT G (jm P n) (2*n+2)
 |0=>⟨λk a hk=>by
  have#[fn,sc,body,hp,W,hc]:=K.fn k a hk;have#[o,fd,I,J,_]:=W.here;apply#[#[o,fd,I,J],λao R vr h=>h.elim],λk cs a hk=>by
  have#[m,sc,e,b,hp,W,hc]:=K.lam k cs a hk;have#[o,fd,I,J,_]:=W.here;apply#[#[o,fd,I,J],λao R vr h=>h.elim]⟩
 |n+1=>by
  have#[ax,ag]:=BL K n;have tb:TabOk G T (jm P n) (2*n+3):=K.base.tab ax ag (qg (.k (.n 3) (.a .aN (.n 3))) .i);apply#[λk a hk=>?_,λk cs a hk=>?_]
  ·have#[fn,sc,body,hp,W,hc]:=K.fn k a hk;have#[o,fd,I,J,_]:=W.here;apply#[#[o,fd,I,J],@λA E vs ws σ Q s ao R vr h=>?_];have#[ay,U,z,B,h]:=h;have rfl:=af (hp.symm.trans U);show MF (b:=fn.body) (d:=2*n+3) W (hc.2▸rG tb fn.body body hc.1) ao R vr z B h
  ·have#[m,sc,e,b,hp,W,aj,ai]:=K.lam k cs a hk;have#[o,fd,I,J,_]:=W.here;apply#[#[o,fd,I,J],@λA E vs ws σ Q s ao R vr h=>?_];have#[ay,U,z,B,h]:=h;have rfl:=af (hp.symm.trans U);have ar:frameOf #[m+cs.length,[],.cons (.ret b) .nil] (vs++cs)=λi=>(vs++cs)[i]?:=by
    funext i
    unfold frameOf iO;dsimp only;rw[List.drop_nil,dk]
   rw[ar]at h;have hl:vs.length=m:=by
    rw[bq]at z B;dsimp only[List.length_nil]at z B
    (show fb .D .f (.k .V .Q) (.k .Q (.a .V .O)) z B)
   show IF (d:=2*n+3) W (ai▸md tb b sc e aj) ao R vr hl h
def PS (K:zX G T P)(n:Nat):fZ G (λk=>T.fns.lookup k) (jm P n) (2*n+2):=(BL K n).1
end
end MP
end
section
set_option backward.match.sparseCases false
namespace MP
open PySem PyProof.Rows PySem.W
variable {G:Stc}{h h₀:Heap}{d:Data}{a:Addr}{T:Tab}{fn:Fn}
abbrev NQ:Value->Tok
 |.int _ t=>t
 |.str _ t=>t
 |_=>0
abbrev A6:Value->Addr
 |.ref a=>a
 |_=>0
abbrev zB:V->Value->Bool
 |.none=>λw=>decide (w=.none)
 |.bool a=>λw=>decide (w=.bool a)
 |.int a=>λw=>decide (w=.int a (NQ w))
 |.str a=>λw=>decide (w=.str a (NQ w))
 |_=>λ_=>false
abbrev nD:List V->List Value->Bool
 | []=>λws=>ws.isEmpty
 |v::vs=>λws=>!ws.isEmpty&&(zB v (ws.headD .none)&&nD vs ws.tail)
def DM {v:V}{w:Value}(e:zB v w=true):VR G h v w:=by
 cases v<;>first|show br e▸.none|show br e▸.bool _|show br e▸.int _ _|show br e▸.str _ _|show Bool.noConfusion e
def pH:(vs:List V)->(ws:List Value)->nD vs ws=true->VRs G h vs ws
 | []=>λws e=>by
  cases ws with
  |nil=>show .nil
  |cons w ws=>show Bool.noConfusion (show false=true from e)
 |v::vs=>λws e=>by
  cases ws with
  |nil=>show Bool.noConfusion (show false=true from e)
  |cons w ws =>
   have e:=band (show(zB v w&&nD vs ws)=true from e);show .cons (DM e.1) (pH vs ws e.2)
abbrev tU:Data->Option FuncData
 |.func f=>some f
 |_=>none
abbrev pF:Data->Option (Array Value)
 |.fields vs=>some vs
 |_=>none
abbrev BI:Data->Option (Array Value×Nat)
 |.seq vs n=>some (vs,n)
 |_=>none
def s7 {f:FuncData}(h:tU d=some f):d=.func f:=by
 cases d<;>first|show cc _ (af h)|show jx h
def qQ {f:Array Value}(h:pF d=some f):d=.fields f:=by
 cases d<;>first|show cc _ (af h)|show jx h
def zA {f:Array Value×Nat}(h:BI d=some f):d=.seq f.1 f.2:=by
 cases d<;>first|show af h▸rfl|show jx h
abbrev IJ:FuncBody->Option (List Stmt)
 |.stmts b=>some b
 |.expr _=>none
def II {d:FuncBody}{f:List Stmt}(h:IJ d=some f):d=.stmts f:=by
 cases d
 ·show cc _ (af h)
 ·show jx h
abbrev told {α:Type}(f:Data->Option α)(h:Heap)(a:Addr):Option α:=(h.get? a).bind λo=>f o.data
def sN {α:Type}{f:Data->Option α}{x:α}(e:told f h a=some x):∃o,h.get? a=some o/\f o.data=some x:=fx.mp e
abbrev BK (h:Heap)(cd:Value)(q:Str):Bool:=decide (cd=.ref (A6 cd))&&(told pF h (A6 cd)).any λvs=>(vs[1]?:Option Value).any λw=>decide (w=.str q (NQ w))
abbrev M6 (h:Heap)(dflt:List V)(v:Value):Bool:=(decide (v=.none)&&dflt.isEmpty)||(decide (v=.ref (A6 v))&&(told BI h (A6 v)).any λds=>nD dflt ds.1.toList)
abbrev RC (T:Tab)(h:Heap)(fn:Fn)(fd:FuncData)(body:List Stmt):Bool:=
 decide (fd.scope.kind=.function)&&(!fd.scope.isCoroutine&&(!fd.scope.isGenerator&&(decide ((fd.scope.names.map (·.1)).Nodup)&&(fd.scope.names.all (λp=>p.2 != .free)&&(fd.closure.isEmpty&&(decide (fd.globals=mainGlobals)&&(decide (fd.builtins=builtinsNs) &&
 (BK h fd.code fd.qualname&&(d7 fd.params&&(ur (fd.params.args.map (·.arg)) fd.scope.names&&(decide (fd.params.args.length=fn.n)&&(M6 h fn.dflt fd.defaults&&(decide (fn.dflt.length<=fn.n)&&qK T fd.scope fn.body body)))))))))))))
abbrev PI (fd:FuncData):Option (Scope×List Stmt):=(IJ fd.body).map λb=>(fd.scope,b)
abbrev bodyOf (h:Heap)(a:Addr):Option (Scope×List Stmt):=(told tU h a).bind PI
abbrev rS (T:Tab)(h:Heap)(fn:Fn)(a:Addr):Bool:=(told tU h a).any λfd=>(IJ fd.body).any λb=>RC T h fn fd b
def zE {cd:Value}{q:Str}(e:BK h cd q=true):h.CodeRec cd q:=by
 have#[vs,U,I]:=any_some (band e).2;have#[o,O,hd]:=sN U;have#[w,W,J]:=any_some I;apply#[_,o,vs,_,br (band e).1,O,qQ hd,W.trans (cc some (br J))]
def t7 {l:List (Str×NameKind)}(h:l.all (λp=>p.2 != .free)=true)(i:Nat)(x:Str):l[i]?≠some (x,.free):=λe =>
 absurd (lp.mp h _ (dt e)) (by simp)
def NB (hk:∀b o,h₀.get? b=some o->G.hb.get? b=some o)(B:G.hb.NoLimit)(e:rS T h₀ fn a=true):∃x,bodyOf h₀ a=some x/\FnAt G a fn.n fn.dflt x.1 x.2/\qK T x.1 fn.body x.2=true:=by
 have#[fd,h1,e]:=any_some e;have#[b,h2,e]:=any_some e;have#[o,ho,hd]:=sN h1;have g1:=band e;have g2:=band g1.2;have g3:=band g2.2;have g4:=band g3.2;have g5:=band g4.2;have g6:=band g5.2;have g7:=band g6.2;have g8:=band g7.2;have g9:=band g8.2;have I:=band g9.2;have J:=band I.2;have O:=band J.2;have U:=band O.2;have W:=band U.2;apply#[(fd.scope,b),(fx.mpr #[fd,h1,cc (Option.map λb=>(fd.scope,b)) h2]),#[B,br g1.1,(jl _).mp g2.1,(jl _).mp g3.1,br g4.1,t7 g5.1,o,fd,hk _ _ ho,s7 hd,rfl,II h2,kA.mp g6.1,br g7.1,br g8.1,(zE g9.1).keeps hk,I.1,J.1,br O.1,?_,br W.1],W.2];apply((eM ..).mp U.1).imp (λq=>#[br (band q).1,kA.mp (band q).2]) λq=>?_;have#[ds,h3,q2]:=any_some (band q).2;have#[ot,z,ag]:=sN h3;apply#[_,ot,ds.1.toList,ds.2,br (band q).1,hk _ _ z,zA ag,pH _ _ q2]
abbrev OC (T:Tab)(fn:Fn)(x:Scope×List Stmt):Scope×List Stmt:=(x.1,sW T x.1 fn.body x.2)
def RA (hk:∀b o,h₀.get? b=some o->G.hb.get? b=some o)(W:G.hb.NoLimit)(e:rS T h₀ fn a=true)(U:bodyOf h₀ a=(bodyOf h₀ a).map (OC T fn)) :
  ∃sc body,FnAt G a fn.n fn.dflt sc body/\qK T sc fn.body body=true/\sW T sc fn.body body=body:=by
 have#[x,O,I,J]:=NB hk W e;rw[O]at U;apply#[x.1,x.2,I,J,(cc Prod.snd (af U)).symm]
def B9 (hk:∀b o,h₀.get? b=some o->G.hb.get? b=some o)(W:G.hb.NoLimit)(e:rS T h₀ fn a=true){f:Scope×List Stmt->Scope×List Stmt}(O:bodyOf h₀ a=(bodyOf h₀ a).map f):∃x,bodyOf h₀ a=some x/\FnAt G a fn.n fn.dflt (f x).1 (f x).2:=by
 have#[x,U,J,_]:=NB hk W e;rw[U]at O;apply#[x,U,af O▸J]
end MP
end
section
namespace MP
namespace SM
abbrev fn0:Fn:=⟨5,[.none,.str "",.str "",.bool true],(.cons .pass
 (.cons (.a [(.attr (.l 0) 0)] (.l 1))
 (.cons (.a [(.attr (.l 0) 1),(.attr (.l 0) 2)] .none)
 (.cons (.a [(.attr (.l 0) 3)] (.l 4))
 (.cons (.expr (.meth (.l 0) 1 %[.l 2,.l 3|0]))
 .nil)))))⟩
abbrev fn1:Fn:=⟨3,[],(.cons .pass
 (.cons (.expr (.meth (.l 0) 2 %[.l 1|0]))
 (.cons (.expr (.meth (.l 0) 3 %[.l 2|0]))
 .nil)))⟩
abbrev fn2:Fn:=⟨2,[],(.cons .pass
 (.cons (.C (.c .is (.l 1) (.attr (.l 0) 1)) (.cons (.ret .none)
 .nil) .nil)
 (.cons (.a [(.attr (.l 0) 1)] (.l 1))
 (.cons (.a [(.attr (.l 0) 4),(.attr (.l 0) 5)] .none)
 .nil))))⟩
abbrev fn3:Fn:=⟨2,[],(.cons .pass
 (.cons (.C (.c .is (.l 1) (.attr (.l 0) 2)) (.cons (.ret .none)
 .nil) .nil)
 (.cons (.a [(.attr (.l 0) 2)] (.l 1))
 (.cons (.a [(.attr (.l 0) 4),(.attr (.l 0) 5)] .none)
 (.cons (.a [(.attr (.l 0) 6)] .none)
 (.cons (.expr (.meth (.l 0) 4 .nil))
 .nil))))))⟩
abbrev fn4:Fn:=⟨1,[],(.cons (.a [(.v 1)] (.attr (.l 0) 2))
 (.cons (.a [(.attr (.l 0) 7),(.v 2)] .dct0)
 (.cons (.each (.T [3,4]) (.enum (.l 1)) (.cons (.a [(.v 5)] (.bm .setdefault (.l 2) %[.l 4,.L .nil|0]))
 (.cons (.expr (.bm .append (.l 5) %[.l 3|0]))
 .nil)))
 (.cons (.a [(.attr (.l 0) 8),(.v 6)] (.bf .set .nil))
 (.cons (.a [(.v 7)] (.attr (.l 0) 0))
 (.cons (.C (.l 7) (.cons .dead
 (.cons (.each (.v 4) (.seq (.l 6)) (.cons .dead
 .nil))
 .nil)) .nil)
 (.cons (.a [(.attr (.l 0) 9),(.v 8)] (.bf .set .nil))
 (.cons (.a [(.v 9)] (.bf .len %[.l 1|0]))
 (.cons (.C (.and (.attr (.l 0) 3) (.c .ge (.l 9) (.int 200))) (.cons (.a [(.v 10)] (.b .add (.b .fdiv (.l 9) (.int 100)) (.int 1)))
 (.cons .dead
 (.cons (.each (.v 4) (.seq (.l 8)) (.cons .dead
 .nil))
 .nil))) .nil)
 .nil)))))))))⟩
abbrev fn5:Fn:=⟨5,[.int 0,.none,.int 0,.none],(.cons .pass
 (.cons (.a [(.T [5,6,7,8])] (.T %[.attr (.l 0) 1,.attr (.l 0) 2,.attr (.l 0) 7,.h (.attr (.l 0) 8)|0]))
 (.cons (.C (.c .is (.l 2) .none) (.cons (.a [(.v 2)] (.bf .len %[.l 5|0]))
 .nil) .nil)
 (.cons (.C (.c .is (.l 4) .none) (.cons (.a [(.v 4)] (.bf .len %[.l 6|0]))
 .nil) .nil)
 (.cons (.a [.T [9,10,11]] (.T %[.l 1,.l 3,.int 0|0]))
 (.cons (.a [(.v 12)] .dct0)
 (.cons (.a [(.v 13)] (.L .nil))
 (.cons (.each (.v 14) (.rng2 (.l 1) (.l 2)) (.cons (.a [(.v 15)] (.g (.l 12)))
 (.cons (.a [(.v 16)] .dct0)
 (.cons (.each (.v 17) (.seq (.bm .get (.l 7) %[.sub (.l 5) (.l 14),.l 13|0])) (.cons (.C (.c .lt (.l 17) (.l 3)) (.cons .cont
 .nil) .nil)
 (.cons (.C (.c .ge (.l 17) (.l 4)) (.cons .brk
 .nil) .nil)
 (.cons (.a [(.v 18),(.sub (.l 16) (.l 17))] (.b .add (.w 15 %[.b .sub (.l 17) (.int 1),.int 0|0]) (.int 1)))
 (.cons (.C (.c .gt (.l 18) (.l 11)) (.cons (.a [.T [9,10,11]] (.T %[.b .add (.b .sub (.l 14) (.l 18)) (.int 1),.b .add (.b .sub (.l 17) (.l 18)) (.int 1),.l 18|0]))
 .nil) .nil)
 .nil)))))
 (.cons (.a [(.v 12)] (.l 16))
 .nil)))))
 (.cons (.loop (.and (.c .gt (.l 9) (.l 1)) (.and (.c .gt (.l 10) (.l 3)) (.and (.not (.w 8 %[.sub (.l 6) (.b .sub (.l 10) (.int 1))|0])) (.c .eq (.sub (.l 5) (.b .sub (.l 9) (.int 1))) (.sub (.l 6) (.b .sub (.l 10) (.int 1))))))) (.cons (.a [.T [9,10,11]] (.T %[.b .sub (.l 9) (.int 1),.b .sub (.l 10) (.int 1),.b .add (.l 11) (.int 1)|0]))
 .nil))
 (.cons (.loop (.and (.c .lt (.b .add (.l 9) (.l 11)) (.l 2)) (.and (.c .lt (.b .add (.l 10) (.l 11)) (.l 4)) (.and (.not (.w 8 %[.sub (.l 6) (.b .add (.l 10) (.l 11))|0])) (.c .eq (.sub (.l 5) (.b .add (.l 9) (.l 11))) (.sub (.l 6) (.b .add (.l 10) (.l 11))))))) (.cons (.aug 11 .add (.int 1))
 .nil))
 (.cons (.loop (.and (.c .gt (.l 9) (.l 1)) (.and (.c .gt (.l 10) (.l 3)) (.and (.w 8 %[.sub (.l 6) (.b .sub (.l 10) (.int 1))|0]) (.c .eq (.sub (.l 5) (.b .sub (.l 9) (.int 1))) (.sub (.l 6) (.b .sub (.l 10) (.int 1))))))) (.cons (.a [.T [9,10,11]] (.T %[.b .sub (.l 9) (.int 1),.b .sub (.l 10) (.int 1),.b .add (.l 11) (.int 1)|0]))
 .nil))
 (.cons (.loop (.and (.c .lt (.b .add (.l 9) (.l 11)) (.l 2)) (.and (.c .lt (.b .add (.l 10) (.l 11)) (.l 4)) (.and (.w 8 %[.sub (.l 6) (.b .add (.l 10) (.l 11))|0]) (.c .eq (.sub (.l 5) (.b .add (.l 9) (.l 11))) (.sub (.l 6) (.b .add (.l 10) (.l 11))))))) (.cons (.a [(.v 11)] (.b .add (.l 11) (.int 1)))
 .nil))
 (.cons (.ret (.N (.l 9) (.l 10) (.l 11)))
 .nil)))))))))))))⟩
abbrev fn6:Fn:=⟨1,[],(.cons .pass
 (.cons (.C (.c .isNot (.attr (.l 0) 4) .none) (.cons (.ret (.attr (.l 0) 4))
 .nil) .nil)
 (.cons (.a [.T [1,2]] (.T %[.bf .len %[.attr (.l 0) 1|0],.bf .len %[.attr (.l 0) 2|0]|0]))
 (.cons (.a [(.v 3)] (.L %[.T %[.int 0,.l 1,.int 0,.l 2|0]|0]))
 (.cons (.a [(.v 4)] (.L .nil))
 (.cons (.loop (.l 3) (.cons (.a [(.T [5,6,7,8])] (.bm .pop (.l 3) .nil))
 (.cons (.a [(.T [9,10,11]),(.v 12)] (.meth (.l 0) 5 %[.l 5,.l 6,.l 7,.l 8|0]))
 (.cons (.C (.l 11) (.cons (.expr (.bm .append (.l 4) %[.l 12|0]))
 (.cons (.C (.and (.c .lt (.l 5) (.l 9)) (.c .lt (.l 7) (.l 10))) (.cons (.expr (.bm .append (.l 3) %[.T %[.l 5,.l 9,.l 7,.l 10|0]|0]))
 .nil) .nil)
 (.cons (.C (.and (.c .lt (.b .add (.l 9) (.l 11)) (.l 6)) (.c .lt (.b .add (.l 10) (.l 11)) (.l 8))) (.cons (.expr (.bm .append (.l 3) %[.T %[.b .add (.l 9) (.l 11),.l 6,.b .add (.l 10) (.l 11),.l 8|0]|0]))
 .nil) .nil)
 .nil))) .nil)
 .nil))))
 (.cons (.expr (.bm .sort (.l 4) .nil))
 (.cons (.a [(.v 13),(.v 14),(.v 15)] (.int 0))
 (.cons (.a [(.v 16)] (.L .nil))
 (.cons (.each (.T [17,18,19]) (.seq (.l 4)) (.cons (.C (.and (.c .eq (.b .add (.l 13) (.l 15)) (.l 17)) (.c .eq (.b .add (.l 14) (.l 15)) (.l 18))) (.cons (.aug 15 .add (.l 19))
 .nil) (.cons (.C (.l 15) (.cons (.expr (.bm .append (.l 16) %[.T %[.l 13,.l 14,.l 15|0]|0]))
 .nil) .nil)
 (.cons (.a [.T [13,14,15]] (.T %[.l 17,.l 18,.l 19|0]))
 .nil)))
 .nil))
 (.cons (.C (.l 15) (.cons (.expr (.bm .append (.l 16) %[.T %[.l 13,.l 14,.l 15|0]|0]))
 .nil) .nil)
 (.cons (.expr (.bm .append (.l 16) %[.T %[.l 1,.l 2,.int 0|0]|0]))
 (.cons (.a [(.attr (.l 0) 4)] (.M (.l 16)))
 (.cons (.ret (.attr (.l 0) 4))
 .nil))))))))))))))⟩
end SM
namespace SM
abbrev fn7:Fn:=⟨1,[],(.cons .pass
 (.cons (.C (.c .isNot (.attr (.l 0) 5) .none) (.cons (.ret (.attr (.l 0) 5))
 .nil) .nil)
 (.cons (.a [(.v 1),(.v 2)] (.int 0))
 (.cons (.a [(.attr (.l 0) 5),(.v 3)] (.L .nil))
 (.cons (.each (.T [4,5,6]) (.seq (.meth (.l 0) 6 .nil)) (.cons (.a [(.v 7)] (.str ""))
 (.cons (.C (.and (.c .lt (.l 1) (.l 4)) (.c .lt (.l 2) (.l 5))) (.cons (.a [(.v 7)] (.str "replace"))
 .nil) (.cons (.C (.c .lt (.l 1) (.l 4)) (.cons (.a [(.v 7)] (.str "delete"))
 .nil) (.cons (.C (.c .lt (.l 2) (.l 5)) (.cons (.a [(.v 7)] (.str "insert"))
 .nil) .nil)
 .nil))
 .nil))
 (.cons (.C (.l 7) (.cons (.expr (.bm .append (.l 3) %[.T %[.l 7,.l 1,.l 4,.l 2,.l 5|0]|0]))
 .nil) .nil)
 (.cons (.a [.T [1,2]] (.T %[.b .add (.l 4) (.l 6),.b .add (.l 5) (.l 6)|0]))
 (.cons (.C (.l 6) (.cons (.expr (.bm .append (.l 3) %[.T %[.str "equal",.l 4,.l 1,.l 5,.l 2|0]|0]))
 .nil) .nil)
 .nil))))))
 (.cons (.ret (.l 3))
 .nil))))))⟩
end SM
namespace R12
open SM
abbrev TG:Fn:=⟨2,[],(.cons (.a [(.v 2)] (.L .nil))
 (.cons (.each (.v 3) (.rng1 (.bf .len %[.l 0|0])) (.cons (.each (.v 4) (.rng1 (.bf .len %[.l 1|0])) (.cons (.a [(.v 5)] (.int 0))
 (.cons (.loop (.and (.c .lt (.b .add (.l 3) (.l 5)) (.bf .len %[.l 0|0])) (.and (.c .lt (.b .add (.l 4) (.l 5)) (.bf .len %[.l 1|0])) (.c .eq (.sub (.l 0) (.b .add (.l 3) (.l 5))) (.sub (.l 1) (.b .add (.l 4) (.l 5)))))) (.cons (.aug 5 .add (.int 1))
 (.cons (.expr (.bm .append (.l 2) %[.T %[.neg (.l 5),.l 3,.l 4|0]|0]))
 .nil)))
 .nil)))
 .nil))
 (.cons (.a [(.v 6)] (.L .nil))
 (.cons (.each (.T [7,3,4]) (.seq (.bf .sorted %[.l 2|0])) (.cons (.a [(.v 8)] (.bool true))
 (.cons (.each (.T [9,10,11]) (.seq (.l 6)) (.cons (.C (.not (.or (.and (.c .le (.b .sub (.l 3) (.l 7)) (.l 9)) (.c .le (.b .sub (.l 4) (.l 7)) (.l 10))) (.and (.c .le (.b .add (.l 9) (.l 11)) (.l 3)) (.c .le (.b .add (.l 10) (.l 11)) (.l 4))))) (.cons (.a [(.v 8)] (.bool false))
 .nil) .nil)
 .nil))
 (.cons (.C (.l 8) (.cons (.expr (.bm .append (.l 6) %[.T %[.l 3,.l 4,.neg (.l 7)|0]|0]))
 .nil) .nil)
 .nil))))
 (.cons (.ret (.bf .sorted %[.l 6|0]))
 .nil)))))⟩
abbrev TF:Fn:=⟨3,[],(.cons (.a [(.v 3)] (.L %[.T %[.int 0,.int 0|0]|0]))
 (.cons (.each (.T [4,5,6]) (.seq (.l 0)) (.cons (.expr (.bm .extend (.l 3) %[.L %[.T %[.l 4,.l 5|0],.T %[.b .add (.l 4) (.l 6),.b .add (.l 5) (.l 6)|0]|0]|0]))
 .nil))
 (.cons (.expr (.bm .append (.l 3) %[.T %[.l 1,.l 2|0]|0]))
 (.cons (.a [(.v 7)] (.L .nil))
 (.cons (.each (.v 8) (.rng2 (.int 1) (.bf .len %[.l 3|0])) (.cons (.a [(.T [9,10])] (.sub (.l 3) (.b .sub (.l 8) (.int 1))))
 (.cons (.a [(.T [11,12])] (.sub (.l 3) (.l 8)))
 (.cons (.a [(.v 13)] (.I (.c .eq (.b .mod (.l 8) (.int 2)) (.int 0)) (.str "equal") (.I (.c .eq (.l 9) (.l 11)) (.str "insert") (.I (.c .eq (.l 10) (.l 12)) (.str "delete") (.str "replace")))))
 (.cons (.C (.c .ne (.T %[.l 9,.l 10|0]) (.T %[.l 11,.l 12|0])) (.cons (.expr (.bm .append (.l 7) %[.T %[.l 13,.l 9,.l 11,.l 10,.l 12|0]|0]))
 .nil) .nil)
 .nil)))))
 (.cons (.ret (.l 7))
 .nil))))))⟩
abbrev yT:Fn:=⟨1,[],(.cons (.a [(.v 1)] (.I (.l 0) (.sub (.l 0) (.int 0)) (.int 0)))
 (.cons (.a [(.v 2)] (.I (.c .gt (.bf .len %[.l 0|0]) (.int 1)) (.slc (.l 0) (.int 1) (.int 63)) (.L %[.int 1,.int 0,.int 1|0])))
 (.cons (.a [(.v 3)] (.K [(2,1)] (.seq (.l 2)) (.v 1) .nil (.elt (.I (.c .gt (.b .mod (.l 2) (.int 4)) (.int 0)) (.b .mod (.l 1) (.b .add (.b .mod (.l 2) (.int 4)) (.int 2))) (.l 1)))))
 (.cons (.a [(.v 4)] (.b .mod (.b .add (.b .fdiv (.l 1) (.int 4)) (.b .fdiv (.bf .len %[.l 3|0]) (.int 2))) (.b .add (.bf .len %[.l 3|0]) (.int 1))))
 (.cons (.a [(.T [5,6])] (.T %[.slc (.l 3) .none (.l 4),.slc (.l 3) (.l 4) .none|0]))
 (.cons (.a [(.v 7)] (.bx .sortedS (.scomp [(2,6)] (.seq (.l 5)) (.v 1) %[.c .isIn (.l 1) (.l 2)|0] (.eltK (.l 1)))))
 (.cons (.a [(.v 8)] (.b .add (.L %[.int 32,.int 65,.int 97,.int 200,.int 10|0]) (.lrng (.int 128) (.int 160))))
 (.cons (.a [(.v 9)] (.K [(2,8),(3,7)] (.seq (.l 5)) (.v 1) .nil (.elt (.I (.c .isIn (.l 1) (.l 3)) (.sub (.l 2) (.bm .index (.l 3) %[.l 1|0])) (.int 45)))))
 (.cons (.a [(.v 10)] (.K [(2,8),(3,7)] (.seq (.l 6)) (.v 1) .nil (.elt (.I (.c .isIn (.l 1) (.l 3)) (.sub (.l 2) (.bm .index (.l 3) %[.l 1|0])) (.int 43)))))
 (.cons (.a [.T [11,12]] (.T %[.join (.K [] (.seq (.l 9)) (.v 1) .nil (.elt (.bx .chr (.l 1)))),.join (.K [] (.seq (.l 10)) (.v 1) .nil (.elt (.bx .chr (.l 1))))|0]))
 (.cons (.a [(.v 13)] (.L %[.T %[.l 5,.l 6|0],.T %[.l 11,.l 12|0],.T %[.bx .bytes (.l 9),.bx .bytes (.l 10)|0],.T %[.bx .bytes (.l 9),.l 10|0],.T %[.l 11,.bx .tupS (.l 12)|0],.T %[.bx .lstS (.l 11),.l 12|0]|0]))
 (.cons (.a [(.v 14)] (.call 11 %[.call 10 %[.l 5,.l 6|0],.bf .len %[.l 5|0],.bf .len %[.l 6|0]|0]))
 (.cons (.each (.T [15,16]) (.seq (.l 13)) (.cons (.C (.c .ne (.meth (.n %[.none,.l 15,.l 16|0]) 7 .nil) (.l 14)) (.cons (.ret (.bool false))
 .nil) .nil)
 .nil))
 (.cons (.ret (.bool true))
 .nil))))))))))))))⟩
abbrev P (k:Nat):Option Fn:=match k with
 |0=>some fn0|1=>some fn1|2=>some fn2|3=>some fn3|4=>some fn4|5=>some fn5|6=>some fn6|7=>some fn7|10=>some TG|11=>some TF|12=>some yT|_=>none
abbrev tab:Tab where
 cap:=λ_=>false
 gl:=[("len",.builtin "len"),("sorted",.builtin "sorted"),("sum",.builtin "sum"),("min",.builtin "min"),("max",.builtin "max"),("divmod",.builtin "divmod"),("set",.type "set"),("list",.type "list"),("range",.type "range"),("map",.type "map"),("enumerate",.type "enumerate"),("tuple",.type "tuple"),("bytes",.type "bytes"),("chr",.builtin "chr"),("tuple",.type "tuple"),("Match",.ref 135),("SequenceMatcher",.ref 242),("_law_kept",.ref 253),("_law_codes",.ref 260),("law",.ref 265)]
 attrs:=["isjunk","a","b","autojunk","matching_blocks","opcodes","fullbcount","b2j","bjunk","bpopular"]
 meths:=[(0,"__init__"),(1,"set_seqs"),(2,"set_seq1"),(3,"set_seq2"),(4,"_SequenceMatcher__chain_b"),(5,"find_longest_match"),(6,"get_matching_blocks"),(7,"get_opcodes")]
 fns:=[(0,160),(1,167),(2,174),(3,181),(4,188),(5,196),(6,203),(7,210),(10,253),(11,260),(12,265)]
 cM:=135
 cS:=242
end R12
end MP
end
section
namespace MP
open PySem PyProof.Rows PySem.W
abbrev newOf (b:List Stmt):List Stmt:=
 let s0:=b.getD 0 default;let s1:=b.getD 1 default;let d:=st0 s0;let c:=st0 s1;let f:=kid 0 c;let t:=kid 2 c
 t9 d.pos s0.pos (kid 0 f).pos f.pos (kid 1 c).pos (kid 0 t).pos (kid 1 t).pos (kid 2 t).pos t.pos c.pos s1.pos (BD d) (exK d) (exK t)
abbrev KY (b:List Stmt):Bool:=(kid 0 (st0 (b.getD 1 default))).pos.endLine==(st0 (b.getD 1 default)).pos.line
abbrev tE (b:List Stmt):List Pos:=
 let s0:=b.getD 0 default;let s1:=b.getD 1 default;let s2:=b.getD 2 default;let s3:=b.getD 3 default;let c:=st0 s1;let q:=st0 s2;let l:=kid 0 q
 [(st0 s0).pos,s0.pos,((f9 s1).getD 1 default).pos,(kid 0 (kid 0 c)).pos,(kid 0 c).pos,(kid 1 c).pos,(kid 2 c).pos,c.pos,s1.pos,(kid 0 l).pos,(kid 1 l).pos,l.pos,(kid 1 q).pos,q.pos,s2.pos,(st0 s3).pos,s3.pos]
abbrev GJ (l:List Pos):Fin 20->Pos:=λi=>l.getD i.1 #[0,0,0,0]
abbrev OS (b:List Stmt):List Stmt:=oH (GJ (tE b)) (BD (st0 (b.getD 0 default))) (exK (st0 (b.getD 0 default))) (exK (kid 1 (st0 (b.getD 2 default)))) (sw (b.getD 2 default)).b
abbrev GZ (b:List Stmt):Bool:=(GJ (tE b) 4).endLine==(GJ (tE b) 7).line
end MP
end
section
set_option backward.match.sparseCases false
open PySem PySem.W PyProof.Rows
set_option maxHeartbeats 0
namespace Mine
open MP
abbrev tB (w:World)(os:OsState):Thread:=#[OK (iO (tA w os)),(tA w os).code,(tA w os).pos,(tA w os).stack]
abbrev XB (w:World)(os:OsState):Option (Flow×SharedT×Code×Pos):=QL TB pw w 11 an 1 400 (sA w os) (tB w os)
abbrev s3 (w:World)(os:OsState):SharedT:=(XB w os).elim (S4 w os) (·.2.1)
abbrev F (w:World)(os:OsState):Shared:=(s3 w os).abs
abbrev viewOf (p:Program):Program:={p with main:={p.main with body:=[0,2,3,4,5,7,8,9].filterMap λi=>p.main.body[i]?}}
abbrev qv:Program:=viewOf pw
public abbrev loose:List Str:=[Str.ofString "_tuplegetter",Str.ofString "Match",Str.ofString "SequenceMatcher"]
@[reducible] def mP:=PySem.Challenge.rw_dm0056_12
public abbrev Xt:Shared->Bool:=λs=>xlAt qv [] s&&recOk (RowW.records mP.row.toRowW) s
abbrev B3 (w:World)(s:Shared):Bool:=staticsOk (importedModules pw.main.body) (boot_heap w.params) s.heap&&namesBound pw s.heap&&gensDone s&&laidKept (boot_heap w.params) s.heap
abbrev LL (h:Heap)(x:Str):Option Value:=(h.nsMap mainGlobals x).or (h.nsMap builtinsNs x)
abbrev kN (h:Heap)(a:Addr)(xs:List Str):Bool:=xs.all λx=>(h.nsMap a x).isNone
abbrev isFn (h:Heap)(a:Addr):Bool:=(h.get? a).any λo=>decide (o.cls=.type "function")&&(tU o.data).isSome
abbrev fragOf (h:Heap)(as:List Addr):Frag:=as.filterMap λa=>(h.get? a).map λo=>(a,o)
public abbrev K8 (h:Heap):Frag:=fragOf h [135,134,136,91,2,82,89]
abbrev RR:pq:=.cons .dead %[.dead|0]
abbrev RQ:pq:=.cons .dead %[.dead,.dead,.dead|0]
abbrev GY:List (Str×NameKind):=[("tuple",.globalImplicit),("len",.globalImplicit),("TypeError",.globalImplicit)]
abbrev GP (h:Heap):Bool:=h.isNs mainGlobals&&h.isNs builtinsNs&&h.isNs 241&&h.isNs 134&&h.isNs cStatics&&(h.nsMap cStatics "sys.recursionlimit").isNone&&(h.get? sysModules).isSome
abbrev HM (h:Heap):Bool:=R12.tab.gl.all λp=>decide (LL h p.1=some p.2)
abbrev tD (h:Heap):Bool:=R12.tab.meths.all λp=>decide ((h.nsMap 241 p.2)=(R12.tab.fns.lookup p.1).map Value.ref)
abbrev B8 (h:Heap):Bool:=R12.tab.fns.all λp=>isFn h p.2&&match R12.P p.1 with|some fn=>rS R12.tab h fn p.2|none=>false
abbrev newOk (h:Heap):Bool:=rS R12.tab h #[4,[],RR] 82&&(bodyOf h 82).any λx=>KY x.2
abbrev y8 (h:Heap):Bool:=rS R12.tab h #[2,[],RQ] 89&&(bodyOf h 89).any λx=>GZ x.2
abbrev QU (x:Scope×List Stmt):Scope×List Stmt:=(dB [],newOf x.2)
abbrev N6 (x:Scope×List Stmt):Scope×List Stmt:=(rn GY [],OS x.2)
abbrev OB (k:Nat)(x:Scope×List Stmt):Scope×List Stmt:=match R12.P k with
 |some fn=>OC R12.tab fn x
 |none=>x
abbrev u5 (h:Heap):List (Option (Scope×List Stmt)):=R12.tab.fns.map λp=>bodyOf h p.2
abbrev BO (h:Heap):List (Option (Scope×List Stmt)):=R12.tab.fns.map λp=>(bodyOf h p.2).map (OB p.1)
structure Obs (P:Params)(h:Heap):Prop where
 nss:GP h=true
 no241:kN h 241 ("__getattribute__" :: "__getattr__" :: "__setattr__" :: R12.tab.attrs)=true
 no134:kN h 134 ["__iter__","__lt__","__len__","__init__"]=true
 gls:HM h=true
 meths:tD h=true
 fns:B8 h=true
 new:newOk h=true
 make:y8 h=true
 u5:u5 h=BO h
 newB:bodyOf h 82=(bodyOf h 82).map QU
 makeB:bodyOf h 89=(bodyOf h 89).map N6
 g242:h.get? 242=some (excClassObj "SequenceMatcher" "SequenceMatcher" 242 241 [.type "object"] [.type "object"] true [] [] false none none none none (some (.str "SequenceMatcher" 389)) (some (.str "SequenceMatcher" 397)) (some (.bool true)) "object.__new__")
 g135:h.get? 135=some (gU 135 134 "Match" "Match" (some (.ref 65)) (some (.str "Match" 253)) (some (.str "Match" 261)))
 l1:peek (K8 h) #[pw,P] (mroOf (.ref 135))=some [.ref 135,.type "tuple",.type "object"]
 l2:peek (K8 h) #[pw,P] (isType (.ref 135))=some true
 l3:peek (K8 h) #[pw,P] (isSubtype (.ref 135) (.ref 135))=some true
 l4:peek (K8 h) #[pw,P] (isSubtype (.ref 135) (.type "tuple"))=some true
 l5:peek (K8 h) #[pw,P] (isSubtype (.ref 135) (.type "object"))=some true
 l6:peek (K8 h) #[pw,P] (classHasDel 135)=some false
 l7:peek (K8 h) #[pw,P] (typeLookup (.ref 135) "__init__")=some (some (.builtin "object.__init__"))
 l8:peek (K8 h) #[pw,P] (specialOf (.ref 135) "__call__")=some (some (.builtin "type.__call__"))
 l9:peek (K8 h) #[pw,P] (isInstance (.ref 135) (.type "type"))=some true
 l10:peek (K8 h) #[pw,P] (Bind.madeBy (.ref 135))=some none
 l11:peek (K8 h) #[pw,P] (Bind.madeHere "tuple.__new__" (.ref 135))=some ()
 l12:(λx:Value=>peek (K8 h) #[pw,P] (checkBuiltinCall "tuple.__new__" #[[.ref 135,x],[]]))=λx=>some ()
 m1:readsIn (K8 h) 135 (.type "type")=true
 m2:findCls (K8 h) (.ref 135) (.type "type") "__new__"=some (.get (.builtin "staticmethod.__get__") (.ref 136) .none (.ref 135))
 m3:findCls (K8 h) (.ref 135) (.type "type") "_make"=some (.get (.builtin "classmethod.__get__") (.ref 91) .none (.ref 135))
 m4:recIn (K8 h) 136 "staticmethod"=some [.ref 82]
 m5:recIn (K8 h) 91 "classmethod"=some [.ref 89,.bool false]
abbrev asked (w:World)(s:Shared)(h:Heap)(P:Params):=
 ((B3 w s,openSeen qv loose (importedModules pw.main.body) Xt true s),
  (GP h&&kN h 241 ("__getattribute__" :: "__getattr__" :: "__setattr__" :: R12.tab.attrs)&&kN h 134 ["__iter__","__lt__","__len__","__init__"]&&HM h&&tD h&&B8 h&&newOk h&&y8 h),
  (u5 h,bodyOf h 82,bodyOf h 89,h.get? 242,h.get? 135),
  (peek (K8 h) #[pw,P] (mroOf (.ref 135)),peek (K8 h) #[pw,P] (isType (.ref 135)),peek (K8 h) #[pw,P] (isSubtype (.ref 135) (.ref 135)),peek (K8 h) #[pw,P] (isSubtype (.ref 135) (.type "tuple")),peek (K8 h) #[pw,P] (isSubtype (.ref 135) (.type "object")),
  peek (K8 h) #[pw,P] (classHasDel 135),peek (K8 h) #[pw,P] (typeLookup (.ref 135) "__init__"),peek (K8 h) #[pw,P] (specialOf (.ref 135) "__call__"),peek (K8 h) #[pw,P] (isInstance (.ref 135) (.type "type")),peek (K8 h) #[pw,P] (Bind.madeBy (.ref 135)),
  peek (K8 h) #[pw,P] (Bind.madeHere "tuple.__new__" (.ref 135)),λx:Value=>peek (K8 h) #[pw,P] (checkBuiltinCall "tuple.__new__" #[[.ref 135,x],[]])),
  (readsIn (K8 h) 135 (.type "type"),findCls (K8 h) (.ref 135) (.type "type") "__new__",findCls (K8 h) (.ref 135) (.type "type") "_make",recIn (K8 h) 136 "staticmethod",recIn (K8 h) 91 "classmethod"))
def atB:(λw os=>((XB w os).map λr=>(r.1,r.2.2.1),asked w (F w os) (F w os).heap w.params))=λw os=>(some (.next,cE),((true,openGood qv loose),true,
  (BO (F w os).heap,(bodyOf (F w os).heap 82).map QU,(bodyOf (F w os).heap 89).map N6,some (excClassObj "SequenceMatcher" "SequenceMatcher" 242 241 [.type "object"] [.type "object"] true [] [] false none none none none (some (.str "SequenceMatcher" 389)) (some (.str "SequenceMatcher" 397)) (some (.bool true)) "object.__new__"),
   some (gU 135 134 "Match" "Match" (some (.ref 65)) (some (.str "Match" 253)) (some (.str "Match" 261)))),
  (some [.ref 135,.type "tuple",.type "object"],some true,some true,some true,some true,some false,some (some (.builtin "object.__init__")),some (some (.builtin "type.__call__")),some true,some none,some (),λ_=>some ()),
  (true,some (.get (.builtin "staticmethod.__get__") (.ref 136) .none (.ref 135)),some (.get (.builtin "classmethod.__get__") (.ref 91) .none (.ref 135)),some [.ref 82],some [.ref 89,.bool false]))):=by
 delta F s3 XB tB OK PySem.W.Fast.tw4202317264376624991
 rw[yW]
 kernel_rfl
end Mine
end
section
open PySem PySem.W PyProof.Rows
set_option maxHeartbeats 0
namespace Mine
open MP
def D6 {p q:Program}{loose:List Str}{Xt:Shared->Bool}{N:Nat}{g0:Bool}{W:Params->Heap}{U:Array GenState}{J:Drawn}{O I:Nat}{ag:Option Value}{M:Nat}{F:World->OsState->Shared}
  (B:∀w:World,(fencedOpening treeTable p w N).map (λs=>(s.heap,s.gens,s.drawn,s.toks))=some (W w.params,U,J,O))
  (z:∀w:World,((W w.params).isNs mainGlobals&&U.size==0,(W w.params).objs.size,(W w.params).nsMap mainGlobals "__annotations__")=(true,I,ag))
  (run:∀(w:World) (os:OsState),topRun treeTable p w I ag M #[W w.params,U,J,O,os] (topStub p)=some (F w os)) (le:Nat.ble M N=true)
  (B3:∀(w:World) (os:OsState),(staticsOk (importedModules p.main.body) (W w.params) (F w os).heap&&namesBound p (F w os).heap&&gensDone (F w os)&&laidKept (W w.params) (F w os).heap)=true)
  (seen:∀(w:World) (os:OsState),openSeen q loose (importedModules p.main.body) Xt g0 (F w os)=openGood q loose) :
  LeftO p q loose Xt (λs=>s.heap) (λw=>(F w ((fencedOpening treeTable p w N).elim {} (·.os))).heap) N g0:=λw=>by
 have#[#[h,gs,d,k,os],e,e']:=gj.mp (B w);have zz:=by simpa using e'
 clear e';have#[rfl,rfl,rfl,rfl]:h=W w.params/\gs=U/\d=J/\k=O:=zz;have#[z1,z2,z3]:_/\_/\_:=by simpa only[vf] using z w
 have r:=topRun_mono (N-M) _ _ _ _ (run w os);rw[show M+(N-M)=N by have:=bh le;(show gz .X .j (.e .a9 .C) (aa (az .A .a .A this)))]at r;have t:topFrom treeTable p w N #[W w.params,gs,d,k,os]=some (F w os):=by
  unfold topFrom;dsimp only;rw[z1,z2,z3,r];show(match staticsOk (importedModules p.main.body) (W w.params) (F w os).heap&&namesBound p (F w os).heap&&gensDone (F w os)&&laidKept (W w.params) (F w os).heap with|true=>_|false=>_)=_;rw[B3 w os]
 unfold openEnds;rw[e];show(topFrom treeTable p w N _).map _=_;rw[t];apply cc some (Prod.ext (seen w os) ?_);show(F w os).heap=_;dsimp only;rw[e];rfl
def mf {α W:Type}{a c:α}{b d:W}(h:(a,b)=(c,d)):a=c:=cc (·.1) h
def ju {α W:Type}{a c:α}{b d:W}(h:(a,b)=(c,d)):b=d:=cc (·.2) h
def QZ {w:World}{os:OsState}:B3 w (F w os)=true:=mf (mf (ju (lu (lu atB w) os)))
def obs (w:World)(os:OsState):Obs w.params (F w os).heap:=by
 have v:=ju (ju (lu (lu atB w) os));generalize (F w os).heap=h at v ⊢;generalize w.params=P at v ⊢;have J:=mf v;have W:=mf (ju v);have O:=mf (ju (ju v));have U:=ju (ju (ju v));simp only[fe]at J;have#[#[#[#[#[#[#[a1,a2],a3],a4],a5],a6],a7],a8]:=J;have b:=ju O;have c:=ju b;have d:=ju c;have e:=ju d;have f:=ju e;have g:=ju f;have i:=ju g;have j:=ju i;have k:=ju j;have l:=ju k;have m:=ju U;have n:=ju m;have o:=ju n;apply#[a1,a2,a3,a4,a5,a6,a7,a8,mf W,mf (ju W),mf (ju (ju W)),mf (ju (ju (ju W))),ju (ju (ju (ju W))),mf O,mf b,mf c,mf d,mf e,mf f,mf g,mf i,mf j,mf k,mf l,ju l,mf U,mf m,mf n,mf o,ju o]
def O9 (w:World)(os:OsState):topRun treeTable pw w 11 an 2381 (S0 w os) (topStub pw)=some (F w os):=by
 have hp:=lu (lu pre w) os;have hb:=lu (lu blk w) os;have hA:=lu (lu atA w) os;have hv:=mf (lu (lu atB w) os);have hf:=λc q s=>lu (lu (lu (lu fin w) c) q) s;have#[#[fl,I,c3,q3],O,e]:=gj.mp hv;have z:fl=.next:=mf e
 have ag:c3=cE:=ju e;subst z;subst ag;have hF:F w os=I.abs:=by
  unfold F s3;rw[O];rfl
 have U:XA w os=some (sA w os,tA w os):=by
  have J:=mf hA;unfold sA tA;cases q:XA w os with
  |none=>rw[q]at J;cases J
  |some x=>rfl
 have B:tB w os=tA w os:=by
  unfold tB;rw[<- ju hA]
 unfold XB at O;rw[B]at O;rw[hF];generalize sA w os=sa at U O;generalize tA w os=ta at U O;unfold XA at U;unfold th0 at U;rw[RZ]at U;have e3:TB=treeTable:=PySem.W.Fast.te14364793385576792824.symm;have e1:goT=@segGoT:=PySem.W.Fast.te10295753902157049106.symm;have e2:QL=@segRunT:=PySem.W.Fast.te10110043849684766642.symm;rw[e1,e3]at U;rw[e2,e3]at O;rw[e3]at hp hb hf;have hs:=seg_go (n:=1966) (N:=400) (segGo_of U) (segRun_of O);apply go_top (n:=12) (N:=2369) hp (piece_block (n:=1) (N:=2368) hb ?_);have:=piece_app (n:=2366) (N:=2) (l:=bE) (rest:=[]) (env:=LZ) hs (piece_nil (hf _ _ _));rw[dk]at this;show this
end Mine
end
section
open PySem PySem.W PyProof.Rows
set_option maxHeartbeats 0
namespace Mine
open MP
def QY:∀w:World,((boot_heap w.params).isNs mainGlobals&&(#[[]]:Array GenState).size==0,(boot_heap w.params).objs.size,(boot_heap w.params).nsMap mainGlobals "__annotations__")=(true,11,an):=by
 have h:(λw:World=>((boot_heap w.params).isNs mainGlobals&&(#[[]]:Array GenState).size==0,(boot_heap w.params).objs.size,(boot_heap w.params).nsMap mainGlobals "__annotations__"))=λw=>(true,11,an):=by kernel_rfl
 show λw=>lu h w
abbrev H1 (w:World):Heap:=(F w ((fencedOpening treeTable pw w 4418).elim {} (·.os))).heap
abbrev hook:Hook where
 α:=Heap
 obs:=λs=>s.heap
 val:=H1
 says:=λw h=>∀a o,(H1 w).get? a=some o->h.get? a=some o
 of:=λw s e a o h=>by rw[e];show h
 keeps:=λw h h' x k a o e=>k a o (x a o e)
def left:LeftO pw qv loose Xt (λs=>s.heap) H1 4418 true:=D6 (boot_open (by kernel_rfl) (by decide +kernel) (λs=>by kernel_rfl)) QY O9 (by decide +kernel) (λw os=>QZ) λw os=>ju (mf (ju (lu (lu atB w) os)))
def head (hc:∀(d:DefRec) (W:List (Str×Expr)),defOf qv mP.row.name=some (d,W)->WalkO qv loose (XL qv []) hook.says mP.row.toRowW d W λf vs=>PySem.call f vs):mP.Holds:=by
 w_on
 apply holds_law (by decide +kernel) λU=>?_;apply holds_open (q:=qv) (loose:=loose) (Xt:=Xt) (XP:=XL qv []) (Yf:=hook.obs) (Ya:=hook.val) (YP:=hook.says) (N:=4418) left hook.of hook.keeps (λs e=>xl_of s (qC.mp e).1) XL.keeps (by rfl) (by rfl) (by rfl) (λs e=>recFacts_of (qC.mp e).2) (by first|rfl|fail "no head") (by first|assumption|decide +kernel) (by decide +kernel) #[rfl,rfl,rfl,rfl,rfl,by decide +kernel] ?hw ?hc
 case hw=>w_witness2
 case hc=>show hc _ _ (by rfl)
def OI (w:World):Obs w.params (H1 w):=obs w _
end Mine
end
section
set_option tactic.hygienic true
open PySem PySem.W PyProof.Rows
set_option maxHeartbeats 0
namespace Mine
open MP
def EJ (x:Str)(W:x∈R12.tab.attrs):typeLookup (.type "object") x=pure none:=by
 simp only[R12.tab,bw,ti,or_false]at W;rcases W with rfl|rfl|rfl|rfl|rfl|rfl|rfl|rfl|rfl|rfl<;>(rw[gc,dw];kernel_rfl)
abbrev G8 (w:World)(h0 hb:Heap):Stc:={prog:=pw,w:=w,hb:=hb,cM:=135,cS:=242,attrs:=R12.tab.attrs,gl:=LL h0,cap:=λ_=>false,clo:=λ_ _ _=>False}
section
variable {w:World}{h0 hb:Heap}(ob:Obs w.params h0)
include ob
def vM:h0.isNs mainGlobals=true/\h0.isNs builtinsNs=true/\h0.isNs 241=true/\h0.isNs 134=true/\h0.isNs cStatics=true/\h0.nsMap cStatics "sys.recursionlimit"=none/\∃o,h0.get? sysModules=some o:=by
 have h:=ob.nss;unfold GP at h;simp only[fe,wq]at h;have#[#[#[#[#[#[z,B],I],J],O],U],W]:=h;apply#[z,B,I,J,O,U,cv.mp W]
omit ob in
def rk {h:Heap}{a:Addr}{xs:List Str}(e:kN h a xs=true){x:Str}(W:x∈xs):h.nsMap a x=none:=by
 unfold kN at e;rw[lp]at e;show wq.mp (e x W)
variable (hk:∀a o,h0.get? a=some o->hb.get? a=some o)
include hk
def OW:hb.NoLimit:=by
 have#[z,B,I,J,U,W,O]:=vM ob;apply#[_,(zy U).keeps hk,W]
def RS:ClsAt hb 242 241 (h0.nsMap 241):=by
 have#[z,B,W,I,J,O,U]:=vM ob;apply#[#[_,_,_,_,_,_,_,_,_,_,_,_,hk _ _ (ob.g242)],(zy W).keeps hk]
def T9:GOk (G8 w h0 hb):=by
 have#[J,O,h3,z,B,I,o,U]:=vM ob;have no:=ob.no241;apply#[#[241,_,RS ob hk,rk no (.head _),rk no (.tail _ (.head _)),rk no (.tail _ (.tail _ (.head _))),λx W=>#[rk no (.tail _ (.tail _ (.tail _ W))),EJ x W]],by show R12.tab.attrs.length<=100;decide,by show R12.tab.attrs.Nodup;decide +kernel,#[o,hk _ _ U],#[_,_,(zy J).keeps hk,(zy O).keeps hk,λx=>rfl]]
omit hk in
def gl8 (x:Str)(v:Value)(e:R12.tab.gl.lookup x=some v):LL h0 x=some v:=by
 have h:=ob.gls;unfold HM at h;rw[lp]at h;show br (h (x,v) (MP.mem_of_lookup e))
def PH {k:Nat}{a:Addr}(e:R12.tab.fns.lookup k=some a):∃o fd,hb.get? a=some o/\o.cls=.type "function"/\o.data=.func fd:=by
 have h:=ob.fns;unfold B8 at h;rw[lp]at h;have:=h (k,a) (MP.mem_of_lookup e);rw[fe]at this;have:=this.1;have#[o,W,h]:=MP.any_some this;have#[O,U]:=MP.band h;have#[fd,hd]:=cv.mp U;apply#[o,fd,hk _ _ W,br O,s7 hd]
omit hk in
def OQ {k:Nat}{name:Str}(e:R12.tab.meths.lookup k=some name):h0.nsMap 241 name=(R12.tab.fns.lookup k).map Value.ref:=by
 have h:=ob.meths;unfold tD at h;rw[lp]at h;show br (h (k,name) (MP.mem_of_lookup e))
def N5 (k:Nat)(name:Str)(e:R12.tab.meths.lookup k=some name):∃f,R12.tab.fns.lookup k=some f/\MethAt (G8 w h0 hb) name f:=by
 have no:=ob.no241;have U:∃f,R12.tab.fns.lookup k=some f:=by
  have h:R12.tab.meths.all (λp=>(R12.tab.fns.lookup p.1).isSome)=true:=by decide +kernel
  show cv.mp (lp.mp h _ (MP.mem_of_lookup e))
 have W:name∉R12.tab.attrs:=by
  have h:R12.tab.meths.all (λp=>decide (p.2∉R12.tab.attrs))=true:=by decide +kernel
  show br (lp.mp h _ (MP.mem_of_lookup e))
 have#[f,O]:=U;have#[o,fd,J,hc,hd]:=PH ob hk O;apply#[f,O,#[#[241,_,o,fd,RS ob hk,rk no (.head _),rk no (.tail _ (.head _)),?_,J,hc,hd],W,#[_,gc _ _]]];have:=OQ ob e;rw[O]at this;show this
def R8:∃f,R12.tab.fns.lookup 0=some f/\qA (G8 w h0 hb) f:=by
 have#[f,W,M]:=N5 ob hk 0 "__init__" rfl;have#[N,mN,of,fd,I,h2,z,J,O,U,B]:=M.here;apply#[f,W,#[N,mN,of,I,J,O,U]]
def OR:vd (G8 w h0 hb):=by
 have#[z,B,I,W,J,O,U]:=vM ob;have no:=ob.no134;apply#[#[134,_,_,_,_,_,_,hk _ _ (ob.g135),(zy W).keeps hk,rk no (.head _),rk no (.tail _ (.head _)),rk no (.tail _ (.tail _ (.head _))),rk no (.tail _ (.tail _ (.tail _ (.head _))))]]
omit ob hk in
def tL (h:Heap):∀l:List Addr,Frag.In (fragOf h l) h
 | [],a,o,e=>by cases e
 |b::l,a,o,e=>by
  unfold fragOf at e;simp only[eY]at e;cases W:h.get? b with
  |none=>rw[W]at e;show tL h l a o e
  |some ob =>
   rw[W]at e;simp only[Option.map_some,List.lookup]at e;split at e
   ·rename_i q;cases e;rw[fq.mp q];show W
   ·show tL h l a o e
omit ob hk in
def m6:findCls [] (.type "tuple") (.type "type") "__new__"=some (.val (.builtin "tuple.__new__")):=by kernel_rfl
omit ob hk in
def m7:findIn [] (.type "type") "__getattribute__"=some (some (.builtin "type.__getattribute__")):=by kernel_rfl
omit ob hk in
def m8:subIn [] (.type "type") (.type "type")=some true:=by kernel_rfl
omit ob hk in
def m9:opaqueClassAbove (.type "tuple")=pure none:=by kernel_rfl
omit ob hk in
def m10:hookBefore (.type "type")=pure none:=by kernel_rfl
omit ob hk in
def m11:typeOf (.type "tuple")=pure (.type "type"):=by kernel_rfl
def HC:(K8 h0).In hb:=(tL h0 _).keeps hk
def eO {α:Type}{t:Sem α}{r:α}(e:peek (K8 h0) #[pw,w.params] t=some r):Looks (G8 w h0 hb).M (G8 w h0 hb).hb t r:=Looks.of_peek (K:=K8 h0) (HC ob hk) e
def L1:rq (G8 w h0 hb) 82 89 where
 made:=eO ob hk (ob.l10)
 here:=eO ob hk (ob.l11)
 chk:=λx=>eO ob hk (lu ob.l12 x)
 mro:=eO ob hk (ob.l1)
 self:=eO ob hk (ob.l3)
 tup:=eO ob hk (ob.l4)
 init:=eO ob hk (ob.l7)
 call:=eO ob hk (ob.l8)
 typ:=eO ob hk (ob.l9)
 isT:=eO ob hk (ob.l2)
 del:=eO ob hk (ob.l6)
 new:=λA E s Q k h=>cls_bind (K:=K8 h0) (mc:=.type "type") ((HC ob hk).keeps k) (ob.m1) (ob.m2) (ug (sm_get (s:={s with toks:=s.toks+1}) (K:=K8 h0) ((HC ob hk).keeps k) (ob.m4) (handed_on rfl h)))
 make:=λA E s expr Q k h=>cls_bind (K:=K8 h0) (mc:=.type "type") ((HC ob hk).keeps k) (ob.m1) (ob.m3) (ug (cm_get (s:={s with toks:=s.toks+1}) (K:=K8 h0) ((HC ob hk).keeps k) (ob.m5) (handed_on rfl h)))
 typNew:=λA E s expr Q h=>cls_open (K:=[]) (λ_ _ e=>nomatch e) (Looks.of_pure m9) (Looks.of_pure m11) m7 (Looks.of_pure m10) m8 m6 (ae (handed_on rfl h))
def T7:sG (G8 w h0 hb) 82:=by
 apply#[?_,gl8 ob "tuple" _ (by decide +kernel),eO ob hk ob.l5];have h:=ob.new;unfold newOk at h;rw[fe]at h;have#[x,W,U]:=B9 (G:=G8 w h0 hb) hk (OW ob hk) h.1 ob.newB;have hl:=h.2;rw[W]at hl;apply#[_,_,_,_,_,_,_,_,_,_,_,_,_,_,[],U,hl]
def QW:pS (G8 w h0 hb) 89:=by
 apply#[?_,gl8 ob "tuple" _ (by decide +kernel),gl8 ob "len" _ (by decide +kernel)];have h:=ob.make;unfold y8 at h;rw[fe]at h;have#[x,W,U]:=B9 (G:=G8 w h0 hb) hk (OW ob hk) h.1 ob.makeB;have hl:=h.2;rw[W]at hl;apply#[_,_,_,_,_,GY,[],U,hl,by decide +kernel,by decide +kernel]
def RY:uI (G8 w h0 hb) R12.tab:=
 #[T9 ob hk,gl8 ob,rfl,rfl,N5 ob hk,R8 ob hk,rfl,rfl,#[82,89,L1 ob hk,T7 ob hk,QW ob hk],OR ob hk]
def QM:zX (G8 w h0 hb) R12.tab R12.P:=by
 apply#[RY ob hk,λk cs a q=>q.elim,λk a e=>?_];have h:=ob.fns;unfold B8 at h;rw[lp]at h;have:=h (k,a) (MP.mem_of_lookup e);rw[fe]at this;have W:=this.2;split at W
 ·rename_i fn U;have#[sc,body,x,y]:=RA (G:=G8 w h0 hb) hk (OW ob hk) W (by
   have J:=List.map_inj_left.mp ob.u5 (k,a) (MP.mem_of_lookup e);have O:OB k=OC R12.tab fn:=by funext x;unfold OB;rw[U]
   rw[<- O];show J)
  apply#[fn,sc,body,U,x,y]
 ·cases W
end
end Mine
end
section
open PySem PySem.W PyProof.Rows
set_option maxHeartbeats 0
namespace Mine
open MP
abbrev st0:MP.St:=#[λ_=>none,λ_=>none,λ_=>none,λ_=>none,λ_=>none]
def T2 (G:Stc):Rel G st0 G.hb:=by
 apply#[λ_ _ e=>?_,λ_ _ e=>?_,λ_ _ e=>?_,λ_ _ _ e=>?_,λ_ _ e=>?_,λ_ _ e=>?_,λ_ _ e=>?_,λ_ _ _ _ _ e=>?_,λ_ _ _ e=>?_,λ_ _ _ _ _ _ e=>?_,λb d=>?_,λ_ _ e=>e]
 all_goals first|cases e|skip
 unfold MP.St.dom at d;simp[st0]at d
def ao0:AOk callerA 16:=#[rfl,by decide,by decide]
section
variable {P:Params}{h:Heap}
def SS {v:Value}{x:WData}(W:Well P h v x)(U:WShape.has [] x .int=true):∃i t,v=.int i t/\x=.int i:=by
 cases W with
 |int i t=>refine#[i,t,rfl,rfl]
 |_=>show Bool.noConfusion (show false=true from U)
def QA {v:Value}{x:WData}(W:Well P h v x)(U:WShape.has [] x (.list .int)=true):∃a vs xs,v=.ref a/\x=.list xs/\h.get? a=some {cls:=.type "list",data:=.seq vs.toArray}/\WellAll P h vs xs/\WShape.hasItems [] xs .int=true:=by
 cases W with
 | @list a vs xs e O=>refine#[a,vs,xs,rfl,rfl,e,O,(iX _).symm.trans (show(WShape.hasItems [] xs .int||false)=true from U)]
 |_=>show Bool.noConfusion (show false=true from U)
def J7 {vs:List Value}{xs:List WData}(W:WellAll P h vs xs):(vs=[]/\xs=[])\/∃v us x ys,vs=v::us/\xs=x::ys/\Well P h v x/\WellAll P h us ys:=by
 cases W with
 |nil=>show .inl #[rfl,rfl]
 |cons W U=>show .inr #[_,_,_,_,rfl,rfl,W,U]
def ints_of {vs:List Value}:∀{xs:List WData},WellAll P h vs xs->WShape.hasItems [] xs .int=true->∃ns:List Int,xs=ns.map WData.int/\IntsAre vs ns:=by
 induction vs with
 |nil =>
  intro xs W U;rcases J7 W with ⟨_,rfl⟩|⟨_,_,_,_,e,_⟩
  ·apply#[[],rfl,.nil]
  ·cases e
 |cons v vs O =>
  intro xs W U;rcases J7 W with ⟨e,_⟩|⟨_,_,x,ys,e,rfl,W1,z⟩
  ·cases e
  ·cases e;have#[B,J]:=MP.band (show(WShape.has [] x .int&&WShape.hasItems [] ys .int)=true from U);clear U;have#[ns,rfl,I]:=O z J;have#[i,t,rfl,rfl]:=SS W1 B;apply#[i::ns,rfl,.cons i t I]
def ML {args:List WData}{vals:List Value}(W:WellAll P h vals args)(U:WShape.hasAll [] args [.list .int]=true):∃(l:Addr) (vs:List Value) (ns:List Int),vals=[.ref l]/\args=[.list (ns.map WData.int)]/\h.get? l=some {cls:=.type "list",data:=.seq vs.toArray}/\IntsAre vs ns:=by
 rcases J7 W with ⟨_,rfl⟩|⟨v,us,x,ys,rfl,rfl,W1,O⟩
 ·cases U
 ·have#[z,B]:=MP.band (show(WShape.has [] x (.list .int)&&WShape.hasAll [] ys [])=true from U);rcases J7 O with ⟨rfl,rfl⟩|⟨_,_,_,_,_,rfl,_⟩
  ·have#[a,vs,xs,rfl,rfl,e,O,U]:=QA W1 z;have J:=ints_of O U;clear U;have#[ns,rfl,I]:=J;apply#[_,_,ns,rfl,rfl,e,I]
  ·show Bool.noConfusion (show false=true from B)
end
def QO (xs:List WData)(h:mP.pre.holds [] {args:=[.list xs]}=true):xs.length<=63:=by
 have e:mP.pre=.and (.not (.lt (.lit (.int 63)) (.len (.arg 0)))) (.lit (.bool true)):=by rfl
 rw[e]at h;have hl:WTm.value [] (.lt (.lit (.int 63)) (.len (.arg 0))) {args:=[.list xs]}=(less? (.int 63) (.int xs.length)).map WData.bool:=by rfl
 have O:less? (.int 63) (.int xs.length)=some (decide ((63:Int)<xs.length)):=by first|rfl|simp[less?]
 rw[O]at hl;by_cases W:(63:Int)<xs.length
 ·have hn:WTm.value [] (.not (.lt (.lit (.int 63)) (.len (.arg 0)))) {args:=[.list xs]}=some (.bool false):=by
   show(match WTm.value [] (.lt (.lit (.int 63)) (.len (.arg 0))) {args:=[.list xs]} with|some (.bool b)=>some (WData.bool (!b))|_=>none)=_;rw[hl];simp[W]
  have U:WTm.value [] (.and (.not (.lt (.lit (.int 63)) (.len (.arg 0)))) (.lit (.bool true))) {args:=[.list xs]}=some (.bool false):=by
   show(match WTm.value [] (.not (.lt (.lit (.int 63)) (.len (.arg 0)))) {args:=[.list xs]} with
    |some (.bool false)=>some (WData.bool false)
    |some (.bool true)=>some (.bool true)
    |_=>none)=_
   rw[hn]
  unfold WTm.holds at h;rw[U]at h;cases h
 ·(show fj .aJ .a (.ig (.n 63) .L) W)
def OG:(λ(x y:List WData)=>mP.row.claim.post x (WData.bool true) y)=λx y=>true:=by kernel_rfl
def RN (ai:∀ns:List Int,ns.length<=63->jm R12.P 7 12 [.ro ns] st0 λv σ=>v=.bool true):mP.Holds:=by
 apply head λd ay hd w s₀ s₁ mg mb Gr J a o pm cd doc dV kV ho ax hcd bc z O args vals as B ar aj U ao=>?_;have hk:∀b o,(H1 w).get? b=some o->s₁.heap.get? b=some o:=J;have W:(WShape.hasAll [] args [.list .int]&&mP.pre.holds [] {args:=args})=true:=B;rw[fe]at W;have#[l,vs,ns,rfl,rfl,hl,I]:=ML U W.1;have ag:ns.length<=63:=by
  simpa using QO _ W.2
 have ha:a=265:=by
  have e1:=Gr.T.g.eq_nsMap;have e0:=(vM (OI w)).1;have e4:=gl8 (OI w) "law" (.ref 265) (by decide +kernel);generalize H1 w=h0 at e0 e4 hk;have e2:=((zy e0).keeps hk).eq_nsMap;have e3:d.name=("law":Str):=by
   have:(defOf qv mP.row.name).map (λp=>p.1.name)=some ("law":Str):=by kernel_rfl
   rw[hd]at this;show af this
  rw[e1,<- e2,e3]at z;unfold LL at e4;rw[z]at e4;cases e4;rfl
 subst ha;have hc:=(PS (QM (OI w) hk) 7 12 265 (by decide +kernel)).2 (E:=λe s'=>GoodWG mP.row.claim (classAt s₀.heap) (ExcName.means s₀.heap) [.list (ns.map WData.int)] s₁ (.error e) s') (ws:=[.ref l]) (σ:=st0) (s:=s₁) ao0 (T2 (G8 w (H1 w) s₁.heap)) %[.ro hl I|0] (ai ns ag);apply di hc (λv s' lf=>?_) λ_ _ x=>x;have#[u,σ',q,vr,R',x']:=lf;obtain rfl:u=V.bool true:=q;have rfl:=vr;apply#[.inl #[.bool true,.bool true,[],rfl,λcls=>rfl,.bool true,?_,λ_=>#[List.nodup_nil,λa h=>nomatch h]],.of_keep λb o e=>R'.base b o e,x'.o,.of_eq (x'.g.trans O)];show lu (lu OG _) _
end Mine
end
section
namespace MP
open PySem
variable {Q:V->St->Prop}
def mq {σ:St}{a d:Addr}{f:Nat->Option V}:(σ.ki a d f).I a=some (d,f):=cj _ _ _
def xi {σ:St}{a d d':Addr}{f g:Nat->Option V}:(σ.ki a d f).ki a d' g=σ.ki a d' g:=by
 unfold St.ki
 congr 1
 funext j
 simp only[upd];split<;>rfl
section
variable {C:Cal}{ρ:Fr}{σ:St}{e a b:Ex}{es:Exs}
def J6:wpE C (.L es) ρ σ Q=vo C es ρ σ λvs σ=>vs.length<=ba/\∀c,σ.L c=Option.none->Q (.L c) (σ.eh c vs):=rfl
def A4:wpE C (.T es) ρ σ Q=vo C es ρ σ λvs σ=>vs.length<=ba/\Q (.T vs) σ:=rfl
def EC:wpE C (.n es) ρ σ Q=vo C es ρ σ λvs σ=>∀a d,σ.I a=Option.none->C 0 (.obj a::vs) (σ.ki a d λ_=>Option.none) λv σ=>v=.none/\Q (.obj a) σ:=rfl
def ED {m:Nat}:wpE C (.meth e m es) ρ σ Q=wpE C e ρ σ λv σ=>∃a,v=.obj a/\(σ.I a).isSome/\vo C es ρ σ λvs σ=>C m (v::vs) σ Q:=rfl
def uP {fv:List (Nat×Nat)}{it:It}{t:Tg}{cs:Exs}{more:Gens}:wpE C (.K fv it t cs more) ρ σ Q=sL C it ρ σ λvs G σ =>
   kT vs G (λv ρ' acc σ K=>su t v σ ρ' λρ'=>aE C cs ρ' σ λok σ=>if ok then kF C more ρ' acc σ K else K ρ' acc σ) (eE fv ρ) [] σ
    λ_ acc σ=>∀c,σ.L c=Option.none->Q (.L c) (σ.eh c acc):=rfl
def nF {K:List V->(St->Prop)->St->Prop}:sL C (.seq e) ρ σ K=wpE C e ρ σ λv σ=>MU v σ K:=rfl
def tu {Q:List V->St->Prop}:vo C (.cons e es) ρ σ Q=wpE C e ρ σ λv σ=>vo C es ρ σ λvs σ=>Q (v::vs) σ:=rfl
def lM {ts:List Tgt}{ss:pq}{K:Fl->Fr->St->Prop}:gx C (.cons (.a ts e) ss) ρ σ K=wpE C e ρ σ λv σ=>kE C ts v ρ σ λρ σ=>gx C ss ρ σ K:=rfl
end
def fA {p q:Prop}(h:q):if false=true then p else q:=h
def gW {p q:Prop}(h:p):if true=true then p else q:=h
def B5 (k:Key):k.v.qN=some k:=by cases k<;>rfl
def sq {vs:List V}{G:St->Prop}{T:V->Fr->St->(Fr->St->Prop)->Prop}{K:Fr->St->Prop}(Inv:Nat->Fr->St->Prop)
  (step:∀i v ρ σ,vs[i]?=some v->Inv i ρ σ->G σ/\∀k:Fr->St->Prop,(∀ρ' σ',Inv (i+1) ρ' σ'->k ρ' σ')->T v ρ σ k) (fin:∀ρ σ,Inv vs.length ρ σ->G σ/\K ρ σ) {ρ:Fr} {σ:St} (h0:Inv 0 ρ σ):yS vs G T ρ σ K:=by
 have go:∀(ws:List V) (i:Nat) (ρ:Fr) (σ:St),vs.drop i=ws->Inv i ρ σ->i<=vs.length->yS ws G T ρ σ K:=by
  intro ws;induction ws with
  |nil =>
   intro i ρ σ e h hi;have:i=vs.length:=by have:=List.drop_eq_nil_iff.mp e;(show jc .D .f .A .Y hi this)
   subst this;show fin ρ σ h
  |cons v ws O =>
   intro i ρ σ e h hi;have U:vs[i]?=some v:=by
    have:=cc (λl=>l[0]?) e;simpa using this
   have J:vs.drop (i+1)=ws:=by
    have:=cc (λl=>l.drop 1) e;simpa using this
   have W:=(cu.mp U).1;have#[g,t]:=step i v ρ σ U h;apply#[g,t _ λρ' σ' h'=>O (i+1) ρ' σ' J h' W]
 show go vs 0 ρ σ rfl h0 (bz _)
def dD {T:(Fr->St->Prop)->Fr->St->Prop}(Inv:Nat->Fr->St->Prop)(step:∀n ρ σ,Inv n ρ σ->∀again:Fr->St->Prop,(∀m ρ' σ',m<n->Inv m ρ' σ'->again ρ' σ')->T again ρ σ) :
  ∀(N n:Nat) {ρ:Fr} {σ:St},n<N->Inv n ρ σ->AZ T N ρ σ
 |0=>λn {ρ} {σ} h _=>absurd h (pe _)
 |N+1=>λn {ρ} {σ} h hi=>step n ρ σ hi _ λm ρ' σ' W h'=>dD Inv step N m (fb .B .b (.l .C .P) .G h W) h'
abbrev posOf (k:Key)(bs:List Key):List Nat:=(List.range bs.length).filter λj=>decide (bs[j]?=some k)
def iD (k:Key)(bs:List Key)(b:Key):posOf k (bs++[b])=posOf k bs++if b=k then [bs.length] else []:=by
 unfold posOf;rw[bq,kn,List.range_succ,List.filter_append]
 congr 1
 ·apply List.filter_congr λj W=>?_;rw[ew (zu.mp W)]
 ·simp[List.filter_cons]
def lz {σ σ':St}{u:V}{xs:List V}(h:∀a xs,σ.L a=some xs->σ'.L a=some xs)(e:ub σ u=some xs):ub σ' u=some xs:=by
 cases u with
 |L a=>show h _ _ e
 |_=>show e
def rH {σ:St}{u:V}{xs:List V}(e:ub σ u=some xs):isNone u=false:=by
 cases u with
 |none=>cases e
 |_=>rfl
structure B2J (σ₀ σ:St)(db:Addr)(bs:List Key):Prop where
 tab:∃es,σ.D db=some es/\es.length<=bs.length/\(∀k,es.lookup k=none->posOf k bs=[]) /\
  (∀k w,es.lookup k=some w->∃c,w=.L c/\σ.L c=some ((posOf k bs).map λj:Nat=>V.int j)/\σ₀.L c=none) /\
  ∀k k' c,es.lookup k=some (.L c)->es.lookup k'=some (.L c)->k=k'
 old:∀a xs,σ₀.L a=some xs->σ.L a=some xs
 I:σ.I=σ₀.I
 S:σ.S=σ₀.S
 D:∀a,a≠db->σ.D a=σ₀.D a
 keys:∀es,σ.D db=some es->(es.map (·.1)).Nodup/\∀k∈es.map (·.1),k∈bs
def B2J.start {σ₀:St}{db:Addr}:B2J σ₀ (σ₀.ua db []) db []:=
 ⟨#[[],cj _ _ _,av _,λk _=>rfl,λk w e=>(by cases e),λk k' c e=>(by cases e)],λa xs e=>e,rfl,rfl,λa h=>fh h,λes e=>by
  have rfl:=af ((cj σ₀.D db []).symm.trans e);apply#[List.nodup_nil,λk h=>nomatch h]⟩
def cJ {es:List (Key×V)}{k k':Key}{v:V}:(es++[(k,v)]).lookup k'=(es.lookup k').or (if k'=k then some v else none):=by
 induction es with
 |nil=>simp[List.lookup];split<;>simp_all
 |cons e r W =>
  have#[a,b]:=e;simp only[d4,List.lookup];split
  ·rfl
  ·show W
public abbrev kM (k:Key)(bs:List Key):List V:=(posOf k bs).map λj:Nat=>V.int j
def kL (k:Key)(bs:List Key)(b:Key):kM k (bs++[b])=kM k bs++if b=k then [.int bs.length] else []:=by
 unfold kM;rw[iD,gk]
 congr 1
 split<;>rfl
def B2J.step {σ₀ σ:St}{db c:Addr}{bs:List Key}(h:B2J σ₀ σ db bs)(hc:σ.L c=none)(b:Key):∃es,σ.D db=some es/\es.length<=bs.length /\
  ∃c',(es.lookup b).getD (.L c)=.L c'/\((σ.eh c []).ua db (if (es.lookup b).isSome then es else es++[(b,.L c)])).L c'=some (kM b bs) /\
   B2J σ₀ (((σ.eh c []).ua db (if (es.lookup b).isSome then es else es++[(b,.L c)])).eh c' (kM b bs++[.int bs.length])) db (bs++[b]):=by
 have#[es,hD,B,ai,J,z]:=h.tab;apply#[es,hD,B,?_];have aj:σ₀.L c=none:=by
  cases hq:σ₀.L c with
  |none=>rfl
  |some xs=>rw[h.old c xs hq]at hc;cases hc
 cases hb:es.lookup b with
 |some w =>
  have#[c1,rfl,ar,bn]:=J b w hb;have be:c1≠c:=λe=>by rw[e,hc]at ar;cases ar
  apply#[c1,rfl,?_,?_]
  ·show upd σ.L c [] c1=_;rw[fh be];show ar
  ·simp only[Option.isSome_some,zr];apply#[#[es,cj _ _ _,by simp;(show az .Q .a .A B),λk e=>?_,λk w e=>?_,z],λa xs e=>?_,h.I,h.S,λa ha=>?_,λbp W=>?_]
   ·have hk:b≠k:=λq=>by rw[<- q,hb]at e;cases e
    rw[iD,ai k e,aw hk];rfl
   ·have#[c2,rfl,O,ax]:=J k w e;apply#[c2,rfl,?_,ax];show upd (upd σ.L c []) c1 _ c2=some (kM k (bs++[b]));rw[kL];by_cases hk:b=k
    ·subst hk;rw[hb]at e;cases e;rw[cj,cf rfl]
    ·have bl:c2≠c1:=λq=>hk (z b k c1 hb (q▸e));have ag:c2≠c:=λq=>by rw[q,hc]at O;cases O
     rw[fh bl,fh ag,aw hk,dk];show O
   ·show upd (upd σ.L c []) c1 _ a=some xs;have h1:a≠c1:=λq=>by rw[q,bn]at e;cases e
    have h2:a≠c:=λq=>by rw[q,aj]at e;cases e
    rw[fh h1,fh h2];show h.old a xs e
   ·show upd σ.D db es a=_;rw[fh ha];show h.D a ha
   ·have rfl:=af ((cj σ.D db es).symm.trans W);have#[k1,k2]:=h.keys _ hD;apply#[k1,λk hk=>dj _ (k2 k hk)]
 |none =>
  have hp:posOf b bs=[]:=ai b hb;have bc:kM b bs=[]:=by unfold kM;rw[hp];rfl
  apply#[c,rfl,?_,?_]
  ·show upd σ.L c [] c=_;rw[cj,bc]
  ·simp only[yg,fu,mj];apply#[#[es++[(b,V.L c)],(show upd σ.D db (es++[(b,V.L c)]) db=_ from cj _ _ _),by simp;(show az .A .a .A B),λk e=>?_,λk w e=>?_,λk k' c2 e W=>?_],λa xs e=>?_,h.I,h.S,λa ha=>?_,λbp W=>?_]
   ·rw[cJ]at e;cases hk:es.lookup k with
    |some w=>rw[hk]at e;cases e
    |none =>
     rw[hk,gD]at e;have ao:b≠k:=λq=>by rw[cf q.symm]at e;cases e
     rw[iD,ai k hk,aw ao];rfl
   ·rw[cJ]at e;cases hk:es.lookup k with
    |some w' =>
     rw[hk,Option.some_or]at e;cases e;have#[c2,rfl,O,ax]:=J k _ hk;apply#[c2,rfl,?_,ax];show upd (upd σ.L c []) c _ c2=some (kM k (bs++[b]));have ag:c2≠c:=λq=>by rw[q,hc]at O;cases O
     have ao:b≠k:=λq=>by rw[<- q,hb]at hk;cases hk
     rw[fh ag,fh ag,kL,aw ao,dk];show O
    |none =>
     rw[hk,gD]at e;split at e
     ·rename_i q;cases e;subst q;apply#[c,rfl,?_,aj];show upd (upd σ.L c []) c _ c=some (kM k (bs++[k]));rw[cj,kL,cf rfl]
     ·cases e
   ·rw[cJ]at e W;have fresh:∀k2,es.lookup k2≠some (.L c):=λk2 e2=>by
     have#[c3,e3,ay,_]:=J k2 _ e2;cases e3;rw[hc]at ay;cases ay
    cases hk:es.lookup k with
    |some w =>
     rw[hk,Option.some_or]at e;cases e;cases U:es.lookup k' with
     |some w'=>rw[U,Option.some_or]at W;cases W;show z k k' c2 hk U
     |none =>
      rw[U,gD]at W;split at W
      ·cases W;show absurd hk (fresh k)
      ·cases W
    |none =>
     rw[hk,gD]at e;split at e
     ·rename_i q;cases e;cases U:es.lookup k' with
      |some w'=>rw[U,Option.some_or]at W;cases W;show absurd U (fresh k')
      |none =>
       rw[U,gD]at W;split at W
       ·rename_i q';rw[q,q']
       ·cases W
     ·cases e
   ·show upd (upd σ.L c []) c _ a=some xs;have h2:a≠c:=λq=>by rw[q,aj]at e;cases e
    rw[fh h2,fh h2];show h.old a xs e
   ·show upd σ.D db _ a=_;rw[fh ha];show h.D a ha
   ·have zz:=af ((cj σ.D db (es++[(b,V.L c)])).symm.trans W);clear W;have rfl:=zz;have#[k1,k2]:=h.keys _ hD;rw[gk];apply#[xB.mpr #[k1,by simp,λx hx y hy=>?_],λk hk=>?_]
    ·have rfl:=ah.mp hy;rintro rfl;have#[p,bd,rfl]:=ee.mp hx;rw[tj]at hb;have:=hb p bd;simp at this
    ·rcases dh.mp hk with hk|hk
     ·show dj _ (k2 k hk)
     ·show dp _ hk
end MP
end
section
set_option tactic.hygienic true
namespace MP
variable {i j k:Nat}{seen:Nat->Nat->Prop}
abbrev hit (as bs:List Key)(rm:Key->Bool)(i j:Nat):Bool:=match as[i]?,bs[j]? with
 |some a,some b=>decide (a=b)&&!rm a
 |_,_=>false
def yu {as bs:List Key}{rm:Key->Bool}:hit as bs rm i j=true↔∃c,as[i]?=some c/\bs[j]?=some c/\rm c=false:=by
 cases U:as[i]? with
 |none=>rw[show hit as bs rm i j=false by unfold hit;rw[U]];apply#[(λh=>nomatch h),λh=>by have#[c,W,_]:=h;cases W]
 |some a =>
  cases hb:bs[j]? with
  |none=>rw[show hit as bs rm i j=false by unfold hit;rw[U,hb]];apply#[(λh=>nomatch h),λh=>by have#[c,_,W,_]:=h;cases W]
  |some b =>
   rw[show hit as bs rm i j=(decide (a=b)&&!rm a) by unfold hit;rw[U,hb],fe,hZ,jl];apply#[λh=>?_,λh=>?_]
   ·have#[rfl,h]:=h;apply#[_,rfl,rfl,h]
   ·have#[c,W,O,h]:=h;have rfl:=af W;have rfl:=af O;apply#[rfl,h]
structure Run (as bs:List Key)(rm:Key->Bool)(alo ahi blo bhi i j k:Nat):Prop where
 ai:alo<=i
 ia:i+k<=ahi
 bj:blo<=j
 jb:j+k<=bhi
 eq:∀t,t<k->hit as bs rm (i+t) (j+t)=true
structure zZ (as bs:List Key)(rm:Key->Bool)(alo ahi blo bhi i j k:Nat):Prop where
 run:Run as bs rm alo ahi blo bhi i j k
 zero:k=0->i=alo/\j=blo
 max:∀i' j' k',0<k'->Run as bs rm alo ahi blo bhi i' j' k'->k'<k\/(k'=k/\(i<i'\/(i=i'/\j<=j')))
abbrev el (as bs:List Key)(rm:Key->Bool)(alo blo:Nat):Nat->Nat->Nat
 |i+1,j+1=>if alo<=i/\blo<=j/\hit as bs rm i j=true then el as bs rm alo blo i j+1 else 0
 |_,_=>0
section
variable {as bs:List Key}{rm:Key->Bool}{alo ahi blo bhi:Nat}
def tS:el as bs rm alo blo (i+1) (j+1)=if alo<=i/\blo<=j/\hit as bs rm i j=true then el as bs rm alo blo i j+1 else 0:=rfl
def HU:el as bs rm alo blo alo j=0:=by
 cases alo with
 |zero=>cases j<;>rfl
 |succ n =>
  cases j with
  |zero=>rfl
  |succ j =>
   rw[tS];rw[aw]
   (show λW=>(fj .ff .k (.k .M .A) W.1))
def tT:∀{i j:Nat},el as bs rm alo blo i j<=i/\el as bs rm alo blo i j<=j/\(0<el as bs rm alo blo i j->Run as bs rm alo i blo j (i-el as bs rm alo blo i j) (j-el as bs rm alo blo i j) (el as bs rm alo blo i j))
 |0,j=>#[bz _,bz _,λh=>absurd h (jq 0)]
 |i+1,0=>#[bz _,bz _,λh=>absurd h (jq 0)]
 |i+1,j+1=>by
  rw[tS];split
  ·rename_i c;have#[W,U,R]:=tT (i:=i) (j:=j);apply#[by show az .aI .a .A W,by show az .aI .a .A U,λ_=>?_];by_cases h0:0<el as bs rm alo blo i j
   ·have R:=R h0;generalize el as bs rm alo blo i j=m at *;apply#[?_,by show gz (.k .a4 .S) .a (.e .a4 .S) (aa (az .aI .a .A W)),?_,by show gz (.k .a4 .S) .a (.e .a4 .S) (aa (az .aI .a .A U)),λt I=>?_]
    ·have:=R.ai;(show uu .A .q .K .bT (.e (.a .B .Y) .a0) this (aa (az .A .a .A W)) (aa (az .aI .a .A W)))
    ·have:=R.bj;(show uu .A .q .K .bT (.e (.a .B .Y) .a0) this (aa (az .A .a .A U)) (aa (az .aI .a .A U)))
    ·by_cases hm:t<m
     ·have:=R.eq t hm;have J:i+1-(m+1)+t=i-m+t:=by(show um (.e .L .aC) .u (.e (.a .A .Y) .a0) .bT (aa (az .aI .a .A W)) (aa (az .A .a .A W)))
      have e2:j+1-(m+1)+t=j-m+t:=by(show um (.e .L .aC) .u (.e (.a .A .Y) .a0) .bT (aa (az .aI .a .A U)) (aa (az .A .a .A U)))
      rw[J,e2];show this
     ·have J:i+1-(m+1)+t=i:=by(show qt .X [[1,0,1,-1],[1,1,0,1]] (.l .B .Y) (.g .B .D) (.e (.a .A .Y) .S) I hm (aa (az .aI .a .A W)))
      have e2:j+1-(m+1)+t=j:=by(show lC .X .o (.e (.a .D .B) .F) (.e (.a .D .aA) .a0) (.e (.a .A .aA) .S) J (aa (az .aI .a .A W)) (aa (az .aI .a .A U)))
      rw[J,e2];show c.2.2
   ·have z:el as bs rm alo blo i j=0:=by(show fj .M .s (.g .O .A) h0)
    rw[z];apply#[by show fb .A .d .K (.e (.a .B .a1) .S) c.1 (aa (qg (.k .a1 .M) .i)),by show az (.k (.a .A .a1) .P) .a (.e (.a .A .a1) .P) (aa (qg (.k .a1 .M) .i)),by show fb .A .d .K (.e (.a .B .a1) .S) c.2.1 (aa (qg (.k .a1 .M) .i)),by show az (.k (.a .A .a1) .P) .a (.e (.a .A .a1) .P) (aa (qg (.k .a1 .M) .i)),λt I=>?_];have:t=0:=by(show fj .M .s (.l .A .a1) I)
    subst this;show c.2.2
  ·apply#[bz _,bz _,λh=>absurd h (jq 0)]
def HV:∀{i j i' j' k':Nat},i'+k'=i->j'+k'=j->Run as bs rm alo ahi blo bhi i' j' k'->k'<=el as bs rm alo blo i j
 |i,j,i',j',0,_,_,_=>bz _
 |i,j,i',j',k'+1,J,O,R=>by
  subst J;subst O;show _<=el as bs rm alo blo (i'+k'+1) (j'+k'+1);have:=R.ai;have:=R.bj;rw[tS];rw[cf #[by(rename_i W;show gz .c1 .a .A W),by show gz .c1 .a .A this,R.eq k' (qg (.l .A .M) .i)]];have:=HV (i:=i'+k') (j:=j'+k') (i':=i') (j':=j') (k':=k') rfl rfl #[R.ai,by have:=R.ia;(show gz .F .a .N this),R.bj,by have:=R.jb;(show gz .F .a .N this),λt U=>R.eq t (az .aC .a .B U)]
  (show az .aI .a .A this)
structure Scan (as bs:List Key)(rm:Key->Bool)(alo ahi blo bhi:Nat)(seen:Nat->Nat->Prop)(i j k:Nat):Prop where
 run:Run as bs rm alo ahi blo bhi i j k
 zero:k=0->i=alo/\j=blo
 at_:0<k->seen (i+k-1) (j+k-1)
 max:∀i' j',seen i' j'->0<el as bs rm alo blo (i'+1) (j'+1)->el as bs rm alo blo (i'+1) (j'+1)<k\/(el as bs rm alo blo (i'+1) (j'+1)=k/\(i<i'+1-k\/(i=i'+1-k/\j<=j'+1-k)))
def Scan.start (U:alo<=ahi)(hb:blo<=bhi):Scan as bs rm alo ahi blo bhi (λ_ _=>False) alo blo 0:=
 #[#[av _,U,av _,hb,λt W=>absurd W (pe _)],λ_=>#[rfl,rfl],λh=>absurd h (jq 0),λ_ _ h=>h.elim]
def Scan.skip {W:Nat->Nat->Prop}(h:Scan as bs rm alo ahi blo bhi seen i j k)(J:∀i' j',seen i' j'->W i' j')(O:∀i' j',W i' j'->seen i' j'\/el as bs rm alo blo (i'+1) (j'+1)=0\/el as bs rm alo blo (i'+1) (j'+1)<k\/(el as bs rm alo blo (i'+1) (j'+1)=k/\(i<i'+1-k\/(i=i'+1-k/\j<=j'+1-k)))):Scan as bs rm alo ahi blo bhi W i j k:=
 ⟨h.run,h.zero,λh0=>J _ _ (h.at_ h0),λi' j' U h0=>by
  rcases O i' j' U with q|q|q|q
  ·show h.max i' j' q h0
  ·(show .inl (jc .B .c .C .M h0 q))
  ·show .inl q
  ·show .inr q⟩
def Scan.take {W:Nat->Nat->Prop}{i j I J:Nat}(h:Scan as bs rm alo ahi blo bhi seen i j k)(hi:I<ahi)(hj:J<bhi)(hk:k<el as bs rm alo blo (I+1) (J+1))(h0:W I J)
  (hs:∀i' j',W i' j'->seen i' j'\/(i'=I/\j'=J)\/el as bs rm alo blo (i'+1) (j'+1)=0):Scan as bs rm alo ahi blo bhi W (I+1-el as bs rm alo blo (I+1) (J+1)) (J+1-el as bs rm alo blo (I+1) (J+1)) (el as bs rm alo blo (I+1) (J+1)):=by
 have#[h1,h2,R]:=tT (as:=as) (bs:=bs) (rm:=rm) (alo:=alo) (blo:=blo) (i:=I+1) (j:=J+1);have R:=R (az .C .a .U hk);apply#[#[R.ai,by show gp .F .b .aV (.e .L .Y) hi (aa (az .Q .a .Q h1)),R.bj,by show gp .F .b .aV (.e .L .Y) hj (aa (az .Q .a .Q h2)),R.eq],λh0=>by show#[(gp .D .p .a2 .aT hk h0),(gp .D .p .a2 .aT hk h0)],λ_=>?_,λi' j' ag h0=>?_]
 ·have e1:I+1-el as bs rm alo blo (I+1) (J+1)+el as bs rm alo blo (I+1) (J+1)-1=I:=by(rename_i z1;show Ar.sub _ _ (λz p1=>(gp .D [[1,-1,-1],[1,1,1]] (.e .M .R) (.e .R .P) (aa (az .bG .a .V z1)) p1)) λz p1=>(mU .D [[1,0,-1,1,0],[1,1,1,0,1]] .bA (.e .M .aI) (.k .P .C) .aT h1 (aa (az .bG .a .V z1)) z p1))
  have e2:J+1-el as bs rm alo blo (I+1) (J+1)+el as bs rm alo blo (I+1) (J+1)-1=J:=by(rename_i z1;show Ar.sub _ _ (λz p1=>(gp .D [[1,-1,-1],[1,1,1]] (.e .M .R) (.e .R .P) (aa (az .bG .a .V z1)) p1)) λz p1=>(mU .D [[1,0,-1,1,0],[1,1,1,0,1]] .bA (.e .M .aI) (.k .P .C) .aT h2 (aa (az .bG .a .V z1)) z p1))
  rw[e1,e2];show h0
 ·rcases hs i' j' ag with q|⟨rfl,rfl⟩|q
  ·have:=h.max i' j' q h0
   (rename_i z1;show .inl ((Ar.imp z1).elim (λz=>(fb .B .c .L (.g .O .B) hk z)) λz=>(this.elim (λq2=>(fb .B .b .L .G hk q2)) λq2=>(fb .B .b .L (.e .A .C) hk q2.1))))
  ·show .inr #[rfl,.inr #[rfl,av _]]
  ·(show .inl (jc .B .c .C .M h0 q))
def Scan.best {i j:Nat}(h:Scan as bs rm alo ahi blo bhi seen i j k)(hs:∀i' j',alo<=i'->i'<ahi->blo<=j'->j'<bhi->0<el as bs rm alo blo (i'+1) (j'+1)->seen i' j'):zZ as bs rm alo ahi blo bhi i j k:=by
 apply#[h.run,h.zero,λi' j' k' h0 R=>?_];have hm:=HV (i:=i'+k'-1+1) (j:=j'+k'-1+1) (gz (.e .L .S) .g (.e .S .L) (aa (az .bG .a .V h0))) (gz (.e .L .S) .g (.e .S .L) (aa (az .bG .a .V h0))) R;have:=h.max (i'+k'-1) (j'+k'-1) (hs _ _ (by have:=R.ai;(show qt .A .q .a5 .a9 (.e .P .aI) h0 this (aa (az .bG .a .V h0)))) (by have:=R.ia;(show gp .B .b .aM (.e .M .R) this (aa (az .bG .a .V h0)))) (by have:=R.bj;(show qt .A .q .a5 .a9 (.e .P .aI) h0 this (aa (az .bG .a .V h0)))) (by have:=R.jb;(show gp .B .b .aM (.e .M .R) this (aa (az .bG .a .V h0)))) (jc .C .b .V .Y h0 hm)) (jc .C .b .V .Y h0 hm);generalize el as bs rm alo blo (i'+k'-1+1) (j'+k'-1+1)=e at *;rcases my k' k with c|c
 ·show .inl c
 ·rcases this with q|⟨q,q'⟩
  ·show absurd (iq q c) (ru.mpr hm)
  ·have I:k'=k:=Nat.le_antisymm (q▸hm) c;have s1:i'+k'-1+1-k=i':=by(show Ar.sub _ _ (λz J=>(Ar.sub _ _ (λO W=>(uu .D [[1,-1,-1,-1],[1,1,1,1]] .bQ (.e .Z .a0) (.e .a0 .Q) I J W)) λO W=>(IT .D [[1,0,-1,-1,1,0],[1,1,1,1,0,1]] .a5 .bQ (.e .Z .a0) (.k .Q .U) .b2 h0 I J O W))) λz J=>(Ar.sub _ _ (λO W=>(zR .D [[1,-1,1,0,-1],[1,0,0,1,0]] .bQ (.k .a0 .D) .M (.e .a0 .Q) I z J W)) λO W=>(sd .D .h .a5 .M (.k .Q .U) h0 J O)))
   have s2:j'+k'-1+1-k=j':=by(show Ar.sub _ _ (λz J=>(Ar.sub _ _ (λO W=>(uu .D [[1,-1,-1,-1],[1,1,1,1]] .bQ (.e .Z .a0) (.e .a0 .Q) I J W)) λO W=>(IT .D [[1,0,-1,-1,1,0],[1,1,1,1,0,1]] .a5 .bQ (.e .Z .a0) (.k .Q .U) .b2 h0 I J O W))) λz J=>(Ar.sub _ _ (λO W=>(zR .D [[1,-1,1,0,-1],[1,0,0,1,0]] .bQ (.k .a0 .D) .M (.e .a0 .Q) I z J W)) λO W=>(sd .D .h .a5 .M (.k .Q .U) h0 J O)))
   rw[s1,s2]at q';show .inr #[I,q']
abbrev dH (as bs:List Key)(ok:Key->Bool)(alo blo:Nat):Nat->Nat->Nat->Nat×Nat×Nat
 |i+1,j+1,k=>if alo<i+1/\blo<j+1/\hit as bs (λc=>!ok c) i j=true then dH as bs ok alo blo i j (k+1) else (i+1,j+1,k)
 |i,j,k=>(i,j,k)
abbrev iK (as bs:List Key)(ok:Key->Bool)(ahi bhi:Nat):Nat->Nat->Nat->Nat->Nat
 |0,_,_,k=>k
 |n+1,i,j,k=>if i+k<ahi/\j+k<bhi/\hit as bs (λc=>!ok c) (i+k) (j+k)=true then iK as bs ok ahi bhi n i j (k+1) else k
def fS {ok:Key->Bool}:dH as bs ok alo blo (i+1) (j+1) k=if alo<i+1/\blo<j+1/\hit as bs (λc=>!ok c) i j=true then dH as bs ok alo blo i j (k+1) else (i+1,j+1,k):=rfl
def cV {ok:Key->Bool}{n:Nat}:iK as bs ok ahi bhi (n+1) i j k=if i+k<ahi/\j+k<bhi/\hit as bs (λc=>!ok c) (i+k) (j+k)=true then iK as bs ok ahi bhi n i j (k+1) else k:=rfl
abbrev grow (as bs:List Key)(js:Key->Bool)(alo ahi blo bhi i j k:Nat):Nat×Nat×Nat:=
 let p:=dH as bs (λc=>!js c) alo blo i j k
 let q:=iK as bs (λc=>!js c) ahi bhi (ahi-p.1) p.1 p.2.1 p.2.2
 let r:=dH as bs js alo blo p.1 p.2.1 q
 (r.1,r.2.1,iK as bs js ahi bhi (ahi-r.1) r.1 r.2.1 r.2.2)
end
end MP
end
section
namespace MP
open PySem
variable {σ σ₁:St}{c db:Addr}{k k':Key}{bs:List Key}{es:List (Key×V)}
structure Kp (σ σ':St):Prop where
 L:∀a xs,σ.L a=some xs->σ'.L a=some xs
 D:∀a es,σ.D a=some es->σ'.D a=some es
 S:σ'.S=σ.S
 I:σ'.I=σ.I
def Kp.refl (σ:St):Kp σ σ:=#[λ_ _ e=>e,λ_ _ e=>e,rfl,rfl]
def Kp.trans {σ₂:St}(h:Kp σ σ₁)(h':Kp σ₁ σ₂):Kp σ σ₂:=#[λa xs e=>h'.L a xs (h.L a xs e),λa xs e=>h'.D a xs (h.D a xs e),h'.S.trans h.S,h'.I.trans h.I]
def Kp.noL (h:Kp σ σ₁)(hc:σ₁.L c=none):σ.L c=none:=by
 cases q:σ.L c with
 |none=>rfl
 |some xs=>rw[h.L _ _ q]at hc;cases hc
def Kp.noD (h:Kp σ σ₁)(hc:σ₁.D c=none):σ.D c=none:=by
 cases q:σ.D c with
 |none=>rfl
 |some xs=>rw[h.D _ _ q]at hc;cases hc
def Kp.eh (h:Kp σ σ₁){xs:List V}(hc:σ.L c=none):Kp σ (σ₁.eh c xs):=⟨λa ys e=>by
 have:a≠c:=λq=>by rw[q,hc]at e;cases e
 show upd σ₁.L c xs a=_;rw[fh this];show h.L a ys e,h.D,h.S,h.I⟩
def Kp.ua (h:Kp σ σ₁){xs:List (Key×V)}(hc:σ.D c=none):Kp σ (σ₁.ua c xs):=⟨h.L,λa ys e=>by
 have:a≠c:=λq=>by rw[q,hc]at e;cases e
 show upd σ₁.D c xs a=_;rw[fh this];show h.D a ys e,h.S,h.I⟩
abbrev td:Key->Prop
 |.int _=>True
 |.str s=>PyData.strOk s=true
def EB {K:Bool->Prop}(h:td k)(h':td k')(q:K (decide (k=k'))):uO k.v k'.v σ K:=by
 cases k with
 |int a =>
  cases k' with
  |int b =>
   show K (a==b);have:(a==b)=decide (Key.int a=Key.int b):=by
    by_cases e:a=b
    ·simp[e]
    ·simp[e]
   rw[this];show q
  |str b =>
   apply#[.int a,.str b,rfl,?_,?_]
   ·show(if PyData.strOk b then some (PyData.str b) else none)=_;rw[cf (show PyData.strOk b=true from h')]
   ·have:PyData.eqv (.int a) (.str b)=decide (Key.int a=Key.str b):=by simp[PyData.eqv]
    rw[this];show q
 |str a =>
  cases k' with
  |int b =>
   apply#[.str a,.int b,?_,rfl,?_]
   ·show(if PyData.strOk a then some (PyData.str a) else none)=_;rw[cf (show PyData.strOk a=true from h)]
   ·have:PyData.eqv (.str a) (.int b)=decide (Key.str a=Key.int b):=by simp[PyData.eqv]
    rw[this];show q
  |str b =>
   show K (a==b);have:(a==b)=decide (Key.str a=Key.str b):=by
    by_cases e:a=b
    ·simp[e]
    ·simp[e]
   rw[this];show q
def rA {K:Bool->Prop}(h:td k)(h':td k')(q:K (decide (k=k'))):nH .eq k.v k'.v σ K:=EB h h' q
def CV {j:Nat}:j∈posOf k bs↔bs[j]?=some k:=by
 unfold posOf;rw[List.mem_filter,zu,hZ];apply#[λh=>h.2,λh=>#[(cu.mp h).1,h]]
def GI:(posOf k bs).Pairwise (·<·):=List.Pairwise.filter _ lJ
def CW:(posOf k bs).length<=bs.length:=by
 have:=List.length_filter_le (λj=>decide (bs[j]?=some k)) (List.range bs.length)
 rwa [nc]at this
abbrev TabAt (σ:St)(db:Addr)(bs:List Key)(rm:Key->Bool):Prop:=∃es,σ.D db=some es /\
 (∀k,rm k=true->es.lookup k=none)/\∀k,rm k=false->(es.lookup k=none/\posOf k bs=[])\/∃c,es.lookup k=some (.L c)/\σ.L c=some (kM k bs)
def TabAt.keep {σ':St}{rm:Key->Bool}(h:TabAt σ db bs rm)(k:Kp σ σ'):TabAt σ' db bs rm:=by
 have#[es,I,J,O]:=h;apply#[es,k.D _ _ I,J,λq U=>(O q U).imp_right λW=>by have#[c,z,B]:=W;apply#[c,z,k.L _ _ B]]
def TabAt.get {nl:Addr}{rm:Key->Bool}(h:TabAt σ db bs rm)(hn:σ.L nl=some [])(k:Key) :
  ∃es c,σ.D db=some es/\(es.lookup k).getD (.L nl)=.L c/\σ.L c=some ((if rm k then [] else posOf k bs).map λj:Nat=>V.int j):=by
 have#[es,W,I,J]:=h;cases hr:rm k with
 |true=>refine#[es,nl,W,by rw[I k hr];rfl,hn]
 |false =>
  rcases J k hr with ⟨O,U⟩|⟨c,O,U⟩
  ·apply#[es,nl,W,by rw[O];rfl,by rw[U];show hn]
  ·apply#[es,c,W,by rw[O];rfl,U]
def B2J.tabAt {σ₀:St}(h:B2J σ₀ σ db bs):TabAt σ db bs λ_=>false:=by
 have#[es,O,_,U,W,_]:=h.tab;apply#[es,O,λk e=>Bool.noConfusion e,λk _=>?_];cases hk:es.lookup k with
 |none=>show .inl #[rfl,U k hk]
 |some w =>
  have#[c,rfl,e,_]:=W k w hk;show .inr #[c,rfl,e]
def pQ:es.any (λe=>e.1==k)=(es.lookup k).isSome:=by
 induction es with
 |nil=>rfl
 |cons e r W =>
  have#[a,b]:=e;simp only[List.any_cons,List.lookup,W];by_cases h:k=a
  ·subst h;simp
  ·rw[ya (fF h),ya h];rfl
def GH {v:V}:(putD es k v).length<=es.length+1:=by
 unfold putD;split<;>simp
def yB {v:V}:(putD es k v).lookup k'=if k'=k then some v else es.lookup k':=by
 unfold putD;split
 ·rename_i h;rw[pQ]at h;induction es with
  |nil=>cases h
  |cons e r U =>
   have#[a,b]:=e;simp only[mr,List.lookup]at h ⊢;by_cases hk:a=k
   ·subst hk;rw[cf rfl];by_cases W:k'=a
    ·subst W;simp
    ·rw[aw W];have J:(k'==a)=false:=ya W;simp only[List.lookup,J];clear U h;induction r with
     |nil=>rfl
     |cons e r U =>
      have#[I,z]:=e;simp only[mr,List.lookup];by_cases O:I=a
      ·subst O;rw[cf rfl];simp only[List.lookup,J];show U
      ·rw[aw O];simp only[List.lookup];cases k'==I with
       |true=>rfl
       |false=>show U
   ·rw[aw hk];have B:(k==a)=false:=ya (fF hk);rw[B]at h;simp only[List.lookup];by_cases W:k'=a
    ·subst W;rw[aw hk];simp
    ·rw[ya W];show U h
 ·rename_i h;rw[pQ]at h;rw[cJ];by_cases W:k'=k
  ·skip
   subst W;cases q:es.lookup k' with
   |none=>simp
   |some w=>rw[q]at h;show absurd rfl h
  ·simp[W]
end MP
end
section
set_option backward.match.sparseCases false
namespace MP
open PySem
variable {v a:V}{α:Type}{σ:St}
def rQ (h:isNone v=true):v=.none:=by
 cases v<;>first|rfl|show Bool.noConfusion h
def nO {P:Prop}{x:α}(h:none=some x):P:=nomatch h
def oj {W:Type}{o:Option α}{f:α->Option W}{b:W}(h:o.bind f=some b):∃a,o=some a/\f a=some b:=fx.mp h
def omap {W:Type}{o:Option α}{f:α->W}{b:W}(h:o.map f=some b):∃a,o=some a/\f a=b:=gj.mp h
abbrev w8 (a b:V):Option (Int×Int):=(vInt a).bind λi=>(vInt b).map λj=>(i,j)
def eC {b:V}{p:Int×Int}(h:w8 a b=some p):a=.int p.1/\b=.int p.2:=by
 have#[i,e,h]:=oj h;have#[j,W,rfl]:=omap h;apply#[tw e,tw W]
abbrev qd {α:Type}(c:Prop)[Decidable c](x:α):Option α:=if c then some x else none
def xj {c:Prop}[Decidable c]{x y:α}(h:qd c x=some y):c/\x=y:=by
 unfold qd at h;by_cases q:c
 ·rw[cf q]at h;apply#[q,af h]
 ·rw[aw q]at h;cases h
abbrev fT (op:Bop)(a b:V):Option V:=(w8 a b).bind λp=>match op with
 |.add=>some (.int (p.1+p.2))
 |.sub=>some (.int (p.1-p.2))
 |.mul=>qd (p.1.natAbs<2^60\/p.2.natAbs<2^60) (.int (p.1*p.2))
 |.fdiv=>qd (0<p.2/\p.2.natAbs<2^60) (.int (p.1/p.2))
 |.mod=>qd (0<p.2) (.int (p.1%p.2))
 |.pow=>qd (0<=p.2/\p.2<=1000/\p.1.natAbs<2^64) (.int (p.1^p.2.toNat))
def wG {op:Bop}{b:V}{Q:V->St->Prop}(h:fT op a b=some v)(q:Q v σ):lN op a b σ Q:=by
 have#[#[i,j],e,h]:=oj h;have#[rfl,rfl]:=eC e;clear e;cases op with
 |add=>cases h;show q
 |sub=>cases h;show q
 |mul=>have#[c,rfl]:=xj h;apply#[c,q]
 |fdiv =>
  have#[c,rfl]:=xj h;have c:0<j/\j.natAbs<2^60:=c;apply#[(by(rename_i W U;show pz (.iu .A .O) .a .bJ W.1):j≠0),c.2,?_];rw[Int.fdiv_eq_ediv_of_nonneg _ (by show 0<=j;(rename_i W U;show pz .a6 .a .bJ W.1))];show q
 |mod =>
  have#[c,rfl]:=xj h;have c:0<j:=c;apply#[(by(rename_i W U;show pz (.iu .A .O) .a .bJ W):j≠0),?_];rw[Int.fmod_eq_emod_of_nonneg _ (by show 0<=j;(rename_i W U;show pz .a6 .a .bJ W))];show q
 |pow=>have#[c,rfl]:=xj h;apply#[c.1,c.2.1,c.2.2,q]
abbrev yX (σ:St):V->Option Bool
 |.none=>some false
 |.bool b=>some b
 |.int i=>some (i != 0)
 |.L a=>(σ.L a).map λxs=>!xs.isEmpty
 |.clo _ _=>some true
 |_=>none
def jJ:∀(v:V) {b:Bool} {K:Bool->Prop},yX σ v=some b->K b->vn v σ K:=by
 intro v b K h q;cases v
 case none=>have rfl:=af h;show q
 case bool=>have rfl:=af h;show q
 case int=>have rfl:=af h;show q
 case L=>have#[xs,e,rfl]:=omap h;apply#[xs,e,q]
 case clo=>have rfl:=af h;show q
 all_goals show nO h
abbrev eQ (σ:St)(op:Cop)(a b:V):Option Bool:=match op with
 |.eq=>(vInt a).elim ((vStr a).bind λx=>(vStr b).map λy=>x==y) λi=>(vInt b).map λj=>decide (i=j)
 |.ne=>(vInt a).elim ((vStr a).bind λx=>(vStr b).map λy=>!(x==y)) λi=>(vInt b).map λj=>decide (i≠j)
 |.lt=>(w8 a b).map λp=>decide (p.1<p.2)
 |.le=>(w8 a b).map λp=>decide (p.1<=p.2)
 |.gt=>(w8 a b).map λp=>decide (p.2<p.1)
 |.ge=>(w8 a b).map λp=>decide (p.2<=p.1)
 |.is=>qd (isNone b=true) (isNone a)
 |.isNot=>qd (isNone b=true) (!(isNone a))
 |_=>none
def deq (x y:Int):(x==y)=decide (x=y):=by
 by_cases e:x=y
 ·simp[e]
 ·simp[e]
def dne (x y:Int):(!(x==y))=decide (x≠y):=by rw[deq];by_cases e:x=y<;>simp[e]
def wF {op:Cop}{b:V}{r:Bool}{K:Bool->Prop}(h:eQ σ op a b=some r)(q:K r):nH op a b σ K:=by
 have W:∀{a:V} {K:Bool->Prop},K (isNone a)->J4 a .none σ K:=λ{a K} q=>q;cases op with
 |eq =>
  cases e:vInt a with
  |some i =>
   have rfl:=tw e;have#[j,J,rfl]:=omap h;have rfl:=tw J;show K (i==j);rw[deq];show q
  |none =>
   unfold eQ at h;rw[e]at h;have#[x,O,h]:=oj h;have#[y,U,rfl]:=omap h;have rfl:=gH O;have rfl:=gH U;show q
 |ne =>
  cases e:vInt a with
  |some i =>
   have rfl:=tw e;have#[j,J,rfl]:=omap h;have rfl:=tw J;show K (!(i==j));rw[dne];show q
  |none =>
   unfold eQ at h;rw[e]at h;have#[x,O,h]:=oj h;have#[y,U,rfl]:=omap h;have rfl:=gH O;have rfl:=gH U;show q
 |lt=>have#[p,e,rfl]:=omap h;have#[rfl,rfl]:=eC e;show q
 |le=>have#[p,e,rfl]:=omap h;have#[rfl,rfl]:=eC e;show q
 |gt=>have#[p,e,rfl]:=omap h;have#[rfl,rfl]:=eC e;show q
 |ge=>have#[p,e,rfl]:=omap h;have#[rfl,rfl]:=eC e;show q
 |is=>have#[c,rfl]:=xj h;have rfl:=rQ c;show W q
 |isNot=>have#[c,rfl]:=xj h;have rfl:=rQ c;show W (K:=λr=>K (!r)) q
 |isIn=>cases h
 |notIn=>cases h
def ifO {c:Prop}[Decidable c]{x:Option α}{y:α}(h:(if c then x else none)=some y):c/\x=some y:=by
 by_cases q:c
 ·rw[cf q]at h;apply#[q,h]
 ·rw[aw q]at h;cases h
abbrev oX (xs:List V)(i:Int):Option V:=if 0<=jj xs.length i then xs[(jj xs.length i).toNat]? else none
abbrev wC (σ:St)(a i:V):Option V:=(vInt i).bind λi=>match mL a with
 |some a=>(σ.L a).bind λxs=>oX xs i
 |none=>(NP a).bind λxs=>if i.natAbs<2^60 then oX xs i else none
def wB {i:V}{K:V->Prop}(h0:wC σ a i=some v)(q:K v):qZ a i σ K:=by
 have#[j,e,h]:=oj h0;clear h0;have e:=tw e;subst e;cases e:mL a with
 |some b =>
  rw[e]at h;have e:=j3 e;subst e;have#[xs,e,h]:=oj (o:=σ.L b) h;have#[c,h]:=ifO h;apply#[xs,v,e,c,h,q]
 |none =>
  rw[e]at h;have#[xs,e,h]:=oj (o:=NP a) h;have e:=JB e;subst e;have#[c,h]:=ifO h;have#[c2,h]:=ifO h;apply#[v,c,c2,h,q]
abbrev HS (σ:St)(k:BF)(vs:List V):Option V:=match k with
 |.len=>match vs with
  | [v]=>(mL v).elim ((JD v).bind λa=>(σ.D a).map λxs=>.int xs.length) λa=>(σ.L a).map λxs=>.int xs.length
  |_=>none
 |_=>none
def LV (k:BF)(vs:List V){Q:V->St->Prop}(h:HS σ k vs=some v)(q:Q v σ):C6 k vs σ Q:=by
 cases vs with
 |nil=>cases k<;>show nO h
 |cons u r =>
  cases k
  case len =>
   cases r with
   |cons=>show nO h
   |nil =>
    cases e:mL u with
    |some a =>
     have rfl:=j3 e;have#[xs,e,rfl]:=omap h;apply#[xs,e,q]
    |none =>
     have h:(mL u).elim ((JD u).bind λa=>(σ.D a).map λxs=>V.int xs.length) (λa=>(σ.L a).map λxs=>.int xs.length)=some v:=h;rw[e]at h;have#[a,I,h]:=oj (o:=JD u) h;have rfl:=JC I;have J:=omap h;clear h;have#[xs,e,rfl]:=J;apply#[xs,e,q]
  case set=>show nO h
  case sorted=>show nO h
  all_goals cases r with
  |nil=>show nO h
  |cons w r =>
   cases r with
   |cons=>show nO h
   |nil =>
    first
    |(have#[p,e,rfl]:=omap (o:=w8 u w) h;have#[rfl,rfl]:=eC e;show q)
    |(have#[#[i,j],e,h]:=oj (o:=w8 u w) h;have#[rfl,rfl]:=eC e;have#[c,rfl]:=xj h;have c:0<j/\j.natAbs<2^60:=c;apply⟨(by(rename_i W U;show pz (.iu .A .O) .a .bJ W.1):j≠0),c.2,?_⟩;rw[Int.fdiv_eq_ediv_of_nonneg _ (by show 0<=j;(rename_i W U;show pz .a6 .a .bJ W.1)),Int.fmod_eq_emod_of_nonneg _ (by show 0<=j;(rename_i W U;show pz .a6 .a .bJ W.1))];show q)
mutual
noncomputable def evV (σ:St)(ρ:Fr):Ex->Option V
 |.none=>some .none
 |.bool b=>some (.bool b)
 |.int i=>some (.int i)
 |.str s=>some (.str s)
 |.l x=>ρ x
 |.b op a b=>(evV σ ρ a).bind λva=>(evV σ ρ b).bind λvb=>fT op va vb
 |.neg a=>(evV σ ρ a).bind λv=>(vInt v).map λi=>.int (-i)
 |.not a=>(evV σ ρ a).bind λv=>(yX σ v).map λb=>.bool !b
 |.c op a b=>(evV σ ρ a).bind λva=>(evV σ ρ b).bind λvb=>(eQ σ op va vb).map .bool
 |.I c a b=>(evT σ ρ c).bind λt=>if t then evV σ ρ a else evV σ ρ b
 |.T es=>(oW σ ρ es).bind λvs=>if vs.length<=ba then some (.T vs) else none
 |.attr e x=>(evV σ ρ e).bind λv=>(NS v).bind λa=>(σ.I a).bind λp=>p.2 x
 |.sub e i=>(evV σ ρ e).bind λv=>(evV σ ρ i).bind λj=>wC σ v j
 |.bf k es=>(oW σ ρ es).bind λvs=>HS σ k vs
 |_=>none
noncomputable def oW (σ:St)(ρ:Fr):Exs->Option (List V)
 |.nil=>some []
 |.cons e es=>(evV σ ρ e).bind λv=>(oW σ ρ es).map λvs=>v::vs
noncomputable def evT (σ:St)(ρ:Fr):Ex->Option Bool
 |.not a=>(evT σ ρ a).map λb=>!b
 |.and a b=>(evT σ ρ a).bind λt=>if t then evT σ ρ b else some false
 |.or a b=>(evT σ ρ a).bind λt=>if t then some true else evT σ ρ b
 |.c op a b=>(evV σ ρ a).bind λva=>(evV σ ρ b).bind λvb=>eQ σ op va vb
 |.I c a b=>(evT σ ρ c).bind λt=>if t then evT σ ρ a else evT σ ρ b
 |.l x=>(ρ x).bind λv=>yX σ v
 |.int i=>some (i != 0)
 |.bool b=>some b
 |.attr e x=>(evV σ ρ e).bind λv=>(NS v).bind λa=>(σ.I a).bind λp=>(p.2 x).bind λu=>yX σ u
 |.sub e i=>(evV σ ρ e).bind λv=>(evV σ ρ i).bind λj=>(wC σ v j).bind λr=>yX σ r
 |.b op a b=>(evV σ ρ a).bind λva=>(evV σ ρ b).bind λvb=>(fT op va vb).bind λr=>yX σ r
 |_=>none
end
section
variable {i j:Int}
variable {σ:St}{ρ:Fr}{e a b c:Ex}{es:Exs}
@[simp] theorem RD:evV σ ρ .none=some .none:=rfl
@[simp] theorem RE {x:Bool}:evV σ ρ (.bool x)=some (.bool x):=rfl
@[simp] theorem SQ:evV σ ρ (.int i)=some (.int i):=rfl
@[simp] theorem uz {x:Nat}:evV σ ρ (.l x)=ρ x:=rfl
@[simp] theorem xr {op:Bop}:evV σ ρ (.b op a b)=(evV σ ρ a).bind λU=>(evV σ ρ b).bind λW=>fT op U W:=rfl
@[simp] theorem BE:evV σ ρ (.neg a)=(evV σ ρ a).bind λv=>(vInt v).map λi=>.int (-i):=rfl
@[simp] theorem SR {op:Cop}:evV σ ρ (.c op a b)=(evV σ ρ a).bind λU=>(evV σ ρ b).bind λW=>(eQ σ op U W).map .bool:=rfl
@[simp] theorem eD:evV σ ρ (.T es)=(oW σ ρ es).bind λvs=>if vs.length<=ba then some (.T vs) else none:=rfl
@[simp] theorem LP {i:Ex}:evV σ ρ (.sub e i)=(evV σ ρ e).bind λv=>(evV σ ρ i).bind λj=>wC σ v j:=rfl
@[simp] theorem PJ {k:BF}:evV σ ρ (.bf k es)=(oW σ ρ es).bind λvs=>HS σ k vs:=rfl
@[simp] theorem wA:oW σ ρ .nil=some []:=rfl
@[simp] theorem iz:oW σ ρ (.cons e es)=(evV σ ρ e).bind λv=>(oW σ ρ es).map λvs=>v::vs:=rfl
@[simp] theorem LR:evT σ ρ (.not a)=(evT σ ρ a).map λb=>!b:=rfl
@[simp] theorem nB:evT σ ρ (.and a b)=(evT σ ρ a).bind λt=>if t then evT σ ρ b else some false:=rfl
@[simp] theorem PK:evT σ ρ (.or a b)=(evT σ ρ a).bind λt=>if t then some true else evT σ ρ b:=rfl
@[simp] theorem nA {op:Cop}:evT σ ρ (.c op a b)=(evV σ ρ a).bind λU=>(evV σ ρ b).bind λW=>eQ σ op U W:=rfl
@[simp] theorem BG {x:Nat}:evT σ ρ (.l x)=(ρ x).bind λv=>yX σ v:=rfl
@[simp] theorem QB:vInt (.int i)=some i:=rfl
@[simp] theorem Q8:fT .add (.int i) (.int j)=some (.int (i+j)):=rfl
@[simp] theorem Q5:fT .sub (.int i) (.int j)=some (.int (i-j)):=rfl
@[simp] theorem Q6:fT .mul (.int i) (.int j)=qd (i.natAbs<2^60\/j.natAbs<2^60) (.int (i*j)):=rfl
@[simp] theorem PL:fT .fdiv (.int i) (.int j)=qd (0<j/\j.natAbs<2^60) (.int (i/j)):=rfl
@[simp] theorem Q7:fT .mod (.int i) (.int j)=qd (0<j) (.int (i%j)):=rfl
@[simp] theorem HR {l:Addr}:HS σ .len [.L l]=(σ.L l).map λxs=>.int xs.length:=rfl
@[simp] theorem RF:eQ σ .lt (.int i) (.int j)=some (decide (i<j)):=rfl
@[simp] theorem RH:eQ σ .le (.int i) (.int j)=some (decide (i<=j)):=rfl
@[simp] theorem RJ:eQ σ .gt (.int i) (.int j)=some (decide (j<i)):=rfl
@[simp] theorem RL:eQ σ .ge (.int i) (.int j)=some (decide (j<=i)):=rfl
@[simp] theorem RM:eQ σ .eq (.int i) (.int j)=some (decide (i=j)):=rfl
end
section
variable {x:Nat}{e:Ex}
variable {C:Cal}{σ:St}{ρ:Fr}
mutual
theorem kj:∀(e:Ex) {v:V} {Q:V->St->Prop},evV σ ρ e=some v->Q v σ->wpE C e ρ σ Q
 |.none=>λh q=>by cases (h:some _=some _);show q
 |.bool b=>λh q=>by cases (h:some _=some _);show q
 |.int b=>λh q=>by cases (h:some _=some _);show q
 |.str b=>λh q=>by cases (h:some _=some _);show q
 |.l x=>λh q=>#[_,h,q]
 |.b op a b=>λh q=>by
  have#[O,W,h]:=oj h;have#[J,U,h]:=fx.mp h;show kj a W (kj b U (wG h q))
 |.neg a=>λh q=>by
  have#[O,W,h]:=oj h;apply kj a W ?_;have#[i,U,rfl]:=omap h;apply#[i,tw U,q]
 |.not a=>λh q=>by
  have#[O,W,h]:=oj h;have#[b,U,rfl]:=gj.mp h;show kj a W (jJ _ U q)
 |.c op a b=>λh q=>by
  have#[O,W,h]:=oj h;have#[J,U,h]:=fx.mp h;have#[r,I,rfl]:=gj.mp h;show kj a W (kj b U (wF I q))
 |.I c a b=>λh q=>by
  have#[t,W,h]:=oj h;apply zm c W ?_;cases t with
  |true=>show gW (kj a h q)
  |false=>show fA (kj b h q)
 |.T es=>λh q=>by
  have#[vs,W,h]:=oj h;have#[c,h]:=ifO h;cases h;show gP es W #[c,q]
 |.attr e x=>λh q=>by
  have#[O,W,h]:=oj h;apply kj e W ?_;have#[a,B,h]:=oj h;have#[#[d,f],U,h]:=oj h;apply#[a,d,f,_,A5 B,U,h,q]
 |.sub e i=>λh q=>by
  have#[O,W,h]:=oj h;have#[J,U,h]:=fx.mp h;show kj e W (kj i U (wB h q))
 |.bf k es=>λh q=>by
  have#[vs,W,h]:=oj h;show gP es W (LV _ _ h q)
 |.and ..=>λh q=>nO h
 |.or ..=>λh q=>nO h
 |.L ..=>λh q=>nO h
 |.dct0=>λh q=>nO h
 |.call ..=>λh q=>nO h
 |.meth ..=>λh q=>nO h
 |.g ..=>λh q=>nO h
 |.h ..=>λh q=>nO h
 |.bm ..=>λh q=>nO h
 |.w ..=>λh q=>nO h
 |.slc ..=>λh q=>nO h
 |.K ..=>λh q=>nO h
 |.scomp ..=>λh q=>nO h
 |.join ..=>λh q=>nO h
 |.bx ..=>λh q=>nO h
 |.lrng ..=>λh q=>nO h
 |.n ..=>λh q=>nO h
 |.N ..=>λh q=>nO h
 |.M ..=>λh q=>nO h
 |.dead=>λh q=>nO h
theorem gP:∀(es:Exs) {vs:List V} {Q:List V->St->Prop},oW σ ρ es=some vs->Q vs σ->vo C es ρ σ Q
 |.nil,vs,Q,h,q=>by cases (h:some _=some vs);show q
 |.cons e es,vs,Q,h,q=>by
  have#[v,O,h]:=oj h;have W:=gj.mp h;clear h;have#[us,U,rfl]:=W;show kj e O (gP es U q)
theorem zm:∀(e:Ex) {b:Bool} {Q:Bool->St->Prop},evT σ ρ e=some b->Q b σ->wpT C e ρ σ Q
 |.not a=>λh q=>by
  have#[b,U,rfl]:=omap h;show zm a U q
 |.and a b=>λh q=>by
  have#[t,W,h]:=oj h;apply zm a W ?_;cases t with
  |true=>show gW (zm b h q)
  |false=>cases h;show fA q
 |.or a b=>λh q=>by
  have#[t,W,h]:=oj h;apply zm a W ?_;cases t with
  |true=>cases h;show gW q
  |false=>show fA (zm b h q)
 |.c op a b=>λh q=>by
  have#[J,W,h]:=oj h;have#[I,U,h]:=fx.mp h;show kj a W (kj b U (wF h q))
 |.I c a b=>λh q=>by
  have#[t,W,h]:=oj h;apply zm c W ?_;cases t with
  |true=>show gW (zm a h q)
  |false=>show fA (zm b h q)
 |.l x=>λh q=>by
  have#[u,W,h]:=oj h;apply#[u,W,jJ _ h q]
 |.int i=>λh q=>by cases (h:some _=some _);show q
 |.bool i=>λh q=>by cases (h:some _=some _);show q
 |.attr e x=>λh q=>by
  have#[J,W,h]:=oj h;apply kj e W ?_;have#[a,B,h]:=oj h;have#[#[d,f],U,h]:=oj h;have#[u,O,h]:=oj h;apply#[a,d,f,u,A5 B,U,O,jJ _ h q]
 |.sub e i=>λh q=>by
  have#[J,W,h]:=oj h;have#[I,U,h]:=fx.mp h;have#[u,O,h]:=fx.mp h;show kj e W (kj i U (wB O (jJ _ h q)))
 |.b op a b=>λh q=>by
  have#[J,W,h]:=oj h;have#[I,U,h]:=fx.mp h;have#[u,O,h]:=fx.mp h;show kj a W (kj b U (wG O (jJ _ h q)))
 |.none=>λh q=>nO h
 |.str ..=>λh q=>nO h
 |.neg ..=>λh q=>nO h
 |.T ..=>λh q=>nO h
 |.bf ..=>λh q=>nO h
 |.L ..=>λh q=>nO h
 |.dct0=>λh q=>nO h
 |.call ..=>λh q=>nO h
 |.meth ..=>λh q=>nO h
 |.g ..=>λh q=>nO h
 |.h ..=>λh q=>nO h
 |.bm ..=>λh q=>nO h
 |.w ..=>λh q=>nO h
 |.slc ..=>λh q=>nO h
 |.K ..=>λh q=>nO h
 |.scomp ..=>λh q=>nO h
 |.join ..=>λh q=>nO h
 |.bx ..=>λh q=>nO h
 |.lrng ..=>λh q=>nO h
 |.n ..=>λh q=>nO h
 |.N ..=>λh q=>nO h
 |.M ..=>λh q=>nO h
 |.dead=>λh q=>nO h
end
variable {K:Fl->Fr->St->Prop}{ss:pq}
def lZ (v:V)(h:evV σ ρ e=some v)(k:gx C ss (upd ρ x v) σ K):gx C (.cons (.a [.v x] e) ss) ρ σ K:=kj e h k
def BW {xs:List Nat}(vs:List V)(h:evV σ ρ e=some (.T vs))(l:xs.length=vs.length)(k:gx C ss (ji xs vs ρ) σ K):gx C (.cons (.a [.T xs] e) ss) ρ σ K:=
 kj e h #[vs,rfl,l,k]
def iQ (h:wpE C e ρ σ λv σ=>gx C ss (upd ρ x v) σ K):gx C (.cons (.a [.v x] e) ss) ρ σ K:=h
def BY {es:Exs}(vs:List V)(h:oW σ ρ es=some vs)(l:vs.length<=ba)(k:∀c,σ.L c=none->gx C ss (upd ρ x (.L c)) (σ.eh c vs) K):gx C (.cons (.a [.v x] (.L es)) ss) ρ σ K:=
 gP (Q:=λvs σ=>vs.length<=ba/\∀c,σ.L c=none->gx C ss (upd ρ x (.L c)) (σ.eh c vs) K) es h #[l,k]
def uG {c:Ex}{t e:pq}(b:Bool)(h:evT σ ρ c=some b)(k:if b then gx C t ρ σ (nL (λρ σ=>gx C ss ρ σ K) K) else gx C e ρ σ (nL (λρ σ=>gx C ss ρ σ K) K)):gx C (.cons (.C c t e) ss) ρ σ K:=zm c h k
def hV {a:Addr}{xs:List V}(v:V)(U:ρ x=some (.L a))(W:σ.L a=some xs)(h:evV σ ρ e=some v)(l:xs.length<ba)(k:gx C ss ρ (σ.eh a (xs++[v])) K):gx C (.cons (.expr (.bm .append (.l x) %[e|0])) ss) ρ σ K:=by
 apply#[_,U,(show(σ.L a).isSome=true by rw[W];rfl),?_];rw[tu];apply kj e h ?_;apply#[xs,W,l,rfl,k]
def NK (v:V)(h:evV σ ρ e=some v)(k:K (.ret v) ρ σ):gx C (.cons (.ret e) ss) ρ σ K:=kj (Q:=λv σ=>K (.ret v) ρ σ) e h k
def qo (k:K .next ρ σ):gx C .nil ρ σ K:=k
def fX {H:Fr->St->Prop}(k:H ρ σ):gx C .nil ρ σ (nL H K):=k
def pU (k:gx C ss ρ σ K):gx C (.cons .pass ss) ρ σ K:=k
def uF {c:Ex}{t e:pq}(p:Prop)[Decidable p](h:evT σ ρ c=some (decide p))(W:p->gx C t ρ σ (nL (λρ σ=>gx C ss ρ σ K) K))(k2:¬p->gx C e ρ σ (nL (λρ σ=>gx C ss ρ σ K) K)):gx C (.cons (.C c t e) ss) ρ σ K:=by
 apply uG _ h ?_;by_cases q:p
 ·rw[fc q,cf rfl];show W q
 ·rw[dg q,aw (by simp)];show k2 q
end
end MP
end
section
namespace MP
namespace SM
open PySem
variable {σ:St}{la lb u:V}{db sj:Addr}{as bs ks:List Key}{ρ:Fr}{alo ahi blo bhi n i j k:Nat}{Q:V->St->Prop}{C:Cal}
structure MAt (σ:St)(x:Addr)(la lb:V)(db sj:Addr)(as bs:List Key)(rm:Key->Bool)(js:List Key):Prop where
 I:∃d f,σ.I x=some (d,f)/\f 1=some la/\f 2=some lb/\f 7=some (.dct db)/\f 8=some (.set sj)
 La:ub σ la=some (as.map Key.v)
 Lb:ub σ lb=some (bs.map Key.v)
 D:TabAt σ db bs rm
 S:σ.S sj=some js
def MAt.keep {σ':St}{x:Addr}{rm:Key->Bool}{js:List Key}(h:MAt σ x la lb db sj as bs rm js)(k:Kp σ σ'):MAt σ' x la lb db sj as bs rm js:=
 #[by rw[k.I];show h.I,lz k.L h.La,lz k.L h.Lb,h.D.keep k,by rw[k.S];show h.S]
abbrev Row (as bs:List Key)(rm:Key->Bool)(alo blo bhi i:Nat)(es:List (Key×V)):Prop:=∀j:Nat,j<bhi->(es.lookup (.int ((j:Int)-1))).getD (.int 0)=.int (el as bs rm alo blo i j:Nat)
structure FF (ρ:Fr)(la lb:V)(db sj:Addr)(alo ahi blo bhi:Nat):Prop where
 r1:ρ 1=some (.int alo)
 r2:ρ 2=some (.int ahi)
 r3:ρ 3=some (.int blo)
 r4:ρ 4=some (.int bhi)
 r5:ρ 5=some la
 r6:ρ 6=some lb
 r7:ρ 7=some (.dct db)
 r8:ρ 8=some (.j9 sj)
def FF.up {v:V}(h:FF ρ la lb db sj alo ahi blo bhi)(hn:9<=n):FF (upd ρ n v) la lb db sj alo ahi blo bhi:=
 have k:∀m,Nat.blt m 9=true->upd ρ n v m=ρ m:=λm W=>fh (jz (iq (bh W) hn))
 #[(k 1 rfl).trans h.r1,(k 2 rfl).trans h.r2,(k 3 rfl).trans h.r3,(k 4 rfl).trans h.r4,(k 5 rfl).trans h.r5,(k 6 rfl).trans h.r6,(k 7 rfl).trans h.r7,(k 8 rfl).trans h.r8]
structure FB (ρ:Fr)(i j k:Nat):Prop where
 r9:ρ 9=some (.int i)
 r10:ρ 10=some (.int j)
 r11:ρ 11=some (.int k)
def FB.up {v:V}(h:FB ρ i j k)(hn:12<=n):FB (upd ρ n v) i j k:=
 have k:∀m,Nat.blt m 12=true->upd ρ n v m=ρ m:=λm W=>fh (jz (iq (bh W) hn))
 #[(k 9 rfl).trans h.r9,(k 10 rfl).trans h.r10,(k 11 rfl).trans h.r11]
def kS {a b:Nat}{v:V}(h:(pn a b)[i]?=some v):a+i<b/\v=.int ((a+i:Nat):Int):=by
 unfold pn at h;rw[cp]at h;by_cases hi:i<((b:Int)-a).toNat
 ·rw[eX hi]at h;simp at h;apply#[by show(Ar.ton _).elim (λW=>(gp .J .b .S (.ie (.t .D) (.s .S .L)) hi W.2)) λW=>(gp .J .c .S .aT hi W.2),by rw[<- h];rfl]
 ·rw[nt (by simpa using hi)]at h;cases h
def iJ {a b:Nat}:(pn a b).length=b-a:=by simp[pn]
def yr:jj n (i:Int)=i:=by unfold jj;rw[aw (qg (.ig .L .O) .i)]
def gR {Q:V->Prop}{x d:Addr}{f:Nat->Option V}(W:ρ i=some (.obj x))(O:σ.I x=some (d,f))(U:f j=some u)(q:Q u):∃v,ρ i=some v/\∃x d f u,v=V.obj x/\σ.I x=some (d,f)/\f j=some u/\Q u:=#[_,W,x,d,f,u,rfl,O,U,q]
def tG {i:Int}{c:Key}{Q:V->Prop}(W:ub σ u=some (ks.map Key.v))(hz:ks.length<=ba)(hi:i=n)(I:ks[n]?=some c)(q:Q c.v):qZ u (.int i) σ Q:=by
 subst hi;have hk:(ks.map Key.v)[n]?=some c.v:=by rw[cp,I];rfl
 have hn:n<ks.length:=(cu.mp I).1;cases u with
 |L a=>refine#[_,_,W,by rw[yr];(show qg (.ik .O .L) .i),by rw[yr,gu];show hk,q]
 |T xs =>
  have rfl:=af W;unfold ba at hz;apply#[_,by show(Ar.nab _).elim (λU=>(sd .R .e (.k .B .T) .L (.ie .L .S) hz hn U.2)) λU=>(az .R .a .bV U.2),by rw[yr];(show qg (.ik .O .L) .i),by rw[yr,gu];show hk,q]
 |str s =>
  rw[<- af W]at hk;have hl:s.cps.size=ks.length:=by have:=cc List.length (af W);unfold wh at this;rwa [aq,aq,gm]at this
  unfold wh at hk;rw[cp,nv]at hk;have#[x,J,e]:=gj.mp hk;apply#[x,by rw[hl];show hz,by rw[yr];(show qg (.ik .O .L) .i),by rw[yr,gu];show J,?_];rw[e];show q
 |bys b =>
  rw[<- af W]at hk;have hl:b.size=ks.length:=by have:=cc List.length (af W);unfold qU at this;rwa [aq,aq,gm]at this
  unfold qU at hk;rw[cp,nv]at hk;have#[x,J,e]:=gj.mp hk;apply#[x,by rw[hl];show hz,by show qg (.ik .O .L) .i,by rw[gu];show J,?_];rw[e];show q
 |_=>cases W
def PC (W:ub σ u=some (ks.map Key.v))(hz:ks.length<=ba)(q:Q (.int ks.length) σ):EA u σ Q:=by
 have e:∀{xs:List V} {n:Nat},xs.length=n->xs=ks.map Key.v->n<=ba/\Q (.int n) σ:=λ{xs n} h e=>by
  have:n=ks.length:=by rw[<- h,e,aq]
  rw[this];apply#[hz,q]
 cases u with
 |L a=>refine#[_,W,(e rfl rfl).2]
 |T xs=>show e rfl (af W)
 |str s=>show e (by unfold wh;rw[aq,gm]) (af W)
 |bys b=>show e (by unfold qU;rw[aq,gm]) (af W)
 |_=>cases W
def sQ {x:Nat}{i:Ex}{c:Key}{Q:V->St->Prop}(W:ρ x=some u)(hi:evV σ ρ i=some (.int n))(O:ub σ u=some (ks.map Key.v))(hz:ks.length<=ba)(U:ks[n]?=some c)(q:Q c.v σ):wpE C (.sub (.l x) i) ρ σ Q:=
 #[u,W,kj (Q:=λj σ=>qZ u j σ λr=>Q r σ) i hi (tG O hz rfl U q)]
def H6 {e:Ex}(W:∀Q:V->St->Prop,Q u σ->wpE C e ρ σ Q)(U:ub σ u=some (ks.map Key.v))(hz:ks.length<=ba)(q:Q (.int ks.length) σ):wpE C (.bf .len %[e|0]) ρ σ Q:=
 W (λv σ=>vo C .nil ρ σ λvs σ=>C6 .len (v::vs) σ Q) (show EA u σ Q from PC U hz q)
def yE {x:Nat}(W:ρ x=some u)(U:ub σ u=some (ks.map Key.v))(hz:ks.length<=ba)(q:Q (.int ks.length) σ):wpE C (.bf .len %[.l x|0]) ρ σ Q:=
 H6 (λ_ q=>#[u,W,q]) U hz q
def NA {C:Cal}{js:List Key}{K:Fl->Fr->St->Prop}{c:Ex}{ok:Key->Bool}
  (ay:ub σ la=some (as.map Key.v)) (ax:ub σ lb=some (bs.map Key.v)) (ha:∀k∈as,td k) (hb:∀k∈bs,td k) (ar:as.length<=ba) (ao:bs.length<=ba)
  (hc:∀(ρ:Fr) (j:Nat) (b:Key) (Q:Bool->St->Prop),FF ρ la lb db sj alo ahi blo bhi->ρ 10=some (.int ((j+1:Nat):Int))->bs[j]?=some b->Q (ok b) σ->wpT C c ρ σ Q)
  (hi:i<=as.length) (hj:j<=bs.length)
  (h:∀ρ,FF ρ la lb db sj alo ahi blo bhi->FB ρ (dH as bs ok alo blo i j k).1 (dH as bs ok alo blo i j k).2.1 (dH as bs ok alo blo i j k).2.2->K .next ρ σ) (F:FF ρ la lb db sj alo ahi blo bhi) (B:FB ρ i j k) :
  wpS C (.loop (.and (.c .gt (.l 9) (.l 1)) (.and (.c .gt (.l 10) (.l 3)) (.and c (.c .eq (.sub (.l 5) (.b .sub (.l 9) (.int 1))) (.sub (.l 6) (.b .sub (.l 10) (.int 1))))))) %[.a [.T [9,10,11]] (.T %[.b .sub (.l 9) (.int 1),.b .sub (.l 10) (.int 1),.b .add (.l 11) (.int 1)|0])|0]) ρ σ K:=by
 apply#[i+1,dD (λn ρ' σ'=>σ'=σ/\FF ρ' la lb db sj alo ahi blo bhi/\∃i' j' k',n=i'/\FB ρ' i' j' k'/\i'<=as.length/\j'<=bs.length/\dH as bs ok alo blo i' j' k'=dH as bs ok alo blo i j k) ?_ (i+1) i (qg (.l .A .M) .i) #[rfl,F,i,j,k,rfl,B,hi,hj,rfl]];rintro n ρ' σ' ⟨rfl,z,i',j',k',rfl,J,ai,ag,e⟩ again aj;apply#[_,J.r9,_,z.r1,?_];show(if decide ((alo:Int)<n)=true then _ else _);by_cases c1:alo<n
 ·rw[cf (by simpa using c1)];apply#[_,J.r10,_,z.r3,?_];show(if decide ((blo:Int)<j')=true then _ else _);by_cases c2:blo<j'
  ·rw[cf (by simpa using c2)];have#[O,rfl]:∃O,n=O+1:=#[n-1,by show az .aB .g .bP (aa (az .I .a .U c1))];have#[W,rfl]:∃W,j'=W+1:=#[j'-1,by show az .aB .g .bP (aa (az .I .a .U c2))];have ea:as[O]?=some as[O]:=bb (az .B .a .T ai);have eb:bs[W]?=some bs[W]:=bb (az .B .a .T ag);apply hc _ W bs[W] _ z J.r10 eb ?_;cases hok:ok bs[W] with
   |false =>
    show K .next ρ' σ'
    have:dH as bs ok alo blo (O+1) (W+1) k'=(O+1,W+1,k'):=by
     rw[fS];rw[aw];rintro ⟨_,_,h3⟩;have#[c,_,h4,h5]:=yu.mp h3;rw[eb]at h4;cases h4;rw[hok]at h5;cases h5
    rw[this]at e;show h _ z (by rw[<- e];show J)
   |true =>
    rw[cf rfl];have dn:∀{x m:Nat},ρ' x=some (.int (m+1:Nat))->evV σ' ρ' (.b .sub (.l x) (.int 1))=some (.int m):=λ{x m} r=>by
     rw[xr,uz,r];show some (V.int (((m+1:Nat):Int)-1))=_
     congr 2;(show qg .aU .n)
    apply sQ (C:=C) z.r5 (dn J.r9) ay ar ea ?_;apply sQ (C:=C) z.r6 (dn J.r10) ax ao eb ?_;apply rA (ha _ (du _)) (hb _ (du _)) ?_;by_cases q:as[O]=bs[W]
    ·rw[fc q];apply gW ?_;apply#[_,J.r9,_,J.r10,_,J.r11,bh rfl,_,rfl,rfl,?_];apply aj O _ _ (qg (.l .A .M) .i) #[rfl,?_,O,W,k'+1,rfl,?_,by show az .A .a .T ai,by show az .A .a .T ag,?_]
     ·show((z.up (eH (.k (.n 9) (.n 9)) .i)).up (eH (.k (.n 9) (.n 10)) .i)).up (eH (.k (.n 9) (.n 11)) .i)
     ·apply#[?_,?_,?_]
      ·show some (V.int (((O+1:Nat):Int)-1))=_
       congr 2;(show qg .aU .n)
      ·show some (V.int (((W+1:Nat):Int)-1))=_
       congr 2;(show qg .aU .n)
      ·rfl
     ·rw[<- e]
      conv=>rhs;rw[fS]
      rw[cf #[c1,c2,yu.mpr #[as[O],ea,by rw[q];show eb,by rw[q];simp[hok]]]]
    ·rw[dg q];show K .next ρ' σ'
     have:dH as bs ok alo blo (O+1) (W+1) k'=(O+1,W+1,k'):=by
      rw[fS];rw[aw];rintro ⟨_,_,h3⟩;have#[c,h4,h5,_]:=yu.mp h3;rw[ea]at h4;rw[eb]at h5;clear aj;cases h4;show q (af h5).symm
     rw[this]at e;show h _ z (by rw[<- e];show J)
  ·rw[aw (by simpa using c2)];show K .next ρ' σ'
   have:dH as bs ok alo blo n j' k'=(n,j',k'):=by
    cases n with
    |zero=>rfl
    |succ n =>
     cases j' with
     |zero=>rfl
     |succ j'=>rw[fS];rw[aw (λh=>c2 h.2.1)]
   rw[this]at e;show h _ z (by rw[<- e];show J)
 ·rw[aw (by simpa using c1)];show K .next ρ' σ'
  have:dH as bs ok alo blo n j' k'=(n,j',k'):=by
   cases n with
   |zero=>rfl
   |succ n =>
    cases j' with
    |zero=>rfl
    |succ j'=>rw[fS];rw[aw (λh=>c1 h.1)]
  rw[this]at e;show h _ z (by rw[<- e];show J)
def N9 {C:Cal}{js:List Key}{K:Fl->Fr->St->Prop}{c:Ex}{ok:Key->Bool}{body:Stm}
  (U:body=.aug 11 .add (.int 1)\/body=.a [(.v 11)] (.b .add (.l 11) (.int 1)))
  (ay:ub σ la=some (as.map Key.v)) (ax:ub σ lb=some (bs.map Key.v)) (ha:∀k∈as,td k) (hb:∀k∈bs,td k) (ao:ahi<=as.length) (aj:bhi<=bs.length) (ai:as.length<=ba) (ag:bs.length<=ba)
  (hc:∀(ρ:Fr) (j k:Nat) (b:Key) (Q:Bool->St->Prop),FF ρ la lb db sj alo ahi blo bhi->ρ 10=some (.int j)->ρ 11=some (.int k)->bs[j+k]?=some b->Q (ok b) σ->wpT C c ρ σ Q)
  
  (h:∀ρ,FF ρ la lb db sj alo ahi blo bhi->FB ρ i j (iK as bs ok ahi bhi (ahi-i) i j k)->K .next ρ σ) (F:FF ρ la lb db sj alo ahi blo bhi) (B:FB ρ i j k) :
  wpS C (.loop (.and (.c .lt (.b .add (.l 9) (.l 11)) (.l 2)) (.and (.c .lt (.b .add (.l 10) (.l 11)) (.l 4)) (.and c (.c .eq (.sub (.l 5) (.b .add (.l 9) (.l 11))) (.sub (.l 6) (.b .add (.l 10) (.l 11))))))) %[body|0]) ρ σ K:=by
 have more:∀n m k,ahi-(i+k)<=n->n<=m->iK as bs ok ahi bhi n i j k=iK as bs ok ahi bhi m i j k:=by
  intro n;induction n with
  |zero =>
   intro m k h1 h2;cases m with
   |zero=>rfl
   |succ m =>
    show k=_;rw[cV];rw[aw (λq1=>(qt .ff [[0,1,1,-1]] (.k .A .O) (.l .Q .D) (.e (.a .A .Q) .D) h1 q1.1 (aa (gz .F .a .J q1.1))))]
  |succ n ih =>
   intro m k h1 h2;have#[m,rfl]:∃m',m=m'+1:=#[m-1,by show az .aB .g .bP (aa (az .I .a (.k .P .A) h2))];rw[cV,cV];split
   ·show ih _ _ (by(rename_i z1;show lC .A .y .bA (.e (.a .C .X) .G) (.e (.a .A (.a .D .a0)) .G) h1 (aa (gz .F .a .J z1.1)) (aa (gz .N .a .J z1.1)))) (az .A .a .aI h2)
   ·rfl
 apply#[ahi+1,dD (λn ρ' σ'=>σ'=σ/\FF ρ' la lb db sj alo ahi blo bhi/\∃k',n=ahi-(i+k')/\FB ρ' i j k'/\iK as bs ok ahi bhi (ahi-i) i j k'=iK as bs ok ahi bhi (ahi-i) i j k) ?_ (ahi+1) (ahi-(i+k)) (az .aC .a .A (oz _ _)) #[rfl,F,k,rfl,B,rfl]];rintro n ρ' σ' ⟨rfl,z,k',rfl,W,e⟩ again ar;have stop:iK as bs ok ahi bhi (ahi-i) i j k'=k'->K .next ρ' σ':=λq=>by
  rw[q]at e;show h _ z (by rw[<- e];show W)
 apply#[_,W.r9,_,W.r11,_,z.r2,?_];show(if decide (((i:Int)+k')<ahi)=true then _ else _);by_cases c1:i+k'<ahi
 ·rw[cf (by simp;(show gz (.il (.a .L .P) .S) .a .J c1))];apply#[_,W.r10,_,W.r11,_,z.r4,?_];show(if decide (((j:Int)+k')<bhi)=true then _ else _);by_cases c2:j+k'<bhi
  ·rw[cf (by simp;(show gz (.il (.a .L .P) .S) .a .J c2))];have ea:as[i+k']?=some as[i+k']:=bb (gp .J .b .bC (.l .L .D) ao c1);have eb:bs[j+k']?=some bs[j+k']:=bb (gp .J .b .bC (.l .L .D) aj c2);apply hc _ j k' bs[j+k'] _ z W.r10 W.r11 eb ?_;cases hok:ok bs[j+k'] with
   |false =>
    apply stop ?_;have#[m,hm]:∃m,ahi-i=m+1:=#[ahi-i-1,by show az .aB .g .bP (aa (gp .I .d (.l .Q .D) (.e .L .D) c1 (aa (gz .A .a (.l .V .B) c1))))];rw[hm];rw[cV];rw[aw];rintro ⟨_,_,h3⟩;have#[c,_,h4,h5]:=yu.mp h3;rw[eb]at h4;cases h4;rw[hok]at h5;cases h5
   |true =>
    rw[cf rfl];have up:∀{x m:Nat},ρ' x=some (.int m)->evV σ' ρ' (.b .add (.l x) (.l 11))=some (.int (m+k':Nat)):=λ{x m} r=>by
     rw[xr,uz,uz,r,W.r11];rfl
    apply sQ (C:=C) z.r5 (up W.r9) ay ai ea ?_;apply sQ (C:=C) z.r6 (up W.r10) ax ag eb ?_;apply rA (ha _ (du _)) (hb _ (du _)) ?_;by_cases q:as[i+k']=bs[j+k']
    ·rw[fc q];apply gW ?_;have go:again (upd ρ' 11 (.int ((k':Int)+1))) σ':=by
      apply ar (ahi-(i+(k'+1))) _ _ (um .B .d (.e (.a .A (.a .C .Y)) .F) (.e (.a .B .R) .F) (aa (gz .N .a .J c1)) (aa (gz .F .a .J c1))) #[rfl,z.up (eH (.k (.n 9) (.n 11)) .i),k'+1,rfl,#[W.r9,W.r10,rfl],?_];rw[<- e];have#[m,hm]:∃m,ahi-i=m+1:=#[ahi-i-1,by show az .aB .g .bP (aa (gp .I .d (.l .Q .D) (.e .L .D) c1 (aa (gz .A .a (.l .V .B) c1))))];rw[hm]
      conv=>rhs;rw[cV]
      rw[cf #[c1,c2,yu.mpr #[as[i+k'],ea,by rw[q];show eb,by rw[q];simp[hok]]]];show(more _ _ _ (lC .A .y (.e .C .P) .bT (.e (.a .A (.a .D .aA)) .F) hm (aa (gz .A .a (.l .V .B) c1)) (aa (gz .N .a .J c1))) (qg (.k .A .M) .i)).symm
     rcases U with rfl|rfl
     ·apply#[_,W.r11,go]
     ·apply#[_,W.r11,go]
    ·rw[dg q];apply stop ?_;have#[m,hm]:∃m,ahi-i=m+1:=#[ahi-i-1,by show az .aB .g .bP (aa (gp .I .d (.l .Q .D) (.e .L .D) c1 (aa (gz .A .a (.l .V .B) c1))))];rw[hm];rw[cV];rw[aw];rintro ⟨_,_,h3⟩;have#[c,h4,h5,_]:=yu.mp h3;rw[ea]at h4;rw[eb]at h5;cases h4;show q (af h5).symm
  ·rw[aw (by simp;(show gz (.ik .L (.a .P .S)) .a (.g .Q .A) c2))];apply stop ?_;cases ahi-i with
   |zero=>rfl
   |succ n=>rw[cV];rw[aw (λh=>c2 h.2.1)]
 ·rw[aw (by simp;(show gz (.ik .L (.a .P .S)) .a (.g .Q .A) c1))];apply stop ?_;cases ahi-i with
  |zero=>rfl
  |succ n=>rw[cV];rw[aw (λh=>c1 h.1)]
end SM
end MP
end
section
namespace MP
namespace SM
set_option genInjectivity false
set_option genSizeOf false
open PySem
variable {as bs:List Key}{rm:Key->Bool}{alo blo bhi i n:Nat}{ps:List Nat}{es:List (Key×V)}{ρ:Fr}{σ:St}{C:Cal}{K:Fl->Fr->St->Prop}
abbrev hW (as bs:List Key)(rm:Key->Bool)(alo blo bhi i:Nat)(ps:List Nat)(es:List (Key×V)):Prop:=∀j:Nat,j<bhi->(es.lookup (.int ((j:Int)-1))).getD (.int 0)=.int (if 0<j/\j-1∈ps then el as bs rm alo blo (i+1) j else 0:Nat)
def hW.row (h:hW as bs rm alo blo bhi i ps es)(J:∀j,j<bhi->hit as bs rm i j=true->j∈ps):Row as bs rm alo blo bhi (i+1) es:=by
 intro j U;rw[h j U];split
 ·rfl
 ·rename_i c
  congr 2
  cases j with
  |zero=>rfl
  |succ j =>
   rw[tS];rw[aw];rintro ⟨_,_,q⟩;show c #[by show qg (.l .O .M) .i,J j (az .B .a .W U) q]
def hW.put (h:hW as bs rm alo blo bhi i ps es)(j:Nat):hW as bs rm alo blo bhi i (ps++[j]) (putD es (.int j) (.int (el as bs rm alo blo (i+1) (j+1):Nat))):=by
 intro j' J;rw[yB];by_cases c:j'=j+1
 ·subst c;rw[cf (by congr 1;(show qg .aU .n)),cf #[by show qg (.l .O .M) .i,by simp]];rfl
 ·rw[aw (λq=>c (by injection q;(show az .aB .j (.ie (.s .L .U) .P) i_eq))),h j' J]
  congr 2
  by_cases c1:0<j'/\j'-1∈ps
  ·rw[cf c1,cf #[c1.1,dj _ c1.2]]
  ·rw[aw c1,aw];rintro ⟨c2,c3⟩;rcases dh.mp c3 with c3|c3
   ·show c1 #[c2,c3]
   ·simp at c3;(show(au c).elim (λW=>(sd .ff [[0,-1,1,1]] .D .Z (.l .C .P) c3 (aa (fj .I .a .C c2)) W)) λW=>(sd .ff [[0,1,-1,1]] .D .Z (.l .P .C) c3 (aa (fj .I .a .C c2)) W))
def hW.skip (h:hW as bs rm alo blo bhi i ps es)(j:Nat)(J:j<blo):hW as bs rm alo blo bhi i (ps++[j]) es:=by
 intro j' W;rw[h j' W]
 congr 2
 by_cases c1:0<j'/\j'-1∈ps
 ·rw[cf c1,cf #[c1.1,dj _ c1.2]]
 ·rw[aw c1];by_cases c2:0<j'/\j'-1∈ps++[j]
  ·rw[cf c2];have#[c3,c4]:=c2;rcases dh.mp c4 with c4|c4
   ·show absurd #[c3,c4] c1
   ·have#[U,rfl]:∃U,j'=U+1:=#[j'-1,by show az .aB .g .bP (aa (fj .I .a .C c3))];simp at c4;rw[tS];rw[aw (λO=>(sd .ff .l .B (.e .C .A) .bB J c4 O.2.1))]
  ·rw[aw c2]
abbrev rR:pq:=(.cons (.C (.c .lt (.l 17) (.l 3)) (.cons .cont
 .nil) .nil)
 (.cons (.C (.c .ge (.l 17) (.l 4)) (.cons .brk
 .nil) .nil)
 (.cons (.a [(.v 18),(.sub (.l 16) (.l 17))] (.b .add (.w 15 %[.b .sub (.l 17) (.int 1),.int 0|0]) (.int 1)))
 (.cons (.C (.c .gt (.l 18) (.l 11)) (.cons (.a [.T [9,10,11]] (.T %[.b .add (.b .sub (.l 14) (.l 18)) (.int 1),.b .add (.b .sub (.l 17) (.l 18)) (.int 1),.l 18|0]))
 .nil) .nil)
 .nil))))
abbrev rJ:Stm:=.each (.v 17) (.seq (.bm .get (.l 7) %[.sub (.l 5) (.l 14),.l 13|0])) rR
structure Fc where
 σ₀:St
 la:V
 lb:V
 db:Addr
 sj:Addr
 nl:Addr
 as:List Key
 bs:List Key
 rm:Key->Bool
 alo:Nat
 ahi:Nat
 blo:Nat
 bhi:Nat
public abbrev Fc.F (c:Fc)(ρ:Fr):Prop:=FF ρ c.la c.lb c.db c.sj c.alo c.ahi c.blo c.bhi
public abbrev Fc.S (c:Fc)(seen:Nat->Nat->Prop)(i j k:Nat):Prop:=Scan c.as c.bs c.rm c.alo c.ahi c.blo c.bhi seen i j k
public abbrev Fc.e (c:Fc)(i j:Nat):Nat:=el c.as c.bs c.rm c.alo c.blo i j
public abbrev Fc.R (c:Fc)(i:Nat)(es:List (Key×V)):Prop:=Row c.as c.bs c.rm c.alo c.blo c.bhi i es
public abbrev Fc.h (c:Fc)(i j:Nat):Bool:=hit c.as c.bs c.rm i j
structure Fk (c:Fc):Prop where
 La:ub c.σ₀ c.la=some (c.as.map Key.v)
 T:TabAt c.σ₀ c.db c.bs c.rm
 n:c.σ₀.L c.nl=some []
 s:c.bs.length<ba
 sa:c.as.length<=ba
 bl:c.bhi<=c.bs.length
 al:c.ahi<=c.as.length
structure Sc where
 c:Fc
 i:Nat
 cd:Addr
 nd:Addr
 es:List (Key×V)
 ps:List Nat
structure Sk (s:Sc):Prop where
 ai:s.c.alo<=s.i
 ia:s.i<s.c.ahi
 row:s.c.R s.i s.es
 ne:s.cd≠s.nd
 no:s.c.σ₀.D s.nd=none
 mem:∀j,j∈s.ps↔s.c.h s.i j=true
 lt:s.ps.Pairwise (·<·)
 pl:s.ps.length<=s.c.bs.length
abbrev Sc.seen (s:Sc)(t:Nat):Nat->Nat->Prop:=λi' j'=>(i'<s.i/\j'<s.c.bhi)\/(i'=s.i/\j'∈s.ps.take t)
inductive InI (s:Sc)(t:Nat)(ρ:Fr)(σ:St):Prop
 |mk (bi bj bk:Nat) (es:List (Key×V)) (lim:∀j,j∈s.ps.take t->j<s.c.bhi) (len:es.length<=t) (k:Kp s.c.σ₀ σ) (F:s.c.F ρ) (B:FB ρ bi bj bk) (cd:σ.D s.cd=some s.es) (nd:σ.D s.nd=some es)
  (r13:ρ 13=some (.L s.c.nl)) (r14:ρ 14=some (.int s.i)) (r15:ρ 15=some (.iN s.cd)) (r16:ρ 16=some (.dct s.nd)) (row:hW s.c.as s.c.bs s.c.rm s.c.alo s.c.blo s.c.bhi s.i (s.ps.take t) es) (sc:s.c.S (s.seen t) bi bj bk):InI s t ρ σ
inductive uD (s:Sc)(ρ:Fr)(σ:St):Prop
 |mk (bi bj bk:Nat) (es:List (Key×V)) (k:Kp s.c.σ₀ σ) (F:s.c.F ρ) (B:FB ρ bi bj bk) (r13:ρ 13=some (.L s.c.nl)) (r16:ρ 16=some (.dct s.nd)) (nd:σ.D s.nd=some es) (row:s.c.R (s.i+1) es)
  (sc:s.c.S (λi' j'=>(i'<s.i/\j'<s.c.bhi)\/(i'=s.i/\j'<s.c.bhi/\s.c.h s.i j'=true)) bi bj bk):uD s ρ σ
structure fW (ps:List Nat)(t j:Nat):Prop where
 th:ps.take (t+1)=ps.take t++[j]
 lt:∀m,m∈ps.take t->m<j
 of:∀m,m∈ps->m<j->m∈ps.take t
 mem:j∈ps
def JJ (lt:ps.Pairwise (·<·)){t j:Nat}(e:ps[t]?=some j):fW ps t j:=by
 have#[W,rfl]:=cu.mp e;apply#[fg W,λm J=>?_,λm J hl=>?_,du _]
 ·have#[a,I,rfl]:=List.getElem_of_mem J;have hb:a<t:=by
   have:=I;rw[et]at this
   (show fb .B .b .G .H this (Ar.jt _ _).1)
  rw[nh];show(wu.mp lt) a t (fb .B .b .L .G W hb) W hb
 ·have#[a,I,rfl]:=List.getElem_of_mem J;have:a<t:=by
   apply Nat.lt_of_not_le λq=>?_;rcases Nat.eq_or_lt_of_le q with q|q
   ·subst q;show absurd hl (jq _)
   ·have:=(wu.mp lt) t a W I q
    (show jc .ff .c .B .U hl this)
  show List.mem_take_iff_getElem.mpr #[a,by show(Ar.jt _ _).2.2.elim (λO=>(fb .B .b .G .H this O)) λO=>(qt .B .e .a2 .G .bL W this O),rfl]
def InI.fin {s:Sc}{t:Nat}(k:Sk s)(I:InI s t ρ σ)(W:∀j,j<s.c.bhi->j∈s.ps->j∈s.ps.take t):uD s ρ σ:=by
 cases I;apply .mk bi bj bk es k_1 F B r13 r16 nd (row.row λj J z=>W j J ((k.mem j).mpr z)) (sc.skip ?_ ?_)
 ·rintro i' j' (q|⟨q,U⟩)
  ·show .inl q
  ·show .inr #[q,lim _ U,(k.mem _).mp (wg U)]
 ·rintro i' j' (q|⟨q,U,O⟩)
  ·show .inl (.inl q)
  ·show .inl (.inr #[q,W _ U ((k.mem _).mpr O)])
section
variable {s:Sc}{t j bi bj bk:Nat}
def kI (T:fW s.ps t j){i' j':Nat}(q:s.seen (t+1) i' j'):s.seen t i' j'\/(i'=s.i/\j'=j):=by
 rcases q with q|⟨q,W⟩
 ·show .inl (.inl q)
 ·rw[T.th]at W;rcases dh.mp W with W|W
  ·show .inl (.inr #[q,W])
  ·show .inr #[q,ah.mp W]
def rI (T:fW s.ps t j){i' j':Nat}(q:s.seen t i' j'):s.seen (t+1) i' j':=q.imp_right λq=>#[q.1,by rw[T.th];show dj _ q.2]
def vV (T:fW s.ps t j)(W:∀j,j∈s.ps.take t->j<s.c.bhi)(O:j<s.c.bhi):∀j,j∈s.ps.take (t+1)->j<s.c.bhi:=by
 rw[T.th];intro j' U;rcases dh.mp U with q|q
 ·show W _ q
 ·rw[ah.mp q];show O
def KP (T:fW s.ps t j)(U:j<s.c.blo)(sc:s.c.S (s.seen t) bi bj bk):s.c.S (s.seen (t+1)) bi bj bk:=by
 apply sc.skip (λi' j'=>rI T) λi' j' q=>?_;rcases kI T q with q|⟨rfl,rfl⟩
 ·show .inl q
 ·apply .inr (.inl ?_);rw[tS];rw[aw (λW=>(jc .ff .c .B .Y U W.2.1))]
def KQ (k:Sk s)(T:fW s.ps t j)(sc:s.c.S (s.seen t) bi bj bk)(h:s.c.e (s.i+1) (j+1)<=bk):s.c.S (s.seen (t+1)) bi bj bk:=by
 apply sc.skip (λi' j'=>rI T) λi' j' q=>?_;rcases kI T q with q|⟨rfl,rfl⟩
 ·show .inl q
 ·apply .inr ?_;have#[h1,h2,hr]:=tT (as:=s.c.as) (bs:=s.c.bs) (rm:=s.c.rm) (alo:=s.c.alo) (blo:=s.c.blo) (i:=s.i+1) (j:=j'+1);rcases my (s.c.e (s.i+1) (j'+1)) bk with c4|c4
  ·show .inr (.inl c4)
  ·have W:s.c.e (s.i+1) (j'+1)=bk:=Nat.le_antisymm h c4;by_cases h0:s.c.e (s.i+1) (j'+1)=0
   ·show .inl h0
   ·apply .inr (.inr #[W,?_]);have h1:s.c.e (s.i+1) (j'+1)<=s.i+1:=h1;have h2:s.c.e (s.i+1) (j'+1)<=j'+1:=h2;have R':=sc.run;have e1:=R'.ia;have e2:=R'.jb;rcases sc.at_ ((au h0).elim (λJ=>(az .C .k (.l .B .O) J)) λJ=>(jc .C .b .b9 .V W J)) with q|⟨q,q'⟩
    ·left;(rename_i I z1;show uu .B .y .a2 (.e .a5 .Y) (.k .aL .S) q.1 (aa (fb .Q .d .bA (.e .C .A) I W)) (Ar.QH _ _))
    ·right
     have:=T.lt _ q'
     (rename_i I z1;show#[(Ar.sub _ _ (λJ p1=>(uu .D [[1,-1,1,1],[1,1,-1,-1]] .bQ (.e .a5 .Y) (.e .S .aL) q (aa (fb .Q .d .bA (.e .C .A) I W)) p1)) λJ p1=>((au h0).elim (λz=>(uu .D [[0,0,0,1],[1,-1,1,0]] (.e .Q .Y) (.k .V .U) (.l .F .O) (aa (fb .Q .d .bA (.e .C .A) I W)) J z)) λz=>(PU .D [[1,1,-1,1,0,1,1],[1,0,0,-1,1,0,0]] .bQ (.e .F .G) (.e .aF .aA) (.k .Z .U) .b2 .a5 W q (aa (fb .Q .d .bA (.e .C .A) I W)) J p1 z))),(uu .A .y .a2 (.e .a5 .Y) (.k .aL .S) this (aa (fb .Q .d .bA (.e .C .A) z1 W)) (Ar.QH _ _))])
def KO (k:Sk s)(T:fW s.ps t j)(W:j<s.c.bhi)(sc:s.c.S (s.seen t) bi bj bk)(h:bk<s.c.e (s.i+1) (j+1)):s.c.S (s.seen (t+1)) (s.i+1-s.c.e (s.i+1) (j+1)) (j+1-s.c.e (s.i+1) (j+1)) (s.c.e (s.i+1) (j+1)):=
 sc.take k.ia W h (.inr #[rfl,by rw[T.th];show dp _ (.head _)]) λi' j' q=>(kI T q).imp_right .inl
def InI.skip (T:fW s.ps t j)(W:j<s.c.blo)(hb:s.c.blo<=s.c.bhi)(I:InI s t ρ σ):InI s (t+1) (upd ρ 17 (.int j)) σ:=by
 cases I;show .mk bi bj bk es (vV T lim (iq W hb)) (i6 len) k (F.up (by decide)) (B.up (by decide)) cd nd r13 r14 r15 r16 (by rw[T.th];show row.skip j W) (KP T W sc)
end
def LH {s:Sc}(ok:Fk s.c)(k:Sk s){t j:Nat}(e:s.ps[t]?=some j)(hb:s.c.blo<=s.c.bhi)(I:InI s t ρ σ){kk:Fr->St->Prop}(hk:∀ρ' σ',InI s (t+1) ρ' σ'->kk ρ' σ')(hf:∀ρ' σ',uD s ρ' σ'->K .next ρ' σ') :
  gx C rR (upd ρ 17 (.int j)) σ (yh kk K):=by
 have T:=JJ k.lt e;have ht:t<s.ps.length:=(cu.mp e).1;have I0:=I;cases I;have F1:s.c.F (upd ρ 17 (.int (j:Int))):=F.up (by decide);have B1:FB (upd ρ 17 (.int (j:Int))) bi bj bk:=B.up (by decide);apply#[.int j,rfl,.int s.c.blo,F1.r3,?_];show(if decide ((j:Int)<s.c.blo)=true then _ else _);by_cases c1:j<s.c.blo
 ·rw[cf (by simpa using c1)];show hk _ _ (I0.skip T c1 hb)
 rw[aw (by simpa using c1)];apply#[.int j,rfl,.int s.c.bhi,F1.r4,?_];show(if decide ((s.c.bhi:Int)<=j)=true then _ else _);by_cases c2:s.c.bhi<=j
 ·rw[cf (by simpa using c2)];show hf _ _ (InI.fin k (t:=t) (.mk bi bj bk es lim len k_1 F1 B1 cd nd r13 r14 r15 r16 row sc) λj' h1 h2=>T.of j' h2 (iq h1 c2))
 rw[aw (by simpa using c2)];have c2:=Nat.lt_of_not_le c2;apply#[.iN s.cd,r15,.int j,rfl,s.es,.int ((j:Int)-1),cd,rfl,?_];rw[k.row j c2];have pl:=k.pl;have sl:=ok.s;apply#[.dct s.nd,r16,.int j,rfl,es,.int j,nd,rfl,by show zR .B .w .a2 .K .bK (.l .F .B) ht len pl sl,?_];have ay:s.c.e (s.i+1) (j+1)=s.c.e s.i j+1:=by
  rw[show s.c.e (s.i+1) (j+1)=_ from tS,cf #[k.ai,wj c1,(k.mem j).mp T.mem]]
 have bc:(V.int (((s.c.e s.i j:Nat):Int)+1))=.int ((s.c.e (s.i+1) (j+1):Nat):Int):=by
  rw[ay];rfl
 show gx C _ (upd (upd ρ 17 (.int (j:Int))) 18 (V.int (((s.c.e s.i j:Nat):Int)+1))) (σ.ua s.nd (putD es (.int j) (V.int (((s.c.e s.i j:Nat):Int)+1)))) _;rw[bc];have ao:hW s.c.as s.c.bs s.c.rm s.c.alo s.c.blo s.c.bhi s.i (s.ps.take (t+1)) (putD es (.int j) (.int (s.c.e (s.i+1) (j+1):Nat))):=by
  rw[T.th];show row.put j
 have W:(putD es (.int j) (.int (s.c.e (s.i+1) (j+1):Nat))).length<=t+1:=jf GH (jX len);have#[z,J,_]:=tT (as:=s.c.as) (bs:=s.c.bs) (rm:=s.c.rm) (alo:=s.c.alo) (blo:=s.c.blo) (i:=s.i+1) (j:=j+1);have tk:=λh=>KO k T c2 sc h;have sm:=λh=>KQ k T sc h;have z:s.c.e (s.i+1) (j+1)<=s.i+1:=z;have J:s.c.e (s.i+1) (j+1)<=j+1:=J;generalize s.c.e (s.i+1) (j+1)=E at ao W tk sm z J;have F2:s.c.F (upd (upd ρ 17 (.int (j:Int))) 18 (.int (E:Int))):=F1.up (by decide);have B2:FB (upd (upd ρ 17 (.int (j:Int))) 18 (.int (E:Int))) bi bj bk:=B1.up (by decide);have k2:Kp s.c.σ₀ (σ.ua s.nd (putD es (.int j) (.int (E:Int)))):=k_1.ua k.no;have ar:(σ.ua s.nd (putD es (.int j) (.int (E:Int)))).D s.cd=some s.es:=(fh k.ne).trans cd;have aj:(σ.ua s.nd (putD es (.int j) (.int (E:Int)))).D s.nd=some (putD es (.int j) (.int (E:Int))):=cj _ _ _;have r14:upd (upd ρ 17 (.int (j:Int))) 18 (.int (E:Int)) 14=some (.int s.i):=r14;have r16:upd (upd ρ 17 (.int (j:Int))) 18 (.int (E:Int)) 16=some (.dct s.nd):=r16;have r15:upd (upd ρ 17 (.int (j:Int))) 18 (.int (E:Int)) 15=some (.iN s.cd):=r15;have r13:upd (upd ρ 17 (.int (j:Int))) 18 (.int (E:Int)) 13=some (.L s.c.nl):=r13;have ax:upd (upd ρ 17 (.int (j:Int))) 18 (.int (E:Int)) 17=some (.int j):=rfl;have O:upd (upd ρ 17 (.int (j:Int))) 18 (.int (E:Int)) 18=some (.int E):=rfl;generalize upd (upd ρ 17 (.int (j:Int))) 18 (.int (E:Int))=bd at F2 B2 r13 r14 r15 r16 ax O;generalize σ.ua s.nd (putD es (.int j) (.int (E:Int)))=σ2 at k2 ar aj;apply#[.int E,O,.int bk,B2.r11,?_];show(if decide ((bk:Int)<E)=true then _ else _);have ag:=vV T lim c2;by_cases c3:bk<E
 ·rw[cf (by simpa using c3)];apply#[.int s.i,r14,.int E,O,.int j,ax,.int E,O,.int E,O,bh rfl,_,rfl,rfl,?_];apply hk _ _ (.mk (s.i+1-E) (j+1-E) E _ ag W k2 (((F2.up (by decide)).up (by decide)).up (by decide)) #[?_,?_,rfl] ar aj r13 r14 r15 r16 ao (tk c3))
  ·show some (V.int ((s.i:Int)-E+1))=_
   congr 2;(show gz (.ie (.a (.s .L .P) .U) .S) .g (.e .aC .M) (aa (az .Q .a .Q z)))
  ·show some (V.int ((j:Int)-E+1))=_
   congr 2;(show gz (.ie (.a (.s .L .P) .U) .S) .g (.e .aC .M) (aa (az .Q .a .Q J)))
 ·rw[aw (by simpa using c3)];show hk _ _ (.mk bi bj bk _ ag W k2 F2 B2 ar aj r13 r14 r15 r16 ao (sm (wj c3)))
def xS {c:Fc}(ok:Fk c){bi bj bk:Nat}{cd nd:Addr}(aj:c.alo<=i)(O:i<c.ahi)(hb:c.blo<=c.bhi)(k0:Kp c.σ₀ σ)(F:c.F ρ)(B:FB ρ bi bj bk)
  (z:ρ 13=some (.L c.nl)) (J:ρ 14=some (.int i)) (ar:ρ 15=some (.iN cd)) (ao:ρ 16=some (.dct nd)) (hcd:σ.D cd=some es) (U:c.R i es) (ai:σ.D nd=some []) (ag:cd≠nd) (ax:c.σ₀.D nd=none)
  (sc:c.S (λi' j'=>i'<i/\j'<c.bhi) bi bj bk) (h:∀ρ' σ' ps,uD #[c,i,cd,nd,es,ps] ρ' σ'->K .next ρ' σ'):wpS C rJ ρ σ K:=by
 have al:=ok.al;have ea:c.as[i]?=some c.as[i]:=bb (fb .B .b .G .H O al);have#[tb,l,hD,hg,hc]:=ok.T.get ok.n c.as[i];generalize W:(if c.rm c.as[i] then [] else posOf c.as[i] c.bs)=ps at hc;have sk:Sk #[c,i,cd,nd,es,ps]:=by
  apply#[aj,O,U,ag,ax,λj=>?_,?_,?_]
  ·show j∈ps↔hit c.as c.bs c.rm i j=true;rw[yu,<- W];cases hr:c.rm c.as[i] with
   |true =>
    rw[cf rfl];apply#[(λq=>nomatch q),?_];rintro ⟨a,e1,_,e3⟩;have rfl:=af (ea.symm.trans e1);rw[hr]at e3;cases e3
   |false =>
    rw[aw (by decide),CV];apply#[λq=>#[_,ea,q,hr],?_];rintro ⟨a,e1,e2,e3⟩;have rfl:=af (ea.symm.trans e1);show e2
  ·show ps.Pairwise (·<·);rw[<- W];split
   ·show .nil
   ·show GI
  ·show ps.length<=c.bs.length;rw[<- W];split
   ·show bz _
   ·show CW
 apply#[.dct c.db,F.r7,(show(σ.D c.db).isSome=true by rw[k0.D _ _ hD];rfl),c.la,F.r5,.int i,J,?_];apply tG (lz k0.L ok.La) ok.sa rfl ea ?_;apply#[.L c.nl,z,tb,c.as[i],k0.D _ _ hD,B5 _,?_];rw[hg];apply#[_,k0.L _ _ hc,?_];apply sq (InI #[c,i,cd,nd,es,ps]) ?_ ?_ ?_
 ·intro t v ρ' σ' hv I;rw[cp]at hv;have#[j,e,rfl]:=gj.mp hv;cases I;apply#[k.L _ _ hc,λkk hk=>LH ok sk e hb (.mk bi_1 bj_1 bk_1 es_1 lim len k F_1 B_1 cd_1 nd_1 r13 r14 r15 r16 row sc_1) hk λρ' σ'=>h ρ' σ' ps]
 ·intro ρ' σ' I;rw[aq]at I;have I0:=I;cases I;apply#[k.L _ _ hc,h _ _ _ (I0.fin sk λj _ q=>by show j∈ps.take ps.length;rw[gv];show q)]
 ·apply .mk bi bj bk [] (λj hj=>nomatch hj) (av _) k0 F B hcd ai z J ar ao ?_ (sc.skip (λi' j' q=>.inl q) λi' j' q=>?_)
  ·intro j hj;rw[aw (by simp)];rfl
  ·rcases q with q|⟨_,q⟩
   ·show .inl q
   ·show nomatch q
def tN {as bs:List Key}{ok:Key->Bool}{alo blo:Nat}:∀{i j k:Nat},(dH as bs ok alo blo i j k).1<=i/\(dH as bs ok alo blo i j k).2.1<=j
 |0,j,k=>#[av _,av _]
 |i+1,0,k=>#[av _,av _]
 |i+1,j+1,k=>by
  rw[fS];split
  ·have:=tN (as:=as) (bs:=bs) (ok:=ok) (alo:=alo) (blo:=blo) (i:=i) (j:=j) (k:=k+1)
   (show#[(az .Q .a .A this.1),(az .Q .a .A this.2)])
  ·apply#[av _,av _]
abbrev KV:pq:=(.cons (.a [(.v 15)] (.g (.l 12)))
 (.cons (.a [(.v 16)] .dct0)
 (.cons rJ
 (.cons (.a [(.v 12)] (.l 16))
 .nil))))
inductive MQ (c:Fc)(t:Nat)(ρ:Fr)(σ:St):Prop
 |mk (bi bj bk:Nat) (cd:Addr) (es:List (Key×V)) (k:Kp c.σ₀ σ) (F:c.F ρ) (r13:ρ 13=some (.L c.nl)) (B:FB ρ bi bj bk) (r12:ρ 12=some (.dct cd)) (hcd:σ.D cd=some es) (row:c.R (c.alo+t) es) (sc:c.S (λi' j'=>i'<c.alo+t/\j'<c.bhi) bi bj bk):MQ c t ρ σ
def GK {c:Fc}(ok:Fk c){t:Nat}{kk:Fr->St->Prop}(z:c.alo+t<c.ahi)(hb:c.blo<=c.bhi)(I:MQ c t ρ σ)(hk:∀ρ' σ',MQ c (t+1) ρ' σ'->kk ρ' σ') :
  gx C KV (upd ρ 14 (.int ((c.alo+t:Nat):Int))) σ (yh kk K):=by
 cases I;apply#[_,r12,cd,rfl,by rw[hcd];rfl,λnd W=>?_];have U:cd≠nd:=λq=>by rw[q,W]at hcd;cases hcd
 apply xS ok (cd:=cd) (nd:=nd) (oh _ _) z hb (k.ua (k.noD W)) (((F.up (by decide)).up (by decide)).up (by decide)) (((B.up (by decide)).up (by decide)).up (by decide)) r13 rfl rfl rfl ((fh U).trans hcd) row (cj _ _ _) U (k.noD W) sc λJ σ2 ps E=>?_;cases E;apply#[_,r16,?_];apply hk _ _ (.mk bi_1 bj_1 bk_1 nd es_1 k_1 (F_1.up (by decide)) r13_1 (B_1.up (by decide)) rfl nd_1 row_1 (sc_1.skip (λi' j' q=>?_) λi' j' q=>?_))
 ·rcases q with q|q
  ·apply#[Nat.lt_succ_of_lt q.1,q.2]
  ·apply#[Nat.lt_succ_of_le (Nat.le_of_eq q.1),q.2.1]
 ·by_cases e:i'<c.alo+t
  ·show .inl (.inl #[e,q.2])
  ·have:i'=c.alo+t:=by have:=q.1;(show fb .aG .f (.l .A .aH) (.g .A .Q) q.1 e)
   subst this;by_cases O:c.h (c.alo+t) j'=true
   ·show .inl (.inr #[rfl,q.2,O])
   ·apply .inr (.inl ?_);rw[tS];rw[aw (λq=>O q.2.2)]
def R1 (h:n<ba):n<2^40:=Nat.lt_trans h (by decide)
def NI {m:Nat}(h:n<=m)(W:m<ba):(n:Int).natAbs<2^40:=gE h (R1 W)
def flm {P:Nat->Option Fn}(hP:P 5=some fn5){σ:St}{x:Addr}{la lb:V}{db sj:Addr}{as bs:List Key}{js:List Key}{Q:V->St->Prop}{alo ahi blo:Nat}{U W:V}
  (hM:MAt σ x la lb db sj as bs rm js) (ha:∀k∈as,td k) (hb:∀k∈bs,td k) (hs:bs.length<ba) (aj:as.length<ba)
  (bn:U=.int ahi\/(U=.none/\ahi=as.length)) (bl:W=.int bhi\/(W=.none/\bhi=bs.length))
  (bv:alo<=ahi) (bu:blo<=bhi) (ag:ahi<=as.length) (ao:bhi<=bs.length)
  (h:∀σ' i j k,Kp σ σ'->zZ as bs rm alo ahi blo bhi i j k->(let g:=grow as bs (λc=>decide (c∈js)) alo ahi blo bhi i j k;Q (mtV (g.1,g.2.1,g.2.2)) σ')):jm P (n+1) 5 [.obj x,.int alo,U,.int blo,W] σ Q:=by
 apply#[fn5,hP,bh rfl,bh rfl,?_];have#[d,f,hI,f1,f2,f7,f8]:=hM.I;have h0:frameOf fn5 [.obj x,.int alo,U,.int blo,W] 0=some (.obj x):=rfl;have h1:frameOf fn5 [.obj x,.int alo,U,.int blo,W] 1=some (.int alo):=rfl;have h2:frameOf fn5 [.obj x,.int alo,U,.int blo,W] 2=some U:=rfl;have h3:frameOf fn5 [.obj x,.int alo,U,.int blo,W] 3=some (.int blo):=rfl;have h4:frameOf fn5 [.obj x,.int alo,U,.int blo,W] 4=some W:=rfl;generalize frameOf fn5 [.obj x,.int alo,U,.int blo,W]=ρ at h0 h1 h2 h3 h4;apply gR h0 hI f1 ?_;apply gR h0 hI f2 ?_;apply gR h0 hI f7 ?_;apply gR h0 hI f8 ?_;apply#[sj,rfl,by rw[hM.S];rfl,bh rfl,?_];apply#[_,rfl,rfl,?_];have cx:∀(ρ:Fr) (K:Fl->Fr->St->Prop),ρ 2=some U->ρ 5=some la->(∀ρ',(∀m,m≠2->ρ' m=ρ m)->ρ' 2=some (.int ahi)->K .next ρ' σ) ->
   wpS (jm P n) (.C (.c .is (.l 2) .none) %[.a [(.v 2)] (.bf .len %[.l 5|0])|0] .nil) ρ σ K:=by
  intro ρ K e2 e5 hk;apply#[_,e2,?_];rcases bn with rfl|⟨rfl,rfl⟩
  ·show hk ρ (λ_ _=>rfl) e2
  ·apply yE (C:=jm P n) e5 hM.La (gw aj) ?_;show hk _ (λm hm=>fh hm) (cj _ _ _)
 have ct:∀(ρ:Fr) (K:Fl->Fr->St->Prop),ρ 4=some W->ρ 6=some lb->(∀ρ',(∀m,m≠4->ρ' m=ρ m)->ρ' 4=some (.int bhi)->K .next ρ' σ) ->
   wpS (jm P n) (.C (.c .is (.l 4) .none) %[.a [(.v 4)] (.bf .len %[.l 6|0])|0] .nil) ρ σ K:=by
  intro ρ K e2 e5 hk;apply#[_,e2,?_];rcases bl with rfl|⟨rfl,rfl⟩
  ·show hk ρ (λ_ _=>rfl) e2
  ·apply yE (C:=jm P n) e5 hM.Lb (gw hs) ?_;show hk _ (λm hm=>fh hm) (cj _ _ _)
 apply cx _ _ h2 rfl λda s1 cS=>?_;apply ct _ _ (by rw[s1 4 (by decide)];show h4) (by rw[s1 6 (by decide)];rfl) λcb s2 cM=>?_;have F0:FF cb la lb db sj alo ahi blo bhi:=by
  apply#[?_,?_,?_,cM,?_,?_,?_,?_]<;>rw[s2 _ (by decide)]
  ·rw[s1 _ (by decide)];show h1
  ·show cS
  ·rw[s1 _ (by decide)];show h3
  ·rw[s1 _ (by decide)];rfl
  ·rw[s1 _ (by decide)];rfl
  ·rw[s1 _ (by decide)];rfl
  ·rw[s1 _ (by decide)];rfl
 apply#[_,F0.r1,_,F0.r3,bh rfl,_,rfl,rfl,?_];apply λd0 cl=>?_;apply#[bh rfl,λnl ch=>?_];apply#[_,F0.r1,_,F0.r2,(alo:Int),(ahi:Int),rfl,rfl,NI (jf bv ag) aj,NI ag aj,?_];generalize J:((σ.ua d0 []).eh nl [])=σ₀;have k0:Kp σ σ₀:=by
  rw[<- J];show((Kp.refl σ).ua cl).eh (by show ch)
 have ar:=hM.keep k0;have ck:σ₀.L nl=some []:=by rw[<- J];show cj _ _ _
 have ca:σ₀.D d0=some []:=by rw[<- J];show cj _ _ _
 have ok:Fk #[σ₀,la,lb,db,sj,nl,as,bs,rm,alo,ahi,blo,bhi]:=#[ar.La,ar.D,ck,hs,gw aj,ao,ag];apply sq (MQ #[σ₀,la,lb,db,sj,nl,as,bs,rm,alo,ahi,blo,bhi]) ?_ ?_ ?_
 ·intro t v ρ' σ' hv I;have#[ht,rfl]:=kS hv;apply#[trivial,λk hk=>GK ok ht bu I hk]
 ·intro ρ' σ' I;have#[bi,bj,bk,cd,es,kk,F,dc,B,df,dm,bt,bp]:=I;rw[iJ]at bt bp;have best:zZ as bs rm alo ahi blo bhi bi bj bk:=bp.best λi' j' h1 h2 h3 h4 h5=>#[by show gp (.l .A .Q) .d (.l .A .D) (.e .aC .D) h2 (aa (fb .A .b .K .L h1 h2)),h4];apply#[trivial,?_];have ay:=lz kk.L ar.La;have ai:=lz kk.L ar.Lb;have zs:=gw hs;have ax:=gw aj;have hS:σ'.S sj=some js:=by rw[kk.S];show ar.S
  have bc:∀(ρ:Fr) (e:Ex) (j:Nat) (b:Key) (Q:Bool->St->Prop),ρ 8=some (.j9 sj)->bs[j]?=some b->(∀Q:V->St->Prop,Q (.int j) σ'->wpE (jm P n) e ρ σ' Q)->ρ 6=some lb->Q (!decide (b∈js)) σ'->wpT (jm P n) (.not (.w 8 %[.sub (.l 6) e|0])) ρ σ' Q:=λρ e j b Q r8 eb he r6 q=>by
   apply#[_,r8,_,r6,he _ ?_];show tG ai zs rfl eb #[js,b,hS,B5 _,q]
  have be:∀(ρ:Fr) (e:Ex) (j:Nat) (b:Key) (Q:Bool->St->Prop),ρ 8=some (.j9 sj)->bs[j]?=some b->(∀Q:V->St->Prop,Q (.int j) σ'->wpE (jm P n) e ρ σ' Q)->ρ 6=some lb->Q (decide (b∈js)) σ'->wpT (jm P n) (.w 8 %[.sub (.l 6) e|0]) ρ σ' Q:=λρ e j b Q r8 eb he r6 q=>by
   apply#[_,r8,_,r6,he _ ?_];show tG ai zs rfl eb #[js,b,hS,B5 _,q]
  have left:∀(ρ:Fr) (j:Nat),ρ 10=some (.int ((j+1:Nat):Int))->∀Q:V->St->Prop,Q (.int j) σ'->wpE (jm P n) (.b .sub (.l 10) (.int 1)) ρ σ' Q:=λρ j r Q q=>by
   apply#[_,r,?_];have e:((j+1:Nat):Int)-1=(j:Int):=by(show qg .aU .n)
   show Q (.int _) σ';rw[e];show q
  have right:∀(ρ:Fr) (j k:Nat),ρ 10=some (.int (j:Int))->ρ 11=some (.int (k:Int))->∀Q:V->St->Prop,Q (.int ((j+k:Nat):Int)) σ'->wpE (jm P n) (.b .add (.l 10) (.l 11)) ρ σ' Q:=λρ j k r r' Q q=>#[_,r,_,r',q];have R:=best.run;have:=R.ia;have:=R.jb;apply NA (σ:=σ') (js:=js) (ok:=λc=>!decide (c∈js)) ay ai ha hb ax zs (λρ j b Q F z eb q=>bc ρ _ j b Q F.r8 eb (left ρ j z) F.r6 q) (i:=bi) (j:=bj) (k:=bk) (by(rename_i z1;show gp .A .b .H .b0 ag z1)) (gp .A .b .H .b0 ao this) (λρ F B=>?_) F B;apply N9 (σ:=σ') (js:=js) (ok:=λc=>!decide (c∈js)) (.inl rfl) ay ai ha hb ag ao ax zs (λρ j k b Q F z bd eb q=>bc ρ _ (j+k) b Q F.r8 eb (right ρ j k z bd) F.r6 q) (λρ F B=>?_) F B;apply NA (σ:=σ') (js:=js) (ok:=λc=>decide (c∈js)) ay ai ha hb ax zs (λρ j b Q F z eb q=>be ρ _ j b Q F.r8 eb (left ρ j z) F.r6 q) ?_ ?_ (λρ F B=>?_) F B
  ·have:=tN (as:=as) (bs:=bs) (ok:=λc=>!decide (c∈js)) (alo:=alo) (blo:=blo) (i:=bi) (j:=bj) (k:=bk)
   (rename_i z5 z4 z3 z2 z1;show uu .A .e .H .aW .a9 ag z5 this.1)
  ·have:=tN (as:=as) (bs:=bs) (ok:=λc=>!decide (c∈js)) (alo:=alo) (blo:=blo) (i:=bi) (j:=bj) (k:=bk)
   (rename_i z4 z3 z2 z1;show uu .A .e .H .aW .a9 ao z4 this.2)
  apply N9 (σ:=σ') (js:=js) (ok:=λc=>decide (c∈js)) (.inr rfl) ay ai ha hb ag ao ax zs (λρ j k b Q F z bd eb q=>be ρ _ (j+k) b Q F.r8 eb (right ρ j k z bd) F.r6 q) (λρ F B=>?_) F B;apply#[_,B.r9,_,B.r10,_,B.r11,?_];show h σ' bi bj bk (k0.trans kk) best
 ·apply .mk alo blo 0 d0 [] (Kp.refl _) (((F0.up (eH (.k (.n 9) (.n 9)) .i)).up (eH (.k (.n 9) (.n 10)) .i)).up (eH (.k (.n 9) (.n 11)) .i) |>.up (eH (.k (.n 9) (.n 12)) .i) |>.up (eH (.k (.n 9) (.n 13)) .i)) rfl #[rfl,rfl,rfl] rfl ca ?_ ?_
  ·intro j hj;rw[Nat.add_zero,HU];rfl
  ·apply(Scan.start bv bu).skip (λ_ _ q=>q.elim) λi' j' q=>.inr (.inl ?_);rw[tS];rw[aw (λq1=>(jc .ff .c (.l .A (.a .B .O)) .Y q.1 q1.1))]
end SM
end MP
end
section
namespace MP
abbrev Flm (as bs:List Key)(rm js:Key->Bool)(alo ahi blo bhi:Nat)(t:Nat×Nat×Nat):Prop:=
 ∃i j k,zZ as bs rm alo ahi blo bhi i j k/\t=grow as bs js alo ahi blo bhi i j k
abbrev Within (alo ahi blo bhi:Nat)(t:Nat×Nat×Nat):Prop:=alo<=t.1/\t.1+t.2.2<=ahi/\blo<=t.2.1/\t.2.1+t.2.2<=bhi
section
variable {as bs:List Key}{ok rm js:Key->Bool}{alo ahi blo bhi:Nat}
def tO:∀{i j k:Nat},Within alo ahi blo bhi (i,j,k)->Within alo ahi blo bhi (dH as bs ok alo blo i j k)
 |0,j,k,h=>h
 |i+1,0,k,h=>h
 |i+1,j+1,k,h=>by
  rw[fS];split
  ·rename_i c;apply tO ?_;have#[J,U,O,W]:alo<=i+1/\i+1+k<=ahi/\blo<=j+1/\j+1+k<=bhi:=h;show(show alo<=i/\i+(k+1)<=ahi/\blo<=j/\j+(k+1)<=bhi from#[by show az .A .a .aC c.1,by show gz .N .a .bS U,by show az .A .a .aC c.2.1,by show gz .N .a .bS W])
  ·show h
def tM:∀{n i j k:Nat},Within alo ahi blo bhi (i,j,k)->Within alo ahi blo bhi (i,j,iK as bs ok ahi bhi n i j k)
 |0,i,j,k=>λh=>h
 |n+1,i,j,k=>λh=>by
  rw[cV];split
  ·rename_i c;apply tM ?_;have#[U,I,W,O]:alo<=i/\i+k<=ahi/\blo<=j/\j+k<=bhi:=h;show(show alo<=i/\i+(k+1)<=ahi/\blo<=j/\j+(k+1)<=bhi from#[by show az .A .a .A U,by show gz .N .a .J c.1,by show az .A .a .A W,by show gz .N .a .J c.2.1])
  ·show h
def Flm.within {t:Nat×Nat×Nat}(h:Flm as bs rm js alo ahi blo bhi t):Within alo ahi blo bhi t:=by
 have#[i,j,k,B,rfl]:=h;have R:=B.run;show tM (tO (tM (tO (show Within alo ahi blo bhi (i,j,k) from#[R.ai,R.ia,R.bj,R.jb]))))
end
inductive wc (F:Nat->Nat->Nat->Nat->Nat×Nat×Nat->Prop):Nat->Nat->Nat->Nat->List (Nat×Nat×Nat)->Prop
 |nil {alo ahi blo bhi i j:Nat}:F alo ahi blo bhi (i,j,0)->wc F alo ahi blo bhi []
 |node {alo ahi blo bhi i j k:Nat} {L R:List (Nat×Nat×Nat)}:F alo ahi blo bhi (i,j,k)->0<k->(alo<i->blo<j->wc F alo i blo j L)->(¬(alo<i/\blo<j)->L=[]) ->
   (i+k<ahi->j+k<bhi->wc F (i+k) ahi (j+k) bhi R)->(¬(i+k<ahi/\j+k<bhi)->R=[])->wc F alo ahi blo bhi (L++(i,j,k)::R)
abbrev wm (t u:Nat×Nat×Nat):Prop:=t.1+t.2.2<=u.1/\t.2.1+t.2.2<=u.2.1
def wc.ok {F:Nat->Nat->Nat->Nat->Nat×Nat×Nat->Prop}(hF:∀a b c d t,F a b c d t->Within a b c d t){alo ahi blo bhi:Nat}{L:List (Nat×Nat×Nat)}(h:wc F alo ahi blo bhi L) :
  (∀t∈L,Within alo ahi blo bhi t/\0<t.2.2)/\L.Pairwise wm:=by
 induction h with
 |nil _=>refine#[λt h=>(by cases h),.nil]
 | @node alo ahi blo bhi i j k L R hf hk hL z hR B O U =>
  have W:=hF _ _ _ _ _ hf;unfold Within at W;simp only at W;have hl:(∀t∈L,Within alo i blo j t/\0<t.2.2)/\L.Pairwise wm:=by
   by_cases c:alo<i/\blo<j
   ·show O c.1 c.2
   ·rw[z c];apply#[λt h=>(by cases h),.nil]
  have hr:(∀t∈R,Within (i+k) ahi (j+k) bhi t/\0<t.2.2)/\R.Pairwise wm:=by
   by_cases c:i+k<ahi/\j+k<bhi
   ·show U c.1 c.2
   ·rw[B c];apply#[λt h=>(by cases h),.nil]
  apply#[λt I=>?_,?_]
  ·rcases dh.mp I with q|q
   ·have:=hl.1 t q;unfold Within at *
    (show#[#[(az .A .a .A this.1.1),#[(um .F .b .aW .bF W.2.1 this.1.2.1),#[(az .A .a .A this.1.2.2.1),(um .F .b .aW .bF W.2.2.2 this.1.2.2.2)]]],(fj .C .a .C this.2)])
   ·rcases bw.mp q with q|q
    ·subst q;unfold Within;simp only
     (show#[#[(az .A .a .A W.1),#[(gz .F .a .F W.2.1),#[(az .A .a .A W.2.2.1),(gz .F .a .F W.2.2.2)]]],(fj .C .a .C hk)])
    ·have:=hr.1 t q;unfold Within at *
     (show#[#[(gp .A .b .K .aM W.1 this.1.1),#[(gz .F .a .F this.1.2.1),#[(gp .A .b .K .aM W.2.2.1 this.1.2.2.1),(gz .F .a .F this.1.2.2.2)]]],(fj .C .a .C this.2)])
  ·rw[ou];apply#[hl.2,.cons (λu J=>?_) hr.2,λt I u J=>?_]
   ·have:=hr.1 u J;unfold Within at this;unfold wm;simp only
    (show#[(gz .F .a .F this.1.1),(gz .F .a .F this.1.2.2.1)])
   ·have:=hl.1 t I;unfold Within at this;unfold wm;rcases bw.mp J with q|q
    ·subst q;simp only
     (show#[(gz .F .a .F this.1.2.1),(gz .F .a .F this.1.2.2.2)])
    ·have:=hr.1 u q;unfold Within at this
     (rename_i z1;show#[(um .F .b .bF .aW z1.1.2.1 this.1.1),(um .F .b .bF .aW z1.1.2.2.2 this.1.2.2.1)])
def gS {alo ahi blo bhi:Nat}:∀{L:List (Nat×Nat×Nat)} {lo:Nat},(∀t∈L,Within alo ahi blo bhi t/\0<t.2.2)->L.Pairwise wm->(∀t∈L,lo<=t.1)->lo<=ahi->lo+L.length<=ahi
 | [],lo,_,_,_,h=>h
 |t::L,lo,J,U,hl,h=>by
  have O:=J t (.head _);have I:=hl t (.head _);have#[z,U]:=kc.mp U;have:=gS (lo:=lo+1) (λu W=>J u (.tail _ W)) U (λu W=>by have:=(z u W).1;(show qt .T .e .a5 .a9 (.k .aI .B) O.2 I this)) (by have:=O.1.2.1;(show qt .T .e .a5 .a9 (.k .aI .B) O.2 I this));rw[ip];(show gz .N .a .bS this)
abbrev mrg:Nat->Nat->Nat->List (Nat×Nat×Nat)->List (Nat×Nat×Nat)
 |i,j,k,[]=>if k=0 then [] else [(i,j,k)]
 |i,j,k,(i',j',k')::r=>if i+k=i'/\j+k=j' then mrg i j (k+k') r else if k=0 then mrg i' j' k' r else (i,j,k)::mrg i' j' k' r
abbrev Apart (t u:Nat×Nat×Nat):Prop:=¬(t.1+t.2.2=u.1/\t.2.1+t.2.2=u.2.1)
abbrev eI:List (Nat×Nat×Nat)->Prop
 |t::u::r=>Apart t u/\eI (u::r)
 |_=>True
def vO:∀{L:List (Nat×Nat×Nat)} {t:Nat×Nat×Nat},eI (t::L)->(∀u∈t::L,0<u.2.2)->mrg t.1 t.2.1 t.2.2 L=t::L
 | [],(i,j,k),h,W=>by
  have:=W (i,j,k) (.head _);simp only[mrg];rw[aw (by simp only at this;(show fj (.u .A .O) .a .C this))]
 |(i',j',k')::r,(i,j,k),h,W=>by
  have:=W (i,j,k) (.head _);simp only[mrg];rw[aw h.1,aw (by simp only at this;(show fj (.u .A .O) .a .C this))];have:=vO (L:=r) (t:=(i',j',k')) h.2 λu U=>W u (.tail _ U);simp only at this;rw[this]
def KZ {L:List (Nat×Nat×Nat)}(h:eI L)(W:∀u∈L,0<u.2.2):mrg 0 0 0 L=L:=by
 cases L with
 |nil=>rfl
 |cons t r =>
  have#[i,j,k]:=t;have:=vO h W;simp only at this;simp only[mrg];split
  ·rename_i c;have#[rfl,rfl]:=c;simpa using this
  ·show this
namespace SM
open PySem
variable {σ2:St}{x nl:Addr}
def T3:=Nat×Nat×Nat
def T4:=Nat×Nat×Nat×Nat
abbrev zT (t:T3):Int×Int×Int:=(t.1,t.2.1,t.2.2)
abbrev mV (t:T3):V:=mtV (zT t)
abbrev tV (t:T3):V:=.T [.int t.1,.int t.2.1,.int t.2.2]
abbrev qV (r:T4):V:=.T [.int r.1,.int r.2.1,.int r.2.2.1,.int r.2.2.2]
def QI {L mb:List T3}(U:L.Perm mb)(W:L.Pairwise wm)(hk:∀t∈L,0<t.2.2):((mb.map zT).mergeSort leT).map mtV=L.map mV:=by
 have e:(mb.map zT).mergeSort leT=L.map zT:=by
  apply List.Perm.eq_of_pairwise (le:=LeT) ?_ (h9 _) ?_ ((List.mergeSort_perm _ _).trans (U.symm.map zT))
  ·show λa b _ _ I J=>LeT.SF I J
  ·rw[List.pairwise_map];apply List.Pairwise.imp_of_mem (λ{a b} O hb h=>?_) W;have:=hk a O;unfold wm at h;unfold LeT zT;simp only
   (show .inl (fb (.il .L .P) .b (.k .V .B) .a5 h.1 this))
 rw[e,gq];rfl
abbrev qw (q:List T4):Nat:=(q.map λr=>2*(r.2.1-r.1)+1).sum
def n7 {q:List T4}{r:T4}:qw (q++[r])=qw q+(2*(r.2.1-r.1)+1):=by simp[qw]
def GD {q:List T4}:q.length<=qw q:=by
 induction q with
 |nil=>show av _
 |cons r q W =>
  unfold qw at *;simp only[ip,mr,List.sum_cons]
  (show gz (.k .M (.a .aP .C)) .a .K W)
inductive uE (F:Nat->Nat->Nat->Nat->T3->Prop):List T4->List (List T3)->Prop
 |nil:uE F [] []
 |snoc {q:List T4} {Ls:List (List T3)} {r:T4} {L:List T3}:uE F q Ls->wc F r.1 r.2.1 r.2.2.1 r.2.2.2 L->uE F (q++[r]) (Ls++[L])
def uE.inv {F:Nat->Nat->Nat->Nat->T3->Prop}{q:List T4}{r:T4}{W:List (List T3)}(h:uE F (q++[r]) W):∃Ls L,W=Ls++[L]/\uE F q Ls/\wc F r.1 r.2.1 r.2.2.1 r.2.2.2 L:=by
 generalize e:q++[r]=z at h;cases h with
 |nil=>show absurd (cc List.length e) (by simp)
 | @snoc B Ls I L O U =>
  have:=List.append_inj' e rfl;have#[rfl,J]:=this;cases J;apply#[Ls,L,rfl,O,U]
def QD {r:T4}{σ:St}:JE (qV r) σ=some [.int r.1,.int r.2.1,.int r.2.2.1,.int r.2.2.2]:=rfl
def EI {t:T3}{σ:St}:JE (mV t) σ=some [.int t.1,.int t.2.1,.int t.2.2]:=rfl
abbrev uk (p:Prop)[Decidable p](q:List T4)(r:T4):List T4:=if p then q++[r] else q
def xh {σ:St}{a:Addr}{xs:List V}(h:σ.L a=some xs):σ.eh a xs=σ:=by
 have:upd σ.L a xs=σ.L:=by
  funext z
  by_cases e:z=a
  ·rw[e,cj,h]
  ·show fh e
 unfold St.eh;rw[this]
section
variable {σ:St}{ρ:Fr}{a b c e:Ex}{m n k l:Nat}
def xk (W:evV σ ρ a=some (.int m))(hb:evV σ ρ b=some (.int n)):evT σ ρ (.c .lt a b)=some (decide (m<n)):=by
 rw[nA,W,hb];show cc some (wi.mpr Int.ofNat_lt)
def oY (W:evV σ ρ a=some (.int m))(hb:evV σ ρ b=some (.int n)):evT σ ρ (.c .eq a b)=some (decide (m=n)):=by
 rw[nA,W,hb];show cc some (wi.mpr Int.ofNat_inj)
def oe (W:evV σ ρ a=some (.int m))(hb:evV σ ρ b=some (.int n)):evV σ ρ (.b .add a b)=some (.int (m+n:Nat)):=by
 rw[xr,W,hb];rfl
def xw {p q:Prop}[Decidable p][Decidable q](W:evT σ ρ a=some (decide p))(hb:evT σ ρ b=some (decide q)):evT σ ρ (.and a b)=some (decide (p/\q)):=by
 rw[nB,W];by_cases h:p
 ·rw[fc h];show hb.trans (cc some (wi.mpr #[λx=>#[h,x],λx=>x.2]))
 ·rw[dg h];show cc some (dg λx=>h x.1).symm
def kX {x:Nat}(h:ρ x=some (.int k)):evT σ ρ (.l x)=some (decide (k≠0)):=by
 rw[BG,h];cases k<;>rfl
def ev3 (W:evV σ ρ a=some (.int m))(hb:evV σ ρ b=some (.int n))(hc:evV σ ρ c=some (.int k)):evV σ ρ (.T %[a,b,c|0])=some (tV (m,n,k)):=by
 rw[eD,iz,W,iz,hb,iz,hc];rfl
def ev4 (U:evV σ ρ a=some (.int m))(hb:evV σ ρ b=some (.int n))(hc:evV σ ρ c=some (.int k))(W:evV σ ρ e=some (.int l)):evV σ ρ (.T %[a,b,c,e|0])=some (qV (m,n,k,l)):=by
 rw[eD,iz,U,iz,hb,iz,hc,iz,W];rfl
variable {C:Cal}{K:Fl->Fr->St->Prop}{ss:pq}
def push {ql:Addr}{q:List T4}{p:Prop}[Decidable p](r:T4)(J:ρ 3=some (.L ql))(W:σ.L ql=some (q.map qV))(hl:q.length<ba)(U:evT σ ρ c=some (decide p))(O:evV σ ρ e=some (qV r))(h:gx C ss ρ (σ.eh ql ((uk p q r).map qV)) K) :
  gx C (.cons (.C c %[.expr (.bm .append (.l 3) %[e|0])|0] .nil) ss) ρ σ K:=by
 unfold uk at h;apply uF p U (λy=>?_) λy=>?_
 ·rw[cf y,gk]at h;show hV (qV r) J W O (by rw[aq];show hl) (qo h)
 ·rw[aw y,xh W]at h;show qo h
end
abbrev In4 (as bs:List Key)(r:T4):Prop:=r.1<=r.2.1/\r.2.2.1<=r.2.2.2/\r.2.1<=as.length/\r.2.2.2<=bs.length
section
variable {as bs:List Key}{F:Nat->Nat->Nat->Nat->T3->Prop}{q:List T4}{r:T4}{mb:List T3}{p:Prop}[Decidable p]
def B6 (h:∀u∈q,In4 as bs u)(h':p->In4 as bs r):∀u∈uk p q r,In4 as bs u:=by
 unfold uk;split
 ·rename_i c;intro u W;rcases dh.mp W with W|W
  ·show h u W
  ·rw[ah.mp W];show h' c
 ·show h
def sY:qw (uk p q r)<=qw q+(2*(r.2.1-r.1)+1):=by
 unfold uk;split
 ·rw[n7];show av _
 ·show oh _ _
def rN {O:List (List T3)}(o:uE F (uk p q r) O):∃W R,uE F q W/\O.flatten=W.flatten++R/\(p->wc F r.1 r.2.1 r.2.2.1 r.2.2.2 R)/\(¬p->R=[]):=by
 unfold uk at o;split at o
 ·rename_i c;have#[U,R,rfl,J,bR]:=o.inv;apply#[U,R,J,by rw[List.flatten_append,List.flatten_cons,kB,dk],λ_=>bR,λq=>absurd c q]
 ·rename_i c;apply#[O,[],o,(dk _).symm,λc1=>absurd c1 c,λ_=>rfl]
abbrev mX (F:Nat->Nat->Nat->Nat->T3->Prop)(na nb:Nat)(q:List T4)(mb:List T3):Prop:=∀Ls,uE F q Ls->∃L,wc F 0 na 0 nb L/\L.Perm (mb++Ls.flatten)
variable {na nb alo ahi blo bhi i j k:Nat}
def mX.drop (h:mX F na nb (q++[(alo,ahi,blo,bhi)]) mb)(W:F alo ahi blo bhi (i,j,0)):mX F na nb q mb:=λU o=>by
 have#[L,b,p]:=h _ (.snoc o (.nil W));apply#[L,b,by rwa [List.flatten_append,List.flatten_cons,kB,dk,dk]at p]
def mX.part (h:mX F na nb (q++[(alo,ahi,blo,bhi)]) mb)(z:F alo ahi blo bhi (i,j,k))(hk:0<k) :
  mX F na nb (uk (i+k<ahi/\j+k<bhi) (uk (alo<i/\blo<j) q (alo,i,blo,j)) (i+k,ahi,j+k,bhi)) (mb++[(i,j,k)]):=λLs o=>by
 have#[ag,R,I,e5,bR,U]:=rN o;have#[W,L,B,e4,bL,O]:=rN I;have#[M,bM,J]:=h _ (.snoc B (.node z hk (λa b=>bL #[a,b]) O (λa b=>bR #[a,b]) U));apply#[M,bM,J.trans ?_];rw[e5,e4,List.flatten_append,List.flatten_cons,kB,dk,bg];apply cO _ ?_;rw[<- bg,bg W.flatten,<- bg W.flatten];show List.perm_middle
def mX.start:mX F na nb [(0,na,0,nb)] []:=λO o=>by
 have U:=o.inv (q:=[]);clear o;have#[W,L,rfl,o',b]:=U;have e:W=[]:=by
  generalize e:([]:List T4)=q at o';cases o' with
  |nil=>rfl
  |snoc _ _=>show absurd (cc List.length e) (by simp)
 subst e;apply#[L,b,by simp]
end
structure QN (σ:St)(ql ml:Addr):Prop where
 ne:ql≠ml
 q:σ.L ql=none
 m:σ.L ml=none
structure QS (σ σ':St)(ql ml:Addr)(q:List T4)(mb:List T3):Prop where
 kp:Kp σ σ'
 q:σ'.L ql=some (q.map qV)
 m:σ'.L ml=some (mb.map mV)
section
variable {σ σ':St}{ql ml:Addr}{q:List T4}{mb:List T3}
def QS.QK (N:QN σ ql ml)(S:QS σ σ' ql ml q mb)(W:List T4):QS σ (σ'.eh ql (W.map qV)) ql ml W mb:=#[S.kp.eh N.q,cj _ _ _,(fh (fF N.ne)).trans S.m]
def QS.setM (N:QN σ ql ml)(S:QS σ σ' ql ml q mb)(W:List T3):QS σ (σ'.eh ml (W.map mV)) ql ml q W:=#[S.kp.eh N.m,(fh N.ne).trans S.q,cj _ _ _]
def QS.kept (S:QS σ σ' ql ml q mb)(k:Kp σ' σ2):QS σ σ2 ql ml q mb:=#[S.kp.trans k,k.L _ _ S.q,k.L _ _ S.m]
end
structure R6 (ρ:Fr)(x:Addr)(ql ml:Addr)(na nb:Nat):Prop where
 r0:ρ 0=some (.obj x)
 r1:ρ 1=some (.int na)
 r2:ρ 2=some (.int nb)
 r3:ρ 3=some (.L ql)
 r4:ρ 4=some (.L ml)
inductive MO (σ:St)(x ql ml:Addr)(as bs:List Key)(F:Nat->Nat->Nat->Nat->T3->Prop)(w:Nat)(ρ:Fr)(σ':St):Prop
 |mk (q:List T4) (mb:List T3):R6 ρ x ql ml as.length bs.length->w=qw q->QS σ σ' ql ml q mb->qw q+mb.length<=2*as.length+1->(∀r∈q,In4 as bs r)->mX F as.length bs.length q mb->MO σ x ql ml as bs F w ρ σ'
def KS {W z w0 i alo ahi k:Nat}(h2:z<=w0+(2*(i-alo)+1))(h3:W<=z+(2*(ahi-(i+k))+1))(a:alo<=i)(b:i+k<=ahi)(hk:0<k):W<w0+(2*(ahi-alo)+1):=by(show S6 (.l .A (.a .B .aK)) [[1,1,1,2,2,2,-2]] (.k .D (.a .B (.a (.m 2 .F) .U))) (.k .A (.a .D (.a (.m 2 .G) .U))) (.l .O .H) (.e (.a .F .I) .J) (.e (.a .G (.a .J .H)) .K) (.e (.a .C .I) .K) h2 h3 hk (aa (az .A .a .A a)) (aa (gz .F .a .F b)) (aa (gp .A .b .K .aM a b)))
def HL {C:Cal}{σ σ':St}{ql ml:Addr}{as bs:List Key}{F:Nat->Nat->Nat->Nat->T3->Prop}{q:List T4}{mb:List T3}{ρ:Fr}{K:Fl->Fr->St->Prop}{alo ahi blo bhi i j k:Nat}(ag:as.length<400000)(N:QN σ ql ml)(H:R6 ρ x ql ml as.length bs.length)(S:QS σ σ' ql ml q mb)
  (r5:ρ 5=some (.int alo)) (r6:ρ 6=some (.int ahi)) (r7:ρ 7=some (.int blo)) (r8:ρ 8=some (.int bhi)) (r9:ρ 9=some (.int i)) (z:ρ 10=some (.int j)) (O:ρ 11=some (.int k)) (aj:ρ 12=some (mV (i,j,k)))
  (W:Within alo ahi blo bhi (i,j,k)) (hr:In4 as bs (alo,ahi,blo,bhi)) (ao:∀r∈q,In4 as bs r) (hw:qw (q++[(alo,ahi,blo,bhi)])+mb.length<=2*as.length+1) (hk:0<k) (hf:F alo ahi blo bhi (i,j,k)) (ai:mX F as.length bs.length (q++[(alo,ahi,blo,bhi)]) mb)
  (h:∀w σ2,w<qw (q++[(alo,ahi,blo,bhi)])->MO σ x ql ml as bs F w ρ σ2->K .next ρ σ2) :
  gx C (.cons (.expr (.bm .append (.l 4) %[.l 12|0]))
   (.cons (.C (.and (.c .lt (.l 5) (.l 9)) (.c .lt (.l 7) (.l 10))) %[.expr (.bm .append (.l 3) %[.T %[.l 5,.l 9,.l 7,.l 10|0]|0])|0] .nil)
   %[.C (.and (.c .lt (.b .add (.l 9) (.l 11)) (.l 6)) (.c .lt (.b .add (.l 10) (.l 11)) (.l 8))) %[.expr (.bm .append (.l 3) %[.T %[.b .add (.l 9) (.l 11),.l 6,.b .add (.l 10) (.l 11),.l 8|0]|0])|0] .nil|0])) ρ σ' K:=by
 have W:alo<=i/\i+k<=ahi/\blo<=j/\j+k<=bhi:=W;have hr:alo<=ahi/\blo<=bhi/\ahi<=as.length/\bhi<=bs.length:=hr;rw[n7]at hw h;have hw:qw q+(2*(ahi-alo)+1)+mb.length<=2*as.length+1:=hw;have h1:=GD (q:=q);have lt:=KS (sY (p:=alo<i/\blo<j) (q:=q) (r:=(alo,i,blo,j))) (sY (p:=i+k<ahi/\j+k<bhi) (q:=uk (alo<i/\blo<j) q (alo,i,blo,j)) (r:=(i+k,ahi,j+k,bhi))) W.1 W.2.1 hk;have h2:qw (uk (alo<i/\blo<j) q (alo,i,blo,j))<=qw q+(2*(i-alo)+1):=sY;have h4:=GD (q:=uk (alo<i/\blo<j) q (alo,i,blo,j));apply hV (mV (i,j,k)) H.r4 S.m aj (by rw[aq];unfold ba;(rename_i z1;show gp .aZ [[1,2,1]] .aY (.k (.a (.a .C (.a (.m 2 .D) .U)) .A) .aP) ag z1)) ?_;have S1:=S.setM N (mb++[(i,j,k)]);rw[gk]at S1;apply push (p:=alo<i/\blo<j) (alo,i,blo,j) H.r3 S1.q (by unfold ba;(rename_i z1;show uu .aZ [[1,2,1,1]] .aY (.k (.a (.a .C (.a (.m 2 .D) .U)) .F) .aP) .K ag z1 h1)) (xw (xk r5 r9) (xk r7 z)) (ev4 r5 r9 r7 z) ?_;have S2:=S1.QK N (uk (alo<i/\blo<j) q (alo,i,blo,j));apply push (p:=i+k<ahi/\j+k<bhi) (i+k,ahi,j+k,bhi) H.r3 S2.q (by unfold ba;(rename_i z1;show TN .aZ [[1,2,1,2,1,1,-2,2]] .aY (.k (.a (.a .C (.a (.m 2 .D) .U)) .F) .aP) (.k .a7 .I) (.k .J (.a .C (.a (.m 2 .K) .U))) (.k .A .J) (.e (.a .D (.v 10)) .I) (.e (.a .K (.v 10)) .G) ag z1 W.2.1 h2 h4 (aa (gp .A .b .K .aM W.1 W.2.1)) (aa (az .A .a .A W.1)))) (xw (xk (oe r9 O) r6) (xk (oe z O) r8)) (ev4 (oe r9 O) r6 (oe z O) r8) ?_;have S3:=S2.QK N (uk (i+k<ahi/\j+k<bhi) (uk (alo<i/\blo<j) q (alo,i,blo,j)) (i+k,ahi,j+k,bhi));apply h _ _ lt #[_,mb++[(i,j,k)],H,rfl,S3,?_,?_,ai.part hf hk]
 ·rw[bq,kn];(rename_i z1;show um (.k .a4 .aK) .b (.k (.a (.a .D (.a (.m 2 .F) .U)) .B) .aK) (.l .A (.a .D (.a (.m 2 .F) .U))) z1 lt)
 ·show B6 (B6 ao λc=>#[gw c.1,gw c.2,by show i<=as.length;(show gp .A .b (.k .V .D) .bL W.2.1 hr.2.2.1),by show j<=bs.length;(show gp .A .b (.k .V .D) .bL W.2.2.2 hr.2.2.2)]) λc=>#[gw c.1,gw c.2,hr.2.2.1,hr.2.2.2]
def HK {P:Nat->Option Fn}(ao:P 5=some fn5){n:Nat}{σ σ':St}{la lb:V}{db sj ql ml:Addr}{as bs:List Key}{rm:Key->Bool}{js:List Key}{q:List T4}{r:T4}{mb:List T3}{ρ:Fr}{again:Fr->St->Prop}{K:Fl->Fr->St->Prop}
  (hM:MAt σ x la lb db sj as bs rm js) (ha:∀k∈as,td k) (hb:∀k∈bs,td k) (hs:bs.length<400000) (J:as.length<400000) (N:QN σ ql ml) (H:R6 ρ x ql ml as.length bs.length) (S:QS σ σ' ql ml (q++[r]) mb) (hw:qw (q++[r])+mb.length<=2*as.length+1) (z:∀u∈q++[r],In4 as bs u)
  (W:mX (Flm as bs rm λc=>decide (c∈js)) as.length bs.length (q++[r]) mb) (ag:∀w ρ' σ2,w<qw (q++[r])->MO σ x ql ml as bs (Flm as bs rm λc=>decide (c∈js)) w ρ' σ2->again ρ' σ2) :
  gx (jm P (n+1)) (.cons (.a [(.T [5,6,7,8])] (.bm .pop (.l 3) .nil))
   (.cons (.a [(.T [9,10,11]),(.v 12)] (.meth (.l 0) 5 %[.l 5,.l 6,.l 7,.l 8|0]))
   (.cons (.C (.l 11) (.cons (.expr (.bm .append (.l 4) %[.l 12|0]))
    (.cons (.C (.and (.c .lt (.l 5) (.l 9)) (.c .lt (.l 7) (.l 10))) %[.expr (.bm .append (.l 3) %[.T %[.l 5,.l 9,.l 7,.l 10|0]|0])|0] .nil)
    %[.C (.and (.c .lt (.b .add (.l 9) (.l 11)) (.l 6)) (.c .lt (.b .add (.l 10) (.l 11)) (.l 8))) %[.expr (.bm .append (.l 3) %[.T %[.b .add (.l 9) (.l 11),.l 6,.b .add (.l 10) (.l 11),.l 8|0]|0])|0] .nil|0])) .nil) .nil))) ρ σ' (yh again K):=by
 have#[alo,ahi,blo,bhi]:=r;have hq:=S.q;rw[gk]at hq;apply#[_,H.r3,(by show(σ'.L ql).isSome=true;rw[hq];rfl),q.map qV,qV (alo,ahi,blo,bhi),hq,_,QD,rfl,?_];have hr:alo<=ahi/\blo<=bhi/\ahi<=as.length/\bhi<=bs.length:=z (alo,ahi,blo,bhi) (dp _ (.head _));have O:∀u∈q,In4 as bs u:=λu hu=>z u (dj _ hu);have S0:QS σ (σ'.eh ql (q.map qV)) ql ml q mb:=#[S.kp.eh N.q,cj _ _ _,(fh (fF N.ne)).trans S.m];have#[d,f,hI,_]:=hM.I;apply#[_,H.r0,x,rfl,(by show(σ'.I x).isSome=true;rw[S.kp.I,hI];rfl),_,rfl,_,rfl,_,rfl,_,rfl,?_];apply flm ao (hM.keep S0.kp) ha hb (by unfold ba;(show fj .aZ .a .c2 hs)) (by unfold ba;(show fj .aZ .a .c2 J)) (.inl rfl) (.inl rfl) hr.1 hr.2.1 hr.2.2.1 hr.2.2.2 λσ2 i0 j0 k0 k2 best=>?_;have hf:Flm as bs rm (λc=>decide (c∈js)) alo ahi blo bhi (grow as bs (λc=>decide (c∈js)) alo ahi blo bhi i0 j0 k0):=#[_,_,_,best,rfl];have S2:=S0.kept k2;generalize grow as bs (λc=>decide (c∈js)) alo ahi blo bhi i0 j0 k0=t at hf;have#[i,j,k]:=t;apply#[_,EI (t:=(i,j,k)),rfl,?_];apply uF (k≠0) (kX rfl) (λc=>?_) λc=>?_
 ·show HL J N #[H.r0,H.r1,H.r2,H.r3,H.r4] S2 rfl rfl rfl rfl rfl rfl rfl rfl hf.within hr O hw (Nat.pos_of_ne_zero c) hf W λw ai lt Q=>ag w _ ai lt Q
 ·have rfl:=iA.mp c;have aj:qw q+(2*(ahi-alo)+1)+mb.length<=2*as.length+1:=by rw[n7]at hw;show hw
  apply qo (ag (qw q) _ _ (by rw[n7];(show cX (.l .A (.a .A .aP)) .i)) #[q,mb,#[H.r0,H.r1,H.r2,H.r3,H.r4],rfl,S2,by show mW (.k .L .aK) .a (.k (.a (.a .A (.a (.m 2 .D) .U)) .B) .aK) aj,O,W.drop hf])
structure R7 (ρ:Fr)(x nl:Addr)(na nb:Nat):Prop where
 r0:ρ 0=some (.obj x)
 r1:ρ 1=some (.int na)
 r2:ρ 2=some (.int nb)
 r16:ρ 16=some (.L nl)
inductive MR (σ1:St)(x nl:Addr)(na nb:Nat)(L:List T3)(t:Nat)(ρ:Fr)(σ2:St):Prop
 |mk (i j k:Nat) (acc:List T3):R7 ρ x nl na nb->Kp σ1 σ2->ρ 13=some (.int i)->ρ 14=some (.int j)->ρ 15=some (.int k)->σ2.L nl=some (acc.map tV)->acc.length<=t->acc++mrg i j k (L.drop t)=mrg 0 0 0 L->MR σ1 x nl na nb L t ρ σ2
def AU {C:Cal}{ρ:Fr}{K:Fl->Fr->St->Prop}{ss:pq}{acc:List T3}{i j k:Nat}(O:ρ 16=some (.L nl))(I:ρ 13=some (.int i))(J:ρ 14=some (.int j))(U:ρ 15=some (.int k))(W:σ2.L nl=some (acc.map tV))(hl:acc.length<ba)
  (h:gx C ss ρ (σ2.eh nl ((acc++if k=0 then [] else [(i,j,k)]).map tV)) K) :
  gx C (.cons (.C (.l 15) %[.expr (.bm .append (.l 16) %[.T %[.l 13,.l 14,.l 15|0]|0])|0] .nil) ss) ρ σ2 K:=by
 apply uF (k≠0) (kX U) (λc=>?_) λc=>?_
 ·rw[aw c,gk]at h;show hV (tV (i,j,k)) O W (ev3 I J U) (by rw[aq];show hl) (qo h)
 ·rw[cf (iA.mp c),dk,xh W]at h;show qo h
def GS {C:Cal}{B:St}{na nb t:Nat}{L:List T3}{ρ:Fr}{K:Fl->Fr->St->Prop}{again:Fr->St->Prop}(hn:B.L nl=none)(hL:L.length<400000)(ht:t<L.length)(I:MR B x nl na nb L t ρ σ2)(ai:∀ρ' σ',MR B x nl na nb L (t+1) ρ' σ'->again ρ' σ') :
  gx C (.cons (.C (.and (.c .eq (.b .add (.l 13) (.l 15)) (.l 17)) (.c .eq (.b .add (.l 14) (.l 15)) (.l 18))) %[.aug 15 .add (.l 19)|0]
   (.cons (.C (.l 15) %[.expr (.bm .append (.l 16) %[.T %[.l 13,.l 14,.l 15|0]|0])|0] .nil)
   %[.a [.T [13,14,15]] (.T %[.l 17,.l 18,.l 19|0])|0])) .nil) (ji [17,18,19] [.int L[t].1,.int L[t].2.1,.int L[t].2.2] ρ) σ2 (yh again K):=by
 have#[i,j,k,acc,H,kp,ag,z,W,J,U,hm]:=I;rw[cg ht]at hm;generalize L[t]=u at *;have#[i2,j2,k2]:=u;have hm:acc++(if i+k=i2/\j+k=j2 then mrg i j (k+k2) (L.drop (t+1)) else if k=0 then mrg i2 j2 k2 (L.drop (t+1)) else (i,j,k)::mrg i2 j2 k2 (L.drop (t+1)))=mrg 0 0 0 L:=hm;apply uF (i+k=i2/\j+k=j2) (xw (oY (oe ag W) rfl) (oY (oe z W) rfl)) (λc=>?_) λc=>?_
 ·rw[cf c]at hm;apply#[_,W,_,rfl,ai _ _ #[i,j,k+k2,acc,#[H.r0,H.r1,H.r2,H.r16],kp,ag,z,rfl,J,i6 U,hm]]
 ·rw[aw c]at hm;apply AU H.r16 ag z W J (by unfold ba;(show sd .aZ .e .aY .L .K hL ht U)) ?_;apply BW [.int i2,.int j2,.int k2] rfl rfl (fX (qo (ai _ _ #[i2,j2,k2,acc++(if k=0 then [] else [(i,j,k)]),#[H.r0,H.r1,H.r2,H.r16],kp.eh hn,rfl,rfl,rfl,cj _ _ _,?_,?_])))
  ·rw[bq];by_cases c0:k=0
   ·rw[cf c0];show acc.length+0<=_;(show az (.k (.a .A .O) .P) .a .A U)
   ·rw[aw c0];show acc.length+1<=_;(show az .aI .a .A U)
  ·rw[<- hm];by_cases c0:k=0
   ·rw[cf c0,cf c0,dk]
   ·rw[aw c0,aw c0,bg];rfl
def LK {C:Cal}{σ W:St}{d:Addr}{f:Nat->Option V}{na nb:Nat}{acc:List T3}{ρ:Fr}{Q:V->St->Prop}(hI:σ.I x=some (d,f))(z:Kp σ W)(H:R7 ρ x nl na nb)(hn:σ.L nl=none)(hl:acc.length<ba)(O:W.L nl=some (acc.map tV))
  (h:∀c σ',Kp σ σ'->σ.L c=none->σ'.L c=some ((acc++[(na,nb,0)]).map mV)->Q (.L c) (σ'.ki x d (upd f 4 (.L c)))) :
  gx C (.cons (.expr (.bm .append (.l 16) %[.T %[.l 1,.l 2,.int 0|0]|0]))
   %[.a [(.attr (.l 0) 4)] (.M (.l 16)),.ret (.attr (.l 0) 4)|0]) ρ W (sU Q):=by
 apply hV (tV (na,nb,0)) H.r16 O (ev3 H.r1 H.r2 rfl) (by rw[aq];show hl) ?_;rw[show acc.map tV++[tV (na,nb,0)]=(acc++[(na,nb,0)]).map tV from by rw[gk];rfl];apply#[_,H.r16,nl,(acc++[(na,nb,0)]).map λt:T3=>[V.int t.1,V.int t.2.1,V.int t.2.2],rfl,(by rw[gq];show cj _ _ _),(by intro t ht;have#[u,_,rfl]:=ee.mp ht;rfl),λc hc=>?_];have J:c≠nl:=λq=>by
  rw[q]at hc;have:upd W.L nl _ nl=none:=hc;rw[cj]at this;cases this
 have U:σ.L c=none:=by
  have:upd W.L nl _ c=none:=hc;rw[fh J]at this;show z.noL this
 rw[gq];have k4:Kp σ ((W.eh nl ((acc++[(na,nb,0)]).map tV)).eh c ((acc++[(na,nb,0)]).map mV)):=(z.eh hn).eh U;have B:((W.eh nl ((acc++[(na,nb,0)]).map tV)).eh c ((acc++[(na,nb,0)]).map mV)).I x=some (d,f):=(lu k4.I x).trans hI;apply#[_,H.r0,x,d,f,rfl,B,_,H.r0,x,d,upd f 4 (.L c),_,rfl,cj _ _ _,cj _ _ _,h c _ k4 U (cj _ _ _)]
def gmb {P:Nat->Option Fn}(hP:P 6=some fn6)(bu:P 5=some fn5){n:Nat}{σ:St}{la lb:V}{db sj d:Addr}{f:Nat->Option V}{as bs:List Key}{rm:Key->Bool}{js:List Key}{Q:V->St->Prop}
  (hM:MAt σ x la lb db sj as bs rm js) (hI:σ.I x=some (d,f)) (f4:f 4=some .none) (ha:∀k∈as,td k) (hb:∀k∈bs,td k) (hs:bs.length<400000) (aj:as.length<400000)
  (h:∀σ' c L,Kp σ σ'->wc (Flm as bs rm λc=>decide (c∈js)) 0 as.length 0 bs.length L->σ.L c=none->σ'.L c=some ((mrg 0 0 0 L++[(as.length,bs.length,0)]).map mV)->Q (.L c) (σ'.ki x d (upd f 4 (.L c)))):jm P (n+2) 6 [.obj x] σ Q:=by
 apply#[fn6,hP,av 1,av 1,?_];have#[d',f',bd,f1,f2,f7,f8]:=hM.I;have#[rfl,rfl]:d=d'/\f=f':=by rw[hI]at bd;cases bd;apply#[rfl,rfl]
 have h0:frameOf fn6 [.obj x] 0=some (.obj x):=rfl;generalize frameOf fn6 [.obj x]=ρ at h0;apply#[.obj x,h0,x,d,f,.none,rfl,hI,f4,?_];apply H6 (C:=jm P (n+1)) (λ_ q=>gR h0 hI f1 q) hM.La (jf (gw aj) (by decide)) ?_;apply H6 (C:=jm P (n+1)) (λ_ q=>gR h0 hI f2 q) hM.Lb (jf (gw hs) (by decide)) #[bh rfl,?_];apply#[_,rfl,rfl,?_];apply#[_,rfl,_,rfl,bh rfl,bh rfl,λql ax=>?_];apply#[bh rfl,λml ar=>?_];have ao:ql≠ml:=λq=>by
  rw[<- q]at ar;have:upd σ.L ql _ ql=none:=ar;rw[cj]at this;cases this
 have N:QN σ ql ml:=#[ao,ax,(fh (fF ao)).symm.trans ar];apply#[2*as.length+2,dD (MO σ x ql ml as bs (Flm as bs rm λc=>decide (c∈js))) ?_ (2*as.length+2) (2*as.length+1) (tf _) ?_]
 ·rintro w ρ' σ' ⟨q,mb,H,rfl,S,hw,bp,ag⟩ again bt;apply#[_,H.r3,_,S.q,?_];rcases List.eq_nil_or_concat q with rfl|⟨q,r,rfl⟩
  ·apply fA ?_;have#[L,bL,pL]:=ag [] .nil;rw[kB,dk]at pL;have J:=bL.ok λ_ _ _ _ _ h=>h.within;have W:L.length<400000:=by have:=gS (lo:=0) J.1 J.2 (λ_ _=>bz _) (bz _);(show jc .c2 .b .aY (.k (.a .O .A) .B) aj this)
   apply#[_,H.r4,(by show(σ'.L ml).isSome=true;rw[S.m];rfl),mb.map zT,(by rw[S.m,gq];rfl),rfl,?_];rw[QI pL J.2 λt ht=>(J.1 t ht).2];have S1:=S.setM N L;generalize (σ'.eh ml (L.map mV))=σ1 at S1;apply#[bh rfl,λnl U=>?_];have bl:ml≠nl:=λq=>by rw[<- q,S1.m]at U;cases U
   apply#[_,H.r4,L.map mV,(fh bl).trans S1.m,?_];apply sq (MR σ1 x nl as.length bs.length L) ?_ ?_ #[0,0,0,[],#[H.r0,H.r1,H.r2,rfl],(Kp.refl _).eh U,rfl,rfl,rfl,cj _ _ _,av _,rfl]
   ·intro t v ai σ2 hv I;have ht:t<L.length:=(aq (f:=mV) (as:=L))▸(cu.mp hv).1;rw[cp,bb ht]at hv;have rfl:=af hv;have I':=I;have#[_,_,_,_,_,kp,_]:=I';apply#[kp.L _ _ S1.m,λkk bn=>#[_,EI,rfl,GS U W ht I bn]]
   ·intro ai σ2 zz;have#[i,j,k,acc,H2,kp,r13,r14,r15,bc,z,hm]:=zz;rw[aq]at hm z;rw[tn]at hm;apply#[kp.L _ _ S1.m,?_];have ay:=S1.kp.noL U;apply AU H2.r16 r13 r14 r15 bc (by unfold ba;(show jc .aZ .b .aY .A W z)) ?_;have hm:acc++(if k=0 then [] else [(i,j,k)])=mrg 0 0 0 L:=hm;have hl:(mrg 0 0 0 L).length<ba:=by
     rw[<- hm,bq];by_cases c0:k=0
     ·rw[cf c0];show acc.length+0<_;unfold ba;(show jc (.l (.a .A .O) .T) .b .aY .A W z)
     ·rw[aw c0];show acc.length+1<_;unfold ba;(show jc (.l .M .T) .b .aY .A W z)
    rw[hm];show LK hI ((S1.kp.trans kp).eh ay) H2 ay hl (cj _ _ _) λc be k4 hc e=>h be c L k4 bL hc e
  ·rw[List.concat_eq_append]at *;have:((q++[r]).map qV).isEmpty=false:=by rw[gk];cases q<;>rfl
   rw[this];apply gW ?_;show HK bu hM ha hb hs aj N H S hw bp ag λw ai σ2 lt I=>bt w ai σ2 lt I
 ·apply#[[(0,as.length,0,bs.length)],[],#[h0,rfl,rfl,rfl,rfl],?_,#[((Kp.refl σ).eh ax).eh N.m,(fh ao).trans (cj _ _ _),cj _ _ _],?_,?_,mX.start]
  ·simp[qw]
  ·simp[qw]
  ·intro r hr;rw[ah.mp hr];apply#[bz _,bz _,av _,av _]
end SM
namespace SM
open PySem
section
variable {P:Nat->Option Fn}{n:Nat}{Q:V->St->Prop}
variable {C:Cal}{σ:St}{ρ:Fr}{K:Fl->Fr->St->Prop}{ss:pq}{x d:Addr}{f:Nat->Option V}{i a b:Nat}{e:Ex}
def pY (v:V)(h:evV σ ρ e=some v)(W:ρ i=some (.obj x))(U:σ.I x=some (d,f))(k:gx C ss ρ (σ.ki x d (upd f a v)) K):gx C (.cons (.a [.attr (.l i) a] e) ss) ρ σ K:=
 kj e h #[.obj x,W,x,d,f,rfl,U,k]
def uH (v:V)(h:evV (σ.ki x d f) ρ e=some v)(W:ρ i=some (.obj x))(k:gx C ss ρ (σ.ki x d (upd f a v)) K):gx C (.cons (.a [.attr (.l i) a] e) ss) ρ (σ.ki x d f) K:=
 pY v h W mq (by rw[xi];show k)
def MS (v:V)(h:evV σ ρ e=some v)(W:ρ i=some (.obj x))(U:σ.I x=some (d,f))(k:gx C ss ρ (σ.ki x d (upd (upd f a v) b v)) K):gx C (.cons (.a [.attr (.l i) a,.attr (.l i) b] e) ss) ρ σ K:=
 kj e h #[.obj x,W,x,d,f,rfl,U,.obj x,W,x,d,_,rfl,mq,by rw[xi];show k]
def jT (v:V)(h:evV (σ.ki x d f) ρ e=some v)(W:ρ i=some (.obj x))(k:gx C ss ρ (σ.ki x d (upd (upd f a v) b v)) K):gx C (.cons (.a [.attr (.l i) a,.attr (.l i) b] e) ss) ρ (σ.ki x d f) K:=
 MS v h W mq (by rw[xi];show k)
def pW {es:Exs}{m:Nat}(vs:List V)(W:ρ i=some (.obj x))(U:(σ.I x).isSome=true)(h:oW σ ρ es=some vs)(k:C m (.obj x::vs) σ λv σ=>v=.none/\gx C ss ρ σ K):gx C (.cons (.expr (.meth (.l i) m es)) ss) ρ σ K:=
 #[.obj x,W,x,rfl,U,gP (Q:=λvs σ=>C m (.obj x::vs) σ λv σ=>v=.none/\gx C ss ρ σ K) es h k]
end
def G2 (O:P 2=some fn2){x d:Addr}{la:V}{f:Nat->Option V}{σ:St}(W:σ.I x=some (d,f))(U:f 1=some .none)(hn:isNone la=false)(h:Q .none (σ.ki x d (upd (upd (upd f 1 la) 4 .none) 5 .none))):jm P (n+1) 2 [.obj x,la] σ Q:=
 ⟨fn2,O,av 2,av 2,pU (uG false (by
   show((σ.I x).bind λp=>p.2 1).bind _=_;rw[W];show(f 1).bind _=_;rw[U];show cc some hn) (fA (qo (pY la rfl rfl W (jT .none rfl rfl (qo h))))))⟩
def FZ (O:P 1=some fn1){x:Addr}{W U:V}{σ:St}(J:(σ.I x).isSome=true)(h:jm P n 2 [.obj x,W] σ λv σ=>v=.none/\(σ.I x).isSome=true/\jm P n 3 [.obj x,U] σ λv σ=>v=.none/\Q .none σ):jm P (n+1) 1 [.obj x,W,U] σ Q:=
 ⟨fn1,O,av 3,av 3,pU (pW [W] rfl J rfl (Eq.mp (cc (jm P n 2 [.obj x,W] σ) (funext λv=>funext λσ'=>propext ⟨λq=>#[q.1,pW [U] rfl q.2.1 rfl q.2.2],λq=>⟨q.1,by
  have#[_,_,e,y,e',z,_,e2,B]:=q;cases e;cases e';cases e2;apply#[z,B]⟩⟩)) h))⟩
def G0 (O:P 3=some fn3){x d:Addr}{lb:V}{f:Nat->Option V}{σ:St}(W:σ.I x=some (d,f))(U:f 2=some .none)(hn:isNone lb=false)
  (h:jm P n 4 [.obj x] (σ.ki x d (upd (upd (upd (upd f 2 lb) 4 .none) 5 .none) 6 .none)) λv σ=>v=.none/\Q .none σ):jm P (n+1) 3 [.obj x,lb] σ Q:=
 ⟨fn3,O,av 2,av 2,pU (uG false (by
   show((σ.I x).bind λp=>p.2 2).bind _=_;rw[W];show(f 2).bind _=_;rw[U];show cc some hn) (fA (qo (pY lb rfl rfl W (jT .none rfl rfl (uH .none rfl rfl (pW [] rfl (by rw[mq];rfl) rfl h)))))))⟩
abbrev J1 (aj:Bool)(as:List V):Prop:=as=[.bool aj]\/(as=[]/\aj=true)
def init (O:P 0=some fn0){x d:Addr}{U W:V}{aj:Bool}{as:List V}{σ:St}(has:J1 aj as)(J:σ.I x=some (d,λ_=>none))
  (h:jm P n 1 [.obj x,U,W] (σ.ki x d (upd (upd (upd (upd (λ_=>none) 0 .none) 1 .none) 2 .none) 3 (.bool aj))) λv σ=>v=.none/\Q .none σ):jm P (n+1) 0 (.obj x::.none::U::W::as) σ Q:=by
 rcases has with rfl|⟨rfl,rfl⟩
 ·apply#[fn0,O,av 5,oh 5 4,pU (pY .none rfl rfl J (jT .none rfl rfl (uH (.bool aj) rfl rfl (pW [U,W] rfl (by rw[mq];rfl) rfl h))))]
 ·apply#[fn0,O,dS 4,oh 5 3,pU (pY .none rfl rfl J (jT .none rfl rfl (uH (.bool true) rfl rfl (pW [U,W] rfl (by rw[mq];rfl) rfl h))))]
def ME (hP:P 4=some fn4){x d:Addr}{lb:V}{f:Nat->Option V}{bs:List Key}{σ:St}(hI:σ.I x=some (d,f))(bp:f 0=some .none)(bn:f 2=some lb){aj:Bool}(bl:f 3=some (.bool aj))(bu:aj=true->bs.length<200)(hL:ub σ lb=some (bs.map Key.v))(hz:bs.length<ba)
  (h:∀σ₁ db W U,B2J (σ.ki x d (upd f 7 (.dct db))) σ₁ db bs->σ.D db=none->σ.S W=none->σ.S U=none->W≠U ->
   Q .none (((σ₁.uj W []).uj U []).ki x d (upd (upd (upd f 7 (.dct db)) 8 (.set W)) 9 (.set U)))):jm P (n+1) 4 [.obj x] σ Q:=by
 apply#[fn4,hP,by simp[fn4],by simp[fn4],?_];have h0:frameOf fn4 [.obj x] 0=some (.obj x):=rfl;generalize frameOf fn4 [.obj x]=ρ at h0;apply#[.obj x,h0,x,d,f,lb,rfl,hI,bn,?_];apply λdb bt=>#[.obj x,h0,x,d,f,rfl,hI,?_];apply#[lb,rfl,bs.map Key.v,hL,by rw[aq];show gw hz,?_];apply sq (λi ρ' σ'=>ρ' 0=some (.obj x)/\ρ' 1=some lb/\ρ' 2=some (.dct db)/\B2J (σ.ki x d (upd f 7 (.dct db))) σ' db (bs.take i)) ?_ ?_ ?_
 ·intro i v ρ' σ' hv ⟨r0,r1,r2,J⟩;apply#[lz J.old hL,λk hk=>?_];have hi:i<bs.length:=by
   have:=(cu.mp hv).1;simpa using this
  have bc:v=.T [.int i,bs[i].v]:=by
   rw[cp,List.getElem?_zipIdx]at hv;simp[hi]at hv;show hv.symm
  subst bc;apply#[_,rfl,rfl,?_];apply#[.dct db,r2,?_,bs[i].v,rfl,?_]
  ·have#[es,z,_]:=J.tab;show(σ'.D db).isSome=true;rw[z];rfl
  apply#[bh rfl,λc hc=>?_];have#[es,z,O,c',e1,e2,ag]:=J.step hc bs[i];have ai:(bs.take i).length=i:=by simp;(show(Ar.jt _ _).2.2.elim (λq1=>(jc .D .f .A .Y (Ar.jt _ _).1 q1)) λq1=>(sd .D .h .aD .A .aL hi (Ar.jt _ _).1 q1))
  have bd:bs.take i++[bs[i]]=bs.take (i+1):=(fg hi).symm;rw[ai]at O ag;rw[bd]at ag;apply#[es,bs[i],z,B5 _,by show qt .B .e .L .aV .a9 hz hi O,?_];rw[e1];apply#[.L c',rfl,?_,.int i,rfl,?_]
  ·show(St.L _ c').isSome=true;rw[e2];rfl
  apply#[kM bs[i] (bs.take i),e2,?_,rfl,?_]
  ·unfold kM posOf;have:=List.length_filter_le (λj=>decide ((bs.take i)[j]?=some bs[i])) (List.range (bs.take i).length);simp only[aq,nc]at this ⊢
   (show zR .B .w .L .aV (.e .F .D) (.k .A .F) hz hi ai this)
  show hk _ _ #[r0,r1,r2,ag]
 ·intro ρ' σ' ⟨r0,r1,r2,J⟩;have O:((bs.map Key.v).zipIdx.map λp=>V.T [.int p.2,p.1]).length=bs.length:=by simp
  rw[O,gv]at J;apply#[lz J.old hL,?_];have bv:σ'.I x=some (d,upd f 7 (.dct db)):=by rw[J.I];show mq
  intro W be _;apply#[.obj x,r0,x,d,_,rfl,bv,?_];apply#[.obj x,r0,x,d,_,.none,rfl,mq,by simp[upd,bp],?_];apply#[.none,rfl,λU ar _=>?_];have ay:W≠U:=λe=>by
   have:upd σ'.S W [] U=none:=ar;rw[<- e,cj]at this;cases this
  apply#[.obj x,r0,x,d,_,rfl,mq,?_];apply yE (C:=jm P n) r1 (lz J.old hL) (gw hz) ?_;apply#[.obj x,r0,x,d,_,.bool aj,rfl,mq,by simp[upd,bl],?_];have ax:σ.S W=none:=by
   have:σ'.S W=none:=be;rw[J.S]at this;show this
  have ao:σ.S U=none:=by
   have:upd σ'.S W [] U=none:=ar;rw[fh (fF ay),J.S]at this;show this
  have:=h σ' db W U J bt ax ao ay;have e:((((σ'.uj W []).ki x d (upd (upd f 7 (V.dct db)) 8 (V.set W))).uj U []).ki x d (upd (upd (upd f 7 (V.dct db)) 8 (V.set W)) 9 (V.set U)))=(((σ'.uj W []).uj U []).ki x d (upd (upd (upd f 7 (.dct db)) 8 (.set W)) 9 (.set U))):=by
   unfold St.uj St.ki
   congr 1
   funext j
   simp only[upd];split<;>rfl
  rw[<- e]at this;cases aj with
  |false=>show this
  |true =>
   apply#[_,rfl,?_];have hd:decide ((200:Int)<=(bs.length:Nat))=false:=dg (by have:=bu rfl;(show fj (.ij (.n 200) .L) .a (.l .A (.n 200)) this));show if decide ((200:Int)<=(bs.length:Nat))=true then _ else _
   rw[hd];show this
 ·apply#[h0,rfl,rfl,B2J.start]
end SM
end MP
end
section
namespace MP
open PySem
variable {σ σ₁:St}{c:Addr}
structure Ext (σ σ':St):Prop where
 L:∀a xs,σ.L a=some xs->σ'.L a=some xs
 D:∀a es,σ.D a=some es->σ'.D a=some es
 S:∀a es,σ.S a=some es->σ'.S a=some es
 I:∀a es,σ.I a=some es->σ'.I a=some es
def Ext.refl (σ:St):Ext σ σ:=#[λ_ _ e=>e,λ_ _ e=>e,λ_ _ e=>e,λ_ _ e=>e]
def Ext.trans {σ₂:St}(h:Ext σ σ₁)(h':Ext σ₁ σ₂):Ext σ σ₂:=#[λ_ _ e=>h'.L _ _ (h.L _ _ e),λ_ _ e=>h'.D _ _ (h.D _ _ e),λ_ _ e=>h'.S _ _ (h.S _ _ e),λ_ _ e=>h'.I _ _ (h.I _ _ e)]
def Kp.ext {σ':St}(h:Kp σ σ'):Ext σ σ':=#[h.L,h.D,λ_ _ e=>by rw[h.S];show e,λ_ _ e=>by rw[h.I];show e]
def Ext.noL (h:Ext σ σ₁)(hc:σ₁.L c=none):σ.L c=none:=by
 cases q:σ.L c with
 |none=>rfl
 |some xs=>rw[h.L _ _ q]at hc;cases hc
def nI {α:Type}{f g:Nat->Option α}(h:∀a x,f a=some x->g a=some x){c:Nat}{x:α}(hc:f c=none):∀a y,f a=some y->upd g c x a=some y:=λa y e=>by
 have:a≠c:=λq=>by rw[q,hc]at e;cases e
 rw[fh this];show h a y e
def Ext.eh (h:Ext σ σ₁){xs:List V}(hc:σ.L c=none):Ext σ (σ₁.eh c xs):=#[nI h.L hc,h.D,h.S,h.I]
def Ext.uj (h:Ext σ σ₁){xs:List Key}(hc:σ.S c=none):Ext σ (σ₁.uj c xs):=#[h.L,h.D,nI h.S hc,h.I]
def Ext.ki (h:Ext σ σ₁){d:Addr}{f:Nat->Option V}(hc:σ.I c=none):Ext σ (σ₁.ki c d f):=#[h.L,h.D,h.S,nI h.I hc]
def B2J.ext {σ₀:St}{db:Addr}{bs:List Key}(h:B2J σ₀ σ₁ db bs)(hd:σ₀.D db=none):Ext σ₀ σ₁:=
 #[h.old,λa es e=>by rw[h.D a (λq=>by rw[q,hd]at e;cases e)];show e,λ_ _ e=>by rw[h.S];show e,λ_ _ e=>by rw[h.I];show e]
def TabAt.ext {σ':St}{db:Addr}{bs:List Key}{rm:Key->Bool}(h:TabAt σ db bs rm)(k:Ext σ σ'):TabAt σ' db bs rm:=by
 have#[es,I,J,O]:=h;apply#[es,k.D _ _ I,J,λq U=>(O q U).imp_right λW=>by have#[c,z,B]:=W;apply#[c,z,k.L _ _ B]]
namespace SM
def make {P:Nat->Option Fn}(h0:P 0=some fn0)(h1:P 1=some fn1)(h2:P 2=some fn2)(h3:P 3=some fn3)(h4:P 4=some fn4){n:Nat}{la lb:V}{as bs:List Key}{es:Exs}{ρ:Fr}{Q:V->St->Prop}{aj:Bool}{z:List V}(ay:J1 aj z)(ax:aj=true->bs.length<200)
  (hE:∀Q:List V->St->Prop,Q (.none::la::lb::z) σ->vo (jm P (n+4)) es ρ σ Q)
  (J:ub σ la=some (as.map Key.v)) (W:ub σ lb=some (bs.map Key.v)) (hz:bs.length<ba)
  (h:∀σ' x d f db sj,Ext σ σ'->σ.I x=none->σ'.I x=some (d,f)->f 4=some .none->f 5=some .none->f 0=some .none->f 3=some (.bool aj)->MAt σ' x la lb db sj as bs (λ_=>false) []->Q (.obj x) σ'):wpE (jm P (n+4)) (.n es) ρ σ Q:=by
 rw[EC];apply hE _ ?_;intro x d hx;apply init h0 ay (d:=d) (cj _ _ _) ?_;apply FZ h1 (by rw[mq];rfl) ?_;apply G2 h2 mq rfl (rH J) ?_;apply#[rfl,by rw[mq];rfl,?_];apply G0 h3 mq rfl (rH W) ?_;rw[xi,xi,xi];apply ME h4 (lb:=lb) (bs:=bs) mq rfl rfl (aj:=aj) rfl ax W hz λσ₁ db U s2 B ar ai ag ao=>?_;apply#[rfl,rfl,rfl,rfl,?_];rw[xi]at B;generalize O:(upd (upd (upd (upd (upd (upd (upd (upd (upd (upd (upd (λx=>(none:Option V)) 0 V.none) 1 V.none) 2 V.none) 3 (V.bool aj)) 1 la) 4 V.none) 5 V.none) 2 lb) 4 V.none) 5 V.none) 6 V.none)=f at B ⊢;have bd:Ext σ σ₁:=((Ext.refl σ).ki hx).trans (B.ext ar);have bc:σ₁.I x=some (d,upd f 7 (.dct db)):=by rw[B.I];show mq
 have E2:Ext σ ((σ₁.uj U []).uj s2 []):=(bd.uj ai).uj ag;have be:((σ₁.uj U []).uj s2 []).I x=some (d,upd f 7 (.dct db)):=bc;apply h _ x d (upd (upd (upd f 7 (.dct db)) 8 (.set U)) 9 (.set s2)) db U (E2.ki hx) hx mq (by rw[<- O];rfl) (by rw[<- O];rfl) (by rw[<- O];rfl) (by rw[<- O];rfl) #[#[d,_,mq,by rw[<- O];rfl,by rw[<- O];rfl,rfl,rfl],lz E2.L J,lz E2.L W,?_,?_]
 ·have#[es,q1,q2,q3]:=B.tabAt;apply#[es,q1,q2,q3]
 ·show upd (upd σ₁.S U []) s2 [] U=_;rw[fh ao,cj]
end SM
end MP
end
section
namespace MP
variable {L:List (Nat×Nat×Nat)}{i j k:Nat}
structure uC (H:Nat->Nat->Prop)(alo ahi blo bhi i j k:Nat):Prop where
 ai:alo<=i
 ia:i+k<=ahi
 bj:blo<=j
 jb:j+k<=bhi
 eq:∀t,t<k->H (i+t) (j+t)
structure BZ (H:Nat->Nat->Prop)(alo ahi blo bhi i j k:Nat):Prop where
 pos:0<k
 run:uC H alo ahi blo bhi i j k
 max:∀i' j' k',0<k'->uC H alo ahi blo bhi i' j' k'->k'<k\/(k'=k/\(i<i'\/(i=i'/\j<=j')))
inductive BT (H:Nat->Nat->Prop):Nat->Nat->Nat->Nat->List (Nat×Nat×Nat)->Prop
 |nil {alo ahi blo bhi:Nat}:(∀i j,alo<=i->i<ahi->blo<=j->j<bhi->¬H i j)->BT H alo ahi blo bhi []
 |node {alo ahi blo bhi i j k:Nat} {L R:List (Nat×Nat×Nat)}:BZ H alo ahi blo bhi i j k->BT H alo i blo j L->BT H (i+k) ahi (j+k) bhi R->BT H alo ahi blo bhi (L++(i,j,k)::R)
section
variable {H:Nat->Nat->Prop}{alo ahi blo bhi:Nat}
def BT.ok (h:BT H alo ahi blo bhi L):(∀t∈L,Within alo ahi blo bhi t/\0<t.2.2)/\L.Pairwise wm/\∀t∈L,uC H alo ahi blo bhi t.1 t.2.1 t.2.2:=by
 induction h with
 |nil _=>refine#[λt h=>(by cases h),.nil,λt h=>(by cases h)]
 | @node alo ahi blo bhi i j k L R B _ _ hl hr =>
  have z:=B.run;have:=B.pos;have:=z.ai;have:=z.ia;have:=z.bj;have:=z.jb;apply#[λt I=>?_,?_,λt I=>?_]
  ·rcases dh.mp I with q|q
   ·have:=hl.1 t q;unfold Within at *
    (rename_i U O W;show#[#[(az .A .a .A this.1.1),#[(um .F .b .aW .bF U this.1.2.1),#[(az .A .a .A this.1.2.2.1),(um .F .b .aW .bF W this.1.2.2.2)]]],(fj .C .a .C this.2)])
   ·rcases bw.mp q with q|q
    ·subst q;unfold Within;simp only
     (rename_i J U O W;show#[#[(az .A .a .A U),#[(gz .F .a .F O),#[(az .A .a .A W),(gz .F .a .F this)]]],(fj .C .a .C J)])
    ·have:=hr.1 t q;unfold Within at *
     (rename_i z5 J U O W;show#[#[(gp .A .b .K .aM z5 this.1.1),#[(gz .F .a .F this.1.2.1),#[(gp .A .b .K .aM U this.1.2.2.1),(gz .F .a .F this.1.2.2.2)]]],(fj .C .a .C this.2)])
  ·rw[ou];apply#[hl.2.1,.cons (λu hu=>?_) hr.2.1,λt I u hu=>?_]
   ·have:=hr.1 u hu;unfold Within at this;unfold wm;simp only
    (show#[(gz .F .a .F this.1.1),(gz .F .a .F this.1.2.2.1)])
   ·have:=hl.1 t I;unfold Within at this;unfold wm;rcases bw.mp hu with q|q
    ·subst q;simp only
     (show#[(gz .F .a .F this.1.2.1),(gz .F .a .F this.1.2.2.2)])
    ·have:=hr.1 u q;unfold Within at this
     (rename_i W;show#[(um .F .b .bF .aW W.1.2.1 this.1.1),(um .F .b .bF .aW W.1.2.2.2 this.1.2.2.1)])
  ·rcases dh.mp I with q|q
   ·have:=hl.2.2 t q;apply#[this.ai,by have:=this.ia;(rename_i J U O W;show um .F .b .aW .bF J this),this.bj,by have:=this.jb;(rename_i O W;show um .F .b .aW .bF O this),this.eq]
   ·rcases bw.mp q with q|q
    ·subst q;show z
    ·have:=hr.2.2 t q;apply#[by have:=this.ai;(rename_i z6 z5 J U O W;show gp .A .b .K .aM z6 this),this.ia,by have:=this.bj;(rename_i J U O W;show gp .A .b .K .aM J this),this.jb,this.eq]
def BT.congr {H':Nat->Nat->Prop}(h:BT H alo ahi blo bhi L)(e:∀i j,alo<=i->i<ahi->blo<=j->j<bhi->(H i j↔H' i j)):BT H' alo ahi blo bhi L:=by
 induction h with
 |nil q=>show .nil λi j a b c d=>λx=>q i j a b c d ((e i j a b c d).mpr x)
 | @node alo ahi blo bhi i j k L R B _ _ aj ag =>
  have U:=B.run;have:=B.pos;have:=U.ai;have:=U.ia;have:=U.bj;have:=U.jb;apply .node #[B.pos,#[U.ai,U.ia,U.bj,U.jb,λt z=>(e _ _ (by(rename_i z3 I W;show gz .c1 .a .A z3)) (by(rename_i I W;show gp .J .b .b0 .S I z)) (by(rename_i W;show gz .c1 .a .A W)) (gp .J .b .b0 .S this z)).mp (U.eq t z)],λi' j' k' p O=>B.max i' j' k' p #[O.ai,O.ia,O.bj,O.jb,λt z=>?_]] (aj λi j a b c d=>e i j a (by(rename_i I W;show gp .B .b .aM .G I b)) c (gp .B .b .aM .G this d)) (ag λi j a b c d=>e i j (by(rename_i z3 I W;show gp .A .b .K .aM z3 a)) b (by(rename_i W;show gp .A .b .K .aM W c)) d);have:=O.ai;have:=O.ia;have:=O.bj;have:=O.jb;show(e _ _ (by(rename_i z3 I W;show gz .c1 .a .A z3)) (by(rename_i I W;show gp .J .b .S .b0 z I)) (by(rename_i W;show gz .c1 .a .A W)) (gp .J .b .S .b0 z this)).mpr (O.eq t z)
def oC {t:Nat×Nat×Nat}{R:List (Nat×Nat×Nat)}(U:eI L)(W:eI (t::R))(h:∀u∈L,Apart u t):eI (L++t::R):=by
 induction L with
 |nil=>show W
 |cons u L O =>
  cases L with
  |nil=>refine#[h u (.head _),W]
  |cons v L=>refine#[U.1,O U.2 λw J=>h w (.tail _ J)]
def BT.KX (h:BT H alo ahi blo bhi L):eI L:=by
 induction h with
 |nil _=>trivial
 | @node alo ahi blo bhi i j k L R B hL hR ao aj =>
  have Rn:=B.run;have:=B.pos;have:=Rn.ai;have:=Rn.ia;have:=Rn.bj;have:=Rn.jb;have oL:=hL.ok;have oR:=hR.ok;apply oC ao ?_ ?_
  ·cases R with
   |nil=>trivial
   |cons u R =>
    apply#[?_,aj];rintro ⟨W,I⟩;have z:=oR.2.2 u (.head _);have hu:=(oR.1 u (.head _)).2;have:=z.ia;have:=z.jb;simp only at W I;have:=B.max i j (k+u.2.2) (az (.l .O .L) .a .V hu) ⟨by(rename_i z5 z4 z3 z2 U;show az .A .a .A z5),by(rename_i U;show um .bH .b (.e .L .F) .cF W U),by(rename_i z3 z2 U;show az .A .a .A z3),by show um .bH .b (.e .L .F) .cF I this,λt ht=>by
     by_cases c:t<k
     ·show Rn.eq t c
     ·have:=z.eq (t-k) (gp .B .b (.l .C (.a .D .B)) .bZ ht (aa (az .A .a (.g .B .A) c)));have x1:u.1+(t-k)=i+t:=by(show um (.e .L .R) .v (.e (.a .C .F) .A) .c5 W (aa (az .A .a (.g .B .A) c)))
      have x2:u.2.1+(t-k)=j+t:=by(show MM (.e .L .R) .o (.e .aB .H) (.e (.a .C .G) .A) (.e (.a .H .B) (.a .F .D)) W I x1)
      rw[x1,x2]at this;show this⟩
    (show this.elim (λJ=>(az .ff .k (.l .L .A) J)) λJ=>(jc .ff .c .C (.e .a9 .B) hu J.1))
  ·intro u hu zz;have#[W,I]:=zz;have z:=oL.2.2 u hu;have ag:=(oL.1 u hu).2;have:=z.ai;have:=z.bj;simp only at W I;have:=B.max u.1 u.2.1 (u.2.2+k) (az (.l .O .L) .a .C ag) ⟨by(rename_i U;show az .A .a .A U),by(rename_i z4 z3 z2 U;show um .bH .b .cF (.e .L .F) z4 W),by show az .A .a .A this,by(rename_i z2 U;show um .bH .b .cF (.e .L .F) z2 I),λt ht=>by
    by_cases c:t<u.2.2
    ·show z.eq t c
    ·have:=Rn.eq (t-u.2.2) (gp .B .b (.l .C (.a .D .B)) .bZ ht (aa (az .A .a (.g .B .A) c)));have x1:i+(t-u.2.2)=u.1+t:=by(show um (.e .L .R) .v (.e (.a .C .F) .A) .c5 W (aa (az .A .a (.g .B .A) c)))
     have x2:j+(t-u.2.2)=u.2.1+t:=by(show MM (.e .L .R) .o (.e .aB .H) (.e (.a .C .G) .A) (.e (.a .H .B) (.a .F .D)) W I x1)
     rw[x1,x2]at this;show this⟩
   (show this.elim (λJ=>(az .ff .k (.l .L .B) J)) λJ=>(jc .ff .c .C (.e .L .B) ag J.1))
end
abbrev dP (as bs:List Key)(i j:Nat):Prop:=hit as bs (λ_=>false) i j=true
def dP.iff {as bs:List Key}:dP as bs i j↔∃c,as[i]?=some c/\bs[j]?=some c:=by
 unfold dP;rw[yu];simp
section
variable {as bs:List Key}{alo ahi blo bhi:Nat}
def zZ.toH (h:zZ as bs (λ_=>false) alo ahi blo bhi i j k)(hk:0<k):BZ (dP as bs) alo ahi blo bhi i j k:=
 #[hk,#[h.run.ai,h.run.ia,h.run.bj,h.run.jb,h.run.eq],λi' j' k' p R=>h.max i' j' k' p #[R.ai,R.ia,R.bj,R.jb,R.eq]]
def BC {ok:Key->Bool}(h:∀U W,i=U+1->j=W+1->alo<i->blo<j->hit as bs (λc=>!ok c) U W=true->False):dH as bs ok alo blo i j k=(i,j,k):=by
 cases i with
 |zero=>rfl
 |succ i =>
  cases j with
  |zero=>rfl
  |succ j =>
   rw[fS];rw[aw (λq=>h i j rfl rfl q.1 q.2.1 q.2.2)]
def BB {ok:Key->Bool}{n:Nat}(h:i+k<ahi->j+k<bhi->hit as bs (λc=>!ok c) (i+k) (j+k)=true->False):iK as bs ok ahi bhi n i j k=k:=by
 cases n with
 |zero=>rfl
 |succ n =>
  rw[cV];rw[aw (λq=>h q.1 q.2.1 q.2.2)]
def B7 (h:hit as bs (λ_=>true) i j=true):False:=by
 have#[c,_,_,h]:=yu.mp h;cases h
def oQ (h:zZ as bs (λ_=>false) alo ahi blo bhi i j k):grow as bs (λ_=>false) alo ahi blo bhi i j k=(i,j,k):=by
 have R:=h.run;have l1:dH as bs (λ_=>true) alo blo i j k=(i,j,k):=by
  apply BC ?_;rintro i0 z rfl rfl c1 c2 U;have:=R.ia;have:=R.jb;have:=h.max i0 z (k+1) (qg (.l .O .M) .i) #[by show az .A .a .aC c1,by(rename_i I;show gz .N .a .bS I),by show az .A .a .aC c2,by show gz .N .a .bS this,λt ht=>?_]
  ·(show this.elim (λW=>(fj .ff .k (.l .M .A) W)) λW=>(fj .ff .k (.e .M .A) W.1))
  ·cases t with
   |zero=>show U
   |succ t =>
    have:=R.eq t (az .B .a (.l .M .P) ht);have x1:i0+(t+1)=i0+1+t:=by(show cX (.e .a4 .a2) .n)
    have x2:z+(t+1)=z+1+t:=by(show cX (.e .a4 .a2) .n)
    rw[x1,x2];show this
 have l2:∀n,iK as bs (λ_=>true) ahi bhi n i j k=k:=λn=>by
  apply BB ?_;intro c1 c2 U;have:=R.ai;have:=R.bj;have:=h.max i j (k+1) (qg (.l .O .M) .i) #[by(rename_i I;show az .A .a .A I),by show gz .N .a .J c1,by show az .A .a .A this,by show gz .N .a .J c2,λt ht=>?_]
  ·(show this.elim (λW=>(fj .ff .k (.l .M .A) W)) λW=>(fj .ff .k (.e .M .A) W.1))
  ·by_cases c:t<k
   ·show R.eq t c
   ·have:t=k:=by(show jc .D .f .aC .bR ht c)
    subst this;show U
 have l3:dH as bs (λ_=>false) alo blo i j k=(i,j,k):=BC λ_ _ _ _ _ _ U=>B7 U;have l4:∀n,iK as bs (λ_=>false) ahi bhi n i j k=k:=λn=>BB λ_ _ U=>B7 U;have t0:(λc:Key=>!((λ_=>false) c))=λ_=>true:=rfl;show(_,_,_)=_;simp only[Bool.not_false,l1,l2,l3,l4]
def wc.SX (h:wc (Flm as bs (λ_=>false) (λ_=>false)) alo ahi blo bhi L):BT (dP as bs) alo ahi blo bhi L:=by
 induction h with
 | @nil alo ahi blo bhi i j hf =>
  have#[i',j',k',B,e]:=hf;rw[oQ B]at e;cases e;apply .nil λi' j' a b c d hh=>?_;have:=B.max i' j' 1 (eH (.l .O .U) .i) ⟨a,by show az .T .a .B b,c,by show az .T .a .B d,λt ht=>by
   have:t=0:=by(show fj .M .s .c0 ht)
   subst this;show hh⟩
  (show this.elim (λz=>(SD .ff .k (.l .U .O) z)) λz=>(SD .ff .k (.e .U .O) z.1))
 | @node alo ahi blo bhi i j k L R hf hk hL ao hR aj ai ag =>
  have#[i',j',k',B,e]:=hf;rw[oQ B]at e;cases e;apply .node (B.toH hk) ?_ ?_
  ·by_cases c:alo<i/\blo<j
   ·show ai c.1 c.2
   ·rw[ao c];show .nil λi j a b c d=>by(rename_i z1;show λz=>((Ar.imp hL).elim (λI=>(sd .ff .l .A .aD (.g .A .C) a b I)) λI=>((Ar.imp ai).elim (λJ=>(sd .ff .l .A .aD (.g .A .C) a b J)) λJ=>((ku.mp z1).elim (λW=>(sd .ff .l .A .aD (.g .A .C) a b W)) λW=>(sd .ff .l .A .aD (.g .A .C) c d W)))))
  ·by_cases c:i+k<ahi/\j+k<bhi
   ·show ag c.1 c.2
   ·rw[aj c];show .nil λi j a b c d=>by(rename_i z1;show λz=>((Ar.imp hR).elim (λI=>(qt .ff .l .F .a2 (.g .L .D) a b I)) λI=>((Ar.imp ag).elim (λJ=>(qt .ff .l .F .a2 (.g .L .D) a b J)) λJ=>((ku.mp z1).elim (λW=>(qt .ff .l .F .a2 (.g .L .D) a b W)) λW=>(qt .ff .l .F .a2 (.g .L .D) c d W)))))
end
end MP
end
section
namespace MP
open PySem
def mapM_some {α W:Type}{f:α->Option W}{g:α->W}{xs:List α}(h:∀x∈xs,f x=some (g x)):xs.mapM f=some (xs.map g):=by
 induction xs with
 |nil=>rfl
 |cons x r U=>rw[List.mapM_cons,h x (.head _),U λy O=>h y (.tail _ O)];rfl
namespace SM
end SM
public abbrev iV (xs:List Int):List V:=xs.map V.int
def H8 (xs:List Int):(xs.map Key.int).map Key.v=iV xs:=by rw[gq];rfl
structure lH (x:Addr)(σ σ':St):Prop where
 L:∀a xs,σ.L a=some xs->σ'.L a=some xs
 D:∀a es,σ.D a=some es->σ'.D a=some es
 S:∀a es,σ.S a=some es->σ'.S a=some es
 I:∀a es,a≠x->σ.I a=some es->σ'.I a=some es
def Ext.x {σ σ':St}{x:Addr}(h:Ext σ σ'):lH x σ σ':=#[h.L,h.D,h.S,λa es _ e=>h.I a es e]
def lH.trans {x:Addr}{σ σ₁ σ₂:St}(h:lH x σ σ₁)(h':lH x σ₁ σ₂):lH x σ σ₂:=#[λ_ _ e=>h'.L _ _ (h.L _ _ e),λ_ _ e=>h'.D _ _ (h.D _ _ e),λ_ _ e=>h'.S _ _ (h.S _ _ e),λ_ _ n e=>h'.I _ _ n (h.I _ _ n e)]
def lH.ki {x d:Addr}{f:Nat->Option V}{σ σ₁:St}(h:lH x σ σ₁):lH x σ (σ₁.ki x d f):=#[h.L,h.D,h.S,λa es n e=>(fh n).trans (h.I a es n e)]
def lH.ext {x:Addr}{σ₀ σ σ':St}(h:lH x σ σ')(E:Ext σ₀ σ)(W:σ₀.I x=none):Ext σ₀ σ':=#[λ_ _ e=>h.L _ _ (E.L _ _ e),λ_ _ e=>h.D _ _ (E.D _ _ e),λ_ _ e=>h.S _ _ (E.S _ _ e),λa _ e=>h.I _ _ (λq=>by rw[q,W]at e;cases e) (E.I _ _ e)]
namespace SM
open PySem
def O5:=Str×Nat×Nat×Nat×Nat
abbrev oV (t:O5):V:=.T [.str t.1,.int t.2.1,.int t.2.2.1,.int t.2.2.2.1,.int t.2.2.2.2]
abbrev chg (i a j b:Nat):List O5:=if i<a/\j<b then [("replace",i,a,j,b)] else if i<a then [("delete",i,a,j,b)] else if j<b then [("insert",i,a,j,b)] else []
abbrev eql (a b s:Nat):List O5:=if s=0 then [] else [("equal",a,a+s,b,b+s)]
abbrev codes:Nat->Nat->List T3->List O5
 |_,_,[]=>[]
 |i,j,t::r=>chg i t.1 j t.2.1++(eql t.1 t.2.1 t.2.2++codes (t.1+t.2.2) (t.2.1+t.2.2) r)
def MC (i a j b:Nat):(chg i a j b).length<=1:=by
 unfold chg;split
 ·show av _
 ·split
  ·show av _
  ·split
   ·show av _
   ·show bz _
def LW (a b s:Nat):(eql a b s).length<=1:=by
 unfold eql;split
 ·show bz _
 ·show av _
section
variable {C:Cal}{σ:St}{ρ:Fr}{K:Fl->Fr->St->Prop}{ss:pq}{al:Addr}{acc:List O5}{i j a b s:Nat}
def ev5 {I J O U W:Ex}{t:Str}(h1:evV σ ρ I=some (.str t))(h2:evV σ ρ J=some (.int i))(h3:evV σ ρ O=some (.int a))(z:evV σ ρ U=some (.int j))(B:evV σ ρ W=some (.int b)) :
  evV σ ρ (.T %[I,J,O,U,W|0])=some (oV (t,i,a,j,b)):=by
 rw[eD,iz,h1,iz,h2,iz,h3,iz,z,iz,B];rfl
structure R8o (ρ:Fr)(x al:Addr)(i j a b s:Nat):Prop where
 r0:ρ 0=some (.obj x)
 r1:ρ 1=some (.int i)
 r2:ρ 2=some (.int j)
 r3:ρ 3=some (.L al)
 r4:ρ 4=some (.int a)
 r5:ρ 5=some (.int b)
 r6:ρ 6=some (.int s)
def sO {x:Addr}{t:Str}(H:R8o ρ x al i j a b s)(W:ρ 7=some (.str t))(U:Nat.ble t.cps.size ba=true)(hn:(t.cps.size != 0)=true)(O:σ.L al=some (acc.map oV))(hl:acc.length<ba)
  (h:gx C ss ρ (σ.eh al ((acc++[(t,i,a,j,b)]).map oV)) K) :
  gx C (.cons (.C (.l 7) %[.expr (.bm .append (.l 3) %[.T %[.l 7,.l 1,.l 4,.l 2,.l 5|0]|0])|0] .nil) ss) ρ σ K:=by
 apply#[_,W,bh U,?_];rw[hn];apply gW (hV (oV (t,i,a,j,b)) H.r3 O (ev5 W H.r1 H.r4 H.r2 H.r5) (by rw[aq];show hl) (qo ?_));rw[gk]at h;show h
def ES {t:Ex}{e:pq}(W:ρ 7=some (.str ""))(h:gx C ss ρ σ K):gx C (.cons (.C (.l 7) e .nil) ss) ρ σ K:=by
 apply#[_,W,bz _,?_];show fA (qo h)
def MD {x:Addr}(H:R8o ρ x al i j a b s)(U:ρ 7=some (.str ""))(W:σ.L al=some (acc.map oV))(hl:acc.length<ba)
  (h:∀ρ',R8o ρ' x al i j a b s->gx C ss ρ' (σ.eh al ((acc++chg i a j b).map oV)) K) :
  gx C (.cons (.C (.and (.c .lt (.l 1) (.l 4)) (.c .lt (.l 2) (.l 5))) (.cons (.a [(.v 7)] (.str "replace"))
 .nil) (.cons (.C (.c .lt (.l 1) (.l 4)) (.cons (.a [(.v 7)] (.str "delete"))
 .nil) (.cons (.C (.c .lt (.l 2) (.l 5)) (.cons (.a [(.v 7)] (.str "insert"))
 .nil) .nil)
 .nil))
 .nil))
 (.cons (.C (.l 7) (.cons (.expr (.bm .append (.l 3) %[.T %[.l 7,.l 1,.l 4,.l 2,.l 5|0]|0]))
 .nil) .nil) ss)) ρ σ K:=by
 have up:∀v,R8o (upd ρ 7 v) x al i j a b s:=λv=>#[H.r0,H.r1,H.r2,H.r3,H.r4,H.r5,H.r6];unfold chg at h;apply uF (i<a/\j<b) (xw (xk H.r1 H.r4) (xk H.r2 H.r5)) (λc=>?_) λc=>?_
 ·rw[cf c]at h;show lZ (.str "replace") rfl (qo (sO (up _) rfl (by decide +kernel) (by decide +kernel) W hl (h _ (up _))))
 ·rw[aw c]at h;apply uF (i<a) (xk H.r1 H.r4) (λc=>?_) λc=>?_
  ·rw[cf c]at h;show lZ (.str "delete") rfl (fX (qo (sO (up _) rfl (by decide +kernel) (by decide +kernel) W hl (h _ (up _)))))
  ·rw[aw c]at h;apply uF (j<b) (xk H.r2 H.r5) (λc=>?_) λc=>?_
   ·rw[cf c]at h;show lZ (.str "insert") rfl (fX (fX (qo (sO (up _) rfl (by decide +kernel) (by decide +kernel) W hl (h _ (up _))))))
   ·rw[aw c,dk,xh W]at h;show fX (fX (qo (ES (t:=.none) U (h _ H))))
def LY {x:Addr}(H:R8o ρ x al i j a b s)(W:σ.L al=some (acc.map oV))(hl:acc.length<ba)
  (h:∀ρ',ρ' 0=some (.obj x)->ρ' 1=some (.int (a+s:Nat))->ρ' 2=some (.int (b+s:Nat))->ρ' 3=some (.L al)->gx C ss ρ' (σ.eh al ((acc++eql a b s).map oV)) K) :
  gx C (.cons (.a [.T [1,2]] (.T %[.b .add (.l 4) (.l 6),.b .add (.l 5) (.l 6)|0]))
 (.cons (.C (.l 6) (.cons (.expr (.bm .append (.l 3) %[.T %[.str "equal",.l 4,.l 1,.l 5,.l 2|0]|0]))
 .nil) .nil) ss)) ρ σ K:=by
 apply BW [.int (a+s:Nat),.int (b+s:Nat)] ?_ rfl ?_
 ·rw[eD,iz,oe (a:=.l 4) (b:=.l 6) H.r4 H.r6,iz,oe (a:=.l 5) (b:=.l 6) H.r5 H.r6];rfl
 unfold eql at h;apply uF (s≠0) (kX (x:=6) (k:=s) H.r6) (λc=>?_) λc=>?_
 ·rw[aw c,gk]at h;show hV (oV ("equal",a,a+s,b,b+s)) H.r3 W (ev5 rfl H.r4 rfl H.r5 rfl) (by rw[aq];show hl) (qo (h _ H.r0 rfl rfl H.r3))
 ·rw[cf (iA.mp c),dk,xh W]at h;show qo (h _ H.r0 rfl rfl H.r3)
end
def yx {σ:St}{a:Addr}{xs ys:List V}:(σ.eh a xs).eh a ys=σ.eh a ys:=by
 unfold St.eh
 congr 1
 funext j
 simp only[upd];split<;>rfl
inductive SO (x:Addr)(σ:St)(al:Addr)(Ls:List T3)(t:Nat)(ρ:Fr)(σ':St):Prop
 |mk (i j:Nat) (acc:List O5):ρ 0=some (.obj x)->ρ 1=some (.int i)->ρ 2=some (.int j)->ρ 3=some (.L al)->(∃ys,σ'=σ.eh al ys)->σ'.L al=some (acc.map oV)->acc.length<=2*t->acc++codes i j (Ls.drop t)=codes 0 0 Ls->SO x σ al Ls t ρ σ'
def KW {P:Nat->Option Fn}(hP:P 7=some fn7)(ch:P 6=some fn6)(ck:P 5=some fn5){n:Nat}{σ:St}{x:Addr}{la lb:V}{db sj d:Addr}{f:Nat->Option V}{as bs:List Key}{rm:Key->Bool}{js:List Key}{Q:V->St->Prop}
  (hM:MAt σ x la lb db sj as bs rm js) (hI:σ.I x=some (d,f)) (f4:f 4=some .none) (f5:f 5=some .none) (ha:∀k∈as,td k) (hb:∀k∈bs,td k) (hs:bs.length<400000) (bd:as.length<400000)
  (h:∀σ' c L g,lH x σ σ'->wc (Flm as bs rm λc=>decide (c∈js)) 0 as.length 0 bs.length L->σ.L c=none->σ'.I x=some (d,g)->(∀m,m≠4->m≠5->g m=f m)->(mrg 0 0 0 L).length<=L.length ->
   σ'.L c=some ((codes 0 0 (mrg 0 0 0 L++[(as.length,bs.length,0)])).map oV)->Q (.L c) σ'):jm P (n+3) 7 [.obj x] σ Q:=by
 apply#[fn7,hP,av 1,av 1,?_];have#[d',f',bv,f1,f2,f7,f8]:=hM.I;have#[rfl,rfl]:d=d'/\f=f':=by rw[hI]at bv;cases bv;apply#[rfl,rfl]
 have h0:frameOf fn7 [.obj x] 0=some (.obj x):=rfl;generalize frameOf fn7 [.obj x]=ρ at h0;apply#[.obj x,h0,x,d,f,.none,rfl,hI,f5,?_];apply#[bh rfl,λal ao=>?_];apply#[.obj x,h0,x,d,f,rfl,hI,?_];have bc:((σ.eh al []).ki x d (upd f 5 (.L al))).I x=some (d,upd f 5 (.L al)):=mq;have E2:lH x σ ((σ.eh al []).ki x d (upd f 5 (.L al))):=(((Ext.refl σ).eh ao).x).ki;have M2:MAt ((σ.eh al []).ki x d (upd f 5 (.L al))) x la lb db sj as bs rm js:=by
  apply#[#[d,_,mq,f1,f2,f7,f8],lz E2.L hM.La,lz E2.L hM.Lb,?_,E2.S _ _ hM.S];have D2:=hM.D.ext ((Ext.refl σ).eh (xs:=[]) ao);show D2
 have ai:((σ.eh al []).ki x d (upd f 5 (.L al))).L al=some []:=cj _ _ _;generalize ((σ.eh al []).ki x d (upd f 5 (.L al)))=σ2 at bc E2 M2 ai;apply#[.obj x,h0,x,rfl,by rw[bc];rfl,?_];apply gmb ch ck M2 bc f4 ha hb hs bd λag c L k3 b bn hc=>?_;have bp:=k3.L _ _ ai;have bl:c≠al:=λq=>by rw[q,ai]at bn;cases bn
 have E3:lH x σ (ag.ki x d (upd (upd f 5 (.L al)) 4 (.L c))):=(E2.trans k3.ext.x).ki;have ar:(mrg 0 0 0 L).length<=L.length:=by
  have:∀(L:List T3) (i j k:Nat),(mrg i j k L).length<=L.length+(if k=0 then 0 else 1):=by
   intro L;induction L with
   |nil =>
    intro i j k;dsimp only[mrg];by_cases c0:k=0
    ·rw[cf c0];show bz _
    ·rw[aw c0,aw c0];show av _
   |cons t r ih =>
    intro i j k;have#[i',j',k']:=t;dsimp only[mrg];rw[ip];split
    ·have:=ih i j (k+k');by_cases c0:k=0
     ·subst c0;rw[cf rfl];by_cases c1:0+k'=0
      ·rw[cf c1]at this;(show az .cB .a .cC this)
      ·rw[aw c1]at this;(show az .cB .a .Q this)
     ·rw[aw c0];rw[aw ((au c0).elim (λq1=>(az (.u .L .O) .k .b3 q1)) λq1=>(az (.u .L .O) .a .C q1))]at this
      (show az (.k .A (.a .P .U)) .a .Q this)
    ·by_cases c0:k=0
     ·rw[cf c0,cf c0];have:=ih i' j' k';by_cases c1:k'=0
      ·rw[cf c1]at this;(show az .cB .a .cC this)
      ·rw[aw c1]at this;(show az .cB .a .Q this)
     ·rw[aw c0,aw c0,ip];have:=ih i' j' k';by_cases c1:k'=0
      ·rw[cf c1]at this;(show az (.k .M (.a .P .U)) .a .cC this)
      ·rw[aw c1]at this;(show az (.k .M (.a .P .U)) .a .Q this)
  have:=this L 0 0 0
  rwa [cf rfl]at this
 have be:=b.ok λ_ _ _ _ _ h=>h.within;have bu:L.length<400000:=by have:=gS (lo:=0) be.1 be.2 (λ_ _=>bz _) (bz _);(show jc .c2 .b .aY (.k (.a .O .A) .B) bd this)
 have z:(ag.ki x d (upd (upd f 5 (.L al)) 4 (.L c))).L c=some ((mrg 0 0 0 L++[(as.length,bs.length,0)]).map mV):=hc;have W:(ag.ki x d (upd (upd f 5 (.L al)) 4 (.L c))).L al=some []:=bp;have ay:(ag.ki x d (upd (upd f 5 (.L al)) 4 (.L c))).I x=some (d,upd (upd f 5 (.L al)) 4 (.L c)):=mq;have hg:∀m,m≠4->m≠5->(upd (upd f 5 (.L al)) 4 (.L c)) m=f m:=λm h4 h5=>(fh h4).trans (fh h5);generalize (upd (upd f 5 (.L al)) 4 (.L c))=g at hg ay z W E3;generalize ag.ki x d g=ca at ay z W E3;generalize bt:mrg 0 0 0 L++[(as.length,bs.length,0)]=Ls at z;have ax:Ls.length<=400000:=by rw[<- bt,bq,kn];(show jc (.k .M .a3) .b .A .aY ar bu)
 apply#[_,z,?_];apply sq (SO x ca al Ls) ?_ ?_ #[0,0,[],h0,rfl,rfl,rfl,#[[],(xh W).symm],W,bz _,rfl]
 ·intro t v ρ' σ' hv zz;have#[i,j,acc,r0,r1,r2,r3,#[ys,rfl],aj,J,e]:=zz;apply#[(fh bl).trans z,λkk cd=>?_];rw[cp]at hv;have#[u,hu,rfl]:=omap hv;have#[ht,cb]:=cu.mp hu;rw[cg ht,cb]at e;have#[a,b',s]:=u;apply#[_,EI (t:=(a,b',s)),rfl,?_];apply lZ (.str "") rfl ?_;apply MD (x:=x) (al:=al) (i:=i) (j:=j) (a:=a) (b:=b') (s:=s) (acc:=acc) #[r0,r1,r2,r3,rfl,rfl,rfl] rfl aj (by unfold ba;(show sd .aZ [[1,2,1,2]] (.k .B .a3) (.k .A (.m 2 .C)) .L ax J ht)) λct H2=>?_;have h1:=MC i a j b';apply LY H2 (acc:=acc++chg i a j b') (cj _ _ _) (by rw[bq];unfold ba;(show mU (.l .L .T) [[1,2,1,2,1]] (.k .C .a3) (.k .A (.m 2 .D)) .aV (.k .B .U) ax J ht h1)) λcl q0 q1 q2 q3=>?_;have h2:=LW a b' s;rw[yx,yx];apply qo (cd _ _ #[a+s,b'+s,acc++chg i a j b'++eql a b' s,q0,q1,q2,q3,#[_,rfl],cj _ _ _,?_,?_])
  ·rw[bq,bq];(show qt (.k (.a .L .C) (.m 2 .Y)) .e (.k .A (.m 2 .D)) (.k .B .U) (.k .C .U) J h1 h2)
  ·rw[<- e,bg,bg];rfl
 ·intro ρ' σ' zz;have#[i,j,acc,r0,r1,r2,r3,#[ys,rfl],aj,J,e]:=zz;apply#[(fh bl).trans z,?_];rw[aq,tn]at e;have e:acc++[]=codes 0 0 Ls:=e;rw[dk]at e;apply NK (.L al) r3 ?_;apply h _ al L g #[λa xs e1=>?_,E3.D,E3.S,E3.I] b ao ay hg ar ?_
  ·have:a≠al:=λq=>by rw[q,ao]at e1;cases e1
   show(fh this).trans (E3.L a xs e1)
  ·rw[bt,<- e];show aj
end SM
end MP
end
section
namespace MP
open PySem SM
public abbrev ks (xs:List Int):List Key:=xs.map Key.int
def dP.ints {xs ys:List Int}{i j:Nat}:dP (ks xs) (ks ys) i j↔∃c,xs[i]?=some c/\ys[j]?=some c:=by
 rw[dP.iff];constructor
 ·rintro ⟨c,U,W⟩;rw[cp]at U W;have#[x,J,rfl]:=omap U;have#[y,O,e]:=omap W;cases e;apply#[_,J,O]
 ·rintro ⟨c,U,W⟩;apply#[.int c,by rw[cp,U];rfl,by rw[cp,W];rfl]
def P2:=Nat×Nat
abbrev stp (k:Nat)(p q:P2):List O5:=if p=q then [] else [(if k%2=0 then "equal" else if p.1=q.1 then "insert" else if p.2=q.2 then "delete" else "replace",p.1,q.1,p.2,q.2)]
abbrev uS:Nat->P2->List P2->List O5
 |_,_,[]=>[]
 |k,p,q::r=>stp k p q++uS (k+1) q r
abbrev yk (L:List T3):List P2:=L.flatMap λt=>[(t.1,t.2.1),(t.1+t.2.2,t.2.1+t.2.2)]
abbrev x9:Nat->Nat->List T3->Prop
 |_,_,[]=>True
 |i,j,t::r=>i<=t.1/\j<=t.2.1/\x9 (t.1+t.2.2) (t.2.1+t.2.2) r
def x9.of:∀{L:List T3} {i j:Nat},L.Pairwise wm->(∀t∈L,i<=t.1/\j<=t.2.1)->x9 i j L
 | [],i,j=>λ_ _=>trivial
 |t::L,i,j=>λW h=>by
  have#[O,W]:=kc.mp W;apply#[(h t (.head _)).1,(h t (.head _)).2,x9.of W λu U=>O u U]
def AA {k i j a b:Nat}(hk:k%2=1)(I:i<=a)(z:j<=b):stp k (i,j) (a,b)=chg i a j b:=by
 unfold stp chg;rw[aw (show ¬k%2=0 by show fj (.u .A .O) .r (.e .A .U) hk)];by_cases c1:i=a
 ·subst c1;rw[aw (show ¬(i<i/\j<b) by show λW=>(fj .ff .k (.l .A .A) W.1)),aw (jq i)];by_cases c2:j=b
  ·subst c2;rw[cf rfl,aw (jq j)]
  ·rw[aw (λq=>c2 (qa q).2),cf (show j<b by show(au c2).elim (λW=>(az .B .a .B W)) λW=>(jc .B .c .A .U z W)),cf rfl]
 ·rw[aw (λq=>c1 (qa q).1)];by_cases c2:j=b
  ·subst c2;rw[aw (show ¬(i<a/\j<j) by show λW=>(fj .ff .k (.l .A .A) W.2)),cf (show i<a by show(au c1).elim (λW=>(az .B .a .B W)) λW=>(jc .B .c .A .U I W)),aw (show ¬((i,j).1=(a,j).1) from c1),cf rfl]
  ·rw[cf (show i<a/\j<b by show#[((au c1).elim (λW=>(az .B .a .B W)) λW=>(jc .B .c .A .U I W)),((au c1).elim (λW=>((au c2).elim (λJ=>(az .B .a .B J)) λJ=>(jc .B .c .A .U z J))) λW=>(gp .B .c .aH .aV I W))]),aw (show ¬((i,j).1=(a,b).1) from c1),aw (show ¬((i,j).2=(a,b).2) from c2)]
def ET {k a b s:Nat}(hk:k%2=0):stp k (a,b) (a+s,b+s)=eql a b s:=by
 unfold stp eql;rw[cf hk];by_cases c:s=0
 ·subst c;show(cf (show(a,b)=(a+0,b+0) from rfl)).trans (cf (show(0:Nat)=0 from rfl)).symm
 ·rw[aw c,aw (λq=>c (by have:=(qa q).1;(show az .M [[1,0],[1,-1]] (.e .B .a9) this)))]
def lO:∀{L:List T3} {k i j na nb:Nat},k%2=1->x9 i j (L++[(na,nb,0)])->uS k (i,j) (yk L++[(na,nb)])=codes i j (L++[(na,nb,0)])
 | [],k,i,j,na,nb=>λhk h=>by
  show stp k (i,j) (na,nb)++[]=chg i na j nb++([]++[]);rw[AA hk (show i<=na from h.1) (show j<=nb from h.2.1)];rfl
 |(a,b,s)::L,k,i,j,na,nb=>λhk h=>by
  have W:=lO (L:=L) (k:=k+2) (i:=a+s) (j:=b+s) (na:=na) (nb:=nb) ((Nat.add_mod_right k 2).trans hk) h.2.2;show stp k (i,j) (a,b)++(stp (k+1) (a,b) (a+s,b+s)++uS (k+2) (a+s,b+s) (yk L++[(na,nb)]))=_;rw[AA hk h.1 h.2.1,ET (show(k+1)%2=0 by rw[Nat.add_mod,hk]),W];rfl
section
variable {H:Nat->Nat->Prop}{na nb:Nat}{S S':Nat->Nat->Prop}{i j k a b r:Nat}
end
variable {σ:St}
abbrev Gv (C:Cal)(ρ:Fr)(σb:St)(e:Ex)(xs:List V):Prop:=∀(σ:St) (Q:V->St->Prop),Ext σb σ->(∀c σ',Ext σ σ'->σ'.L c=some xs->Q (.L c) σ')->wpE C e ρ σ Q
abbrev Fv (C:Cal)(ρ:Fr)(σb:St)(e:Ex)(xs:List V):Prop:=∀(σ:St) (Q:V->St->Prop),Ext σb σ->(∀c σ',Ext σ σ'->σ.L c=none->σ'.L c=some xs->Q (.L c) σ')->wpE C e ρ σ Q
section
variable {C:Cal}{ρ:Fr}{σb:St}{e f:Ex}{xs ys:List V}
def Gv.l {x:Nat}{l:Addr}(W:ρ x=some (.L l))(hl:σb.L l=some xs):Gv C ρ σb (.l x) xs:=λσ Q E k=>#[_,W,k l σ (Ext.refl σ) (E.L _ _ hl)]
def Gv.slc {lo hi:Ex}{i j:Int}(h:Gv C ρ σb e xs)(J:∀σ,Ext σb σ->∃v,evV σ ρ lo=some v/\jH 0 v=some i)(I:∀σ,Ext σb σ->∃v,evV σ ρ hi=some v/\jH xs.length v=some j)(h1:i.natAbs<2^60)(h2:j.natAbs<2^60) :
  Fv C ρ σb (.slc e lo hi) ((xs.take (kg xs.length j)).drop (kg xs.length i)):=λσ Q E k=>by
 apply h σ _ E λa W U ha=>?_;have#[v,ev,z]:=J W (E.trans U);have#[u,eu,iu]:=I W (E.trans U);apply kj (Q:=λB σ=>wpE C hi ρ σ λO σ=>A1 (.L a) B O σ Q) lo ev ?_;apply kj (Q:=λO σ=>A1 (.L a) v O σ Q) hi eu ?_;apply#[xs,i,j,ha,z,iu,h1,h2,λc hc=>k c _ (U.eh (U.noL hc)) (U.noL hc) (cj _ _ _)]
def DJ {α:Type}{us:List α}{G:St->Prop}{T:V->Fr->List V->St->(Fr->List V->St->Prop)->Prop}{K:Fr->List V->St->Prop}(f:α->V)(g:α->List V)(hg:∀v∈us,(g v).length<=1)(Inv:Fr->Prop)(I:G σ)
  (hT:∀v∈us,∀ρ acc z,Inv ρ->acc.length<us.length->(∀ρ',Inv ρ'->z ρ' (acc++g v) σ)->T (f v) ρ acc σ z) {ρ:Fr} (hi:Inv ρ) (hK:∀ρ,K ρ (us.flatMap g) σ):kT (us.map f) G T ρ [] σ K:=by
 have go:∀(ws vs:List α) (ρ:Fr) (acc:List V),vs++ws=us->acc=vs.flatMap g->acc.length<=vs.length->Inv ρ->kT (ws.map f) G T ρ acc σ K:=by
  intro ws;induction ws with
  |nil =>
   intro vs ρ acc e O _ _;rw[dk]at e;subst e;subst O;apply#[I,hK ρ]
  |cons w ws ih =>
   intro vs ρ acc e O hl hi;have J:w∈us:=by rw[<- e];show dp _ (.head _)
   have hn:us.length=vs.length+(ws.length+1):=by rw[<- e,bq,ip]
   have:=hg w J;apply#[I,hT w J ρ acc _ hi (gp .B .d .K (.e .B (.a .C .Y)) hl hn) λρ' W=>ih (vs++[w]) ρ' _ (by rw[bg];show e) (by rw[O,List.flatMap_append,i9,List.flatMap_nil,dk]) (by rw[bq,bq,kn];(show fb (.k .L .S) .b .K (.k .B .U) hl this)) W]
 show go us [] ρ [] rfl rfl (av _) hi
abbrev Gives (C:Cal)(σ:St)(ρ:Fr)(cs:Exs)(el:Ex)(r:List V):Prop:=∃ok:Bool,(∀Q:Bool->St->Prop,Q ok σ->aE C cs ρ σ Q)/\if ok then ∃w,evV σ ρ el=some w/\r=[w] else r=[]
def Gives.one {el:Ex}{w:V}(h:evV σ ρ el=some w):Gives C σ ρ .nil el [w]:=#[true,λQ q=>q,w,h,rfl]
def Fv.K {α:Type}{us:List α}{fv:List (Nat×Nat)}{t:Tg}{cs:Exs}{el:Ex}{u:α->V}(g:α->List V)(Inv:Fr->Prop)(J:Gv C ρ σb e (us.map u))(hi:Inv (eE fv ρ))(I:us.length<=ba)
  (hb:∀σ,Ext σb σ->∀v∈us,∀ρ',Inv ρ'->∀K:Fr->Prop,(∀W,Inv W->Gives C σ W cs el (g v)->K W)->su t (u v) σ ρ' K):Fv C ρ σb (.K fv (.seq e) t cs (.elt el)) (us.flatMap g):=λσ Q E k=>by
 rw[uP,nF];apply J σ _ E λa O E1 ha=>#[_,ha,?_];have hg:∀v∈us,(g v).length<=1:=λv hv=>by
  have:=hb O (E.trans E1) v hv _ hi (λ_=>(g v).length<=1) λW _ G=>by
   have#[ok,_,h]:=G;cases ok with
   |true=>have#[w,_,e]:=h;rw[e];show av _
   |false=>rw[show g v=[] from h];show bz _
  cases t with
  |v x=>show this
  |T ys=>have#[_,_,_,this]:=this;show this
 apply DJ u g hg Inv ha (λv hv ρ' acc K' ag z hK=>?_) hi λρ' c hc=>k c _ (E1.eh (E1.noL hc)) (E1.noL hc) (cj _ _ _);apply hb O (E.trans E1) v hv ρ' ag _ λW U G=>?_;have#[ok,h1,h2]:=G;apply h1 _ ?_;cases ok with
 |true =>
  have#[w,hw,e]:=h2;apply gW (kj el hw #[by show fb .B .b .H .G I z,?_]);rw[<- e];show hK _ U
 |false =>
  apply fA ?_;have:=hK _ U;rw[show g v=[] from h2,dk]at this;show this
end
def Q3 {C:Cal}{ρ:Fr}{K:Fl->Fr->St->Prop}{ss:pq}{x:Nat}{e:Ex}{xs:List V}(h:Fv C ρ σ e xs)(k:∀c σ',Ext σ σ'->σ.L c=none->σ'.L c=some xs->gx C ss (upd ρ x (.L c)) σ' K):gx C (.cons (.a [.v x] e) ss) ρ σ K:=
 h σ _ (Ext.refl σ) λc σ' E hc W=>k c σ' E hc W
def zF (n:Nat):kg n 0=0:=by unfold kg jj;rw[aw (eH (.ig .O .O) .i)];show Nat.min_zero n
def gQ {n i:Nat}(h:i<=n):kg n (i:Int)=i:=by unfold kg jj;rw[aw (qg (.ig .L .O) .i),gu];show Nat.min_eq_right h
variable {σ:St}{a:Addr}{L:List O5}
abbrev dO (t:O5):PyData:=.tuple [.str t.1,.int t.2.1,.int t.2.2.1,.int t.2.2.2.1,.int t.2.2.2.2]
def PM (t:O5):PyData.eqv (dO t) (dO t)=true:=by simp[dO,PyData.eqv,PyData.eqvAll]
def rU:∀L:List O5,PyData.eqvAll (L.map dO) (L.map dO)=true
 | []=>by simp[PyData.eqvAll]
 |t::L=>by simp[PyData.eqvAll,PM,rU L]
def M8 {n:Nat}{t:O5}(h:PyData.strOk t.1=true):l0 σ (n+1) (oV t)=some (dO t):=by
 have e:l0 σ n (.str t.1)=some (.str t.1):=by
  cases n<;>show cf h
 show(([V.str t.1,.int t.2.1,.int t.2.2.1,.int t.2.2.2.1,.int t.2.2.2.2].mapM (l0 σ n)).map PyData.tuple)=_;rw[mapM_some (g:=λv=>match v with|.str s=>PyData.str s|.int i=>.int i|_=>.none)]
 ·rfl
 ·intro v W;rcases bw.mp W with rfl|W
  ·show e
  ·have:∃i,v=.int i:=by
    rcases bw.mp W with rfl|W
    ·apply#[_,rfl]
    rcases bw.mp W with rfl|W
    ·apply#[_,rfl]
    rcases bw.mp W with rfl|W
    ·apply#[_,rfl]
    ·apply#[_,ah.mp W]
   clear W;have#[i,rfl]:=this;cases n<;>rfl
def mapM_map {α:Type}{f:V->Option PyData}{h:α->V}{g:α->PyData}{L:List α}(e:∀x∈L,f (h x)=some (g x)):(L.map h).mapM f=some (L.map g):=by
 induction L with
 |nil=>rfl
 |cons x L W =>
  rw[mr,List.mapM_cons,e x (.head _),W λy U=>e y (.tail _ U)];rfl
def BJ {n:Nat}(h:σ.L a=some (L.map oV))(U:∀t∈L,PyData.strOk t.1=true):l0 σ (n+2) (.L a)=some (.list (L.map dO)):=by
 show((σ.L a).bind λxs=>(xs.mapM (l0 σ (n+1))).map PyData.list)=_;rw[h];show((L.map oV).mapM (l0 σ (n+1))).map PyData.list=_;rw[mapM_map λt W=>M8 (U t W)];rfl
def JN:PyData.strOk "replace"=true:=by decide +kernel
def JM:PyData.strOk "delete"=true:=by decide +kernel
def JL:PyData.strOk "insert"=true:=by decide +kernel
def JK:PyData.strOk "equal"=true:=by decide +kernel
def PR {i a j b:Nat}:∀t∈chg i a j b,PyData.strOk t.1=true:=by
 unfold chg;intro t W;split at W
 ·rw[ah.mp W];show JN
 ·split at W
  ·rw[ah.mp W];show JM
  ·split at W
   ·rw[ah.mp W];show JL
   ·cases W
def wO:∀{L:List T3} {i j:Nat},∀t∈codes i j L,PyData.strOk t.1=true
 | [],_,_,_,h=>by cases h
 |(a,b,s)::L,i,j,t,h=>by
  rcases dh.mp h with h|h
  ·show PR t h
  ·rcases dh.mp h with h|h
   ·unfold eql at h;split at h
    ·cases h
    ·rw[ah.mp h];show JK
   ·show wO t h
def NN {b:Addr}{K:Bool->Prop}(U:σ.L a=some (L.map oV))(hb:σ.L b=some (L.map oV))(W:∀t∈L,PyData.strOk t.1=true)(h:K true):uO (.L a) (.L b) σ K:=by
 apply#[_,_,BJ U W,BJ hb W,?_];have:PyData.eqv (.list (L.map dO)) (.list (L.map dO))=true:=by
  simp[PyData.eqv,rU]
 rw[this];show h
def NM {b:Addr}{K:Bool->Prop}(U:σ.L a=some (L.map oV))(hb:σ.L b=some (L.map oV))(W:∀t∈L,PyData.strOk t.1=true)(h:K false):nH .ne (.L a) (.L b) σ K:=NN (K:=λr=>K (!r)) U hb W h
namespace SM
def QE {P:Nat->Option Fn}(h0:P 0=some fn0)(h1:P 1=some fn1)(h2:P 2=some fn2)(h3:P 3=some fn3)(h4:P 4=some fn4)(h5:P 5=some fn5)(h6:P 6=some fn6)(h7:P 7=some fn7){n:Nat}{es:Exs}{ρ:Fr}{la lb:V}{as bs:List Key}{Q:V->St->Prop}{aj:Bool}{O:List V}(z:J1 aj O)(B:aj=true->bs.length<200)
  (hE:∀Q:List V->St->Prop,Q (.none::la::lb::O) σ->vo (jm P (n+4)) es ρ σ Q) (ai:ub σ la=some (as.map Key.v)) (ag:ub σ lb=some (bs.map Key.v)) (ha:∀k∈as,td k) (hb:∀k∈bs,td k) (J:as.length<400000) (W:bs.length<400000)
  (h:∀σ' c L,Ext σ σ'->BT (dP as bs) 0 as.length 0 bs.length L->σ.L c=none->σ'.L c=some ((codes 0 0 (L++[(as.length,bs.length,0)])).map oV)->Q (.L c) σ'):wpE (jm P (n+4)) (.meth (.n es) 7 .nil) ρ σ Q:=by
 rw[ED];apply make h0 h1 h2 h3 h4 z B (la:=la) (lb:=lb) (as:=as) (bs:=bs) hE ai ag (by unfold ba;(show fj .aZ .a .c2 W)) λao x d f db sj E1 I hx f4 f5 _ _ M=>?_;apply#[x,rfl,by rw[hx];rfl,?_];have hj:(λc:Key=>decide (c∈([]:List Key)))=λ_=>false:=by funext c;simp
 apply KW h7 h6 h5 (n:=n+1) M hx f4 f5 ha hb W J λσ2 c L g E2 b hc hg _ _ U=>?_;rw[hj]at b;have bt:=b.SX;rw[KZ bt.KX λu hu=>(bt.ok.1 u hu).2]at U;show h σ2 c L (E2.ext E1 I) bt (E1.noL hc) U
end SM
abbrev pV (p:P2):V:=.T [.int p.1,.int p.2]
section
variable {σ:St}{ρ:Fr}{a b c e:Ex}{m n k l:Nat}
def ev2 (W:evV σ ρ a=some (.int m))(hb:evV σ ρ b=some (.int n)):evV σ ρ (.T %[a,b|0])=some (pV (m,n)):=by
 rw[eD,iz,W,iz,hb];rfl
def LS (W:evV σ ρ a=some (.int m))(hb:evV σ ρ b=some (.int n))(h:n<=m):evV σ ρ (.b .sub a b)=some (.int (m-n:Nat)):=by
 rw[xr,W,hb];show some (V.int ((m:Int)-n))=_;rw[Int.ofNat_sub h]
def tQ {x:Nat}{al:Addr}{xs:List V}{v:V}(W:ρ x=some (.L al))(J:σ.L al=some xs)(hi:evV σ ρ e=some (.int n))(U:xs[n]?=some v):evV σ ρ (.sub (.l x) e)=some v:=by
 rw[LP,uz,W,hi];show wC σ (.L al) (.int n)=_;show(σ.L al).bind (λxs=>oX xs n)=_;rw[J];show oX xs n=_;unfold oX;rw[yr,cf (qg (.ik .O .L) .i),gu];show U
def NL {p q:P2}{K:Bool->Prop}(h:K (decide (p≠q))):nH .ne (pV p) (pV q) σ K:=by
 apply#[.tuple [.int p.1,.int p.2],.tuple [.int q.1,.int q.2],rfl,rfl,?_];have:(!PyData.eqv (.tuple [.int p.1,.int p.2]) (.tuple [.int q.1,.int q.2]))=decide (p≠q):=by
  have#[a,b]:=p;have#[c,d]:=q;by_cases O:a=c
  ·by_cases J:b=d
   ·simp[PyData.eqv,PyData.eqvAll,O,J]
   ·simp[PyData.eqv,PyData.eqvAll,O,J];(show(au J).elim (λW=>(az (.iu .L .P) [[-1,1]] .B W)) λW=>(az (.iu .L .P) .a .U W))
  ·simp[PyData.eqv,PyData.eqvAll,O];(show .inl ((au O).elim (λW=>(az (.iu .L .P) [[-1,1]] .B W)) λW=>(az (.iu .L .P) .a .U W)))
 show K (!PyData.eqv _ _);rw[this];show h
end
abbrev DO:pq:=(.cons (.a [(.v 3)] (.L %[.T %[.int 0,.int 0|0]|0]))
 (.cons (.each (.T [4,5,6]) (.seq (.l 0)) (.cons (.expr (.bm .extend (.l 3) %[.L %[.T %[.l 4,.l 5|0],.T %[.b .add (.l 4) (.l 6),.b .add (.l 5) (.l 6)|0]|0]|0]))
 .nil))
 (.cons (.expr (.bm .append (.l 3) %[.T %[.l 1,.l 2|0]|0]))
 (.cons (.a [(.v 7)] (.L .nil))
 (.cons (.each (.v 8) (.rng2 (.int 1) (.bf .len %[.l 3|0])) (.cons (.a [(.T [9,10])] (.sub (.l 3) (.b .sub (.l 8) (.int 1))))
 (.cons (.a [(.T [11,12])] (.sub (.l 3) (.l 8)))
 (.cons (.a [(.v 13)] (.I (.c .eq (.b .mod (.l 8) (.int 2)) (.int 0)) (.str "equal") (.I (.c .eq (.l 9) (.l 11)) (.str "insert") (.I (.c .eq (.l 10) (.l 12)) (.str "delete") (.str "replace")))))
 (.cons (.C (.c .ne (.T %[.l 9,.l 10|0]) (.T %[.l 11,.l 12|0])) (.cons (.expr (.bm .append (.l 7) %[.T %[.l 13,.l 9,.l 11,.l 10,.l 12|0]|0]))
 .nil) .nil)
 .nil)))))
 (.cons (.ret (.l 7))
 .nil))))))
def yL {σ:St}{ρ:Fr}{c a b:Ex}{p:Prop}[Decidable p]{x y:Str}(hc:evT σ ρ c=some (decide p))(W:evV σ ρ a=some (.str x))(hb:evV σ ρ b=some (.str y)):evV σ ρ (.I c a b)=some (.str (if p then x else y)):=by
 show(evT σ ρ c).bind (λt=>if t then evV σ ρ a else evV σ ρ b)=_;rw[hc];by_cases h:p
 ·rw[fc h,cf h];show W
 ·rw[dg h,aw h];show hb
def zD {C:Cal}{σ:St}{ρ:Fr}{K:Fl->Fr->St->Prop}{again:Fr->St->Prop}{el tl:Addr}{E:List P2}{acc:List O5}{t:Nat}{p q:P2}(J:ρ 3=some (.L el))(I:ρ 7=some (.L tl))(z:σ.L el=some (E.map pV))(B:σ.L tl=some (acc.map oV))(U:acc.length<ba)
  (hp:E[t]?=some p) (hq:E[t+1]?=some q) (h:∀ρ',ρ' 3=some (.L el)->ρ' 7=some (.L tl)->again ρ' (σ.eh tl ((acc++stp (t+1) p q).map oV))) :
  gx C (.cons (.a [(.T [9,10])] (.sub (.l 3) (.b .sub (.l 8) (.int 1))))
 (.cons (.a [(.T [11,12])] (.sub (.l 3) (.l 8)))
 (.cons (.a [(.v 13)] (.I (.c .eq (.b .mod (.l 8) (.int 2)) (.int 0)) (.str "equal") (.I (.c .eq (.l 9) (.l 11)) (.str "insert") (.I (.c .eq (.l 10) (.l 12)) (.str "delete") (.str "replace")))))
 (.cons (.C (.c .ne (.T %[.l 9,.l 10|0]) (.T %[.l 11,.l 12|0])) (.cons (.expr (.bm .append (.l 7) %[.T %[.l 13,.l 9,.l 11,.l 10,.l 12|0]|0]))
 .nil) .nil)
 .nil)))) (upd ρ 8 (.int (t+1:Nat))) σ (yh again K):=by
 have O:∀{i:Nat} {p:P2},E[i]?=some p->(E.map pV)[i]?=some (pV p):=λ{i p} h=>by rw[cp,h];rfl
 apply BW [.int p.1,.int p.2] (tQ (n:=t) J z ((LS (a:=.l 8) (b:=.int 1) (m:=t+1) (n:=1) rfl rfl (Nat.le_add_left 1 t)).trans (by rw[Nat.add_sub_cancel])) (O hp)) rfl ?_;apply BW [.int q.1,.int q.2] (tQ (n:=t+1) J z rfl (O hq)) rfl ?_;have W:evT σ (ji [11,12] [.int q.1,.int q.2] (ji [9,10] [.int p.1,.int p.2] (upd ρ 8 (.int (t+1:Nat))))) (.c .eq (.b .mod (.l 8) (.int 2)) (.int 0))=some (decide ((t+1)%2=0)):=
  oY (m:=(t+1)%2) (n:=0) (by
   show qd ((0:Int)<2) (V.int (((t+1:Nat):Int)%2))=_;unfold qd;rw[cf (by decide)];show cc (λi=>some (V.int i)) (Int.natCast_emod (t+1) 2).symm) rfl
 apply lZ _ (yL W rfl (yL (oY (a:=.l 9) (b:=.l 11) rfl rfl) rfl (yL (oY (a:=.l 10) (b:=.l 12) rfl rfl) rfl rfl))) ?_;apply kj _ (ev2 (m:=p.1) (n:=p.2) rfl rfl) (kj _ (ev2 (m:=q.1) (n:=q.2) rfl rfl) (NL ?_));unfold stp at h;by_cases c:p=q
 ·rw[cf c,dk,xh B]at h;rw[dg (λn=>n c)];show fA (qo (h _ J I))
 ·rw[aw c,gk]at h;rw[fc c];show gW (hV (oV _) I B (ev5 rfl rfl rfl rfl rfl) (by rw[aq];show U) (fX (qo (h _ J I))))
inductive SP (σ:St)(lk el:Addr)(na nb:Nat)(L:List T3)(t:Nat)(ρ:Fr)(σ':St):Prop
 |mk:ρ 0=some (.L lk)->ρ 1=some (.int na)->ρ 2=some (.int nb)->ρ 3=some (.L el)->Ext σ σ'->σ'.L el=some (((0,0)::yk (L.take t)).map pV)->SP σ lk el na nb L t ρ σ'
inductive SJ (σ:St)(el tl:Addr)(E:List P2)(t:Nat)(ρ:Fr)(σ':St):Prop
 |mk (acc:List O5) (p:P2):ρ 3=some (.L el)->ρ 7=some (.L tl)->Ext σ σ'->σ'.L el=some (E.map pV)->σ'.L tl=some (acc.map oV)->acc.length<=t->E[t]?=some p->acc++uS (t+1) p (E.drop (t+1))=uS 1 (0,0) (E.drop 1)->SJ σ el tl E t ρ σ'
def kY:∀{L:List T3},(yk L).length=2*L.length
 | []=>rfl
 |t::L=>by
  have:=kY (L:=L);show(yk L).length+2=_;rw[this,ip];rfl
def H7 {P:Nat->Option Fn}{k n na nb:Nat}(hk:P k=some #[3,[],DO]){σ:St}{lk:Addr}{L:List T3}{Q:V->St->Prop}(hL:σ.L lk=some (L.map tV))(hl:L.length<100000)(hm:x9 0 0 (L++[(na,nb,0)]))
  (h:∀c σ',Ext σ σ'->σ.L c=none->σ'.L c=some ((codes 0 0 (L++[(na,nb,0)])).map oV)->Q (.L c) σ'):jm P (n+1) k [.L lk,.int na,.int nb] σ Q:=by
 apply#[_,hk,av 3,av 3,?_];apply BY [pV (0,0)] rfl (bh rfl) λel ai=>?_;apply#[_,rfl,_,((Ext.refl σ).eh (xs:=[pV (0,0)]) ai).L _ _ hL,?_];have bu:lk≠el:=λq=>by rw[q,ai]at hL;cases hL
 apply sq (SP σ lk el na nb L) ?_ ?_ #[rfl,rfl,rfl,rfl,(Ext.refl σ).eh ai,cj _ _ _]
 ·intro t v ρ' σ' hv zz;have#[r0,r1,r2,r3,E,he]:=zz;apply#[E.L _ _ hL,λkk ax=>?_];rw[cp]at hv;have#[u,hu,rfl]:=omap hv;have#[ht,bn]:=cu.mp hu;have#[a,b,s]:=u;apply#[_,rfl,rfl,?_];apply#[_,r3,(by show(σ'.L el).isSome=true;rw[he];rfl),?_];rw[tu,J6];apply gP (Q:=_) _ (vs:=[pV (a,b),pV (a+s,b+s)]) ?_ #[bh rfl,λc hc=>?_]
  ·rw[iz,ev2 (a:=.l 4) (b:=.l 5) (m:=a) (n:=b) rfl rfl,iz,ev2 (oe (a:=.l 4) (b:=.l 6) (m:=a) (n:=s) rfl rfl) (oe (a:=.l 5) (b:=.l 6) (m:=b) (n:=s) rfl rfl)];rfl
  have bc:el≠c:=λq=>by rw[q,hc]at he;cases he
  apply#[_,_,bc,(fh bc).trans he,cj _ _ _,?_,rfl,?_]
  ·have:=kY (L:=L.take t);simp only[aq,ip,List.length_nil,this,et];unfold ba;(show sd (.k (.a (.a .aN .U) (.a .a1 .U)) .T) [[1,2,2,2]] (.l .B (.n 100000)) .L .K hl ht (Ar.jt _ _).1)
  apply ax _ _ #[r0,r1,r2,r3,(E.eh (E.noL hc)).eh ai,?_];apply(cj _ _ _).trans (cc some ?_);rw[fg ht,bn];show _=((0,0)::(L.take t++[(a,b,s)]).flatMap _).map pV;rw[List.flatMap_append,<- d4,gk];rfl
 intro ρ' σ' zz;have#[r0,r1,r2,r3,E,he]:=zz;apply#[E.L _ _ hL,?_];rw[aq,gv]at he;have ao:=kY (L:=L);apply hV (pV (na,nb)) r3 he (ev2 r1 r2) (by rw[aq,ip,ao];unfold ba;(show fj (.l (.a .aN .U) .T) [[1,2]] (.l .A (.n 100000)) hl)) ?_;rw[show((0,0)::yk L).map pV++[pV (na,nb)]=((0,0)::(yk L++[(na,nb)])).map pV by rw[<- d4,gk];rfl];have E2:=E.eh (c:=el) (xs:=((0,0)::(yk L++[(na,nb)])).map pV) ai;have J:(σ'.eh el (((0,0)::(yk L++[(na,nb)])).map pV)).L el=some (((0,0)::(yk L++[(na,nb)])).map pV):=cj _ _ _;generalize σ'.eh el (((0,0)::(yk L++[(na,nb)])).map pV)=σ2 at E2 J;apply BY [] rfl (bz _) λtl ay=>?_;have ag:el≠tl:=λq=>by rw[q,ay]at J;cases J
 have z:=E2.noL ay;have O:((0,0)::(yk L++[(na,nb)])).length=2*L.length+2:=by rw[ip,bq,kn,ao]
 have hc:=lO (k:=1) rfl hm;have hd:((0,0)::(yk L++[(na,nb)])).drop 1=yk L++[(na,nb)]:=rfl;rw[<- hd]at hc;have bd:((0,0)::(yk L++[(na,nb)]))[0]?=some (0,0):=rfl;generalize (0,0)::(yk L++[(na,nb)])=EE at J O hc bd;apply#[_,r3,_,(fh ag).trans J,1,((EE.map pV).length:Int),rfl,rfl,by decide,by rw[aq,O];(show(Ar.nab _).elim (λq1=>(jc .bU [[1,2,1]] (.l .B (.n 100000)) (.ie .L (.t (.a .a6 .W))) hl q1.2)) λq1=>(az .bU .a (.ie .L (.g (.t (.a .a6 .W)))) q1.2)),?_];apply sq (SJ σ el tl EE) ?_ ?_ #[[],(0,0),r3,rfl,E2.eh z,(fh ag).trans J,cj _ _ _,bz _,bd,rfl]
 ·intro t v bl be hv zz;have#[acc,p,q3,q7,E3,g1,g2,ar,hp,e]:=zz;apply#[trivial,λkk ax=>?_];have#[aj,rfl]:=kS (a:=1) hv;rw[aq]at aj;have hq:EE[t+1]?=some EE[t+1]:=bb (az .W .a (.l (.a .U .A) .B) aj);rw[cg (i:=t+1) (az .W .a (.l (.a .U .A) .B) aj)]at e;generalize EE[t+1]=q at hq e;rw[Nat.add_comm 1 t];apply zD q3 q7 g1 g2 (by unfold ba;(show mU .aZ [[1,2,1,1,1]] (.l .B (.n 100000)) (.e .C (.a .a6 .W)) .a9 (.l (.a .U .D) .C) hl O ar aj)) hp hq λbt p3 p7=>?_;apply ax _ _ #[acc++stp (t+1) p q,q,p3,p7,E3.eh z,(fh ag).trans g1,cj _ _ _,?_,hq,?_]
  ·rw[bq];have:(stp (t+1) p q).length<=1:=by
    unfold stp;split
    ·show bz _
    ·show av _
   (show fb (.k .L .S) .b .K (.k .B .U) ar this)
  ·rw[<- e,bg];rfl
 intro bl be zz;have#[acc,p,q3,q7,E3,g1,g2,ar,hp,e]:=zz;apply#[trivial,?_];have bp:(pn 1 ((EE.map pV).length:Int)).length=EE.length-1:=(iJ (a:=1) (b:=(EE.map pV).length)).trans (by rw[aq]);rw[bp,show EE.length-1+1=EE.length by show az .a8 .j .a8 (aa (az .I .r (.e .A (.a .a6 .W)) O)),tn]at e;have e:acc++[]=_:=e;rw[dk]at e;apply NK (.L tl) q7 (h _ _ E3 z ?_);rw[<- hc,<- e];show g2
variable {L:List T3}
abbrev Bef (s r:T3):Prop:=r.2.2<s.2.2\/(r.2.2=s.2.2/\(s.1<r.1\/(s.1=r.1/\s.2.1<r.2.1)))
abbrev Cmp (s r:T3):Prop:=wm s r\/wm r s
def BT.PE {H:Nat->Nat->Prop}{alo ahi blo bhi:Nat}(h:BT H alo ahi blo bhi L):∀r:T3,0<r.2.2->uC H alo ahi blo bhi r.1 r.2.1 r.2.2->(∀s∈L,Bef s r->Cmp s r)->r∈L:=by
 induction h with
 |nil q =>
  intro r p R _;have:=R.ai;have:=R.ia;have:=R.bj;have:=R.jb;show(q r.1 r.2.1 (by(rename_i z3 z W;show az .A .a .A z3)) (by(rename_i z W;show fb .B .b .a5 (.k .V .B) p z)) (by(rename_i W;show az .A .a .A W)) (fb .B .b .a5 (.k .V .B) p this) (R.eq 0 p)).elim
 | @node alo ahi blo bhi i j k L R' B _ _ J O =>
  intro r p R hc;have m:=B.max _ _ _ p R;by_cases e:r=(i,j,k)
  ·rw[e];show dp _ (.head _)
  have hb:Bef (i,j,k) r:=by
   rcases m with m|⟨U,m|⟨m2,m⟩⟩
   ·show .inl m
   ·show .inr #[U,.inl m]
   ·show .inr #[U,.inr #[m2,Nat.lt_of_le_of_ne m λq=>e (Prod.ext m2.symm (Prod.ext q.symm U))]]
  rcases hc _ (dp _ (.head _)) hb with a|a
  ·have a:i+k<=r.1/\j+k<=r.2.1:=a;show dp _ (.tail _ (O r p #[a.1,R.ia,a.2,R.jb,R.eq] λs I=>hc s (dp _ (.tail _ I))))
  ·have a:r.1+r.2.2<=i/\r.2.1+r.2.2<=j:=a;show dj _ (J r p #[R.ai,a.1,R.bj,a.2,R.eq] λs I=>hc s (dj _ I))
def GF (h:L.Pairwise wm){s r:T3}(I:s∈L)(hr:r∈L)(O:s≠r):Cmp s r:=by
 induction L with
 |nil=>cases I
 |cons x L ih =>
  have#[B,h2]:=kc.mp h;rcases bw.mp I with z|U
  ·rcases bw.mp hr with J|W
   ·show(O (z.trans J.symm)).elim
   ·show .inl (z▸B _ W)
  ·rcases bw.mp hr with J|W
   ·show .inr (J▸B _ U)
   ·show ih h2 U W
def BT.fits {H:Nat->Nat->Prop}{alo ahi blo bhi:Nat}(h:BT H alo ahi blo bhi L){r:T3}(p:0<r.2.2)(R:uC H alo ahi blo bhi r.1 r.2.1 r.2.2){K:T3->Prop}(W:∀s,K s->s∈L/\s≠r)(O:∀s∈L,Bef s r->K s):(∀s,K s->Cmp s r)↔r∈L:=
 #[λc=>h.PE r p R λs U b=>c s (O s U b),λhr s ks=>GF h.ok.2.1 (W s ks).1 hr (W s ks).2]
def rL {α W:Type}{f:α->W}{g:W->α}(O:∀a,g (f a)=a){U:List W}{l:List α}(h:U.Perm (l.map f)):∃s:List α,s.Perm l/\U=s.map f:=by
 apply#[U.map g,?_,?_]
 ·have:=h.map g;rw[gq,show g ∘ f=id from funext O,List.map_id]at this;show this
 ·rw[gq];apply(List.map_id _).symm.trans (List.map_congr_left λx J=>?_);have#[a,_,rfl]:=ee.mp (h.mem_iff.mp J);show(cc f (O a)).symm
def OA {A:List T3}(I:L.Pairwise wm)(pos:∀t∈L,0<t.2.2)(hA:A.Pairwise λa b=>a.1<=b.1)(nd:A.Nodup)(J:∀t,t∈A↔t∈L):A=L:=by
 have U:L.Pairwise λa b:T3=>a.1<b.1:=List.Pairwise.imp_of_mem (λ{a b} W _ h=>by have:=pos a W;unfold wm at h;(show fb .B .b (.k .V .B) .a5 h.1 this)) I;have O:L.Nodup:=U.imp λh e=>by rw[e]at h;show jq _ h
 apply List.Perm.eq_of_pairwise (le:=λa b:T3=>a.1<=b.1) (λa b W hb h1 h2=>?_) hA (U.imp λh=>gw h) ((List.perm_ext_iff_of_nodup nd O).mpr J);have W:=(J a).mp W;by_cases e:a=b
 ·show e
 ·have p1:=pos a W;have z:=pos b hb;rcases GF I W hb e with c|c<;>(unfold wm at c;(first|show False.elim (sd .ff .l .A .a5 (.k .Q .A) h2 p1 c.1)|show False.elim (sd .ff .l .A .a5 (.k .Q .A) h1 z c.1)|omega))
def rX {C:Cal}{ρ:Fr}{σ:St}{K:Fl->Fr->St->Prop}{x:Nat}{e:Ex}{b ss:pq}{n:Nat}(Inv:Nat->Fr->St->Prop)(J:evV σ ρ e=some (.int n))(hn:n<2^39)(h0:Inv 0 ρ σ)
  (step:∀i ρ' σ' (kk:Fr->St->Prop) (z:Fl->Fr->St->Prop),i<n->Inv i ρ' σ'->(∀W σ2,Inv (i+1) W σ2->kk W σ2)->gx C b (upd ρ' x (.int (i:Nat))) σ' (yh kk z))
  (fin:∀ρ' σ',Inv n ρ' σ'->gx C ss ρ' σ' K):gx C (.cons (.each (.v x) (.rng1 e) b) ss) ρ σ K:=by
 apply kj (Q:=_) e J #[n,rfl,by show(Ar.nab _).elim (λU=>(jc .bU .b (.l .B (.n (2^39))) (.ie .L .P) hn U.2)) λU=>(az .bU .a .bV U.2),?_];apply sq Inv ?_ (λρ' σ' I=>?_) h0
 ·intro i v ρ' σ' O I;have#[hi,rfl]:=kS (a:=0) O;rw[mw]at hi ⊢;apply#[trivial,λkk hk=>step _ _ _ kk _ hi I hk]
 ·have e:(pn 0 (n:Int)).length=n:=iJ (a:=0);rw[e]at I;apply#[trivial,fin _ _ I]
def xq {σ:St}{ρ:Fr}{α:Type}{u:α->V}{x:Nat}{l:Addr}{zs:List α}(W:ρ x=some (.L l))(hl:σ.L l=some (zs.map u)):evV σ ρ (.bf .len %[.l x|0])=some (.int zs.length):=by
 rw[PJ,iz,uz,W];show HS σ .len [.L l]=_;rw[HR,hl];show some (V.int ((zs.map u).length:Nat))=_;rw[aq]
section
variable {σ:St}{ρ:Fr}{a b:Ex}{m n:Nat}
def tP (W:evV σ ρ a=some (.int m))(hb:evV σ ρ b=some (.int n)):evT σ ρ (.c .le a b)=some (decide (m<=n)):=by
 rw[nA,W,hb];show cc some (wi.mpr Int.ofNat_le)
def LQ {p q:Prop}[Decidable p][Decidable q](W:evT σ ρ a=some (decide p))(hb:evT σ ρ b=some (decide q)):evT σ ρ (.or a b)=some (decide (p\/q)):=by
 rw[PK,W];by_cases h:p
 ·rw[fc h];show cc some (fc (.inl h)).symm
 ·rw[dg h];show hb.trans (cc some (wi.mpr #[.inr,λx=>x.resolve_left h]))
def HP {p:Prop}[Decidable p](W:evT σ ρ a=some (decide p)):evT σ ρ (.not a)=some (decide (¬p)):=by
 rw[LR,W];show cc some (by by_cases h:p<;>simp[h])
end
def HQ {σ:St}{ρ:Fr}{la lb:Addr}{xs ys:List Int}{x0 x1 x2 i j s:Nat}(W:σ.L la=some (iV xs))(U:σ.L lb=some (iV ys))(J:ρ 0=some (.L la))(B:ρ 1=some (.L lb))(O:ρ x0=some (.int i))(I:ρ x1=some (.int j))(rs:ρ x2=some (.int s)) :
  evT σ ρ (.and (.c .lt (.b .add (.l x0) (.l x2)) (.bf .len %[.l 0|0])) (.and (.c .lt (.b .add (.l x1) (.l x2)) (.bf .len %[.l 1|0])) (.c .eq (.sub (.l 0) (.b .add (.l x0) (.l x2))) (.sub (.l 1) (.b .add (.l x1) (.l x2))))))=some (decide (i+s<xs.length/\j+s<ys.length/\xs[i+s]?=ys[j+s]?)):=by
 by_cases c1:i+s<xs.length
 ·by_cases c2:j+s<ys.length
  ·have e1:xs[i+s]?=some xs[i+s]:=bb c1;have z:ys[j+s]?=some ys[j+s]:=bb c2;have v1:=tQ (e:=.b .add (.l x0) (.l x2)) (v:=.int xs[i+s]) J W (oe O rs) (by rw[cp,e1];rfl);have v2:=tQ (e:=.b .add (.l x1) (.l x2)) (v:=.int ys[j+s]) B U (oe I rs) (by rw[cp,z];rfl);have v3:evT σ ρ (.c .eq (.sub (.l 0) (.b .add (.l x0) (.l x2))) (.sub (.l 1) (.b .add (.l x1) (.l x2))))=some (decide (xs[i+s]?=ys[j+s]?)):=by
    rw[nA,v1,v2];show some (decide (xs[i+s]=ys[j+s]))=_;rw[e1,z];show cc some (wi.mpr (Option.some_inj).symm)
   show xw (xk (oe O rs) (xq J W)) (xw (xk (oe I rs) (xq B U)) v3)
  ·rw[dg (λq=>c2 q.2.1),nB,xk (oe (a:=.l x0) (b:=.l x2) O rs) (xq J W),fc c1];show evT σ ρ _=_;rw[nB,xk (oe (a:=.l x1) (b:=.l x2) I rs) (xq B U),dg c2];rfl
 ·rw[dg (λq=>c1 q.1),nB,xk (oe (a:=.l x0) (b:=.l x2) O rs) (xq J W),dg c1];rfl
structure iP (xs ys:List Int)(i j n:Nat):Prop where
 li:i+n<=xs.length
 lj:j+n<=ys.length
 eq:∀t,t<n->xs[i+t]?=ys[j+t]?
def iP.nil {xs ys:List Int}{i j:Nat}(hi:i<=xs.length)(U:j<=ys.length):iP xs ys i j 0:=#[hi,U,λt W=>absurd W (pe _)]
def iP.grow {xs ys:List Int}{i j s:Nat}(h:iP xs ys i j s)(c:i+s<xs.length/\j+s<ys.length/\xs[i+s]?=ys[j+s]?):iP xs ys i j (s+1):=
 ⟨by show gz .N .a .J c.1,by show gz .N .a .J c.2.1,λt W=>by
  rcases jo (vl W) with q|rfl
  ·show h.eq t q
  ·show c.2.2⟩
def iP.stop {xs ys:List Int}{i j s n:Nat}(c:¬(i+s<xs.length/\j+s<ys.length/\xs[i+s]?=ys[j+s]?))(h:iP xs ys i j n):n<=s:=by
 rcases my s n with q|q
 ·show absurd #[by have:=h.li;(show gp .J .b .S .b0 q this),by have:=h.lj;(show gp .J .b .S .b0 q this),h.eq s q] c
 ·show q
structure dN (xs ys:List Int)(R:List T3)(i j s:Nat):Prop where
 nd:R.Nodup
 mem:∀r,r∈R↔0<r.2.2/\iP xs ys r.1 r.2.1 r.2.2/\(r.1<i\/(r.1=i/\(r.2.1<j\/(r.2.1=j/\r.2.2<=s))))
 len:R.length<=(i*63+j)*63+s
section
variable {xs ys:List Int}{R:List T3}{i j s:Nat}
def dN.start:dN xs ys [] 0 0 0:=#[.nil,λr=>#[λh=>(nomatch h),λh=>by show False.elim (h.2.2.elim (λU=>(fj .ff .k .b3 U)) λU=>(U.2.elim (λW=>(fj .ff .k .b3 W)) λW=>(uB .ff .c .C (.k .A .O) h.1 W.2)))],bz _]
def dN.grow (h:dN xs ys R i j s)(r:iP xs ys i j (s+1)):dN xs ys (R++[(i,j,s+1)]) i j (s+1):=by
 apply#[xB.mpr #[h.nd,lh _ _,λa O b hb e=>?_],λt=>?_,?_]
 ·subst e;have rfl:=ah.mp hb;have:=((h.mem _).mp O).2.2;simp only at this
  (show this.elim (λU=>(fj .ff .k (.l .A .A) U)) λU=>(U.2.elim (λW=>(fj .ff .k (.l .A .A) W)) λW=>(fj .ff .k (.k .M .A) W.2)))
 ·rw[dh,h.mem,ah];constructor
  ·rintro (⟨p,q,z⟩|rfl)
   ·apply#[p,q,z.imp id λu=>#[u.1,u.2.imp id λv=>#[v.1,i6 v.2]]]
   ·apply#[Nat.succ_pos _,r,.inr #[rfl,.inr #[rfl,av _]]]
  ·rintro ⟨p,q,z⟩;by_cases e:t=(i,j,s+1)
   ·show .inr e
   ·apply .inl #[p,q,z.imp id λu=>#[u.1,u.2.imp id λv=>#[v.1,?_]]];rcases jo v.2 with w|w
    ·show vl w
    ·show(e (Prod.ext u.1 (Prod.ext v.1 w))).elim
 ·rw[bq,kn];have:=h.len;(show mW (.k .M (.a .aG .Y)) .a (.k .A (.a .aG .D)) this)
def dN.nextJ (h:dN xs ys R i j s)(hs:s<=63)(m:∀n,iP xs ys i j n->n<=s):dN xs ys R i (j+1) 0:=by
 apply#[h.nd,λt=>?_,by have:=h.len;(show gp (.k .A (.a (.r (.a (.r .B 63) .S) 63) .O)) .b (.k .D (.n 63)) (.k .A (.a .aG .D)) hs this)];rw[h.mem];constructor
 ·rintro ⟨p,q,z⟩;apply#[p,q,by show xf λq1=>(z.elim (λW=>(jc .ff .c .bR .B (iS.mp q1).1 W)) λW=>((ku.mp (iS.mp q1).2).elim (λI=>((au I).elim (λJ=>(jc .ff [[0,-1,1]] .D .B W.1 J)) λJ=>(jc .ff .c .D .U W.1 J))) λI=>(W.2.elim (λJ=>(jc .ff .c (.g .A .P) .B (iS.mp I).1 J)) λJ=>(jc .ff .c (.g .A .P) .D (iS.mp I).1 J.1))))]
 ·rintro ⟨p,q,z⟩;apply#[p,q,?_];by_cases e:t.1=i/\t.2.1=j
  ·have:=m t.2.2 (by rw[<- e.1,<- e.2];show q)
   (show .inr #[(az .D .j .D e.1),(.inr #[(az .D .j .D e.2),(az .A .a .A this)])])
  ·(show xf λq1=>(z.elim (λW=>(jc .ff .c .bR .B (iS.mp q1).1 W)) λW=>(W.2.elim (λI=>((ku.mp e).elim (λJ=>((au J).elim (λq5=>(jc .ff [[0,-1,1]] .D .B W.1 q5)) λq5=>(jc .ff .c .D .U W.1 q5))) λJ=>((au J).elim (λq5=>((ku.mp (iS.mp q1).2).elim (λq6=>((au q6).elim (λq7=>(jc .ff [[0,-1,1]] .D .B W.1 q7)) λq7=>(jc .ff .c .D .U W.1 q7))) λq6=>(jc .ff .c .B .bR q5 (iS.mp q6).1))) λq5=>(jc .ff .c .aC .U I q5)))) λI=>(uB .ff .c .C (.k .A .O) p I.2))))
def dN.QT (h:dN xs ys R i ys.length 0)(hs:ys.length<=63):dN xs ys R (i+1) 0 0:=by
 apply#[h.nd,λt=>?_,by have:=h.len;(show fb (.k .A (.a (.r (.a (.r .P 63) .O) 63) .O)) [[1,63,1]] (.k .C (.n 63)) (.k .A (.a .aG .O)) hs this)];rw[h.mem];constructor
 ·rintro ⟨p,q,z⟩;apply#[p,q,by show .inl (z.elim (λW=>(az .aC .a .B W)) λW=>(az .aC .a .D W.1))]
 ·rintro ⟨p,q,z⟩;have:=q.lj;apply#[p,q,by show xf λW=>((ku.mp (iS.mp W).2).elim (λq2=>((au q2).elim (λI=>(jc .ff .c .bR .B (iS.mp W).1 I)) λI=>(z.elim (λJ=>(jc .ff .c .B (.l .B .M) I J)) λJ=>(J.2.elim (λU=>(fj .ff .k .b3 U)) λU=>(uB .ff .c .C (.k .A .O) p U.2))))) λq2=>(sd .ff .l .C (.k .a9 .C) (.g .B .C) p this (iS.mp q2).1))]
def dN.fin (h:dN xs ys R xs.length 0 0)(r:T3):r∈R↔0<r.2.2/\iP xs ys r.1 r.2.1 r.2.2:=by
 rw[h.mem];constructor
 ·rintro ⟨p,q,z⟩;apply#[p,q]
 ·rintro ⟨p,q⟩;have:=q.li;apply#[p,q,by show .inl (fb .B .b .a5 (.k .V .B) p this)]
end
public abbrev HO (r s:T3):Prop:=(r.1+r.2.2<=s.1/\r.2.1+r.2.2<=s.2.1)\/(s.1+s.2.2<=r.1/\s.2.1+s.2.2<=r.2.1)
abbrev fR (K:List T3)(r:T3):Bool:=K.all λs=>decide (HO r s)
abbrev grK (K:List T3)(r:T3):List T3:=if fR K r=true then K++[r] else K
abbrev grS (S:List T3):List T3:=S.foldl grK []
def yU {K:List T3}{r:T3}:fR K r=true↔∀s∈K,HO r s:=by
 unfold fR;rw[lp];apply#[λh s W=>br (h s W),λh s W=>fc (h s W)]
def LJ (S:List T3):(grS S).length<=S.length:=by
 have:∀(S K:List T3),(S.foldl grK K).length<=K.length+S.length:=λS=>by
  induction S with
  |nil=>show λK=>av _
  |cons r S W =>
   intro K;rw[List.foldl_cons,ip];have:=W (grK K r);have U:(grK K r).length<=K.length+1:=by
    unfold grK;split
    ·rw[bq];show av _
    ·show dS _
   (show gp (.k .A .aH) .b (.k .A .aI) (.k .D .P) this U)
 have h:=this S []
 rwa [List.length_nil,mw]at h
def yR {S:List T3}{p:T3->Bool}(h:∀t (U:t<S.length),fR ((S.take t).filter p) S[t]=p S[t]):grS S=S.filter p:=by
 have:∀t,t<=S.length->grS (S.take t)=(S.take t).filter p:=λt=>by
  induction t with
  |zero=>show λ_=>rfl
  |succ t O =>
   intro U;have W:t<S.length:=U;rw[fg W,List.filter_append];unfold grS at O ⊢;rw[List.foldl_append,O (gw U)];show grK _ _=_;unfold grK;rw[h t W];cases q:p S[t] with
   |true=>rw[cf rfl,List.filter_cons_of_pos q];rfl
   |false=>rw[aw fy,List.filter_cons_of_neg (by rw[q];show fy)];show(dk _).symm
 have:=this S.length (av _)
 rwa [gv]at this
end MP
end
section
namespace MP
namespace R9
open PySem SM
variable {ρ:Fr}
abbrev fH (r:T3):List Int:=[-(r.2.2:Nat),r.1,r.2.1]
abbrev oM (r:T3):List Int:=[r.1,r.2.1,r.2.2]
abbrev fnK:Fn:=⟨2,[],(.cons (.a [(.v 2)] (.L .nil))
 (.cons (.each (.v 3) (.rng1 (.bf .len %[.l 0|0])) (.cons (.each (.v 4) (.rng1 (.bf .len %[.l 1|0])) (.cons (.a [(.v 5)] (.int 0))
 (.cons (.loop (.and (.c .lt (.b .add (.l 3) (.l 5)) (.bf .len %[.l 0|0])) (.and (.c .lt (.b .add (.l 4) (.l 5)) (.bf .len %[.l 1|0])) (.c .eq (.sub (.l 0) (.b .add (.l 3) (.l 5))) (.sub (.l 1) (.b .add (.l 4) (.l 5)))))) (.cons (.aug 5 .add (.int 1))
 (.cons (.expr (.bm .append (.l 2) %[.T %[.neg (.l 5),.l 3,.l 4|0]|0]))
 .nil)))
 .nil)))
 .nil))
 (.cons (.a [(.v 6)] (.L .nil))
 (.cons (.each (.T [7,3,4]) (.seq (.bf .sorted %[.l 2|0])) (.cons (.a [(.v 8)] (.bool true))
 (.cons (.each (.T [9,10,11]) (.seq (.l 6)) (.cons (.C (.not (.or (.and (.c .le (.b .sub (.l 3) (.l 7)) (.l 9)) (.c .le (.b .sub (.l 4) (.l 7)) (.l 10))) (.and (.c .le (.b .add (.l 9) (.l 11)) (.l 3)) (.c .le (.b .add (.l 10) (.l 11)) (.l 4))))) (.cons (.a [(.v 8)] (.bool false))
 .nil) .nil)
 .nil))
 (.cons (.C (.l 8) (.cons (.expr (.bm .append (.l 6) %[.T %[.l 3,.l 4,.neg (.l 7)|0]|0]))
 .nil) .nil)
 .nil))))
 (.cons (.ret (.bf .sorted %[.l 6|0]))
 .nil)))))⟩
structure RK (ρ:Fr)(la lb lr:Addr):Prop where
 r0:ρ 0=some (.L la)
 r1:ρ 1=some (.L lb)
 r2:ρ 2=some (.L lr)
structure Wd (σ:St)(la lb:Addr)(xs ys:List Int):Prop where
 a:σ.L la=some (iV xs)
 b:σ.L lb=some (iV ys)
 na:xs.length<=63
 nb:ys.length<=63
def Wd.ext {σ σ':St}{la lb:Addr}{xs ys:List Int}(h:Wd σ la lb xs ys)(E:Ext σ σ'):Wd σ' la lb xs ys:=#[E.L _ _ h.a,E.L _ _ h.b,h.na,h.nb]
section
variable {C:Cal}{σ:St}{la lb lr kl:Addr}{xs ys:List Int}{K:Fl->Fr->St->Prop}
public abbrev rV (R:List T3):List V:=R.map λr=>iT (fH r)
public abbrev kV (R:List T3):List V:=R.map λr=>iT (oM r)
inductive SH (σ:St)(la lb lr:Addr)(xs ys:List Int)(i j:Nat)(n:Nat)(ρ:Fr)(σ':St):Prop
 |mk (s:Nat) (R:List T3):n=xs.length-(i+s)->RK ρ la lb lr->ρ 3=some (.int i)->ρ 4=some (.int j)->ρ 5=some (.int s)->σ'=σ.eh lr (rV R)->iP xs ys i j s->dN xs ys R i j s->SH σ la lb lr xs ys i j n ρ σ'
def DE (W:Wd σ la lb xs ys)(aj:σ.L lr=none){i j:Nat}{R:List T3}(hi:i<xs.length)(hj:j<ys.length)(H:RK ρ la lb lr)(r3:ρ 3=some (.int i))(r4:ρ 4=some (.int j))(r5:ρ 5=some (.int 0))(I:dN xs ys R i j 0)
  (h:∀ρ' z,RK ρ' la lb lr->ρ' 3=some (.int i)->dN xs ys z i (j+1) 0->K .next ρ' (σ.eh lr (rV z))) :
  wpS C (.loop (.and (.c .lt (.b .add (.l 3) (.l 5)) (.bf .len %[.l 0|0])) (.and (.c .lt (.b .add (.l 4) (.l 5)) (.bf .len %[.l 1|0])) (.c .eq (.sub (.l 0) (.b .add (.l 3) (.l 5))) (.sub (.l 1) (.b .add (.l 4) (.l 5)))))) (.cons (.aug 5 .add (.int 1))
 (.cons (.expr (.bm .append (.l 2) %[.T %[.neg (.l 5),.l 3,.l 4|0]|0]))
 .nil))) ρ (σ.eh lr (rV R)) K:=by
 apply#[xs.length+1,dD (SH σ la lb lr xs ys i j) ?_ (xs.length+1) (xs.length-(i+0)) (gz .aC .a (.e (.a .A (.a .C .O)) .B) (aa (az (.k (.a .A .O) .B) .a .B hi))) #[0,R,rfl,H,r3,r4,r5,rfl,iP.nil (gw hi) (gw hj),I]];intro n ρ' σ' hI again ao;have#[s,z,rfl,H',U,ag,ai,rfl,Rn,I']:=hI;have W':=W.ext ((Ext.refl σ).eh (xs:=rV z) aj);have hL:(σ.eh lr (rV z)).L lr=some (rV z):=cj _ _ _;have hs:=Rn.li;have na:=W.na;apply zm _ (HQ W'.a W'.b H'.r0 H'.r1 U ag ai) ?_;by_cases c:i+s<xs.length/\j+s<ys.length/\xs[i+s]?=ys[j+s]?
 ·rw[fc c];apply gW #[_,ai,?_];show gx C _ (upd ρ' 5 (.int (s+1:Nat))) _ _;apply hV (iT (fH (i,j,s+1))) H'.r2 hL ?_ (by rw[aq];have:=I'.len;have:=Rn.lj;have:=W.nb;unfold ba;(rename_i z2 z1;show u9 .aZ [[1,63,3969,3969,1,63]] .aD (.k .D (.n 63)) (.l .aB .D) (.k .A (.a (.r (.a (.r .F 63) .B) 63) .G)) (.k .C (.n 63)) hj na c.1 z2 this)) ?_
  ·rw[eD,iz,BE,iz,iz,wA,uz,uz,uz];rw[show upd ρ' 5 (.int (s+1:Nat)) 3=some (.int i) from U,show upd ρ' 5 (.int (s+1:Nat)) 4=some (.int j) from ag];rfl
  ·have e:rV z++[iT (fH (i,j,s+1))]=rV (z++[(i,j,s+1)]):=(gk (l₁:=z) (l₂:=[(i,j,s+1)])).symm;rw[e,yx];show qo (ao _ _ _ (um .B .d (.e (.a .A (.a .C .Y)) .F) (.e (.a .B .R) .F) (aa (gz .N .a .J c.1)) (aa (gz .F .a .F hs))) #[s+1,_,rfl,#[H'.r0,H'.r1,H'.r2],U,ag,rfl,rfl,Rn.grow c,I'.grow (Rn.grow c)])
 ·rw[dg c];show fA (h _ _ H' U (I'.nextJ (fb .aJ .b (.k .a9 .C) (.k .C (.n 63)) hs na) λn q=>q.stop c))
inductive lF (xs ys:List Int)(K:List T3):Prop
 |mk (R S:List T3):dN xs ys R xs.length 0 0->S.Perm R->(S.Pairwise λr s=>lg (fH s) (fH r)=false)->K.Perm (grS S)->(K.Pairwise λr s=>lg (oM s) (oM r)=false)->lF xs ys K
abbrev RP (l:List Int):T3:=((l.getD 1 0).toNat,(l.getD 2 0).toNat,(-(l.getD 0 0)).toNat)
abbrev TJ (l:List Int):T3:=((l.getD 0 0).toNat,(l.getD 1 0).toNat,(l.getD 2 0).toNat)
def I6 (a:T3):RP (fH a)=a:=by
 show(a.1,a.2.1,(- -(a.2.2:Int)).toNat)=a;rw[Int.neg_neg];rfl
structure RG (ρ:Fr)(kl:Addr)(r:T3):Prop where
 r6:ρ 6=some (.L kl)
 r7:ρ 7=some (.int (-(r.2.2:Nat)))
 r3:ρ 3=some (.int r.1)
 r4:ρ 4=some (.int r.2.1)
def wD {σ:St}{a b:Ex}{m n:Nat}(W:evV σ ρ a=some (.int m))(hb:evV σ ρ b=some (.int (-(n:Nat)))):evV σ ρ (.b .sub a b)=some (.int (m+n:Nat)):=by
 rw[xr,W,hb];show some (V.int ((m:Int) - -(n:Int)))=_;rw[Int.sub_neg];rfl
def HN {k:Fr->St->Prop}{r s:T3}{b:Bool}(H:RG ρ kl r)(B:ρ 8=some (.bool b))(h:∀ρ',RG ρ' kl r->ρ' 8=some (.bool (b&&decide (HO r s)))->k ρ' σ) :
  su (.T [9,10,11]) (iT (oM s)) σ ρ λρ=>gx C (.cons (.C (.not (.or (.and (.c .le (.b .sub (.l 3) (.l 7)) (.l 9)) (.c .le (.b .sub (.l 4) (.l 7)) (.l 10))) (.and (.c .le (.b .add (.l 9) (.l 11)) (.l 3)) (.c .le (.b .add (.l 10) (.l 11)) (.l 4))))) (.cons (.a [(.v 8)] (.bool false))
 .nil) .nil)
 .nil) ρ σ (yh k K):=by
 apply#[_,rfl,rfl,?_];have H1:RG (ji [9,10,11] [.int s.1,.int s.2.1,.int s.2.2] ρ) kl r:=#[H.r6,H.r7,H.r3,H.r4];have J:ji [9,10,11] [.int s.1,.int s.2.1,.int s.2.2] ρ 8=some (.bool b):=B;have O:ji [9,10,11] [.int s.1,.int s.2.1,.int s.2.2] ρ 9=some (.int s.1):=rfl;have U:ji [9,10,11] [.int s.1,.int s.2.1,.int s.2.2] ρ 10=some (.int s.2.1):=rfl;have W:ji [9,10,11] [.int s.1,.int s.2.1,.int s.2.2] ρ 11=some (.int s.2.2):=rfl;show gx C _ (ji [9,10,11] [.int s.1,.int s.2.1,.int s.2.2] ρ) σ _;generalize ji [9,10,11] [.int s.1,.int s.2.1,.int s.2.2] ρ=I at H1 J O U W;apply uF (¬HO r s) (HP (LQ (xw (tP (wD H1.r3 H1.r7) O) (tP (wD H1.r4 H1.r7) U)) (xw (tP (oe O W) H1.r3) (tP (oe U W) H1.r4)))) (λc=>?_) λc=>?_
 ·apply lZ (.bool false) rfl (fX (qo (h _ #[H1.r6,H1.r7,H1.r3,H1.r4] ?_)));rw[dg c,Bool.and_false];rfl
 ·apply fX (qo (h _ H1 ?_));rw[fc (iA.mp c),Bool.and_true];show J
def HJ {S:List T3}{t:Nat}(h:t<S.length):grS (S.take (t+1))=grK (grS (S.take t)) S[t]:=by
 unfold grS;rw[fg h,List.foldl_append];rfl
def L9 {P:Nat->Option Fn}{kf n:Nat}(hk:P kf=some fnK){Q:V->St->Prop}(W:Wd σ la lb xs ys)(h:∀c σ' K',Ext σ σ'->σ.L c=none->σ'.L c=some (kV K')->lF xs ys K'->Q (.L c) σ'):jm P (n+1) kf [.L la,.L lb] σ Q:=by
 apply#[fnK,hk,av 2,av 2,?_];apply BY [] rfl (bz _) λlr ao=>?_;have H0:RK (upd (frameOf fnK [.L la,.L lb]) 2 (.L lr)) la lb lr:=#[rfl,rfl,rfl];generalize upd (frameOf fnK [.L la,.L lb]) 2 (.L lr)=ρ at H0;have W1:∀R,Wd (σ.eh lr (rV R)) la lb xs ys:=λR=>W.ext ((Ext.refl σ).eh ao);have na:=W.na;have nb:=W.nb;show gx _ _ ρ (σ.eh lr (rV [])) _;apply rX (n:=xs.length) (λi ρ' σ'=>∃R,RK ρ' la lb lr/\σ'=σ.eh lr (rV R)/\dN xs ys R i 0 0) (xq H0.r0 (W1 []).a) (fj (.l .A (.n (2^39))) .a .aJ na) #[[],H0,rfl,dN.start] (λi ρ' σ' kk K' hi hI hk=>?_) λρ' σ' hI=>?_
 ·have#[R,H,rfl,I]:=hI;have H1:RK (upd ρ' 3 (.int i)) la lb lr:=#[H.r0,H.r1,H.r2];apply rX (n:=ys.length) (λj ρ' σ'=>∃R,RK ρ' la lb lr/\ρ' 3=some (.int i)/\σ'=σ.eh lr (rV R)/\dN xs ys R i j 0) (xq H1.r1 (W1 R).b) (fj (.l .A (.n (2^39))) .a .aJ nb) #[R,H1,rfl,rfl,I] (λj U σ2 k2 K2 hj hI ch=>?_) λU σ2 hI=>?_
  ·have#[R,H2,q4,rfl,I]:=hI;show gx _ _ (upd (upd U 4 (.int j)) 5 (.int 0)) _ _;apply DE (K:=nL (λρ σ=>gx (jm P n) .nil ρ σ (yh k2 K2)) (yh k2 K2)) W ao hi hj #[H2.r0,H2.r1,H2.r2] q4 rfl rfl I λbu R' H3 q4 I'=>?_;show ch _ _ #[R',H3,q4,rfl,I']
  ·have#[R,H2,q4,rfl,I]:=hI;show qo (hk _ _ #[R,H2,rfl,I.QT (fj .aJ .a .aJ nb)])
 have#[R,H,rfl,I]:=hI;have cl:R.length<=ba:=by have:=I.len;unfold ba;(show jc .a1 [[1,3969,1]] (.k .B (.n 63)) (.k .A (.a (.r (.a (.r .B 63) .O) 63) .O)) na this)
 apply BY [] rfl (bz _) λkl ai=>?_;have E1:Ext σ (σ.eh lr (rV R)):=(Ext.refl σ).eh ao;have E2:Ext σ ((σ.eh lr (rV R)).eh kl []):=E1.eh (E1.noL ai);have cb:lr≠kl:=λq=>by
  rw[<- q]at ai;rw[show(σ.eh lr (rV R)).L lr=_ from cj _ _ _]at ai;cases ai
 have bn:((σ.eh lr (rV R)).eh kl []).L lr=some ((R.map fH).map iT):=(fh cb).trans ((cj _ _ _).trans (by rw[gq];rfl));have ax:((σ.eh lr (rV R)).eh kl []).L kl=some []:=cj _ _ _;have r2:upd ρ' 6 (.L kl) 2=some (.L lr):=H.r2;have r6:upd ρ' 6 (.L kl) 6=some (.L kl):=rfl;generalize upd ρ' 6 (.L kl)=cM at r2 r6;generalize (σ.eh lr (rV R)).eh kl []=σ2 at E2 bn ax;apply#[_,r2,R.map fH,3,by decide,bn,(λt ht=>by have#[r,_,rfl]:=ee.mp ht;rfl),λda hp hs c hc=>?_];have#[S,hS,rfl]:=rL (f:=fH) (g:=RP) I6 hp;have hs:=List.pairwise_map.mp hs;have ar:c≠kl:=λq=>by rw[q,ax]at hc;cases hc
 have E3:Ext σ (σ2.eh c ((S.map fH).map iT)):=E2.eh (E2.noL hc);have aj:(σ2.eh c ((S.map fH).map iT)).L c=some ((S.map fH).map iT):=cj _ _ _;have bc:(σ2.eh c ((S.map fH).map iT)).L kl=some []:=(fh (fF ar)).trans ax;have ck:S.length<=ba:=by rw[hS.length_eq];show cl
 have cd:σ.L kl=none:=E1.noL ai;generalize σ2.eh c ((S.map fH).map iT)=z at E3 aj bc;apply#[_,aj,?_];apply sq (λt ρ σ'=>ρ 6=some (.L kl)/\σ'=z.eh kl (kV (grS (S.take t)))) ?_ ?_ #[r6,(xh bc).symm]
 ·intro t v U σ' hv zz;have#[q8,rfl]:=zz;rw[gq,cp]at hv;have#[r,hr,rfl]:=omap hv;have#[ht,rfl]:=cu.mp hr;apply#[(fh ar).trans aj,λkk bl=>#[_,rfl,rfl,?_]];have hl:(grS (S.take t)).length<ba:=by
   have:=LJ (S.take t);rw[et]at this
   (show zR .B .w .H .aV (.k .A .F) (.k .F .D) ck ht this (Ar.jt _ _).1)
  have hg:=HJ ht;generalize S[t]=r at hg;generalize grS (S.take t)=Kp at hg hl;have J:(z.eh kl (kV Kp)).L kl=some (kV Kp):=cj _ _ _;apply lZ (.bool true) rfl ?_;have G1:RG (upd (ji [7,3,4] [.int (-(r.2.2:Nat)),.int r.1,.int r.2.1] U) 8 (.bool true)) kl r:=#[q8,rfl,rfl,rfl];have bp:upd (ji [7,3,4] [.int (-(r.2.2:Nat)),.int r.1,.int r.2.1] U) 8 (.bool true) 8=some (.bool true):=rfl;show gx _ _ (upd (ji [7,3,4] [.int (-(r.2.2:Nat)),.int r.1,.int r.2.1] U) 8 (.bool true)) _ _;generalize upd (ji [7,3,4] [.int (-(r.2.2:Nat)),.int r.1,.int r.2.1] U) 8 (.bool true)=bu at G1 bp;apply#[_,G1.r6,_,J,?_];apply sq (λm ρ σ'=>RG ρ kl r/\σ'=z.eh kl (kV Kp)/\ρ 8=some (.bool (fR (Kp.take m) r))) ?_ ?_ #[G1,rfl,bp]
  ·intro m v bt ay hv zz;have#[G4,rfl,ag]:=zz;rw[cp]at hv;have#[s,hs,rfl]:=omap hv;have#[hm,rfl]:=cu.mp hs;apply#[J,λk4 be=>HN G4 ag λcx G5 ag=>be _ _ #[G5,rfl,?_]];rw[ag,fg hm];unfold fR;rw[List.all_append];show _=some (V.bool (_&&(decide (HO r Kp[m])&&true)));rw[Bool.and_true]
  ·intro bt ay zz;have#[G4,rfl,ag]:=zz;rw[aq,gv]at ag;apply#[J,?_];unfold grK at hg;apply uG (fR Kp r) (by rw[BG,ag];rfl) ?_;cases q:fR Kp r with
   |true =>
    rw[q,cf rfl]at hg;apply gW (hV (iT (oM r)) G4.r6 J ?_ (by rw[aq];show hl) ?_)
    ·rw[eD,iz,iz,iz,wA,BE,uz,uz,uz,G4.r3,G4.r4,G4.r7];show some (V.T [.int r.1,.int r.2.1,.int (- -(r.2.2:Nat))])=_;rw[Int.neg_neg];rfl
    ·have e:kV Kp++[iT (oM r)]=kV (Kp++[r]):=(gk (l₁:=Kp) (l₂:=[r])).symm;rw[e,yx];show fX (qo (bl _ _ #[G4.r6,by rw[hg]]))
   |false =>
    rw[q,aw fy]at hg;show fA (fX (qo (bl _ _ #[G4.r6,by rw[hg]])))
 ·intro U σ' zz;have#[q8,rfl]:=zz;rw[aq,aq,gv];apply#[(fh ar).trans aj,?_];have E4:Ext σ (z.eh kl (kV (grS S))):=E3.eh cd;have J:(z.eh kl (kV (grS S))).L kl=some (((grS S).map oM).map iT):=(cj _ _ _).trans (by rw[gq];rfl);generalize z.eh kl (kV (grS S))=ay at E4 J;apply#[_,q8,(grS S).map oM,3,by decide,J,(λt ht=>by have#[r,_,rfl]:=ee.mp ht;rfl),λcS ca bv c2 bd=>?_];have#[K',ct,rfl]:=rL (f:=oM) (g:=TJ) (λa=>rfl) ca;apply h c2 _ K' (E4.eh (E4.noL bd)) (E4.noL bd) ((cj _ _ _).trans (by rw[gq];rfl)) #[R,S,I,hS,hs,ct,List.pairwise_map.mp bv]
end
def zh {a b:Int}{as bs:List Int}(h:a<b\/(a=b/\lg as bs=true)):lg (a::as) (b::bs)=true:=by
 show(if a=b then lg as bs else decide (a<b))=true;rcases h with h|⟨rfl,h⟩
 ·rw[aw (uv (.iu .A .B) [[-1,1]] .aA h)];show fc h
 ·rw[cf rfl];show h
def NV {r s:T3}(h:Bef s r):lg (fH s) (fH r)=true:=by
 unfold fH;rcases h with h|⟨e,h|⟨W,h⟩⟩
 ·show zh (.inl (az (.il (.g .L) (.g .P)) .a .U h))
 ·show zh (.inr #[by show az (.ie (.g .L) (.g .P)) .j .b9 e,zh (.inl (az (.il .L .P) .a .B h))])
 ·show zh (.inr #[by show az (.ie (.g .L) (.g .P)) .j .b9 e,zh (.inr #[by show az (.ie .L .P) .j .D W,zh (.inl (az (.il .L .P) .a .B h))])])
def vF {xs ys:List Int}{i j n:Nat}:uC (dP (ks xs) (ks ys)) 0 xs.length 0 ys.length i j n↔iP xs ys i j n:=by
 constructor
 ·intro h;apply#[h.ia,h.jb,λt W=>?_];have#[c,U,O]:=dP.ints.mp (h.eq t W);rw[U,O]
 ·intro h;apply#[bz _,h.li,bz _,h.lj,λt W=>dP.ints.mpr ?_];have e:=h.eq t W;have:=h.li;have U:=bb (show i+t<xs.length by show gp .J .b .S .b0 W this);apply#[_,U,by rw[<- e];show U]
def lV {xs ys:List Int}{K:List T3}(h:lF xs ys K){L:List T3}(bt:BT (dP (ks xs) (ks ys)) 0 xs.length 0 ys.length L):K=L:=by
 have#[R,S,I,hS,hs,hK,hk]:=h;have hR:∀r,r∈S↔0<r.2.2/\iP xs ys r.1 r.2.1 r.2.2:=λr=>hS.mem_iff.trans (I.fin r);have J:S.Nodup:=hS.nodup_iff.mpr I.nd;have ag:∀u∈L,u∈S:=λu hu=>(hR u).mpr #[(bt.ok.1 u hu).2,vF.mp (bt.ok.2.2 u hu)];have aj:∀{t:Nat} (W:t<S.length),S[t]∉S.take t:=λ{t} W q=>by
  have:=J;rw[<- ek t S,cg W]at this;show(xB.mp this).2.2 _ q _ (.head _) rfl
 have hf:grS S=S.filter λr=>decide (r∈L):=yR λt W=>by
  have hr:=(hR _).mp (du W);apply Bool.eq_iff_iff.mpr ?_;rw[yU,decide_eq_true_iff];rw[<- bt.fits (r:=S[t]) hr.1 (vF.mpr hr.2) (K:=λu=>u∈(S.take t).filter (λr=>decide (r∈L))) (λu z=>?_) λu hu hb=>?_]
  ·apply#[λh u z=>(h u z).elim .inr .inl,λh u z=>(h u z).elim .inr .inl]
  ·have#[h1,h2]:=List.mem_filter.mp z;apply#[br h2,λe=>aj W (e▸h1)]
  ·apply List.mem_filter.mpr #[?_,fc hu];have O:=ag u hu;rw[<- ek t S,cg W]at O;have U:=NV hb;rcases dh.mp O with q|q
   ·show q
   ·have hp:=hs;rw[<- ek t S,cg W]at hp;have hp:=(kc.mp (ou.mp hp).2.1).1;rcases bw.mp q with e|q
    ·rw[e,iH]at U;cases U
    ·rw[hp u q]at U;cases U
 have ai:∀r,r∈K↔r∈S/\r∈L:=λr=>by
  rw[hK.mem_iff,hf,List.mem_filter,decide_eq_true_iff]
 have ao:K.Nodup:=hK.nodup_iff.mpr (by rw[hf];show J.filter _);apply OA bt.ok.2.1 (λt W=>(bt.ok.1 t W).2) (hk.imp λ{a b} h=>?_) ao λt=>#[λh=>((ai t).mp h).2,λh=>(ai t).mpr #[ag t h,h]];rcases my b.1 a.1 with q|q
 ·rw[show lg (oM b) (oM a)=true from zh (.inl (az (.il .L .P) .a .B q))]at h;cases h
 ·show q
end R9
end MP
end
section
namespace MP
open PySem SM
def MK {N:Nat}{P:T3->Prop}(h:∀r:T3,r.2.2<=N->(∀s:T3,s.2.2<=N->Bef s r->P s)->P r):∀r:T3,r.2.2<=N->P r:=by
 have:∀(a b c:Nat) (r:T3),N-r.2.2=a->r.1=b->r.2.1=c->r.2.2<=N->P r:=by
  intro a;induction a using Nat.strongRecOn with
  |ind a J =>
   intro b;induction b using Nat.strongRecOn with
   |ind b O =>
    intro c;induction c using Nat.strongRecOn with
    |ind c U =>
     intro r I B ec hr;apply h r hr λs W hb=>?_;rcases hb with hb|⟨z,hb|⟨e2,hb⟩⟩
     ·show J (N-s.2.2) (I▸Nat.sub_lt_sub_left (iq hb W) hb) _ _ s rfl rfl rfl W
     ·show O s.1 (B▸hb) _ s (z▸I) rfl rfl W
     ·show U s.2.1 (ec▸hb) s (z▸I) (e2.trans B) rfl W
 show λr=>this _ _ _ r rfl rfl rfl
def MH {H:Nat->Nat->Prop}{alo ahi blo bhi:Nat}(r:T3)(p:0<r.2.2)(R:uC H alo ahi blo bhi r.1 r.2.1 r.2.2):∃i j k,BZ H alo ahi blo bhi i j k:=by
 apply MK (N:=ahi) (P:=λr=>0<r.2.2->uC H alo ahi blo bhi r.1 r.2.1 r.2.2->∃i j k,BZ H alo ahi blo bhi i j k) (λr _ U p R=>?_) r (jf (Nat.le_add_left _ _) R.ia) p R;by_cases q:∃s:T3,0<s.2.2/\uC H alo ahi blo bhi s.1 s.2.1 s.2.2/\Bef s r
 ·have#[s,ps,W,b]:=q;show U s (jf (Nat.le_add_left _ _) W.ia) b ps W
 ·apply#[r.1,r.2.1,r.2.2,p,R,λi j k hk O=>?_];have no:¬Bef (i,j,k) r:=λb=>q #[(i,j,k),hk,O,b];rcases i5 k r.2.2 with h|h|h
  ·show .inl h
  ·apply .inr #[h,?_];rcases i5 r.1 i with a|a|a
   ·show .inl a
   ·show .inr #[a,wj λl=>no (.inr #[h.symm,.inr #[a.symm,l]])]
   ·show absurd (Or.inr #[h.symm,.inl a]) no
  ·show absurd (Or.inl h) no
def BT.ex (H:Nat->Nat->Prop):∀(n alo ahi blo bhi:Nat),ahi-alo<=n->∃L,BT H alo ahi blo bhi L:=by
 intro n;induction n with
 |zero =>
  intro alo ahi blo bhi h;apply#[[],.nil λi j U W=>absurd (Nat.sub_pos_of_lt (gE U W)) (jY h)]
 |succ n ih =>
  intro alo ahi blo bhi h;by_cases q:∃i j,alo<=i/\i<ahi/\blo<=j/\j<bhi/\H i j
  ·have#[i,j,U,W,h3,z,I]:=q;have#[i,j,k,B]:=MH (H:=H) (alo:=alo) (ahi:=ahi) (blo:=blo) (bhi:=bhi) (i,j,1) Nat.one_pos ⟨U,W,h3,z,λt J=>by
    have J:t<1:=J;have rfl:=Nat.lt_one_iff.mp J;show I⟩
   have p:=B.pos;have O:=B.run.ai;have r2:=B.run.ia;have r3:=iq (ym (n:=i) p) r2;have#[L,hL]:=ih alo i blo j (vl (iq (Nat.sub_lt_sub_right O r3) h));have#[R,hR]:=ih (i+k) ahi (j+k) bhi (vl (iq (Nat.sub_lt_sub_left (gE O r3) (gE O (ym p))) h));apply#[_,.node B hL hR]
  ·apply#[[],.nil λi j U W h3 z I=>q #[i,j,U,W,h3,z,I]]
def LI {xs ys:List Int}{f g:Int->Key}(h:∀x∈xs,∀y∈ys,f x=g y↔x=y)(i j:Nat):dP (xs.map f) (ys.map g) i j↔dP (ks xs) (ks ys) i j:=by
 rw[dP.iff,dP.ints,cp,cp];constructor
 ·rintro ⟨c,U,W⟩;have#[x,J,rfl]:=gj.mp U;have#[y,O,e]:=gj.mp W;have:=(h x (dt J) y (dt O)).mp e.symm;apply#[x,J,this▸O]
 ·rintro ⟨c,U,W⟩;apply#[f c,by rw[U];rfl,?_];rw[W,(h c (dt U) c (dt W)).mpr rfl];rfl
def PT {xs ys:List Int}{f g:Int->Key}(h:∀x∈xs,∀y∈ys,f x=g y↔x=y){L:List T3}(b:BT (dP (xs.map f) (ys.map g)) 0 (xs.map f).length 0 (ys.map g).length L):BT (dP (ks xs) (ks ys)) 0 xs.length 0 ys.length L:=by
 rw[aq,aq]at b;show b.congr λi j _ _ _ _=>LI h i j
namespace R12
abbrev sgn (k:Nat):Int:=if k=0 then 32 else if k=1 then 65 else if k=2 then 97 else if k=3 then 200 else if k=4 then 10 else 123+k
def KL {k l:Nat}(hk:k<37)(hl:l<37)(h:sgn k=sgn l):k=l:=by
 have:∀a:Fin 37,∀b:Fin 37,sgn a.1=sgn b.1->a.1=b.1:=by
  unfold sgn;decide
 show this #[k,hk] #[l,hl] h
def xQ {k:Nat}(hk:k<37):0<=sgn k/\sgn k<256/\sgn k≠45/\sgn k≠43:=by
 have:∀a:Fin 37,0<=sgn a.1/\sgn a.1<256/\sgn a.1≠45/\sgn a.1≠43:=by
  unfold sgn;decide
 show this #[k,hk]
abbrev enc (cm:List Int)(d x:Int):Int:=if x∈cm then sgn (cm.idxOf x) else d
section
variable {cm xs ys:List Int}(hc:∀x,x∈cm↔x∈xs/\x∈ys)(hl:cm.length<=37)
include hc hl
def tR {x y:Int}(U:x∈xs)(W:y∈ys):enc cm 45 x=enc cm 43 y↔x=y:=by
 constructor
 ·intro h;unfold enc at h;by_cases a:x∈cm
  ·have ia:=pv a;rw[cf a]at h;by_cases b:y∈cm
   ·have ib:=pv b;rw[cf b]at h;have e:=KL (jc .c3 .b .c4 .B hl ia) (jc .c3 .b .c4 .B hl ib) h;have J:cm[cm.idxOf x]'ia=x:=List.getElem_idxOf ia;have O:cm[cm.idxOf y]'ib=y:=List.getElem_idxOf ib;rw[<- J,<- O]
    congr 1
   ·rw[aw b]at h;show((xQ (jc .c3 .b .c4 .B hl ia)).2.2.2 h).elim
  ·rw[aw a]at h;by_cases b:y∈cm
   ·have ib:=pv b;rw[cf b]at h;show((xQ (jc .c3 .b .c4 .B hl ib)).2.2.1 h.symm).elim
   ·rw[aw b]at h;show absurd h (by decide)
 ·rintro rfl;have m:=(hc x).mpr #[U,W];unfold enc;rw[cf m,cf m]
end
def HT {cm:List Int}(hl:cm.length<=37){d:Int}(hd:0<=d/\d<256)(x:Int):0<=enc cm d x/\enc cm d x<256:=by
 unfold enc;split
 ·rename_i h;have:=xQ (iq (pv h) hl);apply#[this.1,this.2.1]
 ·show hd
end R12
end MP
end
section
namespace MP
namespace R12
open PySem SM
variable {α:Type}{x:Nat}{l:Addr}{K:Fl->Fr->St->Prop}{ss:pq}
def oU {G:St->Prop}{T:V->Fr->List V->St->(Fr->List V->St->Prop)->Prop}(f:α->V)(g:α->List V)(Inv:Fr->Prop){N:Nat}{σ:St}(B:G σ):∀{us:List α},(∀v∈us,∀ρ acc K',Inv ρ->acc.length+(g v).length<=N->(∀ρ',Inv ρ'->K' ρ' (acc++g v) σ)->T (f v) ρ acc σ K') ->
  ∀{ρ:Fr} {acc:List V} {K:Fr->List V->St->Prop},Inv ρ->acc.length+(us.flatMap g).length<=N->(∀ρ',Inv ρ'->K ρ' (acc++us.flatMap g) σ)->kT (us.map f) G T ρ acc σ K
 | [],_,ρ,acc,K=>λhi _ I=>#[B,by have:=I ρ hi;rwa [List.flatMap_nil,dk]at this]
 |v::us,z,ρ,acc,K=>λhi J I=>by
  rw[i9,bq]at J;apply#[B,z v (.head _) ρ acc _ hi (mW .F .a (.k (.a .A .aF) .C) J) λρ' O=>oU f g Inv B (λu hu=>z u (.tail _ hu)) O (by rw[bq];(show mW (.k (.a .L .C) .D) .a .bH J)) λW U=>?_];rw[bg];show I W U
def fQ {W:Type}{f:α->W}:∀{L:List α},(L.flatMap λx=>[f x])=L.map f
 | []=>rfl
 |x::L=>cc (f x::·) (fQ (L:=L))
section
variable {C:Cal}{σ:St}{ρ:Fr}{Q:V->St->Prop}
def s9 {us:List α}{u:α->V}{fv:List (Nat×Nat)}{el:Ex}(g:α->V)(Inv:Fr->Prop)(O:ρ x=some (.L l))(hl:σ.L l=some (us.map u))(hz:us.length<=ba)(hi:Inv (eE fv ρ))(hk:∀ρ' v,Inv ρ'->Inv (upd ρ' 1 v))
  (U:∀a∈us,∀(ρ':Fr) (Q:V->St->Prop),Inv ρ'->ρ' 1=some (u a)->Q (g a) σ->wpE C el ρ' σ Q) (k:∀c,σ.L c=none->Q (.L c) (σ.eh c (us.map g))):wpE C (.K fv (.seq (.l x)) (.v 1) .nil (.elt el)) ρ σ Q:=by
 rw[uP,nF];apply#[_,O,_,hl,?_];have e:=fQ (f:=g) (L:=us);apply oU (N:=ba) u (λa=>[g a]) Inv hl (λa J ρ' acc z W I B=>?_) hi (by rw[e,aq,List.length_nil,mw];show hz) λρ' _ c hc=>?_
 ·apply U a J _ _ (hk _ _ W) rfl #[I,B _ (hk _ _ W)]
 ·rw[e,List.nil_append];show k c hc
def E7 {ns:List Int}{n:Int}{a b:Nat}{K:Bool->St->Prop}(W:ρ a=some (.int n))(hb:ρ b=some (.L l))(hl:σ.L l=some (iV ns))(h:K (decide (n∈ns)) σ):wpT C (.c .isIn (.l a) (.l b)) ρ σ K:=
 #[_,W,_,hb,ns,hl,by rw[show ns.contains n=decide (n∈ns) from List.elem_eq_contains.symm.trans (by simp)];show h]
end
def DC (zs:List Int):∃ns:List Int,keysOf (zs.map V.int)=ns.map Key.int/\ns.Nodup/\∀x,x∈ns↔x∈zs:=by
 have:∀(zs ns:List Int),ns.Nodup->∃ms:List Int,(zs.map V.int).foldl x7 (ns.map Key.int)=ms.map Key.int/\ms.Nodup/\∀x,x∈ms↔x∈ns\/x∈zs:=λzs=>by
  induction zs with
  |nil=>show λns h=>#[ns,rfl,h,λx=>#[.inl,λh=>h.elim id λh=>nomatch h]]
  |cons z zs J =>
   intro ns h;have e:x7 (ns.map Key.int) (.int z)=(if z∈ns then ns else ns++[z]).map Key.int:=by
    show(if Key.int z∈ns.map Key.int then ns.map Key.int else ns.map Key.int++[Key.int z])=_;have q:Key.int z∈ns.map Key.int↔z∈ns:=#[λh=>by have#[y,W,e]:=ee.mp h;show Key.int.inj e▸W,λh=>ee.mpr #[z,h,rfl]];by_cases c:z∈ns
    ·rw[cf c,cf (q.mpr c)]
    ·rw[aw c,aw λh=>c (q.mp h),gk];rfl
   rw[mr,List.foldl_cons,e];have#[ms,O,W,U]:=J (if z∈ns then ns else ns++[z]) (by
    split
    ·show h
    ·rename_i c;apply xB.mpr #[h,.cons (λ_ h=>nomatch h) .nil,λa I b hb q=>?_];rw[ah.mp hb]at q;show c (q▸I))
   apply#[ms,O,W,λx=>(U x).trans ?_];by_cases c:z∈ns
   ·rw[cf c,bw];apply#[λh=>h.imp_right .inr,λh=>h.elim .inl λh=>h.elim (λe=>.inl (e▸c)) .inr]
   ·rw[aw c,bw,dh,ah,or_assoc]
 have#[ms,O,W,U]:=this zs [] .nil;apply#[ms,O,W,λx=>(U x).trans #[λh=>h.elim (λh=>nomatch h) id,.inr]]
def CZ {C:Cal}{σ:St}{ρ:Fr}{la lb:Addr}{xs ys:List Int}(r5:ρ 5=some (.L la))(r6:ρ 6=some (.L lb))(ha:σ.L la=some (iV xs))(hb:σ.L lb=some (iV ys))(hz:xs.length+ys.length<=62)
  (k:∀c σ' cm,Ext σ σ'->σ.L c=none->σ'.L c=some (iV cm)->(∀x,x∈cm↔x∈xs/\x∈ys)->cm.length<=37->gx C ss (upd ρ 7 (.L c)) σ' K) :
  gx C (.cons (.a [(.v 7)] (.bx .sortedS (.scomp [(2,6)] (.seq (.l 5)) (.v 1) %[.c .isIn (.l 1) (.l 2)|0] (.eltK (.l 1))))) ss) ρ σ K:=by
 apply iQ ?_;show sL C (.seq (.l 5)) ρ σ _;rw[nF];apply#[_,r5,_,ha,?_];apply oU (N:=4000) V.int (λx=>if x∈ys then [V.int x] else []) (λρ'=>ρ' 2=some (.L lb)) ha (λx U ρ' acc K' r2 hN J=>?_) r6 ?_ λρ' _ sc ag ai=>?_
 ·have I:upd ρ' 1 (.int x) 2=some (.L lb):=r2;apply E7 (C:=C) (a:=1) (b:=2) rfl I hb ?_;by_cases c:x∈ys
  ·rw[cf c]at hN J;rw[fc c];apply gW ?_;apply#[_,rfl,#[x,rfl],hN,J _ I]
  ·rw[aw c,dk]at J;rw[dg c];show fA (fA (J _ I))
 ·have:∀zs:List Int,(zs.flatMap λx=>if x∈ys then [V.int x] else []).length<=zs.length:=λzs=>by
   induction zs with
   |nil=>show av _
   |cons z zs W =>
    rw[i9,bq,ip];split
    ·rw[kn,Nat.add_comm];show jX W
    ·rw[List.length_nil,mw];show i6 W
  have:=this xs;rw[List.length_nil];(show fb (.k (.a .O .A) (.n 4000)) .b (.k .Q .a8) .A hz this)
 ·rw[List.nil_append];have e:∀zs:List Int,(zs.flatMap λx=>if x∈ys then [V.int x] else [])=(zs.filter λx=>decide (x∈ys)).map V.int:=λzs=>by
   induction zs with
   |nil=>rfl
   |cons z zs W =>
    rw[i9,W,List.filter_cons];by_cases c:z∈ys
    ·rw[cf c,fc c,cf rfl];rfl
    ·rw[aw c,dg c,aw fy];rfl
  rw[e];have#[ns,h1,h2,h3]:=DC (xs.filter λx=>decide (x∈ys));rw[h1];apply#[ns,cj _ _ _,λms B m2 c hc=>?_];have hm:∀x,x∈ms↔x∈xs/\x∈ys:=λx=>by rw[B,h3,List.mem_filter,decide_eq_true_iff]
  have l1:=h2.length_le_of_subset (l₂:=xs) λx U=>((hm x).mp ((B x).mpr U)).1;have l2:=h2.length_le_of_subset (l₂:=ys) λx U=>((hm x).mp ((B x).mpr U)).2;have E1:Ext σ (σ.uj sc (ns.map Key.int)):=(Ext.refl σ).uj ag;show k c _ ms (E1.eh hc) hc (cj _ _ _) hm (mU (.k .A (.n 37)) [[2,1,2,1,1]] (.k .Q .a8) (.e .A .D) .bL .bC hz m2 l1 l2)
def GV {C:Cal}{σ:St}{ρ:Fr}(k:∀c σ',Ext σ σ'->σ.L c=none->σ'.L c=some ((List.range 37).map λk=>V.int (sgn k))->gx C ss (upd ρ 8 (.L c)) σ' K) :
  gx C (.cons (.a [(.v 8)] (.b .add (.L %[.int 32,.int 65,.int 97,.int 200,.int 10|0]) (.lrng (.int 128) (.int 160)))) ss) ρ σ K:=by
 apply iQ #[bh rfl,λc1 I=>#[by decide,by decide,by decide,λc2 W=>?_]];have U:c1≠c2:=λq=>by
  rw[<- q]at W;rw[show(σ.eh c1 _).L c1=_ from cj _ _ _]at W;cases W
 have J:Ext σ (σ.eh c1 [.int 32,.int 65,.int 97,.int 200,.int 10]):=(Ext.refl σ).eh I;have O:=J.eh (c:=c2) (xs:=pn 128 160) (J.noL W);apply#[_,_,(fh U).trans (cj _ _ _),cj _ _ _,bh rfl,λc hc=>k c _ (O.eh (O.noL hc)) (O.noL hc) ((cj _ _ _).trans ?_)];rfl
def GU {C:Cal}{σ:St}{ρ:Fr}{y:Nat}{d:Int}{J U:Addr}{xs cm:List Int}(z:ρ x=some (.L l))(r8:ρ 8=some (.L J))(r7:ρ 7=some (.L U))(hl:σ.L l=some (iV xs))(hc:σ.L J=some ((List.range 37).map λk=>V.int (sgn k)))(I:σ.L U=some (iV cm))(hz:xs.length<=62)(W:cm.length<=37)
  (k:∀c,σ.L c=none->gx C ss (upd ρ y (.L c)) (σ.eh c (iV (xs.map (enc cm d)))) K) :
  gx C (.cons (.a [(.v y)] (.K [(2,8),(3,7)] (.seq (.l x)) (.v 1) .nil (.elt (.I (.c .isIn (.l 1) (.l 3)) (.sub (.l 2) (.bm .index (.l 3) %[.l 1|0])) (.int d))))) ss) ρ σ K:=by
 apply iQ (s9 (λa=>V.int (enc cm d a)) (λρ'=>ρ' 2=some (.L J)/\ρ' 3=some (.L U)) z hl (by unfold ba;(show fj .a1 .a .b7 hz)) #[r8,r7] (λρ' v h=>h) (λa ha ρ' Q h e q=>?_) λc hc=>?_)
 ·apply E7 (C:=C) (a:=1) (b:=3) e h.2 I ?_;unfold enc at q;by_cases c:a∈cm
  ·rw[cf c]at q;rw[fc c];have hi:=pv c;apply gW #[_,h.1,_,h.2,by show(σ.L U).isSome=true;rw[I];rfl,_,e,cm,I,c,_,V.int (sgn (cm.idxOf a)),hc,by rw[yr];(show qg (.ik .O .L) .i),?_,q];rw[yr,gu,cp,eX (jc .c3 .b .c4 .B W hi)];rfl
  ·rw[aw c]at q;rw[dg c];show fA q
 ·have:=k c hc
  rwa [show iV (xs.map (enc cm d))=xs.map λa=>V.int (enc cm d a) from gq ..]at this
def AV {C:Cal}{σ:St}{ρ:Fr}{Q:V->St->Prop}{zs:List Int}(U:ρ x=some (.L l))(hl:σ.L l=some (iV zs))(hz:zs.length<=62)(hr:∀z∈zs,0<=z/\z<256)(k:∀σ',Ext σ σ'->Q (.str #[(zs.map Int.toNat).toArray]) σ') :
  wpE C (.join (.K [] (.seq (.l x)) (.v 1) .nil (.elt (.bx .chr (.l 1))))) ρ σ Q:=by
 show wpE C (.K [] (.seq (.l x)) (.v 1) .nil (.elt (.bx .chr (.l 1)))) ρ σ λv σ=>yi v λa=>∃cs:List Nat,σ.L a=some (cs.map λc=>V.str #[#v[c]])/\Q (.str #[cs.toArray]) σ;apply s9 (C:=C) (λz=>V.str #[#v[z.toNat]]) (λ_=>True) U hl (by unfold ba;(show fj .a1 .a .b7 hz)) trivial (λ_ _ _=>trivial) (λa W ρ' Q _ e q=>show wpE C (.bx .chr (.l 1)) ρ' σ Q from#[_,e,(hr a W).1,(hr a W).2,q]) λc hc=>?_;apply#[zs.map Int.toNat,?_,k _ ((Ext.refl σ).eh hc)];rw[gq];show cj _ _ _
end R12
namespace R12
open PySem SM
variable {xs ys:List Int}{i:Nat}
inductive Pr (σ:St)(xs ys:List Int)(u v:V):Prop
 |mk (f g:Int->Key):(∀x∈xs,∀y∈ys,f x=g y↔x=y)->(∀x,td (f x))->(∀y,td (g y))->ub σ u=some ((xs.map f).map Key.v)->ub σ v=some ((ys.map g).map Key.v)->Pr σ xs ys u v
def uQ {C:Cal}{k:Nat}{es:Exs}{ρ:Fr}{σ:St}{Q:V->St->Prop}:wpE C (.call k es) ρ σ Q=vo C es ρ σ λvs σ=>C k vs σ Q:=rfl
def xW {σ:St}{ρ:Fr}{pl dl:Addr}{K:List T3}{ps:List (V×V)}(z:ρ 13=some (.L pl))(B:ρ 14=some (.L dl))(hp:σ.L pl=some (ps.map λp=>V.T [p.1,p.2]))(hd:σ.L dl=some ((codes 0 0 (K++[(xs.length,ys.length,0)])).map oV))(kK:R9.lF xs ys K)(hz:xs.length+ys.length<=62)(H:∀p∈ps,Pr σ xs ys p.1 p.2) :
  gx (jm P 6) (.cons (.each (.T [15,16]) (.seq (.l 13)) (.cons (.C (.c .ne (.meth (.n %[.none,.l 15,.l 16|0]) 7 .nil) (.l 14)) (.cons (.ret (.bool false))
 .nil) .nil)
 .nil))
 (.cons (.ret (.bool true))
 .nil)) ρ σ (sU λv _=>v=.bool true):=by
 apply#[_,z,_,hp,?_];apply sq (λt ρ' σ'=>ρ' 14=some (.L dl)/\Ext σ σ') ?_ ?_ #[B,Ext.refl σ]
 ·intro t v ρ' σ' J I;have#[W,E]:=I;rw[cp]at J;have#[p,ag,rfl]:=omap J;apply#[E.L _ _ hp,λkk ai=>#[_,rfl,rfl,?_]];have#[f,g,he,hf,hg,hu,J]:=H p (dt ag);have W:ji [15,16] [p.1,p.2] ρ' 14=some (.L dl):=W;have O:ji [15,16] [p.1,p.2] ρ' 15=some p.1:=rfl;have U:ji [15,16] [p.1,p.2] ρ' 16=some p.2:=rfl;show gx _ _ (ji [15,16] [p.1,p.2] ρ') σ' _;generalize ji [15,16] [p.1,p.2] ρ'=ar at W O U;have lx:(xs.map f).length=xs.length:=aq _;have ly:(ys.map g).length=ys.length:=aq _;apply SM.QE (P:=P) rfl rfl rfl rfl rfl rfl rfl rfl (.inr #[rfl,rfl]) (aj:=true) (λ_=>by rw[ly];(show az (.l .A (.n 200)) .a (.k .a9 .a8) hz)) (n:=2) (la:=p.1) (lb:=p.2) (as:=xs.map f) (bs:=ys.map g) (λQ q=>#[_,O,_,U,q]) (lz E.L hu) (lz E.L J) (λk hk=>by have#[x,_,rfl]:=ee.mp hk;show hf x) (λk hk=>by have#[x,_,rfl]:=ee.mp hk;show hg x) (fb .c2 .b (.k .Q .a8) .D hz lx) (fb .c2 .b (.k .Q .a8) (.e .A .C) hz ly) λao c L E3 bt _ hc=>?_;have eK:=R9.lV kK (PT he bt);rw[lx,ly,<- eK]at hc;apply#[_,W,NM hc (E3.L _ _ (E.L _ _ hd)) wO (fA (ai _ _ #[W,E.trans E3]))]
 ·intro ρ' σ' I;have#[_,E]:=I;apply#[E.L _ _ hp,rfl]
def DD {K:List T3}(J:R9.lF xs ys K):x9 0 0 (K++[(xs.length,ys.length,0)])/\K.length<=xs.length:=by
 have#[L,W]:=BT.ex (dP (ks xs) (ks ys)) xs.length 0 xs.length 0 ys.length (az .A .a (.e (.a .A .O) .B) (aa (qg (.k .O .A) .i)));have rfl:=R9.lV J W;apply⟨x9.of (ou.mpr ⟨W.ok.2.1,.cons (λu I=>(by cases I)) .nil,λa U b hb=>by
  rw[ah.mp hb];apply#[(W.ok.1 a U).1.2.1,(W.ok.1 a U).1.2.2.2]⟩) λ_ _=>#[bz _,bz _],?_⟩
 have:=gS (lo:=0) W.ok.1 W.ok.2.1 (λ_ _=>bz _) (bz _)
 (show az .A .a (.k (.a .O .A) .B) this)
def OP {σ:St}{ρ:Fr}{KK:Fl->Fr->St->Prop}{ss:pq}{la lb:Addr}(J:ρ 5=some (.L la))(O:ρ 6=some (.L lb))(W:R9.Wd σ la lb xs ys)
  (k:∀dl σ' K,Ext σ σ'->σ'.L dl=some ((codes 0 0 (K++[(xs.length,ys.length,0)])).map oV)->R9.lF xs ys K->gx (jm P 6) ss (upd ρ 14 (.L dl)) σ' KK) :
  gx (jm P 6) (.cons (.a [(.v 14)] (.call 11 %[.call 10 %[.l 5,.l 6|0],.bf .len %[.l 5|0],.bf .len %[.l 6|0]|0])) ss) ρ σ KK:=by
 apply iQ ?_;rw[uQ,tu,uQ];apply#[_,J,_,O,R9.L9 (P:=P) (n:=5) rfl W λc z K U _ hc I=>?_];rw[tu];apply kj _ (xq J (U.L _ _ W.a)) ?_;rw[tu];apply kj _ (xq O (U.L _ _ W.b)) ?_;have#[hm,hl]:=DD I;apply H7 (P:=P) (k:=11) (n:=5) rfl hc (by have:=W.na;(show jc (.l .A (.n 100000)) .b .A (.k .B (.n 63)) hl this)) hm λdl σ2 E2 _ hd=>?_;show k dl σ2 K (U.trans E2) hd I
def wU {f:Int->Int}:wh #[((xs.map f).map Int.toNat).toArray]=(xs.map λx=>Key.str #[#v[(f x).toNat]]).map Key.v:=by
 unfold wh;rw[gq,gq,gq];rfl
def BN {zs:List Int}(h:∀z∈zs,0<=z/\z<256):qU (zo zs)=zs.map V.int:=by
 unfold qU zo;rw[gq];apply List.map_congr_left λz hz=>?_;have#[h0,U]:=h z hz;show V.int ((z.toNat.toUInt8.toNat:Nat):Int)=_;rw[show z.toNat.toUInt8.toNat=z.toNat from Nat.mod_eq_of_lt (by show z.toNat<2^8;(show(Ar.ton _).elim (λW=>(dK (.l .A (.n (2^8))) .b (.il .A (.n 256)) .aP U W.2)) λW=>(fj (.l .A (.n (2^8))) .a .M W.2)))]
 congr 1;(show(Ar.ton _).elim (λW=>(wZ .aP .j .aP W.2)) λW=>(NH .aP [[1,0,1,0],[1,1,0,1]] .a6 .aQ .M h0 W.1 W.2))
abbrev T1:V->Nat
 |.str s=>s.cps.getD 0 0
 |_=>0
def JP {a b:Int}(W:0<=a)(hb:0<=b):Key.str #[#v[a.toNat]]=Key.str #[#v[b.toNat]]↔a=b:=
 ⟨λh=>by
  have h:a.toNat=b.toNat:=cc (λk:Key=>T1 k.v) h;show(Int.toNat_of_nonneg W).symm.trans ((cc Int.ofNat h).trans (Int.toNat_of_nonneg hb)),λh=>h▸rfl⟩
def AJ {n:Nat}(h:n<256):td (.str #[#v[n]]):=by
 show PyData.strOk #[#v[n]]=true;unfold PyData.strOk;simp
 (show fj (.l .A (.n 1114112)) .a .bW h)
abbrev IsV (C:Cal)(ρ:Fr)(σ:St)(e:Ex)(v:V):Prop:=∀Q:V->St->Prop,Q v σ->wpE C e ρ σ Q
section
variable {C:Cal}{ρ:Fr}{σ:St}
def kR {v:V}(h:ρ i=some v):IsV C ρ σ (.l i) v:=λQ q=>#[v,h,q]
def oN {a b:Ex}{u v:V}(W:IsV C ρ σ a u)(hb:IsV C ρ σ b v):IsV C ρ σ (.T %[a,b|0]) (.T [u,v]):=λQ q=>W _ (hb _ #[bh rfl,q])
def yJ {a:Addr}{ns:List Int}(h:ρ i=some (.L a))(W:σ.L a=some (iV ns))(hr:∀z∈ns,0<=z/\z<256):IsV C ρ σ (.bx .bytes (.l i)) (.bys (zo ns)):=λQ q=>#[_,h,_,W,hr,q]
def P0 {x:Str}(h:ρ i=some (.str x))(hz:x.cps.size<=ba):IsV C ρ σ (.bx .tupS (.l i)) (.T (wh x)):=λQ q=>#[_,h,hz,q]
def jF {e:Ex}{es:Exs}{v:V}{K:List V->St->Prop}(h:IsV C ρ σ e v)(k:vo C es ρ σ λvs σ=>K (v::vs) σ):vo C (.cons e es) ρ σ K:=h _ k
end
def D7 {σ:St}{ρ:Fr}{la lb lo lt:Addr}{xs cm:List Int}(r5:ρ 5=some (.L la))(r6:ρ 6=some (.L lb))(r9:ρ 9=some (.L lo))(ay:ρ 10=some (.L lt))(ha:σ.L la=some (iV xs))(hb:σ.L lb=some (iV ys))(ho:σ.L lo=some (iV (xs.map (enc cm 45))))(ht:σ.L lt=some (iV (ys.map (enc cm 43))))(hz:xs.length+ys.length<=62)(hm:∀x,x∈cm↔x∈xs/\x∈ys)(ai:cm.length<=37) :
  gx (jm P 6) (.cons (.a [.T [11,12]] (.T %[.join (.K [] (.seq (.l 9)) (.v 1) .nil (.elt (.bx .chr (.l 1)))),.join (.K [] (.seq (.l 10)) (.v 1) .nil (.elt (.bx .chr (.l 1))))|0]))
 (.cons (.a [(.v 13)] (.L %[.T %[.l 5,.l 6|0],.T %[.l 11,.l 12|0],.T %[.bx .bytes (.l 9),.bx .bytes (.l 10)|0],.T %[.bx .bytes (.l 9),.l 10|0],.T %[.l 11,.bx .tupS (.l 12)|0],.T %[.bx .lstS (.l 11),.l 12|0]|0]))
 (.cons (.a [(.v 14)] (.call 11 %[.call 10 %[.l 5,.l 6|0],.bf .len %[.l 5|0],.bf .len %[.l 6|0]|0]))
 (.cons (.each (.T [15,16]) (.seq (.l 13)) (.cons (.C (.c .ne (.meth (.n %[.none,.l 15,.l 16|0]) 7 .nil) (.l 14)) (.cons (.ret (.bool false))
 .nil) .nil)
 .nil))
 (.cons (.ret (.bool true))
 .nil))))) ρ σ (sU λv _=>v=.bool true):=by
 have rx:∀x,0<=enc cm 45 x/\enc cm 45 x<256:=λx=>HT ai #[by decide,by decide] x;have ry:∀x,0<=enc cm 43 x/\enc cm 43 x<256:=λx=>HT ai #[by decide,by decide] x;have aj:∀z∈xs.map (enc cm 45),0<=z/\z<256:=λz hz=>by have#[x,_,rfl]:=ee.mp hz;show rx x
 have ax:∀z∈ys.map (enc cm 43),0<=z/\z<256:=λz hz=>by have#[x,_,rfl]:=ee.mp hz;show ry x
 rw[lM,A4,tu];apply AV r9 ho (by rw[aq];(show az .b7 .a (.k .L .a8) hz)) aj λbp E1=>?_;rw[tu];apply AV ay (E1.L _ _ ht) (by rw[aq];(show az .b7 .a (.k .a9 .a8) hz)) ax λσ2 E2=>?_;have E:=E1.trans E2;have ha:=E.L _ _ ha;have hb:=E.L _ _ hb;have ho:=E.L _ _ ho;have ht:=E.L _ _ ht;clear E E1 E2;apply#[bh rfl,_,rfl,rfl,?_];have ct:wh #[((xs.map (enc cm 45)).map Int.toNat).toArray]=(xs.map λx=>Key.str #[#v[(enc cm 45 x).toNat]]).map Key.v:=wU;have cs:wh #[((ys.map (enc cm 43)).map Int.toNat).toArray]=(ys.map λx=>Key.str #[#v[(enc cm 43 x).toNat]]).map Key.v:=wU;have zt:(((xs.map (enc cm 45)).map Int.toNat).toArray).size<=ba:=by rw[cw,aq,aq];unfold ba;(show az .a1 .a (.k .L .a8) hz)
 have zs:(((ys.map (enc cm 43)).map Int.toNat).toArray).size<=ba:=by rw[cw,aq,aq];unfold ba;(show az .a1 .a (.k .a9 .a8) hz)
 generalize ((xs.map (enc cm 45)).map Int.toNat).toArray=W at ct zt;generalize ((ys.map (enc cm 43)).map Int.toNat).toArray=sx at cs zs;have q5:ji [11,12] [.str #[W],.str #[sx]] ρ 5=some (.L la):=r5;have q6:ji [11,12] [.str #[W],.str #[sx]] ρ 6=some (.L lb):=r6;have q9:ji [11,12] [.str #[W],.str #[sx]] ρ 9=some (.L lo):=r9;have ao:ji [11,12] [.str #[W],.str #[sx]] ρ 10=some (.L lt):=ay;have ag:ji [11,12] [.str #[W],.str #[sx]] ρ 11=some (.str #[W]):=rfl;have B:ji [11,12] [.str #[W],.str #[sx]] ρ 12=some (.str #[sx]):=rfl;show gx _ _ (ji [11,12] [.str #[W],.str #[sx]] ρ) _ _;generalize ji [11,12] [.str #[W],.str #[sx]] ρ=I at q5 q6 q9 ao ag B;clear r5 r6 r9 ay;have l2:2<=ba:=bh rfl;apply iQ ?_;apply jF (oN (kR q5) (kR q6)) (jF (oN (kR ag) (kR B)) (jF (oN (yJ q9 ho aj) (yJ ao ht ax)) (jF (oN (yJ q9 ho aj) (kR ao)) (jF (oN (kR ag) (P0 B zs)) ?_))));apply#[_,ag,zt,λc1 be=>#[_,B,l2,bh rfl,λc2 bc=>?_]];have E1:Ext σ2 (σ2.eh c1 (wh #[W])):=(Ext.refl σ2).eh be;have U:(σ2.eh c1 (wh #[W])).L c1=some (wh #[W]):=cj _ _ _;have ha:=E1.L _ _ ha;have hb:=E1.L _ _ hb;have ho:=E1.L _ _ ho;have ht:=E1.L _ _ ht;generalize σ2.eh c1 (wh #[W])=J at U ha hb ho ht bc;have E2:=(Ext.refl J).eh (xs:=[V.T [.L la,.L lb],.T [.str #[W],.str #[sx]],.T [.bys (zo (xs.map (enc cm 45))),.bys (zo (ys.map (enc cm 43)))],.T [.bys (zo (xs.map (enc cm 45))),.L lt],.T [.str #[W],.T (wh #[sx])],.T [.L c1,.str #[sx]]]) bc;have e2:=cc (λl=>some l) (show [V.T [.L la,.L lb],.T [.str #[W],.str #[sx]],.T [.bys (zo (xs.map (enc cm 45))),.bys (zo (ys.map (enc cm 43)))],.T [.bys (zo (xs.map (enc cm 45))),.L lt],.T [.str #[W],.T (wh #[sx])],.T [.L c1,.str #[sx]]]=([(V.L la,V.L lb),(.str #[W],.str #[sx]),(.bys (zo (xs.map (enc cm 45))),.bys (zo (ys.map (enc cm 43)))),(.bys (zo (xs.map (enc cm 45))),.L lt),(.str #[W],.T (wh #[sx])),(.L c1,.str #[sx])]:List (V×V)).map λp=>V.T [p.1,p.2] from rfl);have ar:=(cj J.L c2 _).trans e2;have ha:=E2.L _ _ ha;have hb:=E2.L _ _ hb;have ho:=E2.L _ _ ho;have ht:=E2.L _ _ ht;have U:=E2.L _ _ U;have bd:upd I 13 (.L c2) 13=some (.L c2):=rfl;have q5:upd I 13 (.L c2) 5=some (.L la):=q5;have q6:upd I 13 (.L c2) 6=some (.L lb):=q6;show gx _ _ (upd I 13 (.L c2)) (J.eh c2 _) _;generalize upd I 13 (.L c2)=bn at bd q5 q6;clear e2;have ar:(J.eh c2 _).L c2=some _:=ar;generalize J.eh c2 _=O at ha hb ho ht U ar;clear E2 E1 be bc q9 ao ag B;have hI:∀x∈xs,∀y∈ys,Key.int (enc cm 45 x)=Key.int (enc cm 43 y)↔x=y:=λx hx y hy=>#[λh=>(tR hm ai hx hy).mp (Key.int.inj h),λh=>cc Key.int ((tR hm ai hx hy).mpr h)];have hS:∀x∈xs,∀y∈ys,Key.str #[#v[(enc cm 45 x).toNat]]=Key.str #[#v[(enc cm 43 y).toNat]]↔x=y:=λx hx y hy=>(JP (rx x).1 (ry y).1).trans (tR hm ai hx hy);have kx:∀x,td (.str #[#v[(enc cm 45 x).toNat]]):=λx=>AJ (by have:=rx x;(show(Ar.ton _).elim (λq1=>(dK .bW .b (.il .A (.n 256)) .aP this.2 q1.2)) λq1=>(fj .bW .a .M q1.2)));have ky:∀x,td (.str #[#v[(enc cm 43 x).toNat]]):=λx=>AJ (by have:=ry x;(show(Ar.ton _).elim (λq1=>(dK .bW .b (.il .A (.n 256)) .aP this.2 q1.2)) λq1=>(fj .bW .a .M q1.2)));have bI:∀{zs:List Int} {f:Int->Int},zs.map (λx=>Key.int (f x))=(zs.map f).map Key.int:=λ{zs f}=>(gq ..).symm;have bx:ub O (.bys (zo (xs.map (enc cm 45))))=some ((xs.map λx=>Key.int (enc cm 45 x)).map Key.v):=by rw[bI,H8];show cc some (BN aj)
 have bY:ub O (.bys (zo (ys.map (enc cm 43))))=some ((ys.map λx=>Key.int (enc cm 43 x)).map Key.v):=by rw[bI,H8];show cc some (BN ax)
 have bt:ub O (.L lt)=some ((ys.map λx=>Key.int (enc cm 43 x)).map Key.v):=by rw[bI,H8];show ht
 have st:ub O (.str #[W])=some _:=cc some ct;have ss:ub O (.str #[sx])=some _:=cc some cs;apply OP q5 q6 #[ha,hb,by show az .aJ .a (.k .L .a8) hz,by show az .aJ .a (.k .a9 .a8) hz] λdl bl K E5 hd kK=>?_;apply xW (ρ:=upd bn 14 (.L dl)) bd rfl (E5.L _ _ ar) hd kK hz λp hp=>?_;have up:∀{u v:V},Pr O xs ys u v->Pr bl xs ys u v:=λ{u v} h=>by
  have#[f,g,h1,h2,h3,h4,h5]:=h;apply#[f,g,h1,h2,h3,lz E5.L h4,lz E5.L h5]
 apply up ?_;rcases bw.mp hp with rfl|hp
 ·apply#[Key.int,Key.int,λx _ y _=>#[Key.int.inj,cc _],λ_=>trivial,λ_=>trivial,by rw[H8];show ha,by rw[H8];show hb]
 rcases bw.mp hp with rfl|hp
 ·apply#[_,_,hS,kx,ky,st,ss]
 rcases bw.mp hp with rfl|hp
 ·apply#[_,_,hI,λ_=>trivial,λ_=>trivial,bx,bY]
 rcases bw.mp hp with rfl|hp
 ·apply#[_,_,hI,λ_=>trivial,λ_=>trivial,bx,bt]
 rcases bw.mp hp with rfl|hp
 ·apply#[_,_,hS,kx,ky,st,ss]
 have rfl:=ah.mp hp;apply#[_,_,hS,kx,ky,U.trans (cc some ct),ss]
end R12
namespace R12
open PySem SM
abbrev gOf (way x:Int):Int:=if 0<way%4 then x%(way%4+2) else x
def D8 {σ:St}{c:Addr}{ms:List Int}{J:Int}{ρ:Fr}(r1:ρ 1=some (.int J))(r2:ρ 2=some (.L c))(hm:ms.length<=62)(hc:σ.L c=some (iV ms)){ss:pq}{KK:Fl->Fr->St->Prop}
  (k:∀ρ' σ' la lb xs ys,ρ' 5=some (.L la)->ρ' 6=some (.L lb)->σ'.L la=some (iV xs)->σ'.L lb=some (iV ys)->xs.length+ys.length<=62->gx (jm P 6) ss ρ' σ' KK) :
  gx (jm P 6) (.cons (.a [(.v 3)] (.K [(2,1)] (.seq (.l 2)) (.v 1) .nil (.elt (.I (.c .gt (.b .mod (.l 2) (.int 4)) (.int 0)) (.b .mod (.l 1) (.b .add (.b .mod (.l 2) (.int 4)) (.int 2))) (.l 1)))))
 (.cons (.a [(.v 4)] (.b .mod (.b .add (.b .fdiv (.l 1) (.int 4)) (.b .fdiv (.bf .len %[.l 3|0]) (.int 2))) (.b .add (.bf .len %[.l 3|0]) (.int 1))))
 (.cons (.a [(.T [5,6])] (.T %[.slc (.l 3) .none (.l 4),.slc (.l 3) (.l 4) .none|0])) ss))) ρ σ KK:=by
 apply Q3 (Fv.K (u:=V.int) (λx=>[V.int (gOf J x)]) (λρ'=>ρ' 2=some (.int J)) (Gv.l r2 hc) r1 (by unfold ba;(show fj .a1 .a .b7 hm)) λσ' E x hx ρ' q2 K' bd=>bd _ q2 (Gives.one ?_)) λlw ai E2 _ z=>?_
 ·have bc:evT σ' (upd ρ' 1 (.int x)) (.c .gt (.b .mod (.l 2) (.int 4)) (.int 0))=some (decide (0<J%4)):=by
   have:upd ρ' 1 (.int x) 2=some (.int J):=q2;simp[qd,this]
  show(evT σ' (upd ρ' 1 (.int x)) _).bind (λt=>if t then _ else _)=_;rw[bc];unfold gOf;by_cases c:0<J%4
  ·rw[fc c,cf c];show evV σ' (upd ρ' 1 (.int x)) (.b .mod (.l 1) (.b .add (.b .mod (.l 2) (.int 4)) (.int 2)))=_;have h2:upd ρ' 1 (.int x) 2=some (.int J):=q2;have h1:upd ρ' 1 (.int x) 1=some (.int x):=rfl;simp[qd,h1,h2]
   (show pz (.il .O (.a .A .W)) .a .bJ c)
  ·rw[dg c,aw c];rfl
 rw[fQ]at z;have z:ai.L lw=some (iV (ms.map (gOf J))):=by rw[z];show cc some (gq ..).symm
 have ag:(ms.map (gOf J)).length<=62:=by rw[aq];show hm
 generalize ms.map (gOf J)=ws at z ag;have I:upd ρ 3 (.L lw) 1=some (.int J):=r1;have q3:upd ρ 3 (.L lw) 3=some (.L lw):=rfl;generalize upd ρ 3 (.L lw)=aj at I q3;clear r1 r2 E2;have#[c,hc,ec]:∃c:Nat,c<=ws.length/\(J/4+(ws.length:Int)/2)%((ws.length:Int)+1)=c:=by
  have h1:=Int.emod_nonneg (J/4+(ws.length:Int)/2) (show((ws.length:Int)+1)≠0 by show qg (.iu (.a .L .U) .O) .i);have h2:=Int.emod_lt_of_pos (J/4+(ws.length:Int)/2) (show(0:Int)<(ws.length:Int)+1 by show qg (.il .O (.a .L .U)) .i);apply#[((J/4+(ws.length:Int)/2)%((ws.length:Int)+1)).toNat,by show(Ar.ton _).elim (λI=>(jQ .A .b (.il .A (.a .P .U)) .aP h2 I.2)) λI=>(az .A .a .M I.2),by show(Ar.ton _).elim (λI=>(wZ (.ie .A .L) .g .aP I.2)) λI=>(NH (.ie .A .L) .h .a6 .aQ .M h1 I.1 I.2)]
 apply lZ (.int c) ?_ ?_
 ·have el:=xq (σ:=ai) q3 z;rw[xr,xr,xr,xr,xr,el,uz,I];show((qd ((0:Int)<4/\(4:Int).natAbs<2^60) (V.int (J/4))).bind λva=>(qd ((0:Int)<2/\(2:Int).natAbs<2^60) (V.int ((ws.length:Int)/2))).bind λvb=>fT .add va vb).bind (λva=>fT .mod va (.int ((ws.length:Int)+1)))=_;unfold qd;rw[cf (by decide),cf (by decide)];show qd ((0:Int)<(ws.length:Int)+1) (V.int ((J/4+(ws.length:Int)/2)%((ws.length:Int)+1)))=_;unfold qd;rw[cf (qg (.il .O (.a .L .U)) .i),ec]
 have q3:upd aj 4 (.int c) 3=some (.L lw):=q3;have q4:upd aj 4 (.int c) 4=some (.int c):=rfl;generalize upd aj 4 (.int c)=be at q3 q4;rw[lM,A4,tu];have s1:=Gv.slc (C:=jm P 6) (lo:=.none) (hi:=.l 4) (i:=0) (j:=c) (Gv.l q3 z) (λ_ _=>#[_,rfl,rfl]) (λ_ _=>#[_,q4,rfl]) (by decide) ((Ar.nab _).elim (λI=>(sd .R .e (.k .B .a8) .H (.ie .L .S) ag hc I.2)) λI=>(az .R .a .bV I.2));rw[aq,zF,gQ hc,zv,<- List.map_take]at s1;apply s1 ai _ (Ext.refl ai) λla ao E5 _ ay=>?_;rw[tu];have s2:=Gv.slc (C:=jm P 6) (lo:=.l 4) (hi:=.none) (i:=c) (j:=ws.length) (Gv.l q3 (E5.L _ _ z)) (λ_ _=>#[_,q4,rfl]) (λ_ _=>#[_,rfl,cc (λm:Nat=>some (m:Int)) (aq _)]) ((Ar.nab _).elim (λI=>(sd .R .e (.k .B .a8) .H (.ie .L .S) ag hc I.2)) λI=>(az .R .a .bV I.2)) ((Ar.nab _).elim (λI=>(jc .R .b (.k .B .a8) (.ie .L .P) ag I.2)) λI=>(az .R .a .bV I.2));rw[aq,gQ hc,gQ (av _),<- List.map_take,gv,<- List.map_drop]at s2;apply s2 ao _ (Ext.refl ao) λlb ar E6 _ ax=>?_;apply#[bh rfl,_,rfl,rfl,?_];show k _ ar la lb (ws.take c) (ws.drop c) rfl rfl (E6.L _ _ ay) ax (by rw[et,gf];(show qt (.k .L .a8) .e (.k .C .a8) .a9 (.e .aF .C) ag (Ar.jt _ _).1 (aa (az .A .a .A hc))))
abbrev tl:pq->pq
 |.cons _ r=>r
 |.nil=>.nil
def R4 (ns:List Int)(ar:ns.length<=63)(σ:St):jm P 7 12 [.ro ns] σ λv σ=>v=.bool true:=by
 apply#[yT,rfl,av 1,av 1,?_];have h0:frameOf yT [.ro ns] 0=some (.ro ns):=rfl;generalize frameOf yT [.ro ns]=ρ at h0;have hz:ns.length<=ba:=by unfold ba;(show fj .a1 .a .aJ ar)
 have rest:∀(ρ:Fr) (σ:St) (c:Addr) (W:Int) (ms:List Int),ρ 1=some (.int W)->ρ 2=some (.L c)->σ.L c=some (iV ms)->ms.length<=62->gx (jm P 6) (tl (tl yT.body)) ρ σ (sU λv _=>v=.bool true):=λρ σ c W ms r1 r2 hc hm=>by
  apply D8 r1 r2 hm hc λρ σ la lb xs ys r5 r6 ha hb hz=>?_;apply CZ r5 r6 ha hb hz λlm σ2 cm E2 _ O be ao=>?_;have q5:upd ρ 7 (.L lm) 5=some (.L la):=r5;have q6:upd ρ 7 (.L lm) 6=some (.L lb):=r6;have q7:upd ρ 7 (.L lm) 7=some (.L lm):=rfl;generalize upd ρ 7 (.L lm)=ag at q5 q6 q7;apply GV λlc aj E3 _ ai=>?_;have q5:upd ag 8 (.L lc) 5=some (.L la):=q5;have q6:upd ag 8 (.L lc) 6=some (.L lb):=q6;have q7:upd ag 8 (.L lc) 7=some (.L lm):=q7;have q8:upd ag 8 (.L lc) 8=some (.L lc):=rfl;generalize upd ag 8 (.L lc)=z at q5 q6 q7 q8;have E:=E2.trans E3;have ha:=E.L _ _ ha;have hb:=E.L _ _ hb;have O:=E3.L _ _ O;apply GU (d:=45) q5 q8 q7 ha ai O (az .b7 .a (.k .L .a8) hz) ao λlo bd=>?_;have E4:=(Ext.refl aj).eh (xs:=iV (xs.map (enc cm 45))) bd;have ho:(aj.eh lo (iV (xs.map (enc cm 45)))).L lo=some (iV (xs.map (enc cm 45))):=cj _ _ _;have q5:upd z 9 (.L lo) 5=some (.L la):=q5;have q6:upd z 9 (.L lo) 6=some (.L lb):=q6;have q7:upd z 9 (.L lo) 7=some (.L lm):=q7;have q8:upd z 9 (.L lo) 8=some (.L lc):=q8;have q9:upd z 9 (.L lo) 9=some (.L lo):=rfl;generalize upd z 9 (.L lo)=ay at q5 q6 q7 q8 q9;have ha:=E4.L _ _ ha;have hb:=E4.L _ _ hb;have O:=E4.L _ _ O;have ai:=E4.L _ _ ai;generalize aj.eh lo (iV (xs.map (enc cm 45)))=ax at ha hb O ai ho;apply GU (d:=43) q6 q8 q7 hb ai O (az .b7 .a (.k .a9 .a8) hz) ao λlt bc=>?_;have E5:=(Ext.refl ax).eh (xs:=iV (ys.map (enc cm 43))) bc;show D7 (ρ:=upd ay 10 (.L lt)) q5 q6 q9 rfl (E5.L _ _ ha) (E5.L _ _ hb) (E5.L _ _ ho) (cj _ _ _) hz be ao
 have J:∀(ρ:Fr) (W:Int),ρ 0=some (.ro ns)->ρ 1=some (.int W)->gx (jm P 6) (tl yT.body) ρ σ (sU λv _=>v=.bool true):=λρ W r0 r1=>by
  apply iQ ?_;apply#[_,r0,hz,?_];show if decide ((1:Int)<ns.length)=true then wpE (jm P 6) (.slc (.l 0) (.int 1) (.int 63)) ρ σ _ else wpE (jm P 6) (.L _) ρ σ _
  by_cases hl:(1:Int)<ns.length
  ·rw[fc hl];apply gW #[_,r0,1,63,hz,rfl,rfl,by decide,by decide,λc hc=>?_];apply rest _ _ c W ((ns.take (kg ns.length 63)).drop (kg ns.length 1)) r1 rfl (cj _ _ _) ?_;rw[show kg ns.length 1=1 from gQ (i:=1) (fj .I .a (.il .U .L) hl),gf,et]
   (show Ar.sub _ _ (λq1 p1=>(sd .b7 .e (.k .B (.n 63)) .H .Z ar (Ar.jt _ _).2.1 p1)) λq1 p1=>(fj .b7 .a .M p1))
  ·rw[dg hl];apply fA #[bh rfl,λc hc=>?_];show rest _ _ c W [1,0,1] r1 rfl (cj _ _ _) (bh rfl)
 show gx (jm P 6) (.cons (.a [(.v 1)] (.I (.l 0) (.sub (.l 0) (.int 0)) (.int 0))) (tl yT.body)) ρ σ _;apply iQ ?_;apply#[_,h0,hz,?_];cases ns with
 |nil=>show fA (J _ 0 h0 rfl)
 |cons W r=>show gW #[_,h0,W,hz,by rw[show jj (W::r).length 0=0 from rfl];show Int.le_refl 0,rfl,J _ W h0 rfl]
end R12
end MP
end
section
open PySem PySem.W PyProof.Rows
namespace Mine
def RB:mP.Holds:=RN λns h=>MP.R12.R4 ns h st0
end Mine
end
end Mine.Internal
theorem PySem.Challenge.cw_dm0056_12_holds : PySem.Challenge.rw_dm0056_12.Holds :=
 Mine.Internal.Mine.RB
