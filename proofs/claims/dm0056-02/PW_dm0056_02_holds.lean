import PyProof.Rows.All
import Wide.All
import OpenK.AllK
import Wide.FinOn
import Open.Tops
import PyProof.DictItems
import KE.KDictList
import KE.KLam
import PyProof.Rows.MinMaxN
import PyProof.Rows.SortWalk
import PyProof.RulesDelMore
import OpenK.KWalk
import PySem.Challenge.RW_dm0056_02
set_option Elab.async false
set_option tactic.hygienic false
set_option maxRecDepth 100000
local macro_rules
 | `(tactic| show $t)=>`(tactic| refine(?_:$t))
local macro_rules
 | `(tactic| rw [$t:term])=>`(tactic| ((first | refine $(Lean.mkIdent `Ar.rwm) ($t ..) ?_ | rewrite [$t:term]);try (with_reducible rfl)))
 | `(tactic| rw [← $t:term])=>`(tactic| ((first | refine $(Lean.mkIdent `Ar.rwn) ($t ..) ?_ | rewrite [← $t:term]);try (with_reducible rfl)))
 | `(tactic| rw [$t:term,$rs:rwRule,*])=>`(tactic| ((first | refine $(Lean.mkIdent `Ar.rwm) ($t ..) ?_ | rewrite [$t:term]);rw [$rs,*]))
 | `(tactic| rw [← $t:term,$rs:rwRule,*])=>`(tactic| ((first | refine $(Lean.mkIdent `Ar.rwn) ($t ..) ?_ | rewrite [← $t:term]);rw [$rs,*]))
open Lean in
local macro_rules
 | `(tactic| obtain⟨$ps,*⟩:=$t)=>do
  let ps:=ps.getElems.map (·.raw)
  let n:=ps.size
  let mut xs:Array Ident:=#[]
  let mut aft:Array (Array (TSyntax `tactic)):=#[]
  for i in [0:n] do
   let p:=ps[i]!
   if p[1].getNumArgs=0&&p[0][0].getNumArgs=1&&p[0][0][0].isOfKind ``Lean.Parser.Tactic.rcasesPat.one&&!p[0][0][0][0].getId==`rfl then
    xs:=xs.push ⟨p[0][0][0][0]⟩;aft:=aft.push #[]
   else
    let q:=mkIdent (← Macro.addMacroScope (.mkSimple s!"x{i}"))
    xs:=xs.push q
    aft:=aft.push #[← `(tactic| obtain $(⟨p[0]⟩):rcasesPatMed:=$q)]
  let cl:TSyntax `tactic←if t.raw.isIdent then `(tactic| try clear $t) else `(tactic| skip)
  let mut alts:Array (TSyntax ``Lean.Parser.Tactic.tacticSeq):=#[]
  for k in [0:min n 9-1] do
   let m:=min n 9-k
   let q:=mkIdent (← Macro.addMacroScope `y)
   let ys:=if m=n then xs else (xs.extract 0 (m-1)).push q
   let fs←(Array.range m).mapM fun j=>`(tacticSeq| refine $(mkIdent (.str `Ar s!"e{m}_{m - 1 - j}")) $t ?_)
   let rest:Array (TSyntax ``Lean.Parser.Tactic.rcasesPatLo):=(ps.extract (m-1) n).map (⟨·⟩)
   let mut a:Array (TSyntax `tactic):=#[]
   for i in [0:m] do a:=(a.push (← `(tactic| intro $(ys[i]!):ident)))++(if m=n||i<m-1 then aft[i]! else #[])
   let b←if m=n then pure a else pure (a.push (← `(tactic| obtain⟨$rest,*⟩:=$q)))
   alts:=alts.push (← `(tacticSeq| first $[| $fs]*;$cl;$[$b];*))
  if n<2 then Macro.throwUnsupported
  `(tactic| first $[| $alts]* | fail)
open Lean in
local macro_rules
 | `(tactic| rintro $ps*)=>do
  let mut a:Array (TSyntax `tactic):=#[]
  let mut any:=false
  for p in ps do
   if p.raw.isOfKind ``Lean.Parser.Tactic.rintroPat.one&&p.raw[0].isOfKind ``Lean.Parser.Tactic.rcasesPat.tuple then
    let q:=mkIdent (← Macro.addMacroScope `z)
    any:=true
    a:=a.push (← `(tactic| (intro $q:ident;obtain $(⟨p.raw[0]⟩):rcasesPat:=$q)))
   else a:=a.push (← `(tactic| rintro $p))
  if !any then Macro.throwUnsupported
  `(tactic| ($[$a];*))
open Lean in
local macro_rules
 | `(tactic| refine⟨$ts,*⟩)=>do
  let ts:=ts.getElems
  let n:=ts.size
  if n<2 then Macro.throwUnsupported
  let mut alts:Array (TSyntax ``Lean.Parser.Tactic.tacticSeq):=#[]
  for k in [0:min n 9-1] do
   let m:=min n 9-k
   let r:=ts.extract (m-1) n
   let us←if m=n then pure ts else pure ((ts.extract 0 (m-1)).push (← `(⟨$r,*⟩)))
   for j in [0:m-1] do
    alts:=alts.push (← `(tacticSeq| refine $(mkIdent (.str `Ar s!"i{m}_{m - 1 - j}")) $us*))
  `(tactic| (refine(?_:Exists _);first $[| $alts]* | fail))
local macro_rules
 | `(tactic| exact⟨$ts,*⟩)=>`(tactic| (refine⟨$ts,*⟩;done))
namespace Mine.Z
def aa:=@Nat.sub_add_cancel
def ab:=@PySem.wpAny_bind
def ae:=@Option.some.inj
def af:=@PySem.wpAny_pure
def ah:=@of_decide_eq_true
def aj:=@List.mem_singleton
def ak:=@PySem.Heap.get?_push_of_some
def au:=@List.length_map
def av:=@PySem.wpAny_mono
def aw:=@if_neg
def ax:=@Option.isSome_iff_exists
def ay:=@Nat.le_refl
def az:=@List.getElem?_map
def bc:=@List.getElem?_eq_getElem
def bp:=@Nat.lt_or_gt_of_ne
def bq:=@PySem.Heap.get?_push_size
def br:=@PySem.wpAny_holding
def bu:=@congrArg
def bw:=@List.mem_map
def bx:=@if_pos
def bz:=@List.length_append
def cf:=@Nat.zero_le
def cg:=@Bool.and_eq_true
def cj:=@List.getElem?_eq_some_iff
def cm:=@decide_eq_true
def cn:=@decide_eq_false
def cq:=@List.mem_of_getElem?
def cu:=@List.mem_cons
def cv:=@List.size_toArray
def cw:=@Option.bind_eq_some_iff
def cx:=@Nat.lt_of_lt_of_le
def cy:=@Bool.false_eq_true
def dg:=@PySem.builtinLookup_eq_fast
def dj:=@PySem.wpAny_of_eq
def dk:=@Nat.le_of_ble_eq_true
def dn:=@Option.some.injEq
def dp:=@Bool.not_eq_true'
def dt:=@List.length_take
def du:=@PySem.Heap.lt_size
def ef:=@Array.length_toList
def eh:=@Option.map_eq_some_iff
def ek:=@List.mem_append_left
def er:=@PySem.wpAny_standAt
def eu:=@List.filterMap_cons
def ew:=@congrFun
def ey:=@Array.getElem?_eq_getElem
def fc:=@List.append_nil
def fj:=@Nat.ne_of_lt
def fk:=@Int.toNat_natCast
def fm:=@PySem.typeLookup_type
def fu:=@Nat.not_lt_zero
def fw:=@decide_eq_true_eq
def gc:=@PySem.wpAny_call_entry
def gf:=@List.mem_iff_getElem
def gh:=@Classical.byContradiction
def gj:=@Nat.le_trans
def gm:=@List.mem_append
def gp:=@List.map_cons
def gq:=@List.length_drop
def gx:=@PySem.wpAny_newObj_type
def gz:=@List.length_cons
def ir:=@List.length_reverse
def iy:=@List.all_eq_true
def iz:=@PySem.Heap.size_push
def jc:=@Nat.lt_irrefl
def je:=@if_false
def jg:=@List.getElem?_eq_none_iff
def jh:=@List.mem_append_right
def ji:=@PySem.Heap.SameBut.update
def jj:=@Int.lt_or_gt_of_ne
def jl:=@Bool.false_ne_true
def jq:=@Nat.zero_add
def jr:=@Nat.mul_assoc
def jv:=@List.length_range
def jw:=@beq_iff_eq
def jx:=@Nat.not_lt
def jy:=@List.map_append
def kj:=@Nat.le_of_not_lt
def kl:=@List.lookup_cons
def km:=@List.getElem_mem
def kp:=@Nat.lt_or_eq_of_le
def kq:=@Int.emod_lt_of_pos
def kr:=@Array.getElem?_eq_some_iff
def ku:=@List.length_filter_le
def kx:=@List.getElem?_eq_none
def kz:=@PySem.Heap.get?_update_other
def lr:=@beq_false_of_ne
def lz:=@Bool.or_eq_true
def me:=@PySem.isSubtype_type
def mf:=@PySem.F.slot_tuple_iterator_next
def mh:=@Nat.pow_succ
def mn:=@List.take_succ_eq_append_getElem
def mq:=@Classical.not_and_iff_not_or_not
def nq:=@List.mem_range
def nr:=@List.lookup_eq_none_iff
def nt:=@List.forIn_nil
def oe:=@PySem.wpAny_call
def og:=@Prod.mk.inj
def oq:=@PySem.wpAny_callSpecial?_slot
def ou:=@Int.emod_nonneg
def pd:=@Prod.mk.injEq
def pn:=@List.getElem_take
def pv:=@PySem.Obj.data_mapFields
def qe:=@PySem.codeAny_builtin
def qf:=@List.getD_eq_getElem?_getD
def qg:=@PySem.Heap.Ns.of_isNs
def qh:=@Bool.and_eq_true_iff
def qj:=@beq_self_eq_true
def qk:=@Nat.lt_succ_self
def qm:=@Int.zero_add
def qo:=@PySem.Heap.get?_update_self
def qp:=@Option.isNone_iff_eq_none
def qq:=@List.pairwise_iff_getElem
def qy:=@beq_eq_false_iff_ne
def rk:=@PySem.wpAny_seqItems
def rn:=@PySem.Around.under_plainId
def rp:=@if_true
def rq:=@List.forIn_cons
def sd:=@Option.isSome_none
def tm:=@Nat.lt_of_succ_lt_succ
def tn:=@List.reverse_cons
def tq:=@PySem.codeAny_of_tree
def ue:=@List.length_singleton
def uj:=@Nat.sub_le
def uk:=@List.take_length
def um:=@Bool.not_true
def vg:=@PySem.wpAny_tryCatch
def vi:=@PySem.wpAny_truthy_bool
def wo:=@List.nil_append
def xj:=@PySem.wpAny_rule
def xk:=@PySem.wpAny_load
def xl:=@PySem.wpAny_askSetting
def xm:=@Ne.symm
def xn:=@Nat.succ_pos
def xp:=@Nat.le_of_lt
def xq:=@List.map_map
def xr:=@Int.le_total
def xt:=@Array.getD_eq_getD_getElem?
def yo:=@le_of_le_of_eq
def yp:=@PySem.codeAny_call_builtin
def yq:=@Option.none_or
def yr:=@Nat.mod_lt
def yt:=@List.getElem?_take
def yu:=@Int.fmod_eq_emod_of_nonneg
def yv:=@Int.fdiv_eq_ediv_of_nonneg
def yw:=@PySem.Heap.get?_none_of_le
def zv:=@List.getElem?_append_left
def zw:=@List.drop_eq_getElem_cons
def c9:=@Nat.pow_add
def cU:=@PySem.F.slot_list_append
def cV:=@List.map_take
def cW:=@Bool.true_and
def cX:=@Bool.or_false
def eI:=@PySem.wpAny_setField
def eJ:=@PySem.evalPart_none_step
def eK:=@PySem.F.plainAttrs_dict
def eL:=@Nat.succ_ne_zero
def eM:=@Nat.le_add_right
def eN:=@List.isEmpty_iff
def eO:=@List.filter_cons
def eP:=@PySem.Code.quiet_builtin
def fP:=@not_or
def fQ:=@Array.getElem?_eq_none
def gD:=@PySem.wpAny_setState_of
def gE:=@PySem.wpAny_pyIter_slot
def gF:=@PySem.wpAny_loadPart_at
def gG:=@PySem.slot_list_getitem
def gH:=@PySem.getMethod_builtin
def gI:=@List.mem_filter
def gS:=@PySem.plainId_quiet
def gT:=@Nat.sub_eq_zero_of_le
def gU:=@List.length_replicate
def jX:=@PySem.wpAny_execs_cons
def lP:=@List.ne_and_not_mem_of_not_mem_cons
def nR:=@PySem.F.args_tuple_iterator_next_1
def nS:=@PySem.Obj.isFreed_of_fields
def nT:=@PySem.F.entry_tuple_iterator_next
def pU:=@Bool.eq_false_iff
end Mine.Z
open Mine.Z
section
namespace Ar
set_option genSizeOf false
set_option genInjectivity false
inductive N where
 | v (i:Nat)
 | n (k:Nat)
 | a (x y:N)
 | m (k:Nat) (x:N)
 | r (x:N) (k:Nat)
inductive E where
 | v (i:Nat)
 | n (k:Int)
 | a (x y:E)
 | s (x y:E)
 | m (k:Int) (x:E)
 | r (x:E) (k:Int)
 | g (x:E)
 | t (x:N)
inductive R where
 | lt | le | eq | ge | gt | ne
inductive P where
 | i (r:R) (x y:E)
 | n (r:R) (x y:N)
 | ff
structure Q where
 r:R
 x:E
 y:E
noncomputable abbrev hd (d:α):List α→α
 | []=>d
 | x::_=>x
noncomputable abbrev tl:List α→List α
 | []=>[]
 | _::l=>l
noncomputable abbrev nth (d:α):Nat→List α→α
 | 0=>hd d
 | i+1=>fun l=>nth d i (tl l)
noncomputable abbrev N.d (k:List Nat):N→Nat
 | .v i=>nth 0 i k
 | .n c=>c
 | .a x y=>x.d k+y.d k
 | .m c x=>c*x.d k
 | .r x c=>x.d k*c
noncomputable abbrev E.d (c:List Int) (k:List Nat):E→Int
 | .v i=>nth 0 i c
 | .n j=>j
 | .a x y=>x.d c k+y.d c k
 | .s x y=>x.d c k-y.d c k
 | .m i x=>i*x.d c k
 | .r x i=>x.d c k*i
 | .g x=>- x.d c k
 | .t x=>(x.d k:Int)
noncomputable abbrev R.i (a b:Int):R→Prop
 | .lt=>a<b
 | .le=>a≤b
 | .eq=>a=b
 | .ge=>¬ a<b
 | .gt=>¬ a≤b
 | .ne=>¬ a=b
noncomputable abbrev R.n (a b:Nat):R→Prop
 | .lt=>a<b
 | .le=>a≤b
 | .eq=>a=b
 | .ge=>¬ a<b
 | .gt=>¬ a≤b
 | .ne=>¬ a=b
noncomputable abbrev P.h (c:List Int) (k:List Nat):P→Prop
 | .i r x y=>r.i (x.d c k) (y.d c k)
 | .n r x y=>r.n (x.d k) (y.d k)
 | .ff=>False
theorem R.n_i {a b:Nat}:(r:R)→r.n a b→r.i (a:Int) (b:Int)
 | .lt=>Int.ofNat_lt.mpr
 | .le=>Int.ofNat_le.mpr
 | .eq=>fun h=>bu _ h
 | .ge=>fun h e=>h (Int.ofNat_lt.mp e)
 | .gt=>fun h e=>h (Int.ofNat_le.mp e)
 | .ne=>fun h e=>h (Int.ofNat.inj e)
theorem R.i_n {a b:Nat}:(r:R)→r.i (a:Int) (b:Int)→r.n a b
 | .lt=>Int.ofNat_lt.mp
 | .le=>Int.ofNat_le.mp
 | .eq=>fun h=>Int.ofNat.inj h
 | .ge=>fun h e=>h (Int.ofNat_lt.mpr e)
 | .gt=>fun h e=>h (Int.ofNat_le.mpr e)
 | .ne=>fun h e=>h (bu _ e)
theorem ad {a b c d:Int} (h:a=c) (e:b=d):a+b=c+d:=h▸e▸rfl
theorem sb {a b c d:Int} (h:a=c) (e:b=d):a-b=c-d:=h▸e▸rfl
theorem aac (a b c d:Int):a+b+(c+d)=a+c+(b+d):=by omega
theorem KG {a b:Int} (h:a<0) (e:b≤0):a+b<0:=Int.add_neg_of_neg_of_nonpos h e
theorem ltd {a b:Int} (h:a<b):0≤b-a+-1:=by omega
noncomputable def S:List Int→(Nat→Int)→Int
 | []=>fun _=>0
 | y::l=>fun f=>f 0*y+S l fun j=>f (j+1)
noncomputable def dl (i j:Nat):Int:=bif Nat.beq i j then 1 else 0
theorem AX:(l:List Int)→(f g:Nat→Int)→S l (fun j=>f j+g j)=S l f+S l g
 | [],_,_=>rfl
 | y::l,f,g=>(ad (Int.add_mul (f 0) (g 0) y) (AX l (fun j=>f (j+1)) fun j=>g (j+1))).trans (aac _ _ _ _)
theorem AW (i:Int):(l:List Int)→(f:Nat→Int)→S l (fun j=>i*f j)=i*S l f
 | [],_=>(Int.mul_zero i).symm
 | y::l,f=>(ad (Int.mul_assoc i (f 0) y) (AW i l fun j=>f (j+1))).trans (Int.mul_add ..).symm
theorem fL:(l:List Int)→S l (fun _=>0)=0
 | []=>rfl
 | y::l=>(ad (Int.zero_mul y) (fL l)).trans (qm 0)
theorem u6:(i:Nat)→(l:List Int)→S l (dl i)=nth 0 i l
 | 0,[]=>rfl
 | 0,y::l=>(ad (Int.one_mul y) (fL l)).trans (Int.add_zero y)
 | i+1,[]=>u6 i []
 | i+1,y::l=>(ad (Int.zero_mul y) (u6 i l)).trans (qm _)
noncomputable def up:List Nat→List Int
 | []=>[]
 | x::l=>(x:Int)::up l
theorem qN:(i:Nat)→(l:List Nat)→nth 0 i (up l)=(nth 0 i l:Nat)
 | 0,[]=>rfl
 | 0,_::_=>rfl
 | i+1,[]=>qN i []
 | i+1,_::l=>qN i l
structure L where
 k:Int
 c:Nat→Int
 n:Nat→Int
noncomputable def L.d (c k:List Int) (l:L):Int:=l.k+(S c l.c+S k l.n)
noncomputable def L.add (l m:L):L:=⟨l.k+m.k,fun j=>l.c j+m.c j,fun j=>l.n j+m.n j⟩
noncomputable def L.scl (i:Int) (l:L):L:=⟨i*l.k,fun j=>i*l.c j,fun j=>i*l.n j⟩
noncomputable def L.num (i:Int):L:=⟨i,fun _=>0,fun _=>0⟩
theorem L.pF {c k:List Int} (l m:L):(l.add m).d c k=l.d c k+m.d c k :=
 (bu (l.k+m.k+·) ((ad (AX ..) (AX ..)).trans (aac _ _ _ _))).trans (aac _ _ _ _)
theorem L.jG {c k:List Int} (i:Int) (l:L):(l.scl i).d c k=i*l.d c k :=
 (bu (i*l.k+·) ((ad (AW ..) (AW ..)).trans (Int.mul_add ..).symm)).trans (Int.mul_add ..).symm
theorem L.pE {c k:List Int} (i:Int):(L.num i).d c k=i :=
 (bu (i+·) ((ad (fL c) (fL k)).trans (qm 0))).trans (Int.add_zero i)
noncomputable def N.l:N→L
 | .v i=>⟨0,fun _=>0,dl i⟩
 | .n c=>.num c
 | .a x y=>x.l.add y.l
 | .m c x=>x.l.scl c
 | .r x c=>x.l.scl c
noncomputable def E.l:E→L
 | .v i=>⟨0,dl i,fun _=>0⟩
 | .n j=>.num j
 | .a x y=>x.l.add y.l
 | .s x y=>x.l.add (y.l.scl (-1))
 | .m i x=>x.l.scl i
 | .r x i=>x.l.scl i
 | .g x=>x.l.scl (-1)
 | .t x=>x.l
theorem N.l_d {c:List Int} {k:List Nat}:(x:N)→x.l.d c (up k)=(x.d k:Nat)
 | .v i=>(qm _).trans ((ad (fL c) ((u6 i (up k)).trans (qN i k))).trans (qm _))
 | .n i=>L.pE (i:Int)
 | .a x y=>(L.pF x.l y.l).trans ((ad (N.l_d x) (N.l_d y)))
 | .m i x=>(L.jG i x.l).trans ((bu ((i:Int)*·) (N.l_d x)))
 | .r x i=>(L.jG i x.l).trans ((bu ((i:Int)*·) (N.l_d x)).trans (Int.mul_comm ..))
theorem kN {c k:List Int} (x y:L):(x.add (y.scl (-1))).d c k=x.d c k-y.d c k :=
 (L.pF ..).trans (bu (x.d c k+·) ((L.jG ..).trans (Int.neg_one_mul _)))
theorem E.l_d {c:List Int} {k:List Nat}:(x:E)→x.l.d c (up k)=x.d c k
 | .v i=>(qm _).trans ((ad (u6 i c) (fL (up k))).trans (Int.add_zero _))
 | .n i=>L.pE i
 | .a x y=>(L.pF x.l y.l).trans ((ad (E.l_d x) (E.l_d y)))
 | .s x y=>(kN x.l y.l).trans ((sb (E.l_d x) (E.l_d y)))
 | .m i x=>(L.jG i x.l).trans ((bu (i*·) (E.l_d x)))
 | .r x i=>(L.jG i x.l).trans ((bu (i*·) (E.l_d x)).trans (Int.mul_comm ..))
 | .g x=>(L.jG (-1) x.l).trans ((Int.neg_one_mul _).trans (bu (- ·) (E.l_d x)))
 | .t x=>N.l_d x
noncomputable def R.l (x y:L):R→L
 | .lt=>(y.add (x.scl (-1))).add (.num (-1))
 | .le=>y.add (x.scl (-1))
 | .eq=>y.add (x.scl (-1))
 | .ge=>x.add (y.scl (-1))
 | .gt=>(x.add (y.scl (-1))).add (.num (-1))
 | .ne=>.num 0
theorem less {c k:List Int} {x y:L} (h:x.d c k<y.d c k):0≤((y.add (x.scl (-1))).add (.num (-1))).d c k :=
 yo (ltd h) ((L.pF ..).trans (ad (kN y x) (L.pE (-1)))).symm
theorem R.l_d {c k:List Int} {x y:L}:(r:R)→r.i (x.d c k) (y.d c k)→0≤(r.l x y).d c k
 | .lt=>fun h=>less h
 | .le=>fun h=>yo (Int.sub_nonneg_of_le h) (kN y x).symm
 | .eq=>fun h=>yo (Int.sub_nonneg_of_le (Int.le_of_eq h)) (kN y x).symm
 | .ge=>fun h=>yo (Int.sub_nonneg_of_le (Int.not_lt.mp h)) (kN x y).symm
 | .gt=>fun h=>less (Int.not_le.mp h)
 | .ne=>fun _=>Int.le_of_eq (L.pE 0).symm
theorem R.KP {a b a' b':Int} (r:R) (e1:a=a') (e2:b=b') (h:r.i a' b'):r.i a b:=by subst e1 e2;exact h
noncomputable def Q.h (c:List Int) (k:List Nat) (q:Q):Prop:=q.r.i (q.x.d c k) (q.y.d c k)
noncomputable def Q.l (q:Q):L:=q.r.l q.x.l q.y.l
theorem Q.l_d {c:List Int} {k:List Nat} {q:Q} (h:q.h c k):0≤q.l.d c (up k) :=
 R.l_d q.r (R.KP q.r (E.l_d q.x) (E.l_d q.y) h)
noncomputable def R.e:R→Bool
 | .eq=>true
 | _=>false
theorem R.e_d {a b:Int}:(r:R)→r.e=true→r.i a b→r=.eq∧a=b
 | .eq=>fun _ h=>⟨rfl,h⟩
 | .lt=>fun e=>Bool.noConfusion e
 | .le=>fun e=>Bool.noConfusion e
 | .ge=>fun e=>Bool.noConfusion e
 | .gt=>fun e=>Bool.noConfusion e
 | .ne=>fun e=>Bool.noConfusion e
theorem Q.e_d {c:List Int} {k:List Nat} {q:Q} (e:q.r.e=true) (h:q.h c k):q.l.d c (up k)=0:=by
 obtain⟨r,x,y⟩:=q
 obtain⟨rfl,h⟩:=R.e_d r e h
 exact(kN y.l x.l).trans ((sb (E.l_d y) (E.l_d x)).trans (Int.sub_eq_zero_of_eq h.symm))
noncomputable def P.q:P→Q
 | .i r x y=>⟨r,x,y⟩
 | .n r x y=>⟨r,.t x,.t y⟩
 | .ff=>⟨.ne,.n 0,.n 0⟩
theorem P.to {c:List Int} {k:List Nat}:{p:P}→p.h c k→p.q.h c k
 | .i _ _ _=>id
 | .n r _ _=>R.n_i r
 | .ff=>False.elim
theorem P.of {c:List Int} {k:List Nat}:(p:P)→p.q.h c k→p.h c k
 | .i _ _ _=>id
 | .n r _ _=>R.i_n r
 | .ff=>fun h=>h rfl
noncomputable def sum:List Q→List Int→L
 | []=>fun _=>.num 0
 | q::qs=>fun ms=>(q.l.scl (ms.headD 0)).add (sum qs ms.tail)
noncomputable def good:List Q→List Int→Bool
 | []=>fun _=>true
 | q::qs=>fun ms=>(q.r.e||decide (0≤ms.headD 0))&&good qs ms.tail
noncomputable def All (c:List Int) (k:List Nat):List Q→Prop
 | []=>True
 | q::qs=>q.h c k∧All c k qs
theorem band {a b:Bool}:(a&&b)=true→a=true∧b=true:=(cg a b).mp
theorem EC {c:List Int} {k:List Nat}:(qs:List Q)→(ms:List Int)→good qs ms=true→All c k qs→0≤(sum qs ms).d c (up k)
 | []=>fun _ _ _=>Int.le_of_eq (L.pE 0).symm
 | q::qs=>fun ms hg h=>yo
   (Int.add_nonneg (((lz ..).mp (band hg).1).elim
    (fun e=>Int.le_of_eq ((bu (ms.headD 0*·) (Q.e_d e h.1)).trans (Int.mul_zero _)).symm)
    (fun e=>Int.mul_nonneg (ah e) (Q.l_d h.1))) (EC qs ms.tail (band hg).2 h.2))
   ((L.pF ..).trans (ad (L.jG ..) rfl)).symm
noncomputable def zero:List Int→(Nat→Int)→Bool
 | []=>fun _=>true
 | _::l=>fun f=>decide (f 0=0)&&zero l fun j=>f (j+1)
noncomputable def G3:List Nat→(Nat→Int)→Bool
 | []=>fun _=>true
 | _::l=>fun f=>decide (f 0≤0)&&G3 l fun j=>f (j+1)
theorem wM:(l:List Int)→(f:Nat→Int)→zero l f=true→S l f=0
 | []=>fun _ _=>rfl
 | y::l=>fun f h=>(ad ((bu (·*y) (ah (band h).1)).trans (Int.zero_mul y)) (wM l _ (band h).2)).trans (qm 0)
theorem yR:(l:List Nat)→(f:Nat→Int)→G3 l f=true→S (up l) f≤0
 | []=>fun _ _=>Int.le_refl _
 | y::l=>fun f h=>Int.add_le_add (Int.mul_nonpos_of_nonpos_of_nonneg (ah (band h).1) (Int.natCast_nonneg y)) (yR l _ (band h).2)
noncomputable def ok (c:List Int) (k:List Nat) (qs:List Q) (ms:List Int):Bool :=
 good qs ms&&(decide ((sum qs ms).k<0)&&(zero c (sum qs ms).c&&G3 k (sum qs ms).n))
theorem K9 {c:List Int} {k:List Nat} {qs:List Q} {ms:List Int} (h:ok c k qs ms=true) (hs:All c k qs):False :=
 have h1:=band (band h).2
 have h2:=band h1.2
 Int.not_lt.mpr (EC qs ms (band h).1 hs) (KG (ah h1.1) (Int.le_trans (Int.le_of_eq ((ad (wM c _ h2.1) rfl).trans (qm _))) (yR k _ h2.2)))
noncomputable def R.G6:R→List R
 | .lt=>[.ge]
 | .le=>[.gt]
 | .eq=>[.lt,.gt]
 | .ge=>[.lt]
 | .gt=>[.le]
 | .ne=>[.eq]
theorem R.neg {a b:Int}:(r:R)→(∀ s,s∈r.G6→¬ s.i a b)→r.i a b
 | .lt=>fun h=>Decidable.not_not.mp (h .ge (.head _))
 | .le=>fun h=>Decidable.not_not.mp (h .gt (.head _))
 | .eq=>fun h=>Int.le_antisymm (Decidable.not_not.mp (h .gt (.tail _ (.head _)))) (Int.not_lt.mp (h .lt (.head _)))
 | .ge=>fun h=>h .lt (.head _)
 | .gt=>fun h=>h .le (.head _)
 | .ne=>fun h=>h .eq (.head _)
noncomputable def oks (c:List Int) (k:List Nat) (x y:E) (qs:List Q):List R→List (List Int)→Bool
 | []=>fun _=>true
 | r::rs=>fun ms=>ok c k (⟨r,x,y⟩::qs) (ms.headD [])&&oks c k x y qs rs ms.tail
theorem EH {c:List Int} {k:List Nat} {x y:E} {qs:List Q} (hs:All c k qs):(rs:List R)→(ms:List (List Int))→oks c k x y qs rs ms=true→∀ s,s∈rs→¬ s.i (x.d c k) (y.d c k)
 | _,_,h,_,.head _=>fun hq=>K9 (band h).1 ⟨hq,hs⟩
 | _,ms,h,s,.tail _ m=>EH hs _ ms.tail (band h).2 s m
noncomputable def chk (c:List Int) (k:List Nat) (g:P) (ps:List P) (ms:List (List Int)):Bool :=
 oks c k g.q.x g.q.y (ps.map P.q) g.q.r.G6 ms
theorem main {c:List Int} {k:List Nat} {g:P} (ps:List P) {ms:List (List Int)} (h:chk c k g ps ms=true) (hs:All c k (ps.map P.q)):g.h c k :=
 P.of g (R.neg g.q.r (EH hs g.q.r.G6 ms h))
noncomputable abbrev M:=List (List Int)
theorem a0 (c:List Int) (k:List Nat) (g:P) (ms:M) (hc:chk c k g [] ms=true:=by exact Ar.y):g.h c k:=main [] hc trivial
theorem a1 (c:List Int) (k:List Nat) (g:P) (ms:M) (p1:P) (h1:p1.h c k) (hc:chk c k g [p1] ms=true:=by exact Ar.y):g.h c k:=main [p1] hc ⟨P.to h1,trivial⟩
theorem a2 (c:List Int) (k:List Nat) (g:P) (ms:M) (p1 p2:P) (h1:p1.h c k) (h2:p2.h c k) (hc:chk c k g [p1,p2] ms=true:=by exact Ar.y):g.h c k:=main [p1,p2] hc ⟨P.to h1,P.to h2,trivial⟩
theorem a3 (c:List Int) (k:List Nat) (g:P) (ms:M) (p1 p2 p3:P) (h1:p1.h c k) (h2:p2.h c k) (h3:p3.h c k) (hc:chk c k g [p1,p2,p3] ms=true:=by exact Ar.y):g.h c k:=main [p1,p2,p3] hc ⟨P.to h1,P.to h2,P.to h3,trivial⟩
theorem a4 (c:List Int) (k:List Nat) (g:P) (ms:M) (p1 p2 p3 p4:P) (h1:p1.h c k) (h2:p2.h c k) (h3:p3.h c k) (h4:p4.h c k) (hc:chk c k g [p1,p2,p3,p4] ms=true:=by exact Ar.y):g.h c k:=main [p1,p2,p3,p4] hc ⟨P.to h1,P.to h2,P.to h3,P.to h4,trivial⟩
theorem a5 (c:List Int) (k:List Nat) (g:P) (ms:M) (p1 p2 p3 p4 p5:P) (h1:p1.h c k) (h2:p2.h c k) (h3:p3.h c k) (h4:p4.h c k) (h5:p5.h c k) (hc:chk c k g [p1,p2,p3,p4,p5] ms=true:=by exact Ar.y):g.h c k:=main [p1,p2,p3,p4,p5] hc ⟨P.to h1,P.to h2,P.to h3,P.to h4,P.to h5,trivial⟩
theorem a6 (c:List Int) (k:List Nat) (g:P) (ms:M) (p1 p2 p3 p4 p5 p6:P) (h1:p1.h c k) (h2:p2.h c k) (h3:p3.h c k) (h4:p4.h c k) (h5:p5.h c k) (h6:p6.h c k) (hc:chk c k g [p1,p2,p3,p4,p5,p6] ms=true:=by exact Ar.y):g.h c k:=main [p1,p2,p3,p4,p5,p6] hc ⟨P.to h1,P.to h2,P.to h3,P.to h4,P.to h5,P.to h6,trivial⟩
theorem a7 (c:List Int) (k:List Nat) (g:P) (ms:M) (p1 p2 p3 p4 p5 p6 p7:P) (h1:p1.h c k) (h2:p2.h c k) (h3:p3.h c k) (h4:p4.h c k) (h5:p5.h c k) (h6:p6.h c k) (h7:p7.h c k) (hc:chk c k g [p1,p2,p3,p4,p5,p6,p7] ms=true:=by exact Ar.y):g.h c k:=main [p1,p2,p3,p4,p5,p6,p7] hc ⟨P.to h1,P.to h2,P.to h3,P.to h4,P.to h5,P.to h6,P.to h7,trivial⟩
theorem a8 (c:List Int) (k:List Nat) (g:P) (ms:M) (p1 p2 p3 p4 p5 p6 p7 p8:P) (h1:p1.h c k) (h2:p2.h c k) (h3:p3.h c k) (h4:p4.h c k) (h5:p5.h c k) (h6:p6.h c k) (h7:p7.h c k) (h8:p8.h c k) (hc:chk c k g [p1,p2,p3,p4,p5,p6,p7,p8] ms=true:=by exact Ar.y):g.h c k:=main [p1,p2,p3,p4,p5,p6,p7,p8] hc ⟨P.to h1,P.to h2,P.to h3,P.to h4,P.to h5,P.to h6,P.to h7,P.to h8,trivial⟩
theorem a9 (c:List Int) (k:List Nat) (g:P) (ms:M) (p1 p2 p3 p4 p5 p6 p7 p8 p9:P) (h1:p1.h c k) (h2:p2.h c k) (h3:p3.h c k) (h4:p4.h c k) (h5:p5.h c k) (h6:p6.h c k) (h7:p7.h c k) (h8:p8.h c k) (h9:p9.h c k) (hc:chk c k g [p1,p2,p3,p4,p5,p6,p7,p8,p9] ms=true:=by exact Ar.y):g.h c k:=main [p1,p2,p3,p4,p5,p6,p7,p8,p9] hc ⟨P.to h1,P.to h2,P.to h3,P.to h4,P.to h5,P.to h6,P.to h7,P.to h8,P.to h9,trivial⟩
theorem y:true=true:=rfl
noncomputable abbrev N.A:N:=.v 0
noncomputable abbrev E.A:E:=.v 0
noncomputable abbrev N.B:N:=.v 1
noncomputable abbrev E.B:E:=.v 1
noncomputable abbrev N.C:N:=.v 2
noncomputable abbrev E.C:E:=.v 2
noncomputable abbrev N.D:N:=.v 3
noncomputable abbrev E.D:E:=.v 3
noncomputable abbrev N.F:N:=.v 4
noncomputable abbrev N.G:N:=.v 5
noncomputable abbrev N.H:N:=.v 6
noncomputable abbrev N.I:N:=.v 7
noncomputable abbrev N.O:N:=.n 0
noncomputable abbrev E.O:E:=.n 0
noncomputable abbrev N.U:N:=.n 1
noncomputable abbrev E.U:E:=.n 1
noncomputable abbrev N.W:N:=.n 2
noncomputable abbrev E.W:E:=.n 2
noncomputable abbrev P.l (x y:N):P:=.n .lt x y
noncomputable abbrev P.il (x y:E):P:=.i .lt x y
noncomputable abbrev P.k (x y:N):P:=.n .le x y
noncomputable abbrev P.ik (x y:E):P:=.i .le x y
noncomputable abbrev P.e (x y:N):P:=.n .eq x y
noncomputable abbrev P.ie (x y:E):P:=.i .eq x y
noncomputable abbrev P.g (x y:N):P:=.n .ge x y
noncomputable abbrev P.ig (x y:E):P:=.i .ge x y
noncomputable abbrev P.j (x y:N):P:=.n .gt x y
noncomputable abbrev P.ij (x y:E):P:=.i .gt x y
noncomputable abbrev P.u (x y:N):P:=.n .ne x y
noncomputable abbrev P.iu (x y:E):P:=.i .ne x y
noncomputable abbrev E.ng (k:Int):E:=.n (-k)
theorem HQ (x y:Nat):x≤x-y+y:=Nat.sub_le_iff_le_add.mp (ay _)
theorem imp {a b:Prop} (h:a→b):¬ a∨b:=(Classical.em a).elim (fun x=>.inr (h x)) .inl
theorem mH (x k:Nat) (h:0<k):x%k<k∧k*(x/k)+x%k=x:=⟨yr x h,Nat.div_add_mod x k⟩
theorem imod (x k:Int) (h:0<k):0≤x%k∧x%k<k∧k*(x/k)+x%k=x:=⟨ou x (Int.ne_of_gt h),kq x h,Int.mul_ediv_add_emod x k⟩
theorem iw (x y:Nat):min x y≤x∧min x y≤y∧(x≤min x y∨y≤min x y):=⟨Nat.min_le_left x y,Nat.min_le_right x y,(Nat.le_total x y).imp (fun h=>Nat.le_min.mpr ⟨ay x,h⟩) fun h=>Nat.le_min.mpr ⟨h,ay y⟩⟩
theorem zO (x y:Int):min x y≤x∧min x y≤y∧(x≤min x y∨y≤min x y):=⟨Int.min_le_left x y,Int.min_le_right x y,(xr x y).imp (fun h=>Int.le_min.mpr ⟨Int.le_refl x,h⟩) fun h=>Int.le_min.mpr ⟨h,Int.le_refl y⟩⟩
theorem imax (x y:Int):x≤max x y∧y≤max x y∧(max x y≤x∨max x y≤y):=⟨Int.le_max_left x y,Int.le_max_right x y,(xr y x).imp (fun h=>Int.max_le.mpr ⟨Int.le_refl x,h⟩) fun h=>Int.max_le.mpr ⟨h,Int.le_refl y⟩⟩
theorem ton (x:Int):(0≤x∧(x.toNat:Int)=x)∨(x≤0∧x.toNat=0) :=
 (xr 0 x).elim (fun h=>.inl ⟨h,Int.toNat_of_nonneg h⟩) fun h=>.inr ⟨h,Int.toNat_of_nonpos h⟩
theorem nab (x:Int):(0≤x∧(x.natAbs:Int)=x)∨(x≤0∧(x.natAbs:Int)=-x) :=
 (xr 0 x).elim (fun h=>.inl ⟨h,Int.natAbs_of_nonneg h⟩) fun h=>.inr ⟨h,Int.ofNat_natAbs_of_nonpos h⟩
theorem sub {p:Prop} (x y:Nat) (h1:y≤x→x-y+y=x→p) (h2:x≤y→x-y=0→p):p :=
 (Nat.le_total y x).elim (fun h=>h1 h (aa h)) fun h=>h2 h (gT h)
@[elab_as_elim] theorem rwm {α:Sort u} {a b:α} {p:α→Prop} (h:a=b) (q:p b):p a:=Eq.rec (motive:=fun x _=>p x) q h.symm
@[elab_as_elim] theorem rwn {α:Sort u} {a b:α} {p:α→Prop} (h:b=a) (q:p b):p a:=Eq.rec (motive:=fun x _=>p x) q h
section
variable {r:Prop}
theorem e2_0 {p q:Prop} (h:p∧q) (k:p→q→r):r:=k h.1 h.2
theorem e2_1 {p:A→Prop} (h:∃ a,p a) (k:∀ a,p a→r):r:=h.elim fun a g=>k a g
theorem i2_1 {p:A→Prop} (a:A) (h:p a):∃ a,p a:=⟨a,h⟩
theorem e3_0 {p q s:Prop} (h:p∧q∧s) (k:p→q→s→r):r:=k h.1 h.2.1 h.2.2
theorem e3_1 {p q:A→Prop} (h:∃ a,p a∧q a) (k:∀ a,p a→q a→r):r:=h.elim fun a g=>k a g.1 g.2
theorem i3_1 {p q:A→Prop} (a:A) (h:p a) (i:q a):∃ a,p a∧q a:=⟨a,h,i⟩
theorem e3_2 {p:A→B→Prop} (h:∃ a b,p a b) (k:∀ a b,p a b→r):r:=h.elim fun a g=>g.elim fun b g=>k a b g
theorem i3_2 {p:A→B→Prop} (a:A) (b:B) (h:p a b):∃ a b,p a b:=⟨a,b,h⟩
theorem e4_0 {p q s t:Prop} (h:p∧q∧s∧t) (k:p→q→s→t→r):r:=k h.1 h.2.1 h.2.2.1 h.2.2.2
theorem e4_1 {p q s:A→Prop} (h:∃ a,p a∧q a∧s a) (k:∀ a,p a→q a→s a→r):r:=h.elim fun a g=>k a g.1 g.2.1 g.2.2
theorem i4_1 {p q s:A→Prop} (a:A) (h:p a) (i:q a) (j:s a):∃ a,p a∧q a∧s a:=⟨a,h,i,j⟩
theorem e4_2 {p q:A→B→Prop} (h:∃ a b,p a b∧q a b) (k:∀ a b,p a b→q a b→r):r:=h.elim fun a g=>g.elim fun b g=>k a b g.1 g.2
theorem i4_2 {p q:A→B→Prop} (a:A) (b:B) (h:p a b) (i:q a b):∃ a b,p a b∧q a b:=⟨a,b,h,i⟩
theorem e4_3 {p:A→B→C→Prop} (h:∃ a b c,p a b c) (k:∀ a b c,p a b c→r):r:=h.elim fun a g=>g.elim fun b g=>g.elim fun c g=>k a b c g
theorem i4_3 {p:A→B→C→Prop} (a:A) (b:B) (c:C) (h:p a b c):∃ a b c,p a b c:=⟨a,b,c,h⟩
theorem e5_0 {p q s t u:Prop} (h:p∧q∧s∧t∧u) (k:p→q→s→t→u→r):r:=k h.1 h.2.1 h.2.2.1 h.2.2.2.1 h.2.2.2.2
theorem e5_1 {p q s t:A→Prop} (h:∃ a,p a∧q a∧s a∧t a) (k:∀ a,p a→q a→s a→t a→r):r:=h.elim fun a g=>k a g.1 g.2.1 g.2.2.1 g.2.2.2
theorem i5_1 {p q s t:A→Prop} (a:A) (h:p a) (i:q a) (j:s a) (l:t a):∃ a,p a∧q a∧s a∧t a:=⟨a,h,i,j,l⟩
theorem e5_2 {p q s:A→B→Prop} (h:∃ a b,p a b∧q a b∧s a b) (k:∀ a b,p a b→q a b→s a b→r):r:=h.elim fun a g=>g.elim fun b g=>k a b g.1 g.2.1 g.2.2
theorem i5_2 {p q s:A→B→Prop} (a:A) (b:B) (h:p a b) (i:q a b) (j:s a b):∃ a b,p a b∧q a b∧s a b:=⟨a,b,h,i,j⟩
theorem e5_3 {p q:A→B→C→Prop} (h:∃ a b c,p a b c∧q a b c) (k:∀ a b c,p a b c→q a b c→r):r:=h.elim fun a g=>g.elim fun b g=>g.elim fun c g=>k a b c g.1 g.2
theorem i5_3 {p q:A→B→C→Prop} (a:A) (b:B) (c:C) (h:p a b c) (i:q a b c):∃ a b c,p a b c∧q a b c:=⟨a,b,c,h,i⟩
theorem e5_4 {p:A→B→C→D→Prop} (h:∃ a b c d,p a b c d) (k:∀ a b c d,p a b c d→r):r:=h.elim fun a g=>g.elim fun b g=>g.elim fun c g=>g.elim fun d g=>k a b c d g
theorem e6_0 {p q s t u v:Prop} (h:p∧q∧s∧t∧u∧v) (k:p→q→s→t→u→v→r):r:=k h.1 h.2.1 h.2.2.1 h.2.2.2.1 h.2.2.2.2.1 h.2.2.2.2.2
theorem e6_1 {p q s t u:A→Prop} (h:∃ a,p a∧q a∧s a∧t a∧u a) (k:∀ a,p a→q a→s a→t a→u a→r):r:=h.elim fun a g=>k a g.1 g.2.1 g.2.2.1 g.2.2.2.1 g.2.2.2.2
theorem e6_2 {p q s t:A→B→Prop} (h:∃ a b,p a b∧q a b∧s a b∧t a b) (k:∀ a b,p a b→q a b→s a b→t a b→r):r:=h.elim fun a g=>g.elim fun b g=>k a b g.1 g.2.1 g.2.2.1 g.2.2.2
theorem i6_2 {p q s t:A→B→Prop} (a:A) (b:B) (h:p a b) (i:q a b) (j:s a b) (l:t a b):∃ a b,p a b∧q a b∧s a b∧t a b:=⟨a,b,h,i,j,l⟩
theorem e6_3 {p q s:A→B→C→Prop} (h:∃ a b c,p a b c∧q a b c∧s a b c) (k:∀ a b c,p a b c→q a b c→s a b c→r):r:=h.elim fun a g=>g.elim fun b g=>g.elim fun c g=>k a b c g.1 g.2.1 g.2.2
theorem i6_3 {p q s:A→B→C→Prop} (a:A) (b:B) (c:C) (h:p a b c) (i:q a b c) (j:s a b c):∃ a b c,p a b c∧q a b c∧s a b c:=⟨a,b,c,h,i,j⟩
theorem e6_4 {p q:A→B→C→D→Prop} (h:∃ a b c d,p a b c d∧q a b c d) (k:∀ a b c d,p a b c d→q a b c d→r):r:=h.elim fun a g=>g.elim fun b g=>g.elim fun c g=>g.elim fun d g=>k a b c d g.1 g.2
theorem i6_4 {p q:A→B→C→D→Prop} (a:A) (b:B) (c:C) (d:D) (h:p a b c d) (i:q a b c d):∃ a b c d,p a b c d∧q a b c d:=⟨a,b,c,d,h,i⟩
theorem e6_5 {p:A→B→C→D→F→Prop} (h:∃ a b c d f,p a b c d f) (k:∀ a b c d f,p a b c d f→r):r:=h.elim fun a g=>g.elim fun b g=>g.elim fun c g=>g.elim fun d g=>g.elim fun f g=>k a b c d f g
theorem i6_5 {p:A→B→C→D→F→Prop} (a:A) (b:B) (c:C) (d:D) (f:F) (h:p a b c d f):∃ a b c d f,p a b c d f:=⟨a,b,c,d,f,h⟩
theorem e7_0 {p q s t u v w:Prop} (h:p∧q∧s∧t∧u∧v∧w) (k:p→q→s→t→u→v→w→r):r:=k h.1 h.2.1 h.2.2.1 h.2.2.2.1 h.2.2.2.2.1 h.2.2.2.2.2.1 h.2.2.2.2.2.2
theorem e7_2 {p q s t u:A→B→Prop} (h:∃ a b,p a b∧q a b∧s a b∧t a b∧u a b) (k:∀ a b,p a b→q a b→s a b→t a b→u a b→r):r:=h.elim fun a g=>g.elim fun b g=>k a b g.1 g.2.1 g.2.2.1 g.2.2.2.1 g.2.2.2.2
theorem i7_2 {p q s t u:A→B→Prop} (a:A) (b:B) (h:p a b) (i:q a b) (j:s a b) (l:t a b) (m:u a b):∃ a b,p a b∧q a b∧s a b∧t a b∧u a b:=⟨a,b,h,i,j,l,m⟩
theorem e7_3 {p q s t:A→B→C→Prop} (h:∃ a b c,p a b c∧q a b c∧s a b c∧t a b c) (k:∀ a b c,p a b c→q a b c→s a b c→t a b c→r):r:=h.elim fun a g=>g.elim fun b g=>g.elim fun c g=>k a b c g.1 g.2.1 g.2.2.1 g.2.2.2
theorem i7_3 {p q s t:A→B→C→Prop} (a:A) (b:B) (c:C) (h:p a b c) (i:q a b c) (j:s a b c) (l:t a b c):∃ a b c,p a b c∧q a b c∧s a b c∧t a b c:=⟨a,b,c,h,i,j,l⟩
theorem e7_4 {p q s:A→B→C→D→Prop} (h:∃ a b c d,p a b c d∧q a b c d∧s a b c d) (k:∀ a b c d,p a b c d→q a b c d→s a b c d→r):r:=h.elim fun a g=>g.elim fun b g=>g.elim fun c g=>g.elim fun d g=>k a b c d g.1 g.2.1 g.2.2
theorem i7_4 {p q s:A→B→C→D→Prop} (a:A) (b:B) (c:C) (d:D) (h:p a b c d) (i:q a b c d) (j:s a b c d):∃ a b c d,p a b c d∧q a b c d∧s a b c d:=⟨a,b,c,d,h,i,j⟩
theorem e8_2 {p q s t u v:A→B→Prop} (h:∃ a b,p a b∧q a b∧s a b∧t a b∧u a b∧v a b) (k:∀ a b,p a b→q a b→s a b→t a b→u a b→v a b→r):r:=h.elim fun a g=>g.elim fun b g=>k a b g.1 g.2.1 g.2.2.1 g.2.2.2.1 g.2.2.2.2.1 g.2.2.2.2.2
theorem i8_2 {p q s t u v:A→B→Prop} (a:A) (b:B) (h:p a b) (i:q a b) (j:s a b) (l:t a b) (m:u a b) (n:v a b):∃ a b,p a b∧q a b∧s a b∧t a b∧u a b∧v a b:=⟨a,b,h,i,j,l,m,n⟩
theorem e8_3 {p q s t u:A→B→C→Prop} (h:∃ a b c,p a b c∧q a b c∧s a b c∧t a b c∧u a b c) (k:∀ a b c,p a b c→q a b c→s a b c→t a b c→u a b c→r):r:=h.elim fun a g=>g.elim fun b g=>g.elim fun c g=>k a b c g.1 g.2.1 g.2.2.1 g.2.2.2.1 g.2.2.2.2
theorem i8_3 {p q s t u:A→B→C→Prop} (a:A) (b:B) (c:C) (h:p a b c) (i:q a b c) (j:s a b c) (l:t a b c) (m:u a b c):∃ a b c,p a b c∧q a b c∧s a b c∧t a b c∧u a b c:=⟨a,b,c,h,i,j,l,m⟩
theorem e8_4 {p q s t:A→B→C→D→Prop} (h:∃ a b c d,p a b c d∧q a b c d∧s a b c d∧t a b c d) (k:∀ a b c d,p a b c d→q a b c d→s a b c d→t a b c d→r):r:=h.elim fun a g=>g.elim fun b g=>g.elim fun c g=>g.elim fun d g=>k a b c d g.1 g.2.1 g.2.2.1 g.2.2.2
theorem i8_4 {p q s t:A→B→C→D→Prop} (a:A) (b:B) (c:C) (d:D) (h:p a b c d) (i:q a b c d) (j:s a b c d) (l:t a b c d):∃ a b c d,p a b c d∧q a b c d∧s a b c d∧t a b c d:=⟨a,b,c,d,h,i,j,l⟩
theorem e8_7 {p:A→B→C→D→F→G→H→Prop} (h:∃ a b c d f y z,p a b c d f y z) (k:∀ a b c d f y z,p a b c d f y z→r):r:=h.elim fun a g=>g.elim fun b g=>g.elim fun c g=>g.elim fun d g=>g.elim fun f g=>g.elim fun y g=>g.elim fun z g=>k a b c d f y z g
theorem i8_7 {p:A→B→C→D→F→G→H→Prop} (a:A) (b:B) (c:C) (d:D) (f:F) (y:G) (z:H) (h:p a b c d f y z):∃ a b c d f y z,p a b c d f y z:=⟨a,b,c,d,f,y,z,h⟩
theorem e9_0 {p q s t u v w k J:Prop} (h:p∧q∧s∧t∧u∧v∧w∧k∧J) (k:p→q→s→t→u→v→w→k→J→r):r:=k h.1 h.2.1 h.2.2.1 h.2.2.2.1 h.2.2.2.2.1 h.2.2.2.2.2.1 h.2.2.2.2.2.2.1 h.2.2.2.2.2.2.2.1 h.2.2.2.2.2.2.2.2
theorem e9_2 {p q s t u v w:A→B→Prop} (h:∃ a b,p a b∧q a b∧s a b∧t a b∧u a b∧v a b∧w a b) (k:∀ a b,p a b→q a b→s a b→t a b→u a b→v a b→w a b→r):r:=h.elim fun a g=>g.elim fun b g=>k a b g.1 g.2.1 g.2.2.1 g.2.2.2.1 g.2.2.2.2.1 g.2.2.2.2.2.1 g.2.2.2.2.2.2
theorem e9_3 {p q s t u v:A→B→C→Prop} (h:∃ a b c,p a b c∧q a b c∧s a b c∧t a b c∧u a b c∧v a b c) (k:∀ a b c,p a b c→q a b c→s a b c→t a b c→u a b c→v a b c→r):r:=h.elim fun a g=>g.elim fun b g=>g.elim fun c g=>k a b c g.1 g.2.1 g.2.2.1 g.2.2.2.1 g.2.2.2.2.1 g.2.2.2.2.2
theorem i9_3 {p q s t u v:A→B→C→Prop} (a:A) (b:B) (c:C) (h:p a b c) (i:q a b c) (j:s a b c) (l:t a b c) (m:u a b c) (n:v a b c):∃ a b c,p a b c∧q a b c∧s a b c∧t a b c∧u a b c∧v a b c:=⟨a,b,c,h,i,j,l,m,n⟩
theorem e9_4 {p q s t u:A→B→C→D→Prop} (h:∃ a b c d,p a b c d∧q a b c d∧s a b c d∧t a b c d∧u a b c d) (k:∀ a b c d,p a b c d→q a b c d→s a b c d→t a b c d→u a b c d→r):r:=h.elim fun a g=>g.elim fun b g=>g.elim fun c g=>g.elim fun d g=>k a b c d g.1 g.2.1 g.2.2.1 g.2.2.2.1 g.2.2.2.2
theorem i9_4 {p q s t u:A→B→C→D→Prop} (a:A) (b:B) (c:C) (d:D) (h:p a b c d) (i:q a b c d) (j:s a b c d) (l:t a b c d) (m:u a b c d):∃ a b c d,p a b c d∧q a b c d∧s a b c d∧t a b c d∧u a b c d:=⟨a,b,c,d,h,i,j,l,m⟩
theorem e9_5 {p q s t:A→B→C→D→F→Prop} (h:∃ a b c d f,p a b c d f∧q a b c d f∧s a b c d f∧t a b c d f) (k:∀ a b c d f,p a b c d f→q a b c d f→s a b c d f→t a b c d f→r):r:=h.elim fun a g=>g.elim fun b g=>g.elim fun c g=>g.elim fun d g=>g.elim fun f g=>k a b c d f g.1 g.2.1 g.2.2.1 g.2.2.2
theorem i9_5 {p q s t:A→B→C→D→F→Prop} (a:A) (b:B) (c:C) (d:D) (f:F) (h:p a b c d f) (i:q a b c d f) (j:s a b c d f) (l:t a b c d f):∃ a b c d f,p a b c d f∧q a b c d f∧s a b c d f∧t a b c d f:=⟨a,b,c,d,f,h,i,j,l⟩
theorem e9_7 {p q:A→B→C→D→F→G→H→Prop} (h:∃ a b c d f y z,p a b c d f y z∧q a b c d f y z) (k:∀ a b c d f y z,p a b c d f y z→q a b c d f y z→r):r:=h.elim fun a g=>g.elim fun b g=>g.elim fun c g=>g.elim fun d g=>g.elim fun f g=>g.elim fun y g=>g.elim fun z g=>k a b c d f y z g.1 g.2
theorem i9_7 {p q:A→B→C→D→F→G→H→Prop} (a:A) (b:B) (c:C) (d:D) (f:F) (y:G) (z:H) (h:p a b c d f y z) (i:q a b c d f y z):∃ a b c d f y z,p a b c d f y z∧q a b c d f y z:=⟨a,b,c,d,f,y,z,h,i⟩
theorem e9_8 {p:A→B→C→D→F→G→H→I→Prop} (h:∃ a b c d f y z o,p a b c d f y z o) (k:∀ a b c d f y z o,p a b c d f y z o→r):r:=h.elim fun a g=>g.elim fun b g=>g.elim fun c g=>g.elim fun d g=>g.elim fun f g=>g.elim fun y g=>g.elim fun z g=>g.elim fun o g=>k a b c d f y z o g
theorem i9_8 {p:A→B→C→D→F→G→H→I→Prop} (a:A) (b:B) (c:C) (d:D) (f:F) (y:G) (z:H) (o:I) (h:p a b c d f y z o):∃ a b c d f y z o,p a b c d f y z o:=⟨a,b,c,d,f,y,z,o,h⟩
end
noncomputable abbrev M.i:M:=[[1]]
noncomputable abbrev M.a:M:=[[1,1]]
noncomputable abbrev M.b:M:=[[1,1,1]]
noncomputable abbrev M.e:M:=[[0,1,1]]
noncomputable abbrev M.j:M:=[[1],[1]]
noncomputable abbrev M.c:M:=[[1,1,-1]]
noncomputable abbrev M.o:M:=[[1,-1,1]]
noncomputable abbrev M.p:M:=[[0,-1,1]]
noncomputable abbrev M.d:M:=[[1,1,1,1]]
noncomputable abbrev M.y:M:=[[0,1,1,1]]
noncomputable abbrev M.k:M:=[[1,1,1,-1]]
noncomputable abbrev M.q:M:=[[1,1,-1,1]]
noncomputable abbrev M.s:M:=[[1,1,1,1,1]]
noncomputable abbrev M.u:M:=[[0,1],[0,1]]
noncomputable abbrev M.B:M:=[[1,0],[1,1]]
noncomputable abbrev M.g:M:=[[1,1],[1,-1]]
noncomputable abbrev M.h:M:=[[1,-1],[1,1]]
noncomputable abbrev M.A:M:=[[1,1,1,1,1,1]]
noncomputable abbrev M.f:M:=[[0,1,1],[0,1,1]]
noncomputable abbrev M.l:M:=[[1,0,1],[1,1,0]]
noncomputable abbrev M.r:M:=[[1,1,0],[1,0,1]]
noncomputable abbrev N.a9:N:=.n 9
noncomputable abbrev M.n:M:=[[1,-1,1],[1,1,-1]]
noncomputable abbrev M.x:M:=[[1,-1,-1],[1,1,1]]
noncomputable abbrev E.L:E:=.t .A
noncomputable abbrev E.P:E:=.t .B
noncomputable abbrev E.Q:E:=.t .C
noncomputable abbrev M.m:M:=[[1,1,0,1],[1,0,1,0]]
noncomputable abbrev M.v:M:=[[0,1,1,1],[0,1,1,1]]
noncomputable abbrev N.S:N:=.n 1000000
noncomputable abbrev M.t:M:=[[1,-1,1,-1],[1,1,-1,1]]
noncomputable abbrev E.M:E:=.n (2^63)
noncomputable abbrev E.S:E:=.n (2^64)
noncomputable abbrev M.w:M:=[[1,0,1,1,0],[1,1,0,0,1]]
noncomputable abbrev M.z:M:=[[1,-1,1,-1,1],[1,1,-1,1,-1]]
noncomputable abbrev P.A:P:=.k .A .B
noncomputable abbrev N.L:N:=.a .B .U
noncomputable abbrev N.M:N:=.a .A .U
noncomputable abbrev N.P:N:=.a .A .B
noncomputable abbrev P.B:P:=.e .A .B
noncomputable abbrev P.C:P:=.l .A .B
noncomputable abbrev N.Q:N:=.a .C .U
noncomputable abbrev N.R:N:=.a .B .C
noncomputable abbrev N.T:N:=.a .C .D
noncomputable abbrev P.G:P:=.k .A .C
noncomputable abbrev N.V:N:=.a .D .U
noncomputable abbrev N.X:N:=.a .F .U
noncomputable abbrev N.Y:N:=.a .A .C
noncomputable abbrev P.L:P:=.e .A .O
noncomputable abbrev P.M:P:=.k .C .B
noncomputable abbrev P.N:P:=.l .O .A
noncomputable abbrev P.R:P:=.k .U .A
noncomputable abbrev P.U:P:=.l .A .C
noncomputable abbrev N.a0:N:=.a .D .F
noncomputable abbrev N.a1:N:=.a .A .D
noncomputable abbrev P.a1:P:=.k .B .A
noncomputable abbrev P.a4:P:=.l .O .B
noncomputable abbrev P.a5:P:=.e .B .O
noncomputable abbrev P.a7:P:=.l .B .A
noncomputable abbrev P.aA:P:=.l .B .D
noncomputable abbrev P.aB:P:=.e .D .O
noncomputable abbrev P.aC:P:=.l .C .D
noncomputable abbrev P.aF:P:=.e .C .O
noncomputable abbrev P.aG:P:=.l .C .B
noncomputable abbrev P.aH:P:=.k .D .B
noncomputable abbrev P.aN:P:=.l .D .C
noncomputable abbrev P.aP:P:=.k .B .C
noncomputable abbrev P.aT:P:=.l .O .C
noncomputable abbrev P.aU:P:=.k .D .F
noncomputable abbrev N.a4:N:=.a .G .U
noncomputable abbrev P.aV:P:=.e .C .D
noncomputable abbrev N.a5:N:=.a .C .B
noncomputable abbrev P.aW:P:=.k .C .D
noncomputable abbrev N.a6:N:=.a .B .D
noncomputable abbrev P.aY:P:=.e .F .O
noncomputable abbrev P.b3:P:=.k .A .D
noncomputable abbrev N.a7:N:=.a .O .U
noncomputable abbrev N.a8:N:=.a .C .A
noncomputable abbrev P.bH:P:=.e .G .O
noncomputable abbrev P.bI:P:=.l .O .D
noncomputable abbrev P.bM:P:=.l .A .D
noncomputable abbrev P.bN:P:=.g .A .B
noncomputable abbrev P.bP:P:=.k .B .D
noncomputable abbrev P.bS:P:=.k .D .C
noncomputable abbrev P.bU:P:=.e .C .A
noncomputable abbrev P.bV:P:=.k .C .A
noncomputable abbrev P.bW:P:=.e .D .C
noncomputable abbrev P.bX:P:=.l .C .O
noncomputable abbrev P.D:P:=.il .A .B
noncomputable abbrev P.S:P:=.ie .A .B
noncomputable abbrev P.T:P:=.ik .O .A
noncomputable abbrev P.aK:P:=.ik .A .O
noncomputable abbrev P.b6:P:=.il .O .A
noncomputable abbrev P.Y:P:=.k .A (.n 56)
noncomputable abbrev P.aL:P:=.k .B (.n 56)
noncomputable abbrev P.bY:P:=.l .A (.n 64)
noncomputable abbrev P.b5:P:=.k .A (.n 456)
noncomputable abbrev P.W:P:=.ie .L .A
noncomputable abbrev P.a2:P:=.l .A .S
noncomputable abbrev P.bD:P:=.k .A .S
noncomputable abbrev P.J:P:=.l .A (.n (2^60))
noncomputable abbrev P.K:P:=.l .A (.n (2^40))
noncomputable abbrev P.bK:P:=.k .A (.n (2^24))
noncomputable abbrev P.bL:P:=.k .A (.n 16777216)
noncomputable abbrev P.aM:P:=.il .A .M
noncomputable abbrev P.a9:P:=.l .A (.n 1099511627776)
noncomputable abbrev P.F:P:=.l .P .C
noncomputable abbrev P.H:P:=.k .M .B
noncomputable abbrev P.I:P:=.l .A .L
noncomputable abbrev P.O:P:=.k .A .L
noncomputable abbrev N.Z:N:=.a .A .L
noncomputable abbrev P.Q:P:=.k .P .C
noncomputable abbrev P.V:P:=.e .a8 .B
noncomputable abbrev P.X:P:=.e (.a .D .A) .C
noncomputable abbrev P.a3:P:=.e .P .C
noncomputable abbrev P.a6:P:=.e (.a .B .F) .G
noncomputable abbrev P.a8:P:=.e .A .L
noncomputable abbrev N.a2:N:=.a .M .B
noncomputable abbrev N.a3:N:=.a .A .Q
noncomputable abbrev P.aX:P:=.k .U .M
noncomputable abbrev P.aZ:P:=.e (.a .G .A) .C
noncomputable abbrev P.b1:P:=.e .R .D
noncomputable abbrev P.b8:P:=.k .C .L
noncomputable abbrev P.b9:P:=.k .Y .D
noncomputable abbrev P.bA:P:=.k .U .P
noncomputable abbrev P.bB:P:=.e (.a .D .G) .F
noncomputable abbrev P.bF:P:=.l .Y .B
noncomputable abbrev P.bG:P:=.e .A .R
noncomputable abbrev E.X:E:=.a .A (.s .B .U)
noncomputable abbrev P.bQ:P:=.e .T .F
noncomputable abbrev P.bR:P:=.l .M .C
noncomputable abbrev P.bT:P:=.e .L .A
noncomputable abbrev P.c2:P:=.e (.a .B .G) .F
noncomputable abbrev P.c3:P:=.e (.a .B .F) .D
noncomputable abbrev P.c4:P:=.e (.a .F .A) .C
noncomputable abbrev E.T:E:=.a .L .P
noncomputable abbrev E.V:E:=.s .L .P
noncomputable abbrev P.aQ:P:=.ie .L (.g .A)
noncomputable abbrev P.b7:P:=.ie .L .P
noncomputable abbrev P.a0:P:=.ik (.g .M) .A
noncomputable abbrev E.R:E:=.s (.a .L .U) .A
noncomputable abbrev P.bZ:P:=.il .O (.a .L .U)
noncomputable abbrev P.aJ:P:=.ie .L (.g .P)
noncomputable abbrev P.aD:P:=.k .M .L
noncomputable abbrev P.aS:P:=.k .Z .C
noncomputable abbrev P.b2:P:=.e .Q .V
noncomputable abbrev P.bC:P:=.e (.a .C .M) .B
noncomputable abbrev P.c1:P:=.e (.a .A .X) .C
noncomputable abbrev P.c5:P:=.k (.a .M .U) .B
noncomputable abbrev P.aR:P:=.ie (.t (.m 25 .A)) (.m 25 .A)
noncomputable abbrev P.aI:P:=.ie (.a .A .U) (.t .M)
noncomputable abbrev P.b0:P:=.e (.a .B (.a .F .C)) .a0
noncomputable abbrev P.Z:P:=.ie (.s (.t .M) .U) .L
noncomputable abbrev P.b4:P:=.e (.a .P .Q) (.a .Z .C)
noncomputable abbrev P.bJ:P:=.e (.a .D (.a (.a (.a .F .A) .G) .B)) (.a (.a .C .F) .G)
noncomputable abbrev P.c0:P:=.e (.a .A (.a (.a .R .D) .F)) (.a (.a .G .B) .D)
end Ar
namespace Mine.Z
def dw:=fun {k0 k1 k2}=>@Ar.a1 [] [k0,k1,k2]
def gv:=fun {k0}=>@Ar.a1 [] [k0]
def bh:=fun {k0 k1}=>@Ar.a1 [] [k0,k1]
def wu:=fun {c0 c1}=>@Ar.a2 [c0,c1] []
def kc:=fun {c0 c1}=>@Ar.a1 [c0,c1] []
def lK:=fun {c0 c1 c2 c3}=>@Ar.a2 [c0,c1,c2,c3] []
def gr:=fun {k0 k1 k2}=>@Ar.a2 [] [k0,k1,k2]
def gn:=fun {k0 k1}=>@Ar.a2 [] [k0,k1]
def ee:=fun {k0 k1 k2 k3}=>@Ar.a2 [] [k0,k1,k2,k3]
def ky:=fun {k0 k1 k2 k3 k4}=>@Ar.a3 [] [k0,k1,k2,k3,k4]
def qc:=fun {k0 k1 k2}=>@Ar.a3 [] [k0,k1,k2]
def ke:=fun {c0}=>@Ar.a1 [c0] []
def rz:=fun {k0 k1 k2 k3}=>@Ar.a3 [] [k0,k1,k2,k3]
def jO:=fun {k0 k1 k2 k3 k4 k5}=>@Ar.a4 [] [k0,k1,k2,k3,k4,k5]
def AR:=fun {c0}=>@Ar.a0 [c0] []
def xi:=fun {k0 k1}=>@Ar.a0 [] [k0,k1]
def L2:=fun {k0 k1 k2 k3}=>@Ar.a0 [] [k0,k1,k2,k3]
def ic:=fun {k0}=>@Ar.a0 [] [k0]
def EY:=fun {c0 k0 k1}=>@Ar.a4 [c0] [k0,k1]
def EX:=fun {c0 k0 k1 k2}=>@Ar.a4 [c0] [k0,k1,k2]
def gR:=fun {k0 k1 k2 k3}=>@Ar.a4 [] [k0,k1,k2,k3]
def jN:=fun {k0 k1 k2 k3 k4 k5}=>@Ar.a5 [] [k0,k1,k2,k3,k4,k5]
def DN:=fun {k0 k1 k2 k3 k4}=>@Ar.a4 [] [k0,k1,k2,k3,k4]
def AP:=fun {k0 k1 k2 k3 k4 k5 k6}=>@Ar.a4 [] [k0,k1,k2,k3,k4,k5,k6]
def JI:=fun {k0}=>@Ar.a2 [] [k0]
def H6:=fun {k0 k1 k2 k3}=>@Ar.a1 [] [k0,k1,k2,k3]
def eF:=fun {k0 k1 k2 k3 k4 k5}=>@Ar.a3 [] [k0,k1,k2,k3,k4,k5]
def DO:=fun {k0 k1 k2}=>@Ar.a0 [] [k0,k1,k2]
def zu:=@Ar.a0 [] []
def KZ:=@Ar.a1 [] []
def EW:=fun {c0 c1 k0 k1 k2}=>@Ar.a5 [c0,c1] [k0,k1,k2]
def H4:=fun {k0 k1 k2 k3 k4 k5}=>@Ar.a6 [] [k0,k1,k2,k3,k4,k5]
def JK:=fun {c0 k0 k1}=>@Ar.a1 [c0] [k0,k1]
def JE:=fun {c0 c1 k0 k1}=>@Ar.a4 [c0,c1] [k0,k1]
def pQ:=fun {c0 k0 k1}=>@Ar.a3 [c0] [k0,k1]
def u4:=fun {c0 k0 k1}=>@Ar.a2 [c0] [k0,k1]
def JG:=fun {c0 c1 k0 k1}=>@Ar.a3 [c0,c1] [k0,k1]
def jQ:=fun {c0 k0}=>@Ar.a1 [c0] [k0]
def u0:=fun {c0 k0}=>@Ar.a3 [c0] [k0]
def rU:=fun {k0 k1 k2 k3 k4 k5 k6}=>@Ar.a5 [] [k0,k1,k2,k3,k4,k5,k6]
def DM:=fun {k0 k1 k2 k3 k4}=>@Ar.a5 [] [k0,k1,k2,k3,k4]
def pk:=fun {c0 k0}=>@Ar.a2 [c0] [k0]
def jP:=fun {k0 k1 k2 k3 k4}=>@Ar.a2 [] [k0,k1,k2,k3,k4]
def KV:=fun {k0 k1 k2}=>@Ar.a4 [] [k0,k1,k2]
def KW:=fun {k0 k1}=>@Ar.a3 [] [k0,k1]
def JL:=fun {c0 c1 c2}=>@Ar.a0 [c0,c1,c2] []
def EZ:=fun {c0 c1 k0}=>@Ar.a3 [c0,c1] [k0]
def AQ:=fun {c0}=>@Ar.a2 [c0] []
def lL:=fun {c0 c1 c2}=>@Ar.a2 [c0,c1,c2] []
def JD:=fun {k0 k1 k2 k3 k4 k5 k6}=>@Ar.a6 [] [k0,k1,k2,k3,k4,k5,k6]
def KS:=fun {k0 k1 k2 k3 k4 k5 k6 k7}=>@Ar.a7 [] [k0,k1,k2,k3,k4,k5,k6,k7]
def KR:=fun {k0 k1 k2 k3 k4 k5 k6 k7}=>@Ar.a8 [] [k0,k1,k2,k3,k4,k5,k6,k7]
def KU:=fun {k0 k1 k2 k3 k4 k5 k6}=>@Ar.a7 [] [k0,k1,k2,k3,k4,k5,k6]
def KY:=fun {k0 k1 k2 k3 k4}=>@Ar.a1 [] [k0,k1,k2,k3,k4]
def JF:=fun {k0 k1 k2 k3 k4 k5 k6}=>@Ar.a3 [] [k0,k1,k2,k3,k4,k5,k6]
def H5:=fun {k0 k1 k2 k3 k4 k5 k6}=>@Ar.a2 [] [k0,k1,k2,k3,k4,k5,k6]
def JH:=fun {k0 k1 k2 k3 k4 k5}=>@Ar.a2 [] [k0,k1,k2,k3,k4,k5]
def KX:=fun {k0 k1 k2 k3 k4 k5 k6}=>@Ar.a1 [] [k0,k1,k2,k3,k4,k5,k6]
def JJ:=fun {k0 k1 k2 k3 k4 k5}=>@Ar.a1 [] [k0,k1,k2,k3,k4,k5]
def L0:=fun {k0 k1 k2 k3 k4}=>@Ar.a0 [] [k0,k1,k2,k3,k4]
end Mine.Z
end
section
open PySem PySem.W PyProof.Rows
set_option maxHeartbeats 0
namespace Mine
noncomputable abbrev pw:Program:=PySem.Challenge.pw_dm0056_02
noncomputable abbrev an:Option Value:=some (Value.ref 6)
noncomputable abbrev p0:Pos:=⟨0,0,0,0⟩
noncomputable abbrev TB:String→Option Builtin:=PySem.W.Fast.tw14364793385576792824
noncomputable abbrev goT:=PySem.W.Fast.tw10295753902157049106
noncomputable abbrev HT:=PySem.W.Fast.tw10110043849684766642
noncomputable abbrev G4:Builtin:=PySem.W.Fast.tw4202317264376624991
noncomputable abbrev B0:List Frame:=[topFrame p0]
noncomputable def fF:Stmt→Str
 | .ClassDef _ _ _ (.Expr (.Constant (.str s) _ _) _::_) _ _ _ _ _ _ _=>s
 | _=>""
noncomputable def DC (d:Str):Stmt→Stmt
 | .ClassDef n b k (.Expr (.Constant (.str _) kk p1) p2::rest) dl tp sc ts bd sa pos=>.ClassDef n b k (.Expr (.Constant (.str d) kk p1) p2::rest) dl tp sc ts bd sa pos
 | s=>s
noncomputable def ES (i:Nat) (d:Str) (p:Program):Program:={ p with main:={ p.main with body:=p.main.body.modify i (DC d) } }
noncomputable def Ds:{ s:String // fF (pw.main.body.getD 5 default)=Str.ofString s }:=⟨_,rfl⟩
noncomputable def ER:{ cs:List Char // String.ofList cs=Ds.1 }:=⟨_,rfl⟩
noncomputable def J1:Str:=⟨(PySem.W.R.mapR Char.toNat ER.1).toArray⟩
theorem DD:fF (pw.main.body.getD 5 default)=J1:=by
 rw [Ds.2,← ER.2,Fast.ofString_ofList,PySem.W.R.mapR_eq];rfl
noncomputable def pwF:Program:=ES 5 J1 pw
theorem FW:pwF=pw:=by
 have h:ES 5 (fF (pw.main.body.getD 5 default)) pw=pw:=by kernel_rfl
 rw [DD] at h
 exact h
noncomputable def S0 (w:World) (os:OsState):Shared:=⟨boot_heap w.params,⟨[]⟩,boot_drawn,boot_toks,os⟩
noncomputable abbrev bE:List Stmt:=behindTheImports pw
noncomputable abbrev bF:List Stmt:=behindTheImports pwF
theorem JC:bF=bE:=bu behindTheImports FW
noncomputable abbrev D8:Env:={ scope:=pw.main.scope,locals:=mainNs,globals:=mainNs,cells:=[],code:=Value.ref 13,frame:=some 14 }
noncomputable abbrev cE:Code:=Code.body bE D8
noncomputable def X0 (w:World) (os:OsState):Option (Shared × Thread):=topGo TB pw w 11 an 12 (S0 w os) (topStub pw)
noncomputable def ob (w:World) (os:OsState) (i:Nat):Obj:=((X0 w os).elim (S0 w os) (·.1)).heap.objs.toList.getD i default
noncomputable def T4 (w:World) (os:OsState):BT :=
 .node (ob w os 0)
  (.node (ob w os 1) (.node (ob w os 3) (.node (ob w os 7) .nil .nil) (.node (ob w os 11) .nil .nil)) (.node (ob w os 5) (.node (ob w os 9) .nil .nil) (.node (ob w os 13) .nil .nil)))
  (.node (ob w os 2) (.node (ob w os 4) (.node (ob w os 8) .nil .nil) (.node (ob w os 12) .nil .nil)) (.node (ob w os 6) (.node (ob w os 10) .nil .nil) (.node (ob w os 14) .nil .nil)))
noncomputable def S4 (w:World) (os:OsState):SharedT:={ tree:=T4 w os,n:=15,life:={},gens:=⟨[]⟩,drawn:={},toks:=187,os:=os }
theorem pre:(fun w os=>topGo TB pw w 11 an 12 (S0 w os) (topStub pw))=fun w os=>some ((S4 w os).abs,⟨denote TB cE,cE,p0,B0⟩):=by kernel_rfl
theorem blk:(fun w os=>segRun TB pw w 11 an 1 1 (S4 w os).abs (blockOf bE D8 cE p0 B0))=fun w os=>some (Flow.next,(S4 w os).abs,cE,p0):=by kernel_rfl
theorem fin:(fun w c q s=>topRun TB pw w 11 an 2 s ⟨doneF .next,c,q,B0⟩)=fun w c q s=>some s:=by kernel_rfl
end Mine
end
section
open PySem PySem.W PyProof.Rows
set_option maxHeartbeats 0
namespace Mine
noncomputable def tO (as:Array Nat) (p:Nat→Bool) (start stop:Nat):Bool :=
 match Nat.beq start 0,Nat.beq stop as.size with
 | true,true=>PySem.W.R.anyR as.toList p
 | _,_=>Array.any as p start stop
theorem rC:@Array.any Nat=tO:=by
 funext as p start stop
 unfold tO
 split
 ·rename_i h1 h2
  have e1:=Nat.eq_of_beq_eq_true h1
  have e2:=Nat.eq_of_beq_eq_true h2
  subst e1 e2
  rw [← PySem.W.R.anyR_eq,Array.any_toList]
 ·rfl
noncomputable def th0:Thread:=piecesOf bF D8 cE p0 B0
noncomputable def XA (w:World) (os:OsState):Option (SharedT × Thread):=goT TB pw w 11 an 1 1958 (S4 w os) th0
noncomputable def sA (w:World) (os:OsState):SharedT:=(XA w os).elim (S4 w os) (·.1)
noncomputable def tA (w:World) (os:OsState):Thread:=(XA w os).elim th0 (·.2)
noncomputable def cR (t:Thread):Args:=match t.code with | .builtin _ a=>a | _=>{}
theorem atA:(fun w os=>((XA w os).isSome,(tA w os).cur))=fun w os=>(true,G4 (cR (tA w os))):=by kernel_rfl
end Mine
end
section
set_option tactic.hygienic true
namespace MP
set_option genSizeOf false
set_option genInjectivity false
open PySem
structure EV where
 ks:List Expr
 s:Str
 k:Nat
 op:BoolOp
 g:List Comprehension × Scope
 b:Option Expr × Option Expr
 c:Const
noncomputable def vk (ks:List Expr):EV:=⟨ks,"",0,.And,([],default),(none,none),.none⟩
noncomputable def v0:EV:=vk []
noncomputable def vw (x:Expr):EV:=Expr.casesOn (motive_1:=fun _=>EV) x
 (fun op xs _=>⟨xs,"",0,op,([],default),(none,none),.none⟩)
 (fun _ _ _=>v0)
 (fun l _ r _=>vk [l,r])
 (fun _ y _=>vk [y])
 (fun _ _ _ _=>v0)
 (fun u y z _=>vk [u,y,z])
 (fun _ _ _=>v0)
 (fun _ _ _=>v0)
 (fun y gs sc _=>⟨[y],"",0,.And,(gs,sc),(none,none),.none⟩)
 (fun _ _ _ _=>v0)
 (fun _ _ _ _ _=>v0)
 (fun _ _ _ _=>v0)
 (fun _ _=>v0)
 (fun _ _=>v0)
 (fun _ _=>v0)
 (fun l _ r _=>vk (l::r))
 (fun f xs _ _=>vk (f::xs))
 (fun _ _ _ _=>v0)
 (fun _ _=>v0)
 (fun c k _=>⟨[],"",k,.And,([],default),(none,none),c⟩)
 (fun y _ _=>vk [y])
 (fun y z _=>vk [y,z])
 (fun _ _=>v0)
 (fun y _=>⟨[],y,0,.And,([],default),(none,none),.none⟩)
 (fun xs _=>vk xs)
 (fun xs k _=>⟨xs,"",k,.And,([],default),(none,none),.none⟩)
 (fun l h st _=>⟨st.toList,"",0,.And,([],default),(l,h),.none⟩)
noncomputable def dX (k:Nat) (x:Expr):Bool:=Nat.beq x.ctorIdx k
noncomputable def kids (x:Expr):List Expr:=(vw x).ks
noncomputable def kid (i:Nat) (x:Expr):Expr:=(kids x).getD i default
noncomputable def ll (x:Expr):Str:=(vw x).s
noncomputable def exK (x:Expr):Nat:=(vw x).k
noncomputable def zZ (x:Expr):Str:=match (vw x).c with
 | .str t=>t
 | _=>""
structure SV where
 es:List Expr
 b:List Stmt
 c:List Stmt
noncomputable def s0:SV:=⟨[],[],[]⟩
noncomputable def sw (x:Stmt):SV:=Stmt.casesOn (motive_2:=fun _=>SV) x
 (fun _ _ _ _ _ _ _ _ _ _=>s0)
 (fun _ _ _ _ _ _ _ _ _ _=>s0)
 (fun _ _ _ b _ _ _ _ _ _ _=>⟨[],b,[]⟩)
 (fun e _=>⟨e.toList,[],[]⟩)
 (fun ts _=>⟨ts,[],[]⟩)
 (fun ts e _=>⟨e::ts,[],[]⟩)
 (fun _ _ _ _ _ _ _=>s0)
 (fun t _ e _=>⟨[e,t],[],[]⟩)
 (fun _ _ _ _ _=>s0)
 (fun t e b _ _=>⟨[e,t],b,[]⟩)
 (fun _ _ _ _ _=>s0)
 (fun e b _ _=>⟨[e],b,[]⟩)
 (fun e b c _=>⟨[e],b,c⟩)
 (fun _ _ _=>s0)
 (fun _ _ _=>s0)
 (fun _ _ _=>s0)
 (fun _ _ _=>s0)
 (fun _ _ _ _ _=>s0)
 (fun _ _ _ _ _=>s0)
 (fun _ _ _=>s0)
 (fun _ _=>s0)
 (fun _ _ _ _=>s0)
 (fun _ _=>s0)
 (fun _ _=>s0)
 (fun e _=>⟨[e],[],[]⟩)
 (fun _=>s0)
 (fun _=>s0)
 (fun _=>s0)
noncomputable def vn (x:Stmt):List Expr:=(sw x).es
noncomputable def st0 (x:Stmt):Expr:=(vn x).headD default
end MP
end
section
namespace MP
set_option genSizeOf false
open PySem
inductive Key where
 | int (i:Int)
 | str (s:Str)
 deriving DecidableEq
inductive V where
 | none
 | bool (b:Bool)
 | int (i:Int)
 | str (s:Str)
 | lst (a:Addr)
 | dct (a:Addr)
 | set (a:Addr)
 | obj (a:Addr)
 | tup (xs:List V)
 | mt (xs:List V)
 | zt (a:Addr)
 | cD (a:Addr)
 | clo (k:Nat) (cs:List V)
 | ro (ns:List Int)
noncomputable def V.iW:V→Option Key
 | .int i=>some (.int i)
 | .str s=>some (.str s)
 | _=>Option.none
noncomputable def Key.v:Key→V
 | .int i=>.int i
 | .str s=>.str s
structure St where
 L:Addr→Option (List V)
 D:Addr→Option (List (Key × V))
 S:Addr→Option (List Key)
 I:Addr→Option (Addr × (Nat→Option V))
 Z:Addr→Option Obj
noncomputable abbrev Fr:=Nat→Option V
noncomputable def upd {α:Type} (f:Nat→Option α) (i:Nat) (v:α):Nat→Option α:=fun j=>if j=i then some v else f j
theorem bg {α:Type} (f:Nat→Option α) (i:Nat) (v:α):upd f i v i=some v:=by simp [upd]
theorem dq {α:Type} {f:Nat→Option α} {i j:Nat} {v:α} (h:j≠i):upd f i v j=f j:=by simp [upd,h]
noncomputable def St.fg (σ:St) (a:Addr) (xs:List V):St:={ σ with L:=upd σ.L a xs }
noncomputable def clr {α:Type} (f:Nat→Option α) (i:Nat):Nat→Option α:=fun j=>if j=i then none else f j
theorem jJ {α:Type} {f:Nat→Option α} {i j:Nat} {v:α} (h:clr f i j=some v):j≠i∧f j=some v:=by
 unfold clr at h
 by_cases q:j=i
 ·rw [bx q] at h;cases h
 ·rw [aw q] at h;exact⟨q,h⟩
theorem AD {α:Type} {f:Nat→Option α} {i j:Nat} (h:j≠i):clr f i j=f j:=aw h
noncomputable def St.mx (σ:St) (a:Addr) (es:List (Key × V)):St:={ σ with D:=upd σ.D a es,Z:=clr σ.Z a }
noncomputable def St.dG (σ:St) (a:Addr) (ks:List Key):St:={ σ with S:=upd σ.S a ks,Z:=clr σ.Z a }
noncomputable def St.zm (σ:St) (a:Addr) (o:Obj):St:={ σ with Z:=upd σ.Z a o }
noncomputable def St.ju (σ:St) (a:Addr) (d:Addr) (f:Nat→Option V):St:={ σ with I:=upd σ.I a (d,f) }
noncomputable def St.dom (σ:St) (b:Addr):Prop:=(σ.L b).isSome∨(σ.D b).isSome∨(σ.S b).isSome∨(σ.I b).isSome∨(σ.Z b).isSome∨∃ a f,σ.I a=some (b,f)
set_option genInjectivity false
inductive Bop where
 | add | sub | mul | fdiv | mod | pow
 deriving DecidableEq
inductive Cop where
 | eq | ne | lt | le | gt | ge | is | isNot | isIn | notIn
 deriving DecidableEq
inductive BM where
 | append
 | insert | extend
 | index | count | get | setdefault | add
 deriving DecidableEq
inductive BF where
 | len
 | lrange
 | min | max | set
 | minL | maxL | sorted
 deriving DecidableEq
inductive Tg where
 | var (x:Nat)
 | tup (xs:List Nat)
mutual
inductive Ex where
 | none
 | bool (b:Bool)
 | int (i:Int)
 | str (s:Str)
 | loc (x:Nat)
 | bin (op:Bop) (a b:Ex)
 | neg (a:Ex)
 | not (a:Ex)
 | and (a b:Ex)
 | or (a b:Ex)
 | cmp (op:Cop) (a b:Ex)
 | ite (c a b:Ex)
 | lst (es:Exs)
 | tup (es:Exs)
 | dct0
 | call (f:Nat) (es:Exs)
 | meth (e:Ex) (m:Nat) (es:Exs)
 | attr (e:Ex) (a:Nat)
 | dgetOf (e:Ex)
 | shasOf (e:Ex)
 | bm (k:BM) (e:Ex) (es:Exs)
 | bf (k:BF) (es:Exs)
 | callv (f:Nat) (es:Exs)
 | sub (e i:Ex)
 | slc (e lo hi:Ex)
 | rev (e:Ex)
 | comp (fv:List (Nat × Nat)) (it:It) (t:Tg) (cs:Exs) (more:Gens)
 | newM (es:Exs)
 | newMatch (a b c:Ex)
 | dead
inductive Exs where
 | nil
 | cons (e:Ex) (es:Exs)
inductive It where
 | rng1 (e:Ex)
 | rng2 (a b:Ex)
 | enum (e:Ex)
 | seq (e:Ex)
 | keys (e:Ex)
 | items (e:Ex)
inductive Gens where
 | elt (e:Ex)
 | cons (it:It) (t:Tg) (cs:Exs) (more:Gens)
end
inductive Tgt where
 | var (x:Nat)
 | attr (o:Ex) (a:Nat)
 | sub (o i:Ex)
 | tup (xs:List Nat)
mutual
inductive Stm where
 | assign (ts:List Tgt) (e:Ex)
 | aug (x:Nat) (op:Bop) (e:Ex)
 | delD (o i:Ex)
 | expr (e:Ex)
 | cond (c:Ex) (t e:jt)
 | loop (c:Ex) (b:jt)
 | each (t:Tg) (it:It) (b:jt)
 | ret (e:Ex)
 | brk
 | cont
 | pass
 | dead
inductive jt where
 | nil
 | cons (s:Stm) (ss:jt)
end
inductive Fl where
 | next | brk | cont
 | ret (v:V)
noncomputable def jF (σ:St):Nat→V→Option PyData
 | _,.none=>some .none
 | _,.bool b=>some (.bool b)
 | _,.int i=>some (.int i)
 | _,.str s=>if PyData.strOk s then some (.str s) else Option.none
 | n+1,.tup xs=>(xs.mapM (jF σ n)).map .tuple
 | n+1,.lst a=>(σ.L a).bind fun xs=>(xs.mapM (jF σ n)).map .list
 | _,_=>Option.none
noncomputable def aq:Nat:=1000000
noncomputable def zN (a b:Int):Prop:=a.natAbs<2^60∨b.natAbs<2^60
noncomputable def vInt:V→Option Int
 | .int i=>some i | _=>none
noncomputable def vStr:V→Option Str
 | .str i=>some i | _=>none
noncomputable def gJ:V→Option Addr
 | .lst i=>some i | _=>none
noncomputable def BE:V→Option Addr
 | .dct i=>some i | _=>none
noncomputable def FD:V→Option Addr
 | .obj i=>some i | _=>none
noncomputable def vRo:V→Option (List Int)
 | .ro i=>some i | _=>none
noncomputable def F9:V→Option (List V)
 | .tup i=>some i | _=>none
theorem gb {α:Type} {x:α} {p:Prop} (h:none=some x):p:=by cases h
theorem nu {v:V} {i:Int} (h:vInt v=some i):v=.int i:=by
 cases v<;>first | exact bu _ (ae h) | exact gb h
theorem yx {v:V} {i:Str} (h:vStr v=some i):v=.str i:=by
 cases v<;>first | exact bu _ (ae h) | exact gb h
theorem cZ {v:V} {i:Addr} (h:gJ v=some i):v=.lst i:=by
 cases v<;>first | exact bu _ (ae h) | exact gb h
theorem BD {v:V} {i:Addr} (h:BE v=some i):v=.dct i:=by
 cases v<;>first | exact bu _ (ae h) | exact gb h
theorem s9 {v:V} {i:Addr} (h:FD v=some i):v=.obj i:=by
 cases v<;>first | exact bu _ (ae h) | exact gb h
theorem FC {v:V} {i:List Int} (h:vRo v=some i):v=.ro i:=by
 cases v<;>first | exact bu _ (ae h) | exact gb h
theorem BC {v:V} {i:List V} (h:F9 v=some i):v=.tup i:=by
 cases v<;>first | exact bu _ (ae h) | exact gb h
noncomputable def sf (v:V) (f:Int→Prop):Prop:=match v with
 | .int i=>f i
 | _=>False
theorem pb {v:V} {f:Int→Prop} (h:sf v f):∃ i,v=.int i∧f i:=by
 cases v<;>first | exact⟨_,rfl,h⟩ | exact False.elim h
noncomputable def zy (v:V) (f:Addr→Prop):Prop:=match v with
 | .lst i=>f i
 | _=>False
theorem vu {v:V} {f:Addr→Prop} (h:zy v f):∃ i,v=.lst i∧f i:=by
 cases v<;>first | exact⟨_,rfl,h⟩ | exact False.elim h
noncomputable def dK (v:V) (f:Addr→Prop):Prop:=match v with
 | .dct i=>f i
 | _=>False
theorem tx {v:V} {f:Addr→Prop} (h:dK v f):∃ i,v=.dct i∧f i:=by
 cases v<;>first | exact⟨_,rfl,h⟩ | exact False.elim h
noncomputable def onSet (v:V) (f:Addr→Prop):Prop:=match v with
 | .set i=>f i
 | _=>False
theorem t8 {v:V} {f:Addr→Prop} (h:onSet v f):∃ i,v=.set i∧f i:=by
 cases v<;>first | exact⟨_,rfl,h⟩ | exact False.elim h
noncomputable def on0 (vs:List V) (p:Prop):Prop:=match vs with
 | []=>p
 | _::_=>False
noncomputable def on1 (vs:List V) (f:V→Prop):Prop:=match vs with
 | []=>False
 | v::r=>on0 r (f v)
noncomputable def on2 (vs:List V) (f:V→V→Prop):Prop:=match vs with
 | []=>False
 | v::r=>on1 r (f v)
noncomputable def on3 (vs:List V) (f:V→V→V→Prop):Prop:=match vs with
 | []=>False
 | v::r=>on2 r (f v)
theorem EG {vs:List V} {p:Prop} (h:on0 vs p):vs=[]∧p:=by
 cases vs
 ·exact⟨rfl,h⟩
 ·exact False.elim h
theorem dM {vs:List V} {f:V→Prop} (h:on1 vs f):∃ v,vs=[v]∧f v:=by
 cases vs with
 | nil=>exact False.elim h
 | cons v r=>obtain⟨rfl,h⟩:=EG (p:=f v) h;exact⟨v,rfl,h⟩
theorem iL {vs:List V} {f:V→V→Prop} (h:on2 vs f):∃ v u,vs=[v,u]∧f v u:=by
 cases vs with
 | nil=>exact False.elim h
 | cons v r=>obtain⟨u,rfl,h⟩:=dM (f:=f v) h;exact⟨v,u,rfl,h⟩
theorem I2 {vs:List V} {f:V→V→V→Prop} (h:on3 vs f):∃ v u z,vs=[v,u,z]∧f v u z:=by
 cases vs with
 | nil=>exact False.elim h
 | cons v r=>obtain⟨u,z,rfl,h⟩:=iL (f:=f v) h;exact⟨v,u,z,rfl,h⟩
noncomputable def pW (op:Bop) (a b:Int) (σ:St) (Q:V→St→Prop):Prop:=match op with
 | .add=>Q (.int (a+b)) σ
 | .sub=>Q (.int (a-b)) σ
 | .mul=>zN a b∧Q (.int (a*b)) σ
 | .fdiv=>b≠0∧b.natAbs<2^60∧Q (.int (a.fdiv b)) σ
 | .mod=>b≠0∧Q (.int (a.fmod b)) σ
 | .pow=>0≤b∧b≤1000∧a.natAbs<2^64∧Q (.int (a^b.toNat)) σ
noncomputable def itemsOf (a:V) (σ:St):Option (List V):=match gJ a with
 | some l=>σ.L l
 | none=>(vRo a).map fun ns=>ns.map V.int
noncomputable def EA (a:V) (b:Addr) (σ:St) (Q:V→St→Prop):Prop:=∃ xs ys,itemsOf a σ=some xs∧σ.L b=some ys∧xs.length+ys.length≤aq∧∀ c,σ.L c=Option.none→Q (.lst c) (σ.fg c (xs++ys))
noncomputable def DZ (a:Addr) (n:Int) (σ:St) (Q:V→St→Prop):Prop:=∃ xs,σ.L a=some xs∧xs.length*n.toNat≤aq∧n.natAbs<2^60∧∀ c,σ.L c=Option.none→Q (.lst c) (σ.fg c ((List.replicate n.toNat xs).flatten))
noncomputable def xv (op:Bop) (a b:V) (σ:St) (Q:V→St→Prop):Prop:=match vInt a,vInt b with
 | some i,some j=>pW op i j σ Q
 | none,some n=>match op,gJ a with
  | .mul,some l=>DZ l n σ Q
  | _,_=>False
 | none,none=>match op,gJ b with
  | .add,some m=>EA a m σ Q
  | _,_=>False
 | _,_=>False
theorem nX {op:Bop} {a b:V} {σ:St} {Q:V→St→Prop} (h:xv op a b σ Q):(∃ i j,a=.int i∧b=.int j∧pW op i j σ Q)∨(op=.mul∧∃ l n,a=.lst l∧b=.int n∧DZ l n σ Q)∨(op=.add∧∃ m,b=.lst m∧EA a m σ Q):=by
 unfold xv at h
 cases e1:vInt a with
 | some i =>
  cases e2:vInt b with
  | some j=>rw [e1,e2] at h;exact .inl ⟨i,j,nu e1,nu e2,h⟩
  | none=>rw [e1,e2] at h;exact h.elim
 | none =>
  cases e2:vInt b with
  | some j =>
   rw [e1,e2] at h
   cases e3:gJ a with
   | none=>rw [e3] at h;cases op<;>exact h.elim
   | some l =>
    rw [e3] at h
    cases op with
    | mul=>exact .inr (.inl ⟨rfl,l,j,cZ e3,nu e2,h⟩)
    | _=>exact h.elim
  | none =>
   rw [e1,e2] at h
   cases e3:gJ b with
   | none=>rw [e3] at h;cases op<;>exact h.elim
   | some m =>
    rw [e3] at h
    cases op with
    | add=>exact .inr (.inr ⟨rfl,m,cZ e3,h⟩)
    | _=>exact h.elim
noncomputable def s7 (a b:V) (σ:St) (K:Bool→Prop):Prop:=∃ d e,jF σ 6 a=some d∧jF σ 6 b=some e∧K (PyData.eqv d e)
noncomputable def pV (a b:V) (σ:St) (K:Bool→Prop):Prop:=match vInt a with
 | some i=>match vInt b with
  | some j=>K (i==j)
  | none=>s7 a b σ K
 | none=>match vStr a with
  | some x=>match vStr b with
   | some y=>K (x==y)
   | none=>s7 a b σ K
  | none=>s7 a b σ K
theorem gZ {a b:V} {σ:St} {K:Bool→Prop} (h:pV a b σ K):(∃ i j,a=.int i∧b=.int j∧K (i==j))∨(∃ x y,a=.str x∧b=.str y∧K (x==y))∨s7 a b σ K:=by
 unfold pV at h
 cases e1:vInt a with
 | some i =>
  rw [e1] at h
  cases e2:vInt b with
  | some j=>rw [e2] at h;exact .inl ⟨i,j,nu e1,nu e2,h⟩
  | none=>rw [e2] at h;exact .inr (.inr h)
 | none =>
  rw [e1] at h
  cases e3:vStr a with
  | none=>rw [e3] at h;exact .inr (.inr h)
  | some x =>
   rw [e3] at h
   cases e2:vStr b with
   | some y=>rw [e2] at h;exact .inr (.inl ⟨x,y,yx e3,yx e2,h⟩)
   | none=>rw [e2] at h;exact .inr (.inr h)
noncomputable def isNone:V→Bool
 | .none=>true
 | _=>false
noncomputable def E9 (b:Addr) (v:V) (σ:St) (K:Bool→Prop):Prop:=match v with
 | .lst a=>(σ.L a).isSome∧(σ.L b).isSome∧K (a==b)
 | .none=>K false
 | _=>False
noncomputable def B4 (v w:V) (σ:St) (K:Bool→Prop):Prop:=match w with
 | .none=>K (isNone v)
 | .lst b=>E9 b v σ K
 | _=>False
noncomputable def B5 (a b:V) (σ:St) (K:Bool→Prop):Prop:=sf a fun i=>zy b fun l=>∃ ns:List Int,σ.L l=some (ns.map V.int)∧K (ns.contains i)
noncomputable def K7 (op:Cop) (a b:Int) (K:Bool→Prop):Prop:=match op with
 | .lt=>K (decide (a<b))
 | .le=>K (decide (a≤b))
 | .gt=>K (decide (b<a))
 | .ge=>K (decide (b≤a))
 | _=>False
noncomputable def E8 (op:Cop) (a b:V) (K:Bool→Prop):Prop:=sf a fun i=>sf b fun j=>K7 op i j K
noncomputable def cY:Cop→V→V→St→(Bool→Prop)→Prop
 | .eq,a,b,σ,K=>pV a b σ K
 | .ne,a,b,σ,K=>pV a b σ fun r=>K (!r)
 | .is,a,b,σ,K=>B4 a b σ K
 | .isNot,a,b,σ,K=>B4 a b σ fun r=>K (!r)
 | .isIn,a,b,σ,K=>B5 a b σ K
 | .notIn,a,b,σ,K=>B5 a b σ fun r=>K (!r)
 | op,a,b,σ,K=>E8 op a b K
noncomputable def pz:V→St→(Bool→Prop)→Prop
 | .none,_,K=>K false
 | .bool b,_,K=>K b
 | .int i,_,K=>K (i != 0)
 | .str s,_,K=>s.cps.size≤aq∧K (s.cps.size != 0)
 | .lst a,σ,K=>∃ xs,σ.L a=some xs∧K (!xs.isEmpty)
 | .ro ns,_,K=>ns.length≤aq∧K (!ns.isEmpty)
 | .clo _ _,_,K=>K true
 | _,_,_=>False
noncomputable def fb (n:Nat) (i:Int):Int:=if i<0 then i+n else i
noncomputable def dh (n:Nat) (i:Int):Nat:=min n (fb n i).toNat
noncomputable def nU (a b:V) (σ:St) (K:V→Prop):Prop:=match a with
 | .lst a=>sf b fun i=>∃ xs v,σ.L a=some xs∧0≤fb xs.length i∧xs[(fb xs.length i).toNat]?=some v∧K v
 | .ro ns=>sf b fun i=>∃ n,ns.length≤aq∧0≤fb ns.length i∧ns[(fb ns.length i).toNat]?=some n∧K (.int n)
 | .tup xs=>sf b fun i=>∃ v,i.natAbs<2^60∧0≤fb xs.length i∧xs[(fb xs.length i).toNat]?=some v∧K v
 | .dct a=>∃ es kk v,σ.D a=some es∧b.iW=some kk∧es.lookup kk=some v∧K v
 | _=>False
noncomputable def ye (d:Nat):V→Option Int
 | .none=>some d
 | .int i=>some i
 | _=>Option.none
noncomputable def rZ (a lo hi:V) (σ:St) (Q:V→St→Prop):Prop:=match a with
 | .lst a=>∃ xs i j,σ.L a=some xs∧ye 0 lo=some i∧ye xs.length hi=some j∧i.natAbs<2^60∧j.natAbs<2^60 ∧
   ∀ c,σ.L c=Option.none→Q (.lst c) (σ.fg c ((xs.take (dh xs.length j)).drop (dh xs.length i)))
 | .ro ns=>∃ i j,ns.length≤aq∧ye 0 lo=some i∧ye ns.length hi=some j∧i.natAbs<2^60∧j.natAbs<2^60 ∧
   ∀ c,σ.L c=Option.none→Q (.lst c) (σ.fg c (((ns.take (dh ns.length j)).drop (dh ns.length i)).map V.int))
 | _=>False
noncomputable def DY (v:V) (σ:St) (Q:V→St→Prop):Prop:=zy v fun a=>∃ xs,σ.L a=some xs∧∀ c,σ.L c=Option.none→Q (.lst c) (σ.fg c xs.reverse)
noncomputable def putD (es:List (Key × V)) (k:Key) (v:V):List (Key × V) :=
 if es.any (fun e=>e.1==k) then es.map (fun e=>if e.1=k then (k,v) else e) else es++[(k,v)]
noncomputable def delD (es:List (Key × V)) (k:Key):List (Key × V):=es.filter fun e=>e.1 != k
noncomputable def jn:List Int→List Int→Bool
 | a::as,b::bs=>if a=b then jn as bs else decide (a<b)
 | _,_=>false
noncomputable def tI (t:Int × Int × Int):V:=.tup [.int t.1,.int t.2.1,.int t.2.2]
noncomputable def mtV (t:Int × Int × Int):V:=.mt [.int t.1,.int t.2.1,.int t.2.2]
noncomputable def HJ (k:BM) (v:V) (vs:List V) (σ:St) (Q:V→St→Prop):Prop:=match k with
 | .append=>zy v fun a=>on1 vs fun x=>∃ xs,σ.L a=some xs∧xs.length<aq∧Q .none (σ.fg a (xs++[x]))
 | .insert=>False
 | .extend=>False
 | .index=>False
 | .count=>False
 | .get=>dK v fun a=>on2 vs fun k d=>∃ es kk,σ.D a=some es∧k.iW=some kk∧Q ((es.lookup kk).getD d) σ
 | .setdefault=>dK v fun a=>on2 vs fun k d=>∃ es kk,σ.D a=some es∧k.iW=some kk∧es.length<aq∧Q ((es.lookup kk).getD d) (σ.mx a (if (es.lookup kk).isSome then es else es++[(kk,d)]))
 | .add=>onSet v fun a=>on1 vs fun k=>sf k fun i=>∃ ks,σ.S a=some ks∧ks.length<4000∧Q .none (σ.dG a (if Key.int i∈ks then ks else ks++[Key.int i]))
noncomputable def J9 (k:BM) (v:V) (σ:St):Prop:=match k with
 | .get=>dK v fun a=>(σ.D a).isSome=true
 | .setdefault=>dK v fun a=>(σ.D a).isSome=true
 | .add=>onSet v fun a=>(σ.S a).isSome=true
 | _=>zy v fun a=>(σ.L a).isSome=true
noncomputable def HH (v:V) (σ:St) (Q:V→St→Prop):Prop:=match v with
 | .lst a=>∃ xs,σ.L a=some xs∧Q (.int xs.length) σ
 | .tup xs=>xs.length≤aq∧Q (.int xs.length) σ
 | .ro ns=>ns.length≤aq∧Q (.int ns.length) σ
 | .dct a=>∃ es,σ.D a=some es∧Q (.int es.length) σ
 | _=>False
noncomputable def lQ (k:BF) (vs:List V) (σ:St) (Q:V→St→Prop):Prop:=match k with
 | .len=>on1 vs fun v=>HH v σ Q
 | .lrange=>on1 vs fun v=>sf v fun n=>0≤n∧n≤aq∧∀ c,σ.L c=Option.none→Q (.lst c) (σ.fg c ((List.range n.toNat).map fun i:Nat=>V.int i))
 | .min=>on2 vs fun v u=>sf v fun a=>sf u fun b=>Q (.int (min a b)) σ
 | .max=>on2 vs fun v u=>sf v fun a=>sf u fun b=>Q (.int (max a b)) σ
 | .set=>on0 vs (∀ c,σ.S c=Option.none→σ.D c=Option.none→Q (.set c) (σ.dG c []))
 | .minL=>on1 vs fun v=>zy v fun a=>∃ ts:List (Int × Int × Int),σ.L a=some (ts.map tI)∧ts≠[]∧∀ t∈ts,(∀ u∈ts,jn [u.1,u.2.1,u.2.2] [t.1,t.2.1,t.2.2]=false)→Q (tI t) σ
 | .maxL=>on1 vs fun v=>zy v fun a=>∃ ns:List Int,σ.L a=some (ns.map V.int)∧ns≠[]∧∀ m∈ns,(∀ n∈ns,n≤m)→Q (.int m) σ
 | .sorted=>on1 vs fun v=>zy v fun a=>∃ ns:List Int,σ.L a=some (ns.map V.int)∧ns.length<64∧∀ ns':List Int,ns'.Perm ns→ns'.Pairwise (·≤·)→∀ c,σ.L c=Option.none→Q (.lst c) (σ.fg c (ns'.map V.int))
noncomputable def HN:V→St→Option (List V)
 | .tup vs,_=>some vs
 | .mt vs,_=>some vs
 | .lst a,σ=>σ.L a
 | _,_=>Option.none
noncomputable def mu:List Nat→List V→Fr→Fr
 | x::xs,v::vs,ρ=>mu xs vs (upd ρ x v)
 | _,_,ρ=>ρ
noncomputable def lq:Tg→V→St→Fr→(Fr→Prop)→Prop
 | .var x,v,_,ρ,K=>K (upd ρ x v)
 | .tup xs,v,σ,ρ,K=>∃ vs,HN v σ=some vs∧xs.length=vs.length∧K (mu xs vs ρ)
noncomputable def qr (a b:Int):List V:=(List.range (b-a).toNat).map fun i:Nat=>V.int (a+i)
noncomputable abbrev Cal:=Nat→List V→St→(V→St→Prop)→Prop
noncomputable def H7 (f:V) (vs:List V) (C:Cal) (nclo:Nat) (σ:St) (Q:V→St→Prop):Prop:=match f with
 | .zt a=>on2 vs fun k d=>∃ es kk,σ.D a=some es∧k.iW=some kk∧Q ((es.lookup kk).getD d) σ
 | .cD a=>on1 vs fun k=>∃ ks kk,σ.S a=some ks∧k.iW=some kk∧Q (.bool (decide (kk∈ks))) σ
 | .clo k cs=>C (nclo+k) (vs++cs) σ Q
 | _=>False
noncomputable def yg (fv:List (Nat × Nat)) (ρ:Fr):Fr:=fun i=>(fv.lookup i).bind ρ
noncomputable def gQ:List V→(St→Prop)→(V→Fr→List V→St→(Fr→List V→St→Prop)→Prop)→Fr→List V→St→(Fr→List V→St→Prop)→Prop
 | [],G,_,ρ,acc,σ,K=>G σ∧K ρ acc σ
 | v::vs,G,T,ρ,acc,σ,K=>G σ∧T v ρ acc σ fun ρ acc σ=>gQ vs G T ρ acc σ K
noncomputable def DX (v:V) (σ:St) (K:List V→(St→Prop)→St→Prop):Prop:=match v with
 | .lst a=>∃ xs,σ.L a=some xs∧K xs (fun τ=>τ.L a=some xs) σ
 | .tup xs=>K xs (fun _=>True) σ
 | .set a=>∃ ks,σ.S a=some ks∧∀ (o:Obj) (ks':List Key),(∀ k,k∈ks'↔k∈ks)→ks'.length=ks.length→K (ks'.map Key.v) (fun τ=>τ.Z a=some o) (σ.zm a o)
 | _=>False
noncomputable def wN (v:V) (σ:St) (K:List V→(St→Prop)→St→Prop):Prop:=dK v fun a=>∃ es,σ.D a=some es∧∀ o:Obj,K (es.map fun e=>e.1.v) (fun τ=>τ.Z a=some o) (σ.zm a o)
noncomputable def s6 (v:V) (σ:St) (K:List V→(St→Prop)→St→Prop):Prop:=dK v fun a=>∃ es,σ.D a=some es∧∀ o:Obj,K (es.map fun e=>V.tup [e.1.v,e.2]) (fun τ=>τ.Z a=some o) (σ.zm a o)
mutual
noncomputable def wpE (C:Cal):Ex→Fr→St→(V→St→Prop)→Prop
 | .none,_,σ,Q=>Q .none σ
 | .bool b,_,σ,Q=>Q (.bool b) σ
 | .int i,_,σ,Q=>Q (.int i) σ
 | .str s,_,σ,Q=>Q (.str s) σ
 | .loc x,ρ,σ,Q=>∃ v,ρ x=some v∧Q v σ
 | .bin op a b,ρ,σ,Q=>wpE C a ρ σ fun va σ=>wpE C b ρ σ fun vb σ=>xv op va vb σ Q
 | .neg a,ρ,σ,Q=>wpE C a ρ σ fun v σ=>∃ i,v=.int i∧Q (.int (-i)) σ
 | .not a,ρ,σ,Q=>wpE C a ρ σ fun v σ=>pz v σ fun b=>Q (.bool !b) σ
 | .and a b,ρ,σ,Q=>wpE C a ρ σ fun v σ=>pz v σ fun t=>if t then wpE C b ρ σ Q else Q v σ
 | .or a b,ρ,σ,Q=>wpE C a ρ σ fun v σ=>pz v σ fun t=>if t then Q v σ else wpE C b ρ σ Q
 | .cmp op a b,ρ,σ,Q=>wpE C a ρ σ fun va σ=>wpE C b ρ σ fun vb σ=>cY op va vb σ fun r=>Q (.bool r) σ
 | .ite c a b,ρ,σ,Q=>wpT C c ρ σ fun t σ=>if t then wpE C a ρ σ Q else wpE C b ρ σ Q
 | .lst es,ρ,σ,Q=>so C es ρ σ fun vs σ=>vs.length≤aq∧∀ c,σ.L c=Option.none→Q (.lst c) (σ.fg c vs)
 | .tup es,ρ,σ,Q=>so C es ρ σ fun vs σ=>vs.length≤aq∧Q (.tup vs) σ
 | .dct0,_,σ,Q=>∀ c,σ.D c=Option.none→Q (.dct c) (σ.mx c [])
 | .call f es,ρ,σ,Q=>so C es ρ σ fun vs σ=>C f vs σ Q
 | .meth e m es,ρ,σ,Q=>wpE C e ρ σ fun v σ=>∃ a,v=.obj a∧(σ.I a).isSome∧so C es ρ σ fun vs σ=>C m (v::vs) σ Q
 | .attr e x,ρ,σ,Q=>wpE C e ρ σ fun v σ=>∃ a d f u,v=.obj a∧σ.I a=some (d,f)∧f x=some u∧Q u σ
 | .dgetOf e,ρ,σ,Q=>wpE C e ρ σ fun v σ=>∃ a,v=.dct a∧(σ.D a).isSome∧Q (.zt a) σ
 | .shasOf e,ρ,σ,Q=>wpE C e ρ σ fun v σ=>∃ a,v=.set a∧(σ.S a).isSome∧Q (.cD a) σ
 | .bm k e es,ρ,σ,Q=>wpE C e ρ σ fun v σ=>J9 k v σ∧so C es ρ σ fun vs σ=>HJ k v vs σ Q
 | .bf k es,ρ,σ,Q=>so C es ρ σ fun vs σ=>lQ k vs σ Q
 | .callv f es,ρ,σ,Q=>∃ v,ρ f=some v∧so C es ρ σ fun vs σ=>H7 v vs C 1000 σ Q
 | .sub e i,ρ,σ,Q=>wpE C e ρ σ fun v σ=>wpE C i ρ σ fun j σ=>nU v j σ fun r=>Q r σ
 | .slc e lo hi,ρ,σ,Q=>wpE C e ρ σ fun v σ=>wpE C lo ρ σ fun a σ=>wpE C hi ρ σ fun b σ=>rZ v a b σ Q
 | .rev e,ρ,σ,Q=>wpE C e ρ σ fun v σ=>DY v σ Q
 | .comp fv it t cs more,ρ,σ,Q=>nW C it ρ σ fun vs G σ =>
   gQ vs G (fun v ρ' acc σ K=>lq t v σ ρ' fun ρ'=>vm C cs ρ' σ fun ok σ=>if ok then xu C more ρ' acc σ K else K ρ' acc σ) (yg fv ρ) [] σ
    fun _ acc σ=>∀ c,σ.L c=Option.none→Q (.lst c) (σ.fg c acc)
 | .newM es,ρ,σ,Q=>so C es ρ σ fun vs σ=>∀ a d,σ.I a=Option.none→C 0 (.obj a::vs) (σ.ju a d fun _=>Option.none) fun v σ=>v=.none∧Q (.obj a) σ
 | .newMatch a b c,ρ,σ,Q=>wpE C a ρ σ fun x σ=>wpE C b ρ σ fun y σ=>wpE C c ρ σ fun z σ=>Q (.mt [x,y,z]) σ
 | .dead,_,_,_=>False
noncomputable def wpT (C:Cal):Ex→Fr→St→(Bool→St→Prop)→Prop
 | .not a,ρ,σ,Q=>wpT C a ρ σ fun b σ=>Q (!b) σ
 | .and a b,ρ,σ,Q=>wpT C a ρ σ fun t σ=>if t then wpT C b ρ σ Q else Q false σ
 | .or a b,ρ,σ,Q=>wpT C a ρ σ fun t σ=>if t then Q true σ else wpT C b ρ σ Q
 | .cmp op a b,ρ,σ,Q=>wpE C a ρ σ fun va σ=>wpE C b ρ σ fun vb σ=>cY op va vb σ fun r=>Q r σ
 | .ite c a b,ρ,σ,Q=>wpT C c ρ σ fun t σ=>if t then wpT C a ρ σ Q else wpT C b ρ σ Q
 | .loc x,ρ,σ,Q=>∃ v,ρ x=some v∧pz v σ fun b=>Q b σ
 | .int i,_,σ,Q=>Q (i != 0) σ
 | .bool b,_,σ,Q=>Q b σ
 | .attr e x,ρ,σ,Q=>wpE C e ρ σ fun v σ=>∃ a d f u,v=.obj a∧σ.I a=some (d,f)∧f x=some u∧pz u σ fun b=>Q b σ
 | .callv f es,ρ,σ,Q=>∃ v,ρ f=some v∧so C es ρ σ fun vs σ=>H7 v vs C 1000 σ fun r σ=>pz r σ fun b=>Q b σ
 | .sub e i,ρ,σ,Q=>wpE C e ρ σ fun v σ=>wpE C i ρ σ fun j σ=>nU v j σ fun r=>pz r σ fun b=>Q b σ
 | .bin op a b,ρ,σ,Q=>wpE C a ρ σ fun va σ=>wpE C b ρ σ fun vb σ=>xv op va vb σ fun r σ=>pz r σ fun b=>Q b σ
 | _,_,_,_=>False
noncomputable def so (C:Cal):Exs→Fr→St→(List V→St→Prop)→Prop
 | .nil,_,σ,Q=>Q [] σ
 | .cons e es,ρ,σ,Q=>wpE C e ρ σ fun v σ=>so C es ρ σ fun vs σ=>Q (v::vs) σ
noncomputable def vm (C:Cal):Exs→Fr→St→(Bool→St→Prop)→Prop
 | .nil,_,σ,Q=>Q true σ
 | .cons e es,ρ,σ,Q=>wpT C e ρ σ fun b σ=>if b then vm C es ρ σ Q else Q false σ
noncomputable def nW (C:Cal):It→Fr→St→(List V→(St→Prop)→St→Prop)→Prop
 | .rng1 e,ρ,σ,K=>wpE C e ρ σ fun v σ=>∃ n:Int,v=.int n∧n.natAbs<2^40∧K (qr 0 n) (fun _=>True) σ
 | .rng2 a b,ρ,σ,K=>wpE C a ρ σ fun v σ=>wpE C b ρ σ fun u σ=>∃ m n:Int,v=.int m∧u=.int n∧m.natAbs<2^40∧n.natAbs<2^40∧K (qr m n) (fun _=>True) σ
 | .enum e,ρ,σ,K=>wpE C e ρ σ fun v σ=>∃ a xs,v=.lst a∧σ.L a=some xs∧K (xs.zipIdx.map fun p=>V.tup [.int p.2,p.1]) (fun τ=>τ.L a=some xs) σ
 | .seq e,ρ,σ,K=>wpE C e ρ σ fun v σ=>DX v σ K
 | .keys e,ρ,σ,K=>wpE C e ρ σ fun v σ=>wN v σ K
 | .items e,ρ,σ,K=>wpE C e ρ σ fun v σ=>s6 v σ K
noncomputable def xu (C:Cal):Gens→Fr→List V→St→(Fr→List V→St→Prop)→Prop
 | .elt e,ρ,acc,σ,K=>wpE C e ρ σ fun v σ=>acc.length<aq∧K ρ (acc++[v]) σ
 | .cons it t cs more,ρ,acc,σ,K=>nW C it ρ σ fun vs G σ =>
   gQ vs G (fun v ρ acc σ K=>lq t v σ ρ fun ρ=>vm C cs ρ σ fun ok σ=>if ok then xu C more ρ acc σ K else K ρ acc σ) ρ acc σ K
end
noncomputable def uA (u k v:V) (σ:St) (K:St→Prop):Prop:=dK u fun a=>∃ es kk,σ.D a=some es∧k.iW=some kk∧es.length<aq∧K (σ.mx a (putD es kk v))
noncomputable def DW (C:Cal):Tgt→V→Fr→St→(Fr→St→Prop)→Prop
 | .var x,v,ρ,σ,K=>K (upd ρ x v) σ
 | .attr o a,v,ρ,σ,K=>wpE C o ρ σ fun u σ=>∃ x d f,u=.obj x∧σ.I x=some (d,f)∧K ρ (σ.ju x d (upd f a v))
 | .sub o i,v,ρ,σ,K=>wpE C o ρ σ fun u σ=>wpE C i ρ σ fun j σ=>uA u j v σ fun σ=>K ρ σ
 | .tup xs,v,ρ,σ,K=>lq (.tup xs) v σ ρ fun ρ=>K ρ σ
noncomputable def cA (C:Cal):List Tgt→V→Fr→St→(Fr→St→Prop)→Prop
 | [],_,ρ,σ,K=>K ρ σ
 | t::ts,v,ρ,σ,K=>DW C t v ρ σ fun ρ σ=>cA C ts v ρ σ K
noncomputable def F8 (a b:Addr) (σ:St) (Q:V→St→Prop):Prop:=∃ xs ys,a≠b∧σ.L a=some xs∧σ.L b=some ys∧xs.length+ys.length≤aq∧Q (.lst a) (σ.fg a (xs++ys))
noncomputable def EB (op:Bop) (v u:V) (σ:St) (Q:V→St→Prop):Prop:=match v with
 | .lst a=>zy u fun b=>match op with
  | .add=>F8 a b σ Q
  | _=>False
 | .int a=>sf u fun b=>pW op a b σ Q
 | _=>False
noncomputable def HI (u k:V) (σ:St) (K:St→Prop):Prop:=dK u fun a=>∃ es kk,σ.D a=some es∧k.iW=some kk∧(es.lookup kk).isSome=true∧K (σ.mx a (delD es kk))
noncomputable def tD (T:(Fr→St→Prop)→Fr→St→Prop):Nat→Fr→St→Prop
 | 0,_,_=>False
 | n+1,ρ,σ=>T (tD T n) ρ σ
noncomputable def mX:List V→(St→Prop)→(V→Fr→St→(Fr→St→Prop)→Prop)→Fr→St→(Fr→St→Prop)→Prop
 | [],G,_,ρ,σ,K=>G σ∧K ρ σ
 | v::vs,G,T,ρ,σ,K=>G σ∧T v ρ σ fun ρ σ=>mX vs G T ρ σ K
noncomputable def sq (again:Fr→St→Prop) (K:Fl→Fr→St→Prop):Fl→Fr→St→Prop
 | .next,ρ,σ=>again ρ σ
 | .cont,ρ,σ=>again ρ σ
 | .brk,ρ,σ=>K .next ρ σ
 | .ret v,ρ,σ=>K (.ret v) ρ σ
mutual
noncomputable def wpS (C:Cal):Stm→Fr→St→(Fl→Fr→St→Prop)→Prop
 | .assign ts e,ρ,σ,K=>wpE C e ρ σ fun v σ=>cA C ts v ρ σ fun ρ σ=>K .next ρ σ
 | .aug x op e,ρ,σ,K=>∃ v,ρ x=some v∧wpE C e ρ σ fun u σ=>EB op v u σ fun r σ=>K .next (upd ρ x r) σ
 | .delD o i,ρ,σ,K=>wpE C o ρ σ fun u σ=>wpE C i ρ σ fun j σ=>HI u j σ fun σ=>K .next ρ σ
 | .expr e,ρ,σ,K=>wpE C e ρ σ fun v σ=>v=.none∧K .next ρ σ
 | .cond c t e,ρ,σ,K=>wpT C c ρ σ fun b σ=>if b then fy C t ρ σ K else fy C e ρ σ K
 | .loop c b,ρ,σ,K=>∃ n,tD (fun again ρ σ=>wpT C c ρ σ fun t σ=>if t then fy C b ρ σ (sq again K) else K .next ρ σ) n ρ σ
 | .each t it b,ρ,σ,K=>nW C it ρ σ fun vs G σ=>mX vs G (fun v ρ σ k=>lq t v σ ρ fun ρ=>fy C b ρ σ (sq k K)) ρ σ fun ρ σ=>K .next ρ σ
 | .ret e,ρ,σ,K=>wpE C e ρ σ fun v σ=>K (.ret v) ρ σ
 | .brk,ρ,σ,K=>K .brk ρ σ
 | .cont,ρ,σ,K=>K .cont ρ σ
 | .pass,ρ,σ,K=>K .next ρ σ
 | .dead,_,_,_=>False
noncomputable def fy (C:Cal):jt→Fr→St→(Fl→Fr→St→Prop)→Prop
 | .nil,ρ,σ,K=>K .next ρ σ
 | .cons s ss,ρ,σ,K=>wpS C s ρ σ fun fl ρ σ=>match fl with
   | .next=>fy C ss ρ σ K
   | fl=>K fl ρ σ
end
structure Fn where
 n:Nat
 dflt:List V
 body:jt
noncomputable def cR (f:Fn) (vs:List V):List V:=vs++f.dflt.drop (f.dflt.length-(f.n-vs.length))
noncomputable def frameOf (f:Fn) (vs:List V):Fr:=fun i=>(cR f vs)[i]?
noncomputable def dH (Q:V→St→Prop):Fl→Fr→St→Prop
 | .ret v,_,σ=>Q v σ
 | .next,_,σ=>Q .none σ
 | _,_,_=>False
noncomputable def gy (P:Nat→Option Fn):Nat→Cal
 | 0,_,_,_,_=>False
 | d+1,f,vs,σ,Q=>∃ fn,P f=some fn∧vs.length≤fn.n∧fn.n≤vs.length+fn.dflt.length∧fy (gy P d) fn.body (frameOf fn vs) σ (dH Q)
end MP
end
section
namespace MP
open PySem PyProof.Rows
noncomputable def ub:Nat→Nat→Nat
 | 0,x=>x
 | n+1,x=>ub n (5*x+1)
noncomputable def lc:Nat→Nat
 | 0=>0
 | n+1=>5*lc n+1
theorem qT:∀ n,4*lc n+1=5^n
 | 0=>rfl
 | n+1=>by
  have:=qT n
  show 4*(5*lc n+1)+1=_
  rw [mh];(exact bh (.e (.a (.m 4 (.a (.m 5 .A) .U)) .U) (.r .B 5)) [[1,-5],[1,5]] (.e (.a (.m 4 .A) .U) .B) this)
theorem dS:∀ n x,ub n x=5^n*x+lc n
 | 0,x=>by show x=5^0*x+0;omega
 | n+1,x=>by
  show ub n (5*x+1)=_
  rw [dS n,Nat.mul_add,Nat.mul_one,← jr,← mh]
  have:=qT n
  show _=_+(5*lc n+1)
  (exact dw (.e (.a .P .C) (.a .A (.a (.m 5 .C) .U))) .g (.e (.a (.m 4 .C) .U) .B) this)
theorem kZ:∀ m n x,ub (m+n) x=ub n (ub m x)
 | 0,n,x=>by rw [jq];rfl
 | m+1,n,x=>by
  rw [Nat.add_right_comm]
  exact kZ m n (5*x+1)
theorem j8:∀ k,∃ u,5^(2^k)=1+2^(k+2)*(2*u+1)
 | 0=>⟨0,rfl⟩
 | k+1=>by
  obtain⟨u,e⟩:=j8 k
  refine⟨u+2^k*((2*u+1)*(2*u+1)),?_⟩
  have e2:5^(2^(k+1))=5^(2^k)*5^(2^k):=by rw [← c9,mh,Nat.mul_two]
  have p1:(2:Nat)^(k+2)=2^k*4:=c9 2 k 2
  have p2:(2:Nat)^(k+1+2)=2^k*4*2:=by rw [c9 2 (k+1) 2,c9 2 k 1];omega
  rw [e2,e,p2,p1]
  generalize (2:Nat)^k=p
  generalize hw:2*u+1=w
  have:2*(u+p*(w*w))+1=w+2*(p*(w*w)):=by(exact dw (.e (.a (.m 2 .P) .U) (.a .C (.m 2 .B))) .h (.e (.a (.m 2 .A) .U) .C) hw)
  rw [this]
  have e3:p*w*(p*w)=p*(p*(w*w)):=by rw [jr,Nat.mul_left_comm w p w]
  have e4:p*4*w=4*(p*w):=by rw [Nat.mul_comm p 4,jr]
  have e5:p*4*2*(w+2*(p*(w*w)))=8*(p*w)+16*(p*w*(p*w)):=by
   rw [e3,jr p 4 2,Nat.mul_comm p (4*2),jr,Nat.mul_add,Nat.mul_left_comm p 2]
   omega
  rw [e4,e5]
  generalize p*w=a
  have e6:4*a*(4*a)=16*(a*a):=by rw [jr,Nat.mul_left_comm a 4 a,← jr]
  rw [Nat.mul_add,Nat.mul_one,Nat.add_mul,e6,Nat.one_mul]
  (exact xi (.e (.a (.a .U (.m 4 .A)) (.a (.m 4 .A) (.m 16 .B))) (.a .U (.a (.m 8 .A) (.m 16 .B)))) .j)
theorem GJ (k:Nat):∃ u,lc (2^k)=2^k+2^(k+1)*u:=by
 obtain⟨u,e⟩:=j8 k
 refine⟨u,?_⟩
 have h:=qT (2^k)
 rw [e,show(2:Nat)^(k+2)=4*2^k by rw [c9,Nat.mul_comm]] at h
 rw [mh]
 rw [Nat.mul_add,Nat.mul_one] at h
 have e2:4*2^k*(2*u)=4*(2^k*2*u):=by rw [jr,jr]
 (exact ee .bG [[4,-1,-1],[4,1,1]] (.e (.a (.m 4 .A) .U) (.a .U (.a .D (.m 4 .B)))) (.e .D (.m 4 .C)) h e2)
theorem vR (k x:Nat):∃ u,ub (2^k) x=x+2^k+2^(k+1)*u:=by
 obtain⟨u,e⟩:=j8 k
 obtain⟨v,e'⟩:=GJ k
 refine⟨2*((2*u+1)*x)+v,?_⟩
 have p1:(2:Nat)^(k+2)=2^(k+1)*2:=c9 2 (k+1) 1
 rw [dS,e,e',p1]
 generalize 2*u+1=w
 rw [Nat.add_mul,Nat.one_mul,Nat.mul_add (2^(k+1)),← jr (2^(k+1)) 2,← jr (2^(k+1)*2)]
 (exact L2 (.e (.a .P .T) (.a .Y .a6)) .j)
theorem yV {P y r:Nat} (h:y%P=r%P) (hP:0<P) (n:y%(P*2)≠r%(P*2)):(y+P)%(P*2)=r%(P*2):=by
 rw [Nat.mod_mul,Nat.mod_mul] at n ⊢
 rw [Nat.add_mod_right,Nat.add_div_right _ hP,h]
 rw [h] at n
 have a:=Nat.mod_two_eq_zero_or_one (y/P)
 have b:=Nat.mod_two_eq_zero_or_one (r/P)
 have:(y/P).succ%2=r/P%2:=by
  have c:y/P%2≠r/P%2:=fun q=>n (by rw [q])
  omega
 rw [this]
theorem kY:∀ (k x r:Nat),∃ n,n<2^k∧ub n x%2^k=r%2^k
 | 0,x,r=>⟨0,Nat.one_pos,by rw [Nat.pow_zero,Nat.mod_one,Nat.mod_one]⟩
 | k+1,x,r=>by
  obtain⟨n,hn,e⟩:=kY k x r
  have hP:0<2^k:=Nat.two_pow_pos k
  by_cases c:ub n x%(2^k*2)=r%(2^k*2)
  ·exact⟨n,by rw [mh];(first | exact bh (.l .A (.r .B 2)) [[1,2]] .C hn Ar.y | omega),by rw [mh];exact c⟩
  ·refine⟨n+2^k,by rw [mh];(first | exact bh (.l .P (.r .B 2)) .a .C hn Ar.y | omega),?_⟩
   obtain⟨u,e'⟩:=vR k (ub n x)
   rw [kZ,e',mh,Nat.add_mul_mod_self_left]
   exact yV e hP c
theorem vT (P:Nat):∀ n x,ub n (x%P)%P=ub n x%P:=fun n x=>by
 rw [dS,dS,Nat.add_mod,Nat.mul_mod,Nat.mod_mod,← Nat.mul_mod,← Nat.add_mod]
noncomputable def lp (mask:Nat):Nat→Nat × Nat→Nat × Nat
 | 0,q=>q
 | n+1,q=>lp mask n (SetTable.leap mask q.1 q.2)
theorem zA (mask:Nat):∀ m n q,lp mask (m+n) q=lp mask n (lp mask m q)
 | 0,n,q=>by rw [jq];rfl
 | m+1,n,q=>by rw [Nat.add_right_comm];exact zA mask m n _
theorem tC (mask:Nat):∀ n q,(lp mask n q).2=q.2/32^n
 | 0,q=>by show q.2=_;rw [Nat.pow_zero,Nat.div_one]
 | n+1,q=>by
  show(lp mask n (SetTable.leap mask q.1 q.2)).2=_
  rw [tC mask n]
  show q.2/32/32^n=_
  rw [Nat.div_div_eq_div_mul,mh,Nat.mul_comm]
theorem t9 (mask:Nat):∀ n i,(lp mask n (i,0)).1%(mask+1)=ub n i%(mask+1)
 | 0,i=>rfl
 | n+1,i=>by
  have:=t9 mask n ((i*5+1)%(mask+1))
  rw [vT] at this
  have e:i*5+1=5*i+1:=by(exact ic (.e (.a (.r .A 5) .U) (.a (.m 5 .A) .U)) .j)
  have e0:SetTable.leap mask i 0=((i*5+1)%(mask+1),0):=by unfold SetTable.leap;simp
  show(lp mask n (SetTable.leap mask i 0)).1%(mask+1)=ub n (5*i+1)%(mask+1)
  rw [e0,this,e]
theorem qR (mask:Nat):∀ n q,q.1<mask+1→(lp mask n q).1<mask+1
 | 0,q,h=>h
 | n+1,q,h=>qR mask n _ (yr _ (xn _))
theorem z9 {mask k j:Nat} {q:Nat × Nat} (hm:mask+1=2^k) (hq:q.1<mask+1) (hp:q.2<2^64) (hj:j<mask+1):∃ n,n<mask+15∧(lp mask n q).1=j:=by
 have z:(lp mask 13 q).2=0:=by
  rw [tC]
  exact Nat.div_eq_of_lt (cx hp (by decide))
 obtain⟨n,hn,e⟩:=kY k (lp mask 13 q).1 j
 have l13:=qR mask 13 q hq
 refine⟨13+n,by(first | exact gr (.l (.a (.n 13) .A) (.a .B (.n 15))) .o (.e .L .C) .U hm hn Ar.y | omega),?_⟩
 have e2:lp mask 13 q=((lp mask 13 q).1,0):=Prod.ext rfl z
 have e3:=t9 mask n (lp mask 13 q).1
 rw [← e2,← zA,hm,e,← hm,Nat.mod_eq_of_lt (qR mask _ q hq),Nat.mod_eq_of_lt hj] at e3
 exact e3
theorem iJ {mask i:Nat} (h:i<mask+1):i≤SetTable.runEnd mask i∧SetTable.runEnd mask i<mask+1:=by
 unfold SetTable.runEnd
 split<;>(first | (rename_i z1;exact⟨(ic (.k .A (.a .A .a9)) .i),(bh (.l (.a .A .a9) .L) .a (.k (.a .A .a9) .B) z1)⟩) | exact⟨(ic (.k .A .A) .i),(bh .I .a .I h)⟩ | omega)
theorem lB {mask:Nat} {owner:Array (Option Nat)}:∀ (f i p:Nat),i<mask+1→SetTable.layClean.free mask owner f i p=none→∀ t,t<f→owner.getD (lp mask t (i,p)).1 (some 0)≠none
 | 0,_,_,_,_,t,ht=>absurd ht (fu t)
 | f+1,i,p,hi,e,t,ht=>by
  unfold SetTable.layClean.free at e
  cases q:(List.range (SetTable.runEnd mask i+1-i)).find? fun k=>(owner.getD (i+k) (some 0)).isNone with
  | some k=>rw [q] at e;cases e
  | none =>
   rw [q] at e
   cases t with
   | zero =>
    intro h
    have:=List.find?_eq_none.mp q 0 (nq.mpr (by have:=(iJ hi).1;(exact gr .N .c .aP (.e .P .Q) this (aa (bh .O .a .A this)))))
    have h':owner.getD i (some 0)=none:=h
    rw [Nat.add_zero,h'] at this
    exact this rfl
   | succ t=>exact lB f _ _ (yr _ (xn _)) e t (tm ht)
theorem tL {mask:Nat} {owner:Array (Option Nat)}:∀ (f i p r:Nat),i<mask+1→SetTable.layClean.free mask owner f i p=some r→r<mask+1∧owner.getD r (some 0)=none
 | 0,_,_,_,_,e=>by cases e
 | f+1,i,p,r,hi,e=>by
  unfold SetTable.layClean.free at e
  cases q:(List.range (SetTable.runEnd mask i+1-i)).find? fun k=>(owner.getD (i+k) (some 0)).isNone with
  | some k =>
   rw [q] at e
   obtain rfl:=ae e
   have h1:=nq.mp (List.mem_of_find?_eq_some q)
   have h2:=List.find?_some q
   exact⟨by have:=(iJ hi).2;(exact Ar.sub _ _ (fun q1 p1=>(ky (.l .P .Q) .d .aA (.l .F .Q) (.e (.a .D .A) .X) h1 this p1)) fun q1 p1=>(ee (.l .P .Q) .e .aA .aB h1 p1)),qp.mp h2⟩
  | none =>
   rw [q] at e
   exact tL f _ _ r (yr _ (xn _)) e
theorem w6 {mask k j:Nat} {owner:Array (Option Nat)} (hm:mask+1=2^k) (hj:j<mask+1) (he:owner.getD j (some 0)=none) {i p:Nat} (hi:i<mask+1) (hp:p<2^64) :
  ∃ r,SetTable.layClean.free mask owner (SetTable.turns mask) i p=some r∧r<mask+1∧owner.getD r (some 0)=none:=by
 cases e:SetTable.layClean.free mask owner (SetTable.turns mask) i p with
 | some r=>exact⟨r,rfl,tL _ _ _ _ hi e⟩
 | none =>
  obtain⟨n,hn,e'⟩:=z9 (q:=(i,p)) hm hi hp hj
  exact absurd (by rw [e'];exact he) (lB _ _ _ hi e n hn)
section
variable {t:SetTable} {f:Nat→Int} {h:Int}
noncomputable def pst (mask:Nat) (q:Nat × Nat):SetTable.Probe:={ j:=q.1,more:=SetTable.runEnd mask q.1-q.1,i:=q.1,perturb:=q.2,dummy:=none }
theorem dE (hd:t.dummies=#[]) (j:Nat):t.slot j=.empty∨∃ i,t.slot j=.live i:=by
 unfold SetTable.slot
 rw [hd,show SetTable.has #[] j=false from rfl]
 by_cases c:(t.place[SetTable.below t.place j]?==some j)=true
 ·exact .inr ⟨_,bx c⟩
 ·exact .inl ((aw c).trans (aw jl))
theorem mT (hf:∀ i,(f i==h)=false) {n i:Nat} {p:SetTable.Probe} (e:t.slot p.j=.live i):SetTable.probe.go t f h (n+1) p=SetTable.probe.go t f h n (t.advance p):=by
 rw [SetTable.probe.go,e]
 exact aw (by rw [hf];exact jl)
theorem j3 {n:Nat} {p:SetTable.Probe} (e:t.slot p.j=.empty):SetTable.probe.go t f h (n+1) p=some (.empty p.j p.dummy):=by
 rw [SetTable.probe.go,e]
theorem tJ (hd:t.dummies=#[]) (hf:∀ i,(f i==h)=false):∀ (n d:Nat) (p:SetTable.Probe),SetTable.probe.go t f h (n+d) p=none→SetTable.probe.go t f h n p=none
 | 0,_,_,_=>rfl
 | n+1,d,p,e=>by
  rw [Nat.add_right_comm] at e
  rcases dE hd p.j with c | ⟨i,c⟩
  ·rw [j3 c] at e;cases e
  ·rw [mT hf c] at e ⊢
   exact tJ hd hf n d _ e
theorem zR (hd:t.dummies=#[]) (hf:∀ i,(f i==h)=false):∀ (m n:Nat) (p:SetTable.Probe),p.more=m→p.dummy=none→SetTable.probe.go t f h (n+m+1) p=none →
  t.slot p.j≠.empty∧SetTable.probe.go t f h n (pst t.mask (SetTable.leap t.mask p.i p.perturb))=none
 | m,n,p,hm,hp,e=>by
  rcases dE hd p.j with c | ⟨i,c⟩
  ·rw [j3 c] at e;cases e
  ·rw [mT hf c] at e
   refine⟨(by rw [c];intro q;cases q),?_⟩
   cases m with
   | zero =>
    have:t.advance p=pst t.mask (SetTable.leap t.mask p.i p.perturb):=by
     unfold SetTable.advance
     rw [aw (by rw [hm];exact jc 0)]
     show SetTable.Probe.mk _ _ _ _ p.dummy=_
     rw [hp];rfl
    rw [this] at e;exact e
   | succ m =>
    have ha:t.advance p={ p with j:=p.j+1,more:=p.more-1 }:=by
     unfold SetTable.advance
     rw [bx (by rw [hm];exact xn m)]
    rw [ha] at e
    exact(zR hd hf m n { p with j:=p.j+1,more:=p.more-1 } (by show p.more-1=m;rw [hm];rfl) hp e).2
theorem tH (hd:t.dummies=#[]) (hf:∀ i,(f i==h)=false):∀ (n:Nat) (q:Nat × Nat),SetTable.probe.go t f h (10*n) (pst t.mask q)=none→∀ k,k<n→t.slot (lp t.mask k q).1≠.empty
 | 0,_,_,k,hk=>absurd hk (fu k)
 | n+1,q,e,k,hk=>by
  have hr:SetTable.runEnd t.mask q.1-q.1≤9:=by
   unfold SetTable.runEnd
   split<;>(first | exact bh (.k .A .a9) .a (.e .P (.a .B .a9)) (aa (ic (.k .A (.a .A .a9)) .i)) Ar.y | exact bh (.k .A .a9) .a (.e .P .B) (aa (ic (.k .A .A) .i)) Ar.y | omega)
  have e2:10*(n+1)=(10*n+(9-(SetTable.runEnd t.mask q.1-q.1)))+(SetTable.runEnd t.mask q.1-q.1)+1:=by(exact dw (.e (.m 10 .M) (.a (.a (.a (.m 10 .A) .B) .C) .U)) .g (.e .R .a9) (aa (gv (.k .A .a9) .a (.k .A .a9) hr)))
  rw [e2] at e
  obtain⟨h1,h2⟩:=zR hd hf _ _ _ rfl rfl e
  cases k with
  | zero=>exact h1
  | succ k=>exact tH hd hf n _ (tJ hd hf _ _ _ h2) k (tm hk)
theorem tK (hd:t.dummies=#[]) (hf:∀ i,(f i==h)=false):∀ (n:Nat) (p:SetTable.Probe) (j i:Nat) (nx:SetTable.Probe),SetTable.probe.go t f h n p≠some (.candidate j i nx)
 | 0,_,_,_,_=>fun q=>by cases q
 | n+1,p,j,i,nx=>fun q=>by
  rcases dE hd p.j with c | ⟨i',c⟩
  ·rw [j3 c] at q;cases q
  ·rw [mT hf c] at q
   exact tK hd hf n _ j i nx q
theorem kG {k j:Nat} (hd:t.dummies=#[]) (hm:t.mask+1=2^k) (hj:j<t.mask+1) (he:t.slot j=.empty) (h:Int):t.freeSlot h≠none:=by
 intro e
 unfold SetTable.freeSlot SetTable.probe at e
 have hb:SetTable.bits h<2^64:=by unfold SetTable.bits;omega
 have hs:t.probeStart h=pst t.mask (SetTable.bits h%(t.mask+1),SetTable.bits h):=rfl
 rw [hs] at e
 cases q:SetTable.probe.go t (fun _=>h+1) h (10*SetTable.turns t.mask) (pst t.mask (SetTable.bits h%(t.mask+1),SetTable.bits h)) with
 | none =>
  obtain⟨n,hn,e'⟩:=z9 (q:=(SetTable.bits h%(t.mask+1),SetTable.bits h)) hm (yr _ (xn _)) hb hj
  exact tH hd (fun i=>by simp;(exact AR (.iu (.a .A .U) .A) .i)) _ _ q n hn (by rw [e'];exact he)
 | some m =>
  rw [q] at e
  cases m with
  | empty j d=>cases e
  | candidate j i nx=>exact tK hd (fun i=>by simp;(exact AR (.iu (.a .A .U) .A) .i)) _ _ _ _ _ q
end
theorem yK:∀ (m:Nat) (l:List Nat),(∀ j,j<m→j∈l)→m≤l.length
 | 0,_,_=>cf _
 | m+1,l,h=>by
  have hm:=h m (qk m)
  have:=yK m (l.erase m) fun j hj=>(List.mem_erase_of_ne (fj hj)).mpr (h j (Nat.lt_succ_of_lt hj))
  rw [List.length_erase_of_mem hm] at this
  have:=List.length_pos_of_mem hm
  (rename_i z1;exact gr .H .b .G (.e .Q .B) z1 (aa (gv .R .a .N this)))
theorem HR {m:Nat} {l:List Nat} (h:l.length<m):∃ j,j<m∧j∉l:=by
 refine gh fun n=>?_
 have:=yK m l fun j hj=>gh fun q=>n ⟨j,hj,q⟩
 (exact gn .ff .e .C .a1 h this)
theorem dF {n:Nat}:∀ (f k:Nat),n<2^(k+f)→3≤k→∃ k',3≤k'∧SetTable.sizeAbove.go n f (2^k)=2^k'∧n<2^k'
 | 0,k,h,hk=>⟨k,hk,rfl,h⟩
 | f+1,k,h,hk=>by
  unfold SetTable.sizeAbove.go
  by_cases c:2^k≤n
  ·rw [bx c,← mh]
   exact dF f (k+1) (by rw [show k+1+f=k+(f+1) by(exact xi (.e .a2 .Z) .j)];exact h) (by exact gv (.k (.n 3) .M) .a (.k (.n 3) .A) hk)
  ·rw [aw c]
   exact⟨k,hk,rfl,Nat.lt_of_not_le c⟩
theorem k8 {n:Nat} (h:n<2^60):∃ k,3≤k∧SetTable.sizeAbove n=2^k∧n<2^k :=
 dF 64 3 (Nat.lt_trans h (by decide)) (ay 3)
theorem mZ {α:Type} {g g':Nat→Option α}:∀ {l:List Nat},(∀ j∈l,g' j=g j)→l.filterMap g'=l.filterMap g
 | [],_=>rfl
 | a::l,h=>by rw [eu,eu,h a (.head _),mZ fun j hj=>h j (.tail _ hj)]
theorem zV {α:Type} (g g':Nat→Option α) (r:Nat) (x:α) (h0:g r=none) (h1:g' r=some x) (h2:∀ j,j≠r→g' j=g j):∀ l:List Nat,l.Nodup→r∈l→(l.filterMap g').Perm (x::l.filterMap g)
 | [],_,h=>nomatch h
 | a::l,hn,h=>by
  obtain⟨n1,n2⟩:=List.nodup_cons.mp hn
  by_cases c:a=r
  ·subst c
   rw [eu,eu,h0,h1]
   refine .cons x (List.Perm.of_eq (mZ fun j hj=>h2 j fun q=>n1 (q▸hj)))
  ·have ih:=zV g g' r x h0 h1 h2 l n2 ((cu.mp h).resolve_left fun q=>c q.symm)
   rw [eu,eu,h2 a c]
   cases g a with
   | none=>exact ih
   | some y=>exact(ih.cons y).trans (.swap x y _)
noncomputable def ents (o:Array (Option Nat)) (m:Nat):List Nat:=(List.range m).filterMap fun j=>o.getD j none
theorem tN {g:Nat→Option Nat}:∀ {l:List Nat},(∀ j∈l,g j≠none)→(l.filterMap g).length=l.length
 | [],_=>rfl
 | a::l,h=>by
  rw [eu]
  cases e:g a with
  | none=>exact absurd e (h a (.head _))
  | some b=>exact bu (·+1) (tN fun j hj=>h j (.tail _ hj))
theorem wA {o:Array (Option Nat)} {m n:Nat} (hs:o.size=m) (hp:(ents o m).Perm (List.range n)) (hn:n<m):∃ j,j<m∧o.getD j (some 0)=none:=by
 refine gh fun c=>?_
 have:(ents o m).length=(List.range m).length:=tN fun j hj q=>c ⟨j,nq.mp hj,by
  have hj':j<o.size:=by rw [hs];exact nq.mp hj
  have e:∀ d:Option Nat,o.getD j d=o[j]:=fun d=>by simp [Array.getD,hj']
  rw [e] at q ⊢;exact q⟩
 rw [hp.length_eq,jv,jv] at this
 (exact gn .ff [[0,1,-1]] .C .B hn this)
theorem oP {mask k:Nat} (hm:mask+1=2^k):∀ (hs:List Int) (o:Array (Option Nat)) (n:Nat),o.size=mask+1→(ents o (mask+1)).Perm (List.range n)→n+hs.length<mask+1 →
  ∃ o',hs.foldl (fun acc h=>do
    let (owner,k)←acc
    let j←SetTable.layClean.free mask owner (SetTable.turns mask) (SetTable.bits h%(mask+1)) (SetTable.bits h)
    pure (owner.setIfInBounds j (some k),k+1)) (some (o,n))=some (o',n+hs.length)∧o'.size=mask+1∧(ents o' (mask+1)).Perm (List.range (n+hs.length))
 | [],o,n,h1,h2,h3=>⟨o,rfl,h1,h2⟩
 | h::hs,o,n,h1,h2,h3=>by
  obtain⟨j,hj,he⟩:=wA h1 h2 (by rw [gz] at h3;(exact dw .I .a (.l .a3 .L) h3))
  have hb:SetTable.bits h<2^64:=by unfold SetTable.bits;omega
  obtain⟨r,e,hr,h0⟩:=w6 hm hj he (yr (SetTable.bits h) (xn mask)) hb
  have hr':r<o.size:=by rw [h1];exact hr
  have e0:o.getD r none=none:=by
   have q:∀ d:Option Nat,o.getD r d=o[r]:=fun d=>by simp [Array.getD,hr']
   rw [q] at h0 ⊢;exact h0
  have hp:(ents (o.setIfInBounds r (some n)) (mask+1)).Perm (List.range (n+1)):=by
   refine(zV (fun j=>o.getD j none) _ r n e0 ?_ (fun i hi=>?_) _ List.nodup_range (nq.mpr hr)).trans ?_
   ·simp [Array.getD,hr']
   ·show(o.setIfInBounds r (some n)).getD i none=o.getD i none
    rw [xt,xt,Array.getElem?_setIfInBounds_ne (xm hi)]
   ·rw [show List.range (n+1)=List.range n++[n] from List.range_succ]
    exact(h2.cons n).trans (List.perm_append_singleton n _).symm
  obtain⟨o',a,b,c⟩:=oP hm hs (o.setIfInBounds r (some n)) (n+1) (by rw [Array.size_setIfInBounds];exact h1) hp (by rw [gz] at h3;(exact dw (.l .a2 .Q) .a (.l .Z .Q) h3))
  refine⟨o',?_,b,?_⟩
  ·rw [List.foldl_cons]
   show List.foldl _ (Option.bind (SetTable.layClean.free mask o (SetTable.turns mask) (SetTable.bits h%(mask+1)) (SetTable.bits h)) _) hs=_
   rw [e,gz,show n+(hs.length+1)=n+1+hs.length by(exact xi (.e .Z .a2) .j)]
   exact a
  ·rw [gz,show n+(hs.length+1)=n+1+hs.length by(exact xi (.e .Z .a2) .j)];exact c
theorem kD {mask k:Nat} (hm:mask+1=2^k) (hs:Array Int) (h:hs.size<mask+1):∃ o,SetTable.layClean mask hs=some o∧o.size=mask+1∧(ents o (mask+1)).Perm (List.range hs.size):=by
 have e0:ents (Array.replicate (mask+1) none) (mask+1)=[]:=by
  refine List.filterMap_eq_nil_iff.mpr fun j hj=>?_
  rw [xt,Array.getElem?_replicate]
  split<;>rfl
 obtain⟨o,a,b,c⟩:=oP hm hs.toList (Array.replicate (mask+1) none) 0 (by rw [Array.size_replicate]) (by rw [e0];exact .nil) (by rw [jq,ef];exact h)
 rw [jq,ef] at a c
 refine⟨o,?_,b,c⟩
 unfold SetTable.layClean
 rw [← Array.foldl_toList]
 exact bu (Option.map (·.1)) a
noncomputable def lives (o:Array (Option Nat)) (m:Nat):List (Nat × Nat):=(List.range m).filterMap fun j=>(o.getD j none).map (j,·)
theorem kU (o:Array (Option Nat)) (m:Nat):(lives o m).map (·.2)=ents o m:=by
 unfold lives ents
 rw [List.map_filterMap]
 refine mZ fun j _=>?_
 cases o.getD j none<;>rfl
theorem oC {t:SetTable} {hs:Array Int} {n:Nat} (hn:n<2^60) (h:hs.size*4≤n):∃ k o,3≤k∧n<2^k∧(ents o (2^k)).Perm (List.range hs.size) ∧
  t.relaid hs n=some (⟨2^k-1,((lives o (2^k)).map (·.1)).toArray,#[],t.finger,t.led,t.movedTo (2^k-1),t.plain⟩,(ents o (2^k)).toArray):=by
 obtain⟨k,h3,e,hk⟩:=k8 hn
 have hm:2^k-1+1=2^k:=aa (Nat.two_pow_pos k)
 obtain⟨o,a,b,c⟩:=kD hm hs (by exact rz .I [[4,1,4,-4]] (.k (.r .A 4) .C) .aC (.e .L .D) h hk hm)
 rw [hm] at c
 refine⟨k,o,h3,hk,c,?_⟩
 unfold SetTable.relaid SetTable.laid
 rw [e,a]
 show some (_,(List.map (·.2) (lives o (2^k-1+1))).toArray)=_
 rw [kU,hm]
 rfl
theorem zX {α:Type} (es:Array α):∀ {l:List Nat},(∀ j∈l,j<es.size)→(l.filterMap (es[·]?)).length=l.length
 | [],_=>rfl
 | a::l,h=>by
  rw [eu,ey (h a (.head _))]
  exact bu (·+1) (zX es fun j hj=>h j (.tail _ hj))
theorem kB {t:SetTable} {es:Array (Int × Value)} {n:Nat} (hn:n<2^60) (h:es.size*4≤n):∃ k o,3≤k∧n<2^k∧(ents o (2^k)).Perm (List.range es.size) ∧
  (relayAll t es n).2.1=⟨2^k-1,((lives o (2^k)).map (·.1)).toArray,#[],t.finger,t.led,t.movedTo (2^k-1),t.plain⟩:=by
 obtain⟨k,o,h3,hk,hp,e⟩:=oC (t:=t) (hs:=es.map (·.1)) hn (by rw [Array.size_map];exact h)
 rw [Array.size_map] at hp
 refine⟨k,o,h3,hk,hp,?_⟩
 have hc:coversAll (ents o (2^k)).toArray es.size=true:=List.isPerm_iff.mpr hp
 have hl:(lives o (2^k)).length=es.size:=by
  rw [← au (f:=(·.2)),kU,hp.length_eq,jv]
 have hz:((ents o (2^k)).filterMap (es[·]?)).length=es.size:=by
  rw [zX es fun j hj=>nq.mp (hp.mem_iff.mp hj),hp.length_eq,jv]
 unfold relayAll
 rw [e]
 dsimp only
 rw [hc,bx]
 rw [cW]
 unfold SetTable.fits SetTable.fill
 simp [hl,hz]
 have:=Nat.two_pow_pos k
 (exact rz .A [[4,1,4,-4]] (.k (.r .A 4) .C) .aC (.e .L .D) h hk (aa (gv .R .a .N this)))
end MP
end
section
namespace MP
open PySem PyProof.Rows
noncomputable def fO (l:List Nat):Prop:=l.Pairwise (·<·)
structure Tbl (led:Bool) (t:SetTable):Prop where
 led:t.led=led
 nod:t.dummies=#[]
 rise:fO t.place.toList
 plain:t.plain=true
 two:∃ k,3≤k∧t.mask+1=2^k
theorem fO.at {xs:Array Nat} (h:fO xs.toList) {i j x y:Nat} (hi:xs[i]?=some x) (hj:xs[j]?=some y) (hij:i<j):x<y:=by
 obtain⟨a,e1⟩:=kr.mp hi
 obtain⟨b,e2⟩:=kr.mp hj
 have:=qq.mp h i j (by simpa using a) (by simpa using b) hij
 simp only [Array.getElem_toList] at this
 rw [e1,e2] at this;exact this
theorem jM {xs:Array Nat} {j:Nat} (h:fO xs.toList):∀ (f lo hi:Nat),lo≤hi→hi≤xs.size→hi-lo≤f→(∀ i x,xs[i]?=some x→i<lo→x<j)→(∀ i x,xs[i]?=some x→hi≤i→j≤x) →
  SetTable.below.go xs j f lo hi≤xs.size∧(∀ i x,xs[i]?=some x→i<SetTable.below.go xs j f lo hi→x<j)∧∀ i x,xs[i]?=some x→SetTable.below.go xs j f lo hi≤i→j≤x
 | 0,lo,hi,h1,h2,h3,h4,h5=>⟨gj h1 h2,h4,fun i x e q=>h5 i x e (gj (Nat.sub_eq_zero_iff_le.mp (Nat.le_zero.mp h3)) q)⟩
 | f+1,lo,hi,h1,h2,h3,h4,h5=>by
  unfold SetTable.below.go
  by_cases c:lo<hi
  ·rw [bx c]
   dsimp only
   have m1:lo≤(lo+hi)/2:=by(exact rz .A [[2,1,1,-1]] .U (.l .D .W) (.e (.a (.m 2 .B) .D) .Y) c (Ar.mH _ 2 (by decide)).1 (Ar.mH _ 2 (by decide)).2)
   have m2:(lo+hi)/2<hi:=by(exact ee .C [[2,1,1]] .aG (.e (.a (.m 2 .A) .D) .a5) c (Ar.mH _ 2 (by decide)).2)
   have hm:(lo+hi)/2<xs.size:=cx m2 h2
   have eg:xs.getD ((lo+hi)/2) j=xs[(lo+hi)/2]:=by simp [Array.getD,hm]
   have es:xs[(lo+hi)/2]?=some xs[(lo+hi)/2]:=ey hm
   rw [eg]
   by_cases d:xs[(lo+hi)/2]<j
   ·rw [bx d]
    refine jM h f _ hi m2 h2 (by exact jO .A [[1,1,1,-1,1]] .b8 .aU (.e .T .G) (.e (.a .A .X) .G) h3 m1 (aa (gr .A .b .G .aG m1 m2)) (aa (bh .H .a .C m2))) (fun i x e q=>?_) h5
    rcases kp (Nat.le_of_lt_succ q) with q | rfl
    ·exact Nat.lt_trans (h.at e es q) d
    ·rw [es] at e;cases e;exact d
   ·rw [aw d]
    refine jM h f lo _ m1 (xp hm) (by exact jO .A [[1,1,1,-1,1]] .b8 (.l .D .F) (.e (.a .C .G) .F) (.e (.a .A .G) .D) h3 m2 (aa (gr .A .b .G .aG m1 m2)) (aa (bh .A .a .A m1))) h4 (fun i x e q=>?_)
    rcases kp q with q | rfl
    ·exact gj (kj d) (xp (h.at es e q))
    ·rw [es] at e;cases e;exact kj d
  ·rw [aw c]
   exact⟨gj h1 h2,h4,fun i x e q=>h5 i x e (gj (kj c) q)⟩
theorem below_at {xs:Array Nat} (h:fO xs.toList) (j:Nat):SetTable.below xs j≤xs.size∧(∀ i x,xs[i]?=some x→i<SetTable.below xs j→x<j)∧∀ i x,xs[i]?=some x→SetTable.below xs j≤i→j≤x :=
 jM h xs.size 0 xs.size (cf _) (ay _) (ay _) (fun i x e q=>absurd q (fu _)) fun i x e q=>by
  obtain⟨a,_⟩:=kr.mp e;exact absurd a (jx.mpr q)
theorem rR {xs:Array Nat} (h:fO xs.toList) {k x:Nat} (hk:xs[k]?=some x):SetTable.below xs (x+1)=k+1:=by
 obtain⟨b1,b2,b3⟩:=below_at h (x+1)
 obtain⟨hs,_⟩:=kr.mp hk
 rcases Nat.lt_trichotomy (SetTable.below xs (x+1)) (k+1) with c | c | c
 ·exact absurd (b3 k x hk (Nat.le_of_lt_succ c)) (Nat.not_le.mpr (qk x))
 ·exact c
 ·have hk1:k+1<xs.size:=cx c b1
  have e:=ey hk1
  have:=b2 (k+1) _ e c
  have:=h.at hk e (qk k)
  (rename_i z1;exact rz .a8 [[1,1,0,0],[0,0,1,1]] (.l .L .A) (.l .C .V) .aN c z1 this)
theorem rQ {xs:Array Nat} (h:fO xs.toList):SetTable.below xs 0=0:=by
 obtain⟨b1,b2,b3⟩:=below_at h 0
 rcases Nat.eq_zero_or_pos (SetTable.below xs 0) with c | c
 ·exact c
 ·have e:=ey (cx c b1)
  exact absurd (b2 0 _ e c) (fu _)
theorem kF {xs:Array Nat} (h:fO xs.toList) {j:Nat} (hn:xs[SetTable.below xs j]?≠some j):fO (SetTable.insertAt xs (SetTable.below xs j) j).toList:=by
 obtain⟨b1,b2,b3⟩:=below_at h j
 rw [SetTable.toList_insertAt]
 have gi:∀ i (hi:i<xs.toList.length),xs[i]?=some xs.toList[i]:=fun i hi=>by
  rw [Array.getElem_toList];exact ey (by simpa using hi)
 unfold fO
 rw [List.pairwise_append]
 refine⟨List.Pairwise.sublist (List.take_sublist _ _) h,List.pairwise_cons.mpr ⟨fun y hy=>?_,List.Pairwise.sublist (List.drop_sublist _ _) h⟩,fun x hx y hy=>?_⟩
 ·obtain⟨i,hi,rfl⟩:=gf.mp hy
  rw [List.getElem_drop]
  have hi':SetTable.below xs j+i<xs.toList.length:=by rw [gq] at hi;(exact Ar.sub _ _ (fun q1 p1=>(ee .F .b .aA .X hi p1)) fun q1 p1=>(ee .F .e .aA .aB hi p1))
  rcases kp (b3 _ _ (gi _ hi') (eM _ _)) with c | c
  ·exact c
  ·exfalso
   rcases Nat.eq_zero_or_pos i with rfl | hp
   ·exact hn ((gi _ hi').trans (bu some c.symm))
   ·have h0:SetTable.below xs j<xs.toList.length:=by(exact dw .C .a .bF hi')
    have:=h.at (gi _ h0) (gi _ hi') (by exact bh (.l .A .P) .a .a4 hp)
    have:=b3 _ _ (gi _ h0) (ay _)
    (rename_i z1;exact qc .ff [[0,-1,1,1]] .B .aG .G c z1 this)
 ·obtain⟨i,hi,rfl⟩:=gf.mp hx
  rw [dt] at hi
  have hi':i<xs.toList.length:=by(exact gr .C .b .U .M hi (Ar.iw _ _).2.1)
  rw [pn]
  have hxj:=b2 _ _ (gi i hi') (by exact gr .C .b .U .M hi (Ar.iw _ _).1)
  rcases cu.mp hy with rfl | hy
  ·exact hxj
  ·obtain⟨k,hk,rfl⟩:=gf.mp hy
   rw [List.getElem_drop]
   have hk':SetTable.below xs j+k<xs.toList.length:=by rw [gq] at hk;(exact Ar.sub _ _ (fun q1 p1=>(ee .F .b .aA .X hk p1)) fun q1 p1=>(ee .F .e .aA .aB hk p1))
   exact h.at (gi i hi') (gi _ hk') (by exact ee (.l .A .R) .b .bM .aH hi (Ar.iw _ _).1)
theorem has_none (j:Nat):SetTable.has #[] j=false:=rfl
theorem oE {t:SetTable} (hd:t.dummies=#[]) {f:Nat→Int} {h:Int} (hf:∀ i,(f i==h)=false):∀ (n:Nat) (p:SetTable.Probe) (m:SetTable.Met),p.dummy=none→SetTable.probe.go t f h n p=some m →
  ∃ j,m=.empty j none∧t.place[SetTable.below t.place j]?≠some j
 | 0,p,m,hp,e=>by cases e
 | n+1,p,m,hp,e=>by
  unfold SetTable.probe.go SetTable.slot at e
  rw [hd,has_none] at e
  by_cases c:(t.place[SetTable.below t.place p.j]?==some p.j)=true
  ·simp only [c,rp,hf] at e
   refine oE hd hf n _ m ?_ e
   unfold SetTable.advance
   split
   ·exact hp
   ·exact hp
  ·simp only [c] at e
   simp at e
   exact⟨p.j,by rw [← e,hp],fun q=>c (by rw [q];exact qj _)⟩
theorem oV {t:SetTable} (hd:t.dummies=#[]) {h:Int} {r:Nat × Bool} (e:t.freeSlot h=some r):r.2=false∧t.place[SetTable.below t.place r.1]?≠some r.1:=by
 unfold SetTable.freeSlot SetTable.probe at e
 cases q:SetTable.probe.go t (fun _=>h+1) h (10*SetTable.turns t.mask) (t.probeStart h) with
 | none=>rw [q] at e;cases e
 | some m =>
  obtain⟨j,rfl,hj⟩:=oE hd (fun i=>by simp;(exact AR (.iu (.a .A .U) .A) .i)) _ _ _ rfl q
  rw [q] at e;cases e;exact⟨rfl,hj⟩
theorem qU {led:Bool} {t:SetTable} (H:Tbl led t) (es:Array (Int × Value)) (h:Int) (x:Value) (hz:es.size=t.place.size) (hr:t.place.size+1≤t.mask) :
  Tbl led (layNew t es h x).2.1∧(layNew t es h x).2.1.mask=t.mask∧(layNew t es h x).2.2.1=false:=by
 obtain⟨k,h3,hm⟩:=H.two
 unfold layNew
 cases e:t.freeSlot h with
 | none =>
  obtain⟨j,hj,hn⟩:=HR (m:=t.mask+1) (l:=t.place.toList) (by rw [ef];(exact bh .I .a .H hr))
  refine absurd e (kG H.nod hm hj ?_ h)
  rcases dE H.nod j with c | ⟨i,c⟩
  ·exact c
  ·exfalso
   unfold SetTable.slot at c
   rw [H.nod,has_none] at c
   by_cases q:(t.place[SetTable.below t.place j]?==some j)=true
   ·have:=jw.mp q
    exact hn (Array.mem_toList_iff.mpr (Array.mem_of_getElem? this))
   ·rw [aw q] at c;cases c
 | some r =>
  obtain⟨r1,r2⟩:=oV H.nod e
  have ed:(t.put r.1).1.dummies=#[]:=by
   show(if SetTable.has t.dummies r.1=true then _ else t.dummies)=#[]
   rw [H.nod];rfl
  have ep:(t.put r.1).1.place=SetTable.insertAt t.place (SetTable.below t.place r.1) r.1:=rfl
  have es1:(SetTable.insertAt t.place (SetTable.below t.place r.1) r.1).size=t.place.size+1:=by
   have:=(SetTable.insertAt_perm t.place (SetTable.below t.place r.1) r.1).length_eq
   simpa using this
  have es2:(SetTable.insertAt es (t.put r.1).2 (h,x)).size=es.size+1:=by
   have:=(SetTable.insertAt_perm es (t.put r.1).2 (h,x)).length_eq
   simpa using this
  have hf:(t.put r.1).1.fits (SetTable.insertAt es (t.put r.1).2 (h,x)).size=true:=by
   unfold SetTable.fits SetTable.fill
   rw [ed,ep,es1,es2,hz]
   simp
   exact hr
  have ho:(t.put r.1).1.orStandIn (SetTable.insertAt es (t.put r.1).2 (h,x)).size=(t.put r.1).1:=by
   unfold SetTable.orStandIn
   rw [bx hf]
  refine⟨?_,(by show((t.put r.1).1.orStandIn (SetTable.insertAt es (t.put r.1).2 (h,x)).size).mask=t.mask;rw [ho];rfl),r1⟩
  show Tbl led ((t.put r.1).1.orStandIn (SetTable.insertAt es (t.put r.1).2 (h,x)).size)
  rw [ho]
  exact⟨H.led,ed,kF H.rise r2,H.plain,H.two⟩
theorem te {α:Type} (f:Nat→Option α):∀ (l:List Nat),fO l→fO ((l.filterMap fun j=>(f j).map (j,·)).map (·.1))
 | [],_=>.nil
 | a::l,h=>by
  obtain⟨h1,h2⟩:=List.pairwise_cons.mp h
  rw [eu]
  cases e:f a with
  | none=>exact te f l h2
  | some b =>
   refine List.pairwise_cons.mpr ⟨fun y hy=>?_,te f l h2⟩
   obtain⟨p,hp,rfl⟩:=bw.mp hy
   obtain⟨j,hj,e⟩:=List.mem_filterMap.mp hp
   cases q:f j with
   | none=>rw [q] at e;cases e
   | some c=>rw [q] at e;cases e;exact h1 j hj
theorem lX {led:Bool} {t:SetTable} (H:Tbl led t) (es:Array (Int × Value)) (n:Nat) (hn:n<2^60) (h:es.size*4≤n) :
  Tbl led (relayAll t es n).2.1∧n<(relayAll t es n).2.1.mask+1:=by
 obtain⟨k,o,h3,hk,hp,e⟩:=kB (t:=t) hn h
 have:=Nat.two_pow_pos k
 rw [e]
 refine⟨⟨H.led,rfl,?_,H.plain,⟨k,h3,(by show 2^k-1+1=_;(exact bh (.e .M .B) .h (.e .M .B) (aa (gv .R .a .N this))))⟩⟩,(by show n<2^k-1+1;(exact gr .I .c .U (.e .L .C) hk (aa (gv .R .a .N this))))⟩
 ·show fO (List.toArray _).toList
  exact te (fun j=>o.getD j none) _ List.pairwise_lt_range
end MP
end
section
namespace MP
set_option genSizeOf false
set_option genInjectivity false
open PySem
structure Stc where
 prog:Program
 w:World
 hb:Heap
 cM:Addr
 cS:Addr
 attrs:List Str
 gl:Str→Option Value
 cap:Str→Bool
 clo:Nat→List V→Addr→Prop
noncomputable def Frz (o:Obj):Prop :=
 (o.cls≠.type "list"∧∃ xs n,o.data=.seq xs n)∨((o.cls=.type "builtin_function_or_method"∨o.cls=.type "method-wrapper")∧∃ vs,o.data=.fields vs)∨∃ fd,o.data=.func fd
mutual
noncomputable def VR (G:Stc) (h:Heap):V→Value→Prop
 | .none=>fun w=>w=.none
 | .bool b=>fun w=>w=.bool b
 | .int i=>fun w=>∃ t,w=.int i t
 | .str s=>fun w=>∃ t,w=.str s t
 | .lst a=>fun w=>w=.ref a
 | .dct a=>fun w=>w=.ref a
 | .set a=>fun w=>w=.ref a
 | .obj a=>fun w=>w=.ref a
 | .tup xs=>fun w=>∃ a ws n,w=.ref a∧IsT h a ws.toArray n∧VRs G h xs ws
 | .mt xs=>fun w=>∃ a ws n dd,w=.ref a∧h.get? a=some { cls:=.ref G.cM,dict:=dd,data:=.seq ws.toArray n,slots:=#[] }∧VRs G h xs ws
 | .zt a=>fun w=>∃ q o,w=.ref q∧h.get? q=some o∧o.cls=.type "builtin_function_or_method"∧o.data=.fields #[.builtin "dict.get",.ref a]
 | .cD a=>fun w=>∃ q o,w=.ref q∧h.get? q=some o∧o.cls=.type "builtin_function_or_method"∧o.data=.fields #[.builtin "set.__contains__",.ref a]
 | .clo k cs=>fun w=>∃ a o,w=.ref a∧G.clo k cs a∧G.hb.get? a=some o∧o.cls=.type "function"
 | .ro ns=>fun w=>∃ a ws n,w=.ref a∧IsL G.hb a ws.toArray n∧PyProof.Rows.IntsAre ws ns
noncomputable def VRs (G:Stc) (h:Heap):List V→List Value→Prop
 | []=>fun ws=>ws=[]
 | v::vs=>fun ws=>∃ w us,ws=w::us∧VR G h v w∧VRs G h vs us
end
section
variable {G:Stc} {h:Heap}
theorem VR.none:VR G h .none .none:=rfl
theorem VR.bool (b:Bool):VR G h (.bool b) (.bool b):=rfl
theorem VR.int (i:Int) (t:Tok):VR G h (.int i) (.int i t):=⟨t,rfl⟩
theorem VR.str (s:Str) (t:Tok):VR G h (.str s) (.str s t):=⟨t,rfl⟩
theorem VR.lst (a:Addr):VR G h (.lst a) (.ref a):=rfl
theorem VR.dct (a:Addr):VR G h (.dct a) (.ref a):=rfl
theorem VR.set (a:Addr):VR G h (.set a) (.ref a):=rfl
theorem VR.obj (a:Addr):VR G h (.obj a) (.ref a):=rfl
theorem VR.tup {a:Addr} {xs:List V} {ws:List Value} {n:Nat} (g:IsT h a ws.toArray n) (r:VRs G h xs ws):VR G h (.tup xs) (.ref a):=⟨a,ws,n,rfl,g,r⟩
theorem VR.mt {a:Addr} {xs:List V} {ws:List Value} {n:Nat} {dd:Option Addr} (g:h.get? a=some { cls:=.ref G.cM,dict:=dd,data:=.seq ws.toArray n,slots:=#[] }) (r:VRs G h xs ws):VR G h (.mt xs) (.ref a):=⟨a,ws,n,dd,rfl,g,r⟩
theorem VR.zt {q a:Addr} {o:Obj} (g:h.get? q=some o) (c:o.cls=.type "builtin_function_or_method") (d:o.data=.fields #[.builtin "dict.get",.ref a]):VR G h (.zt a) (.ref q):=⟨q,o,rfl,g,c,d⟩
theorem VR.cD {q a:Addr} {o:Obj} (g:h.get? q=some o) (c:o.cls=.type "builtin_function_or_method") (d:o.data=.fields #[.builtin "set.__contains__",.ref a]):VR G h (.cD a) (.ref q):=⟨q,o,rfl,g,c,d⟩
theorem VR.ro {a:Addr} {ns:List Int} {ws:List Value} {n:Nat} (g:IsL G.hb a ws.toArray n) (r:PyProof.Rows.IntsAre ws ns):VR G h (.ro ns) (.ref a):=⟨a,ws,n,rfl,g,r⟩
theorem VRs.nil:VRs G h [] []:=rfl
theorem VRs.cons {v:V} {w:Value} {vs:List V} {ws:List Value} (a:VR G h v w) (r:VRs G h vs ws):VRs G h (v::vs) (w::ws):=⟨w,ws,rfl,a,r⟩
end
noncomputable def gu (h h':Heap):Prop:=∀ b o,h.get? b=some o→Frz o→h'.get? b=some o
mutual
theorem VR.mono {G:Stc} {h h':Heap} (hk:gu h h'):{v:V}→{w:Value}→VR G h v w→VR G h' v w
 | .none=>fun x=>x
 | .bool _=>fun x=>x
 | .int _=>fun x=>x
 | .str _=>fun x=>x
 | .lst _=>fun x=>x
 | .dct _=>fun x=>x
 | .set _=>fun x=>x
 | .obj _=>fun x=>x
 | .tup _=>fun z0=>by obtain⟨a,ws,n,e,g,r⟩:=z0;exact⟨a,ws,n,e,hk _ _ g (.inl ⟨show Value.type "tuple" ≠ .type "list" by decide,_,_,rfl⟩),VRs.mono hk r⟩
 | .mt _=>fun z0=>by obtain⟨a,ws,n,dd,e,g,r⟩:=z0;exact⟨a,ws,n,dd,e,hk _ _ g (.inl ⟨fun x=>(nomatch x),_,_,rfl⟩),VRs.mono hk r⟩
 | .zt _=>fun z0=>by obtain⟨q,o,e,g,c,d⟩:=z0;exact⟨q,o,e,hk _ _ g (.inr (.inl ⟨.inl c,_,d⟩)),c,d⟩
 | .cD _=>fun z0=>by obtain⟨q,o,e,g,c,d⟩:=z0;exact⟨q,o,e,hk _ _ g (.inr (.inl ⟨.inl c,_,d⟩)),c,d⟩
 | .clo _ _=>fun x=>x
 | .ro _=>fun x=>x
theorem VRs.mono {G:Stc} {h h':Heap} (hk:gu h h'):{vs:List V}→{ws:List Value}→VRs G h vs ws→VRs G h' vs ws
 | []=>fun x=>x
 | _::_=>fun z0=>by obtain⟨w,us,e,a,r⟩:=z0;exact⟨w,us,e,VR.mono hk a,VRs.mono hk r⟩
end
theorem VR.inv {G:Stc} {h:Heap} {v:V} {w:Value} (x:VR G h v w):VR G h v w:=x
section
variable {G:Stc} {h:Heap}
theorem VRs.length:{vs:List V}→{ws:List Value}→VRs G h vs ws→vs.length=ws.length
 | []=>fun e=>e▸rfl
 | _::_=>fun z0=>by obtain⟨_,_,e,_,r⟩:=z0;exact e▸bu (·+1) (VRs.length r)
theorem VRs.get:{vs:List V}→{ws:List Value}→VRs G h vs ws→{i:Nat}→{v:V}→vs[i]?=some v→∃ w,ws[i]?=some w∧VR G h v w
 | [],_,_,i,v,e=>by simp at e
 | _::_,_,⟨w,_,q,a,_⟩,0,v,e=>⟨w,q▸rfl,ae e▸a⟩
 | _::_,_,⟨_,_,q,_,r⟩,i+1,v,e=>by subst q;exact VRs.get r e
theorem VRs.append:{vs us:List V}→{ws xs:List Value}→VRs G h vs ws→VRs G h us xs→VRs G h (vs++us) (ws++xs)
 | []=>fun e b=>e▸b
 | _::_=>fun z0 b=>by obtain⟨_,_,e,a,r⟩:=z0;exact e▸.cons a (VRs.append r b)
theorem VRs.take:{vs:List V}→{ws:List Value}→(n:Nat)→VRs G h vs ws→VRs G h (vs.take n) (ws.take n)
 | [],_,n,e=>by subst e;rw [List.take_nil,List.take_nil];rfl
 | _::_,_,0,_=>.nil
 | _::_,_,n+1,⟨_,_,e,a,r⟩=>e▸.cons a (VRs.take n r)
theorem VRs.drop:{vs:List V}→{ws:List Value}→(n:Nat)→VRs G h vs ws→VRs G h (vs.drop n) (ws.drop n)
 | [],_,n,e=>by subst e;rw [List.drop_nil,List.drop_nil];rfl
 | _::_,_,0,x=>x
 | _::_,_,n+1,⟨_,_,e,_,r⟩=>e▸VRs.drop n r
theorem VRs.reverse:{vs:List V}→{ws:List Value}→VRs G h vs ws→VRs G h vs.reverse ws.reverse
 | []=>fun e=>by subst e;exact .nil
 | _::_=>fun z0=>by obtain⟨_,_,e,a,r⟩:=z0;subst e;rw [tn,tn];exact VRs.append (VRs.reverse r) (.cons a .nil)
end
theorem jB {prog:Program} {w:World} {A:Around} {E:Value→Shared→Prop} {s:Shared} {a:Int} {t:Tok} {b:Str} {u:Tok} {Q:Bool→Shared→Prop} (h:Q false s):wpAny (model prog w) A (eqBool (.int a t) (.str b u)) Q E s:=by
 unfold eqBool
 exact ab (PySem.EqMixed.eq_int_str (vi h))
theorem jA {prog:Program} {w:World} {A:Around} {E:Value→Shared→Prop} {s:Shared} {a:Str} {t:Tok} {b:Int} {u:Tok} {Q:Bool→Shared→Prop} (h:Q false s):wpAny (model prog w) A (eqBool (.str a t) (.int b u)) Q E s:=by
 unfold eqBool
 exact ab (PySem.EqMixed.eq_str_int (vi h))
noncomputable def tF:Key→Value→Bool
 | .int i,v=>Value.isInt i v
 | .str s,v=>Value.isStrOf s v
noncomputable def keyHash (w:World):Key→Int
 | .int i=>hashInt i
 | .str s=>hashStr w s
theorem jz {k:Key} {v:Value} (h:tF k v=true):(∃ i t,k=.int i∧v=.int i t)∨∃ s t,k=.str s∧v=.str s t:=by
 cases k with
 | int i=>obtain⟨t,rfl⟩:=Value.isInt_shape h;exact .inl ⟨i,t,rfl,rfl⟩
 | str s=>obtain⟨t,rfl⟩:=Value.isStrOf_shape h;exact .inr ⟨s,t,rfl,rfl⟩
noncomputable def keyKind (prog:Program) (w:World):KeyKind prog w Key where
 is:=tF
 hash:=keyHash w
 inj:=fun v a b ha hb=>by
  rcases jz ha with ⟨i,t,rfl,rfl⟩ | ⟨x,t,rfl,rfl⟩<;>rcases jz hb with ⟨j,u,rfl,e⟩ | ⟨y,u,rfl,e⟩<;>cases e<;>rfl
 byValue:=fun k v h=>by rcases jz h with ⟨i,t,rfl,rfl⟩ | ⟨x,t,rfl,rfl⟩<;>rfl
 pyHash:=fun hv h=>by
  rcases jz hv with ⟨i,t,rfl,rfl⟩ | ⟨x,t,rfl,rfl⟩
  ·exact wpAny_pyHash_int h
  ·exact wpAny_pyHash_str h
 eqBool:=fun hu hv h=>by
  rcases jz hu with ⟨i,t,rfl,rfl⟩ | ⟨x,t,rfl,rfl⟩<;>rcases jz hv with ⟨j,u,rfl,rfl⟩ | ⟨y,u,rfl,rfl⟩
  ·refine wpAny_eqBool_int ?_
   simpa [Bool.beq_eq_decide_eq] using h
  ·exact jB (by simpa using h)
  ·exact jA (by simpa using h)
  ·exact wpAny_eqBool_str (by simpa using h)
 «strs»:=fun k x t v h=>by
  rcases jz h with ⟨i,u,rfl,e⟩ | ⟨y,u,rfl,e⟩
  ·cases e
  ·cases e;cases v<;>rfl
noncomputable abbrev Stc.kk (G:Stc):KeyKind G.prog G.w Key:=keyKind G.prog G.w
noncomputable def DRs (G:Stc) (h:Heap):List (Key × V)→List (Key × Value)→Prop
 | []=>fun ds=>ds=[]
 | e::es=>fun ds=>∃ w us,ds=(e.1,w)::us∧VR G h e.2 w∧DRs G h es us
theorem DRs.nil {G:Stc} {h:Heap}:DRs G h [] []:=rfl
theorem DRs.cons {G:Stc} {h:Heap} {k:Key} {v:V} {w:Value} {es:List (Key × V)} {ds:List (Key × Value)} (a:VR G h v w) (r:DRs G h es ds):DRs G h ((k,v)::es) ((k,w)::ds):=⟨w,ds,rfl,a,r⟩
theorem DRs.mono {G:Stc} {h h':Heap} (hk:gu h h'):{es:List (Key × V)}→{ds:List (Key × Value)}→DRs G h es ds→DRs G h' es ds
 | []=>fun x=>x
 | _::_=>fun z0=>by obtain⟨w,us,e,a,r⟩:=z0;exact⟨w,us,e,a.mono hk,r.mono hk⟩
noncomputable def OV (G:Stc) (h:Heap):Option V→Option Value→Prop
 | none,none=>True
 | some v,some w=>VR G h v w
 | _,_=>False
theorem OV.mono {G:Stc} {h h':Heap} (hk:gu h h') {v:Option V} {w:Option Value} (x:OV G h v w):OV G h' v w:=by
 cases v<;>cases w<;>first | exact x | exact VR.mono hk x
structure ym (G:Stc) (h:Heap) (a d:Addr) (f:Nat→Option V):Prop where
 here:∃ o,h.get? a=some o∧o.cls=.ref G.cS∧o.dict=some d∧∀ c,o.data≠.cls c
 ns:∃ m,h.Ns1 d m∧(∀ i x,G.attrs[i]?=some x→OV G h (f i) (m x))∧∀ x,x∉G.attrs→m x=none
 ne:d≠a
noncomputable abbrev Stc.led (G:Stc):Bool:=!G.w.params.followText "set-order"
noncomputable def vd (G:Stc) (h:Heap) (a:Addr) (ks:List Key):Prop :=
 ∃ o es ep t,h.get? a=some o∧o.ExactSet∧o.data=.set es ep t∧ElemsOf G.kk es.toList∧(∀ k,decide (k∈ks)=true↔∃ e∈es.toList,G.kk.is k e.2=true) ∧
  es.size<scanBound∧t.fits es.size=true∧es.size=ks.length∧Tbl G.led t∧es.size*5<t.mask*3
theorem vd.of {G:Stc} {h:Heap} {a:Addr} {ks:List Key} (x:vd G h a ks):h.SetOf G.kk a (fun k=>decide (k∈ks)) ks.length:=by
 obtain⟨o,es,ep,t,h1,h2,h3,h4,h5,h6,h7,h8,_⟩:=x
 exact⟨o,es,ep,t,h1,h2,h3,h4,h5,h6,h7,h8⟩
structure Rel (G:Stc) (σ:St) (h:Heap):Prop where
 L:∀ a xs,σ.L a=some xs→∃ ws n,IsL h a ws.toArray n∧VRs G h xs ws
 D:∀ a es,σ.D a=some es→∃ ds,h.DictOf G.kk a ds∧DRs G h es ds
 S:∀ a ks,σ.S a=some ks→vd G h a ks
 I:∀ a d f,σ.I a=some (d,f)→ym G h a d f
 Z:∀ a o,σ.Z a=some o→h.get? a=some o∧((σ.D a).isSome∨(σ.S a).isSome)
 Ll:∀ a xs,σ.L a=some xs→xs.length≤aq
 Dl:∀ a es,σ.D a=some es→es.length≤aq
 inj:∀ a a' d f f',σ.I a=some (d,f)→σ.I a'=some (d,f')→a=a'
 apart:∀ a d f,σ.I a=some (d,f)→σ.D d=none
 sep:∀ a d f a' d' f',σ.I a=some (d,f)→σ.I a'=some (d',f')→a≠d'
 new:∀ b,σ.dom b→G.hb.get? b=none
 base:∀ b o,G.hb.get? b=some o→h.get? b=some o
structure Evo (X:List Addr) (σ:St) (h:Heap) (σ':St) (h':Heap):Prop where
 keep:∀ b o,h.get? b=some o→¬ σ.dom b→b∉X→h'.get? b=some o
 frz:gu h h'
 dom:∀ b,σ'.dom b→σ.dom b∨h.get? b=none
 there:∀ b o,h.get? b=some o→∃ o',h'.get? b=some o'
theorem Evo.refl (X:List Addr) (σ:St) (h:Heap):Evo X σ h σ h:=⟨fun _ _ e _ _=>e,fun _ _ e _=>e,fun _ d=>.inl d,fun _ o e=>⟨o,e⟩⟩
theorem Evo.trans {X:List Addr} {σ σ₁ σ₂:St} {h h₁ h₂:Heap} (x:Evo X σ h σ₁ h₁) (y:Evo X σ₁ h₁ σ₂ h₂):Evo X σ h σ₂ h₂:=by
 refine⟨fun b o e nd nx=>y.keep b o (x.keep b o e nd nx) (fun d=>?_) nx,fun b o e f=>y.frz b o (x.frz b o e f) f,fun b d=>?_,fun b o e=>?_⟩
 ·rcases x.dom b d with d | d
  ·exact nd d
  ·rw [e] at d;cases d
 ·rcases y.dom b d with d | d
  ·exact x.dom b d
  ·cases hq:h.get? b with
   | none=>exact .inr rfl
   | some o=>obtain⟨o',e'⟩:=x.there b o hq;rw [e'] at d;cases d
 ·obtain⟨o₁,e₁⟩:=x.there b o e
  exact y.there b o₁ e₁
theorem Evo.more {X Y:List Addr} {σ σ':St} {h h':Heap} (x:Evo X σ h σ' h') (hs:∀ b∈X,b∈Y):Evo Y σ h σ' h' :=
 ⟨fun b o e nd ny=>x.keep b o e nd fun hx=>ny (hs b hx),x.frz,x.dom,x.there⟩
theorem Evo.less {X Y:List Addr} {σ σ':St} {h h':Heap} (x:Evo X σ h σ' h') (hs:∀ b∈X,b∈Y∨h.get? b=none):Evo Y σ h σ' h' :=
 ⟨fun b o e nd ny=>x.keep b o e nd fun hx=>(hs b hx).elim ny fun q=>(by rw [e] at q;cases q),x.frz,x.dom,x.there⟩
theorem fY {o:Obj} {xs:Array Value} {n:Nat} (c:o.cls=.type "list") (d:o.data=.seq xs n):¬ Frz o:=by
 rintro (⟨h,_⟩ | ⟨_,_,h⟩ | ⟨_,h⟩)
 ·exact h c
 ·rw [d] at h;cases h
 ·rw [d] at h;cases h
theorem pj {o:Obj} {es:Array DictEntry} {n:Nat} (d:o.data=.dict es n):¬ Frz o:=by
 rintro (⟨_,_,_,h⟩ | ⟨_,_,h⟩ | ⟨_,h⟩)<;>(rw [d] at h;cases h)
theorem nC {o:Obj} {v:Option Value} (d:o.data=.cell v):¬ Frz o:=by
 rintro (⟨_,_,_,h⟩ | ⟨_,_,h⟩ | ⟨_,h⟩)<;>(rw [d] at h;cases h)
theorem nf {h h':Heap} {a:Addr} (hs:Heap.SameBut a h h') (hn:∀ o,h.get? a=some o→¬ Frz o):gu h h':=fun b o e f=>by
 by_cases hb:b=a
 ·subst hb;exact absurd f (hn o e)
 ·rw [hs.2 b hb];exact e
theorem uf {h h':Heap} {a:Addr} {o':Obj} (hs:Heap.SameBut a h h') (ha:h'.get? a=some o'):∀ b o,h.get? b=some o→∃ o',h'.get? b=some o':=fun b o e=>by
 by_cases hb:b=a
 ·subst hb;exact⟨_,ha⟩
 ·exact⟨o,by rw [hs.2 b hb];exact e⟩
theorem none_at_size (h:Heap):h.get? h.objs.size=none:=by
 cases hq:h.get? h.objs.size with
 | none=>rfl
 | some o=>exact absurd (du hq) (jc _)
theorem oA {o:Obj} {es:Array (Int × Value)} {n:Nat} {t:SetTable} (d:o.data=.set es n t):¬ Frz o:=by
 rintro (⟨_,_,_,h⟩ | ⟨_,_,h⟩ | ⟨_,h⟩)<;>(rw [d] at h;cases h)
theorem Rel.nv {G:Stc} {σ:St} {h:Heap} (R:Rel G σ h) {b:Addr} (d:σ.dom b):∃ o,h.get? b=some o:=by
 rcases d with d | d | d | d | d | ⟨a,f,d⟩
 ·obtain⟨xs,e⟩:=ax.mp d
  obtain⟨ws,n,ho,_⟩:=R.L b xs e
  exact⟨_,ho⟩
 ·obtain⟨xs,e⟩:=ax.mp d
  obtain⟨ds,⟨o,es,ep,ho,_,dd,_⟩,_⟩:=R.D b xs e
  exact⟨o,ho⟩
 ·obtain⟨xs,e⟩:=ax.mp d
  obtain⟨o,es,ep,t,ho,_,dd,_⟩:=R.S b xs e
  exact⟨o,ho⟩
 ·obtain⟨⟨d,f⟩,e⟩:=ax.mp d
  obtain⟨o,ho,_⟩:=(R.I b d f e).here
  exact⟨o,ho⟩
 ·obtain⟨o,e⟩:=ax.mp d
  exact⟨o,(R.Z b o e).1⟩
 ·obtain⟨m,⟨o',es,ep,ho',dd,_⟩,_⟩:=(R.I a b f d).ns
  exact⟨o',ho'⟩
theorem Rel.same {G:Stc} {σ:St} {h h':Heap} (R:Rel G σ h) (hk:∀ b o,h.get? b=some o→σ.dom b→h'.get? b=some o) (hf:gu h h') (hb:∀ b o,G.hb.get? b=some o→h'.get? b=some o):Rel G σ h' where
 L:=fun a xs e=>by
  obtain⟨ws,n,ho,v⟩:=R.L a xs e
  exact⟨ws,n,hk a _ ho (.inl (by rw [e];rfl)),v.mono hf⟩
 D:=fun a xs e=>by
  obtain⟨ds,⟨o,es,ep,ho,r⟩,v⟩:=R.D a xs e
  exact⟨ds,⟨o,es,ep,hk a o ho (.inr (.inl (by rw [e];rfl))),r⟩,v.mono hf⟩
 S:=fun a xs e=>by
  obtain⟨o,es,ep,t,ho,r⟩:=R.S a xs e
  exact⟨o,es,ep,t,hk a o ho (.inr (.inr (.inl (by rw [e];rfl)))),r⟩
 I:=fun a d f e=>by
  obtain⟨⟨o,ho,r⟩,⟨m,⟨o',es,ep,ho',r'⟩,v,v'⟩,ne⟩:=R.I a d f e
  have dd:σ.dom d:=.inr (.inr (.inr (.inr (.inr ⟨a,f,e⟩))))
  exact⟨⟨o,hk a o ho (.inr (.inr (.inr (.inl (by rw [e];rfl))))),r⟩,⟨m,⟨o',es,ep,hk d o' ho' dd,r'⟩,fun i x hx=>(v i x hx).mono hf,v'⟩,ne⟩
 Z:=fun a o e=>⟨hk a o (R.Z a o e).1 (.inr (.inr (.inr (.inr (.inl (by rw [e];rfl)))))),(R.Z a o e).2⟩
 Ll:=R.Ll
 Dl:=R.Dl
 inj:=R.inj
 apart:=R.apart
 sep:=R.sep
 new:=R.new
 base:=hb
theorem Rel.push {G:Stc} {σ:St} {h:Heap} (R:Rel G σ h) (o:Obj):Rel G σ (h.push o) :=
 R.same (fun _ _ e _=>ak o e) (fun _ _ e _=>ak o e) fun b o' e=>ak o (R.base b o' e)
theorem Evo.push (X:List Addr) (σ:St) (h:Heap) (o:Obj):Evo X σ h σ (h.push o) :=
 ⟨fun _ _ e _ _=>ak o e,fun _ _ e _=>ak o e,fun _ d=>.inl d,fun _ o' e=>⟨o',ak o e⟩⟩
theorem yf {σ:St} {a b:Addr} {xs:List V} (d:(σ.fg a xs).dom b):σ.dom b∨b=a:=by
 by_cases h:b=a
 ·exact .inr h
 ·refine .inl ?_
  rcases d with d | d
  ·exact .inl (by simpa [St.fg,upd,h] using d)
  ·exact .inr d
theorem jE {σ:St} {a b:Addr} {xs:List (Key × V)} (d:(σ.mx a xs).dom b):σ.dom b∨b=a:=by
 by_cases h:b=a
 ·exact .inr h
 ·refine .inl ?_
  rcases d with d | d | d
  ·exact .inl d
  ·exact .inr (.inl (by simpa [St.mx,upd,h] using d))
  ·exact .inr (.inr (by simpa [St.mx,clr,h] using d))
theorem pD {σ:St} {a b:Addr} {xs:List Key} (d:(σ.dG a xs).dom b):σ.dom b∨b=a:=by
 by_cases h:b=a
 ·exact .inr h
 ·refine .inl ?_
  rcases d with d | d | d | d
  ·exact .inl d
  ·exact .inr (.inl d)
  ·exact .inr (.inr (.inl (by simpa [St.dG,upd,h] using d)))
  ·exact .inr (.inr (.inr (by simpa [St.dG,clr,h] using d)))
theorem dZ {σ:St} {a b d:Addr} {f:Nat→Option V} (hd:(σ.ju a d f).dom b):σ.dom b∨b=a∨b=d:=by
 by_cases h:b=a
 ·exact .inr (.inl h)
 ·by_cases h':b=d
  ·exact .inr (.inr h')
  ·refine .inl ?_
   rcases hd with q | q | q | q | q | ⟨c,g,q⟩
   ·exact .inl q
   ·exact .inr (.inl q)
   ·exact .inr (.inr (.inl q))
   ·exact .inr (.inr (.inr (.inl (by simpa [St.ju,upd,h] using q))))
   ·exact .inr (.inr (.inr (.inr (.inl q))))
   ·refine .inr (.inr (.inr (.inr (.inr ⟨c,g,?_⟩))))
    by_cases hc:c=a
    ·simp only [St.ju,upd,hc,rp,dn,pd] at q;exact absurd q.1.symm h'
    ·simpa [St.ju,upd,hc] using q
theorem jD {σ:St} {a b:Addr} {o:Obj} (hd:σ.dom a) (d:(σ.zm a o).dom b):σ.dom b:=by
 by_cases h:b=a
 ·exact h▸hd
 ·rcases d with d | d | d | d | d | d
  ·exact .inl d
  ·exact .inr (.inl d)
  ·exact .inr (.inr (.inl d))
  ·exact .inr (.inr (.inr (.inl d)))
  ·exact .inr (.inr (.inr (.inr (.inl (by simpa [St.zm,upd,h] using d)))))
  ·exact .inr (.inr (.inr (.inr (.inr d))))
structure At (a:Addr) (h h':Heap):Prop where
 other:∀ b o,b≠a→h.get? b=some o→h'.get? b=some o
 here:∃ o,h'.get? a=some o
 nofrz:∀ o,h.get? a=some o→¬ Frz o
theorem At.frz {a:Addr} {h h':Heap} (x:At a h h'):gu h h':=fun b o e f=>x.other b o (fun hb=>x.nofrz o (hb▸e) f) e
theorem At.there {a:Addr} {h h':Heap} (x:At a h h'):∀ b o,h.get? b=some o→∃ o',h'.get? b=some o':=fun b o e=>by
 by_cases hb:b=a
 ·subst hb;exact x.here
 ·exact⟨o,x.other b o hb e⟩
theorem At.push (h:Heap) {o:Obj} (ho:o.isFreed=false:=by rfl):At h.objs.size h (h.push o) :=
 ⟨fun _ _ _ e=>ak o e,⟨o,bq _ ho⟩,fun o' e=>by rw [none_at_size] at e;cases e⟩
theorem At.iQ {a:Addr} {h h':Heap} {o o':Obj} (hs:Heap.SameBut a h h') (ha:h.get? a=some o) (hn:¬ Frz o) (ha':h'.get? a=some o'):At a h h' :=
 ⟨fun b _ hb e=>by rw [hs.2 b hb];exact e,⟨o',ha'⟩,fun _ e=>by rw [ha] at e;cases e;exact hn⟩
section
variable {G:Stc} {σ:St} {h h':Heap} {a:Addr}
theorem Rel.atL (R:Rel G σ h) (x:At a h h') {b:Addr} {xs:List V} (hb:b≠a) (e:σ.L b=some xs):∃ ws n,IsL h' b ws.toArray n∧VRs G h' xs ws:=by
 obtain⟨ws,n,ho,v⟩:=R.L b xs e
 exact⟨ws,n,x.other b _ hb ho,v.mono x.frz⟩
theorem Rel.atD (R:Rel G σ h) (x:At a h h') {b:Addr} {es:List (Key × V)} (hb:b≠a) (e:σ.D b=some es):∃ ds,h'.DictOf G.kk b ds∧DRs G h' es ds:=by
 obtain⟨ds,⟨o,es',ep,ho,r⟩,v⟩:=R.D b es e
 exact⟨ds,⟨o,es',ep,x.other b o hb ho,r⟩,v.mono x.frz⟩
theorem Rel.atS (R:Rel G σ h) (x:At a h h') {b:Addr} {ks:List Key} (hb:b≠a) (e:σ.S b=some ks):vd G h' b ks:=by
 obtain⟨o,es',ep,t,ho,r⟩:=R.S b ks e
 exact⟨o,es',ep,t,x.other b o hb ho,r⟩
theorem Rel.atI (R:Rel G σ h) (x:At a h h') {b d:Addr} {f:Nat→Option V} (hb:b≠a) (hd:d≠a) (e:σ.I b=some (d,f)):ym G h' b d f:=by
 obtain⟨⟨o,ho,r⟩,⟨m,⟨o',es,ep,ho',r'⟩,v,v'⟩,ne⟩:=R.I b d f e
 exact⟨⟨o,x.other b o hb ho,r⟩,⟨m,⟨o',es,ep,x.other d o' hd ho',r'⟩,fun i y hy=>(v i y hy).mono x.frz,v'⟩,ne⟩
theorem Rel.pK (R:Rel G σ h) {xs:List V} (e:σ.L a=some xs):∃ o,h.get? a=some o∧o.cls=.type "list":=by
 obtain⟨ws,n,ho,_⟩:=R.L a xs e
 exact⟨_,ho,rfl⟩
theorem Rel.AB (R:Rel G σ h) {es:List (Key × V)} (e:σ.D a=some es):∃ o,h.get? a=some o∧o.cls=.type "dict":=by
 obtain⟨ds,⟨o,es',ep,ho,c,_⟩,_⟩:=R.D a es e
 exact⟨o,ho,c.1⟩
theorem Rel.AA (R:Rel G σ h) {ks:List Key} (e:σ.S a=some ks):∃ o,h.get? a=some o∧o.cls=.type "set":=by
 obtain⟨o,es',ep,t,ho,c,_⟩:=R.S a ks e
 exact⟨o,ho,c.1⟩
theorem Rel.H2 (R:Rel G σ h) {d:Addr} {f:Nat→Option V} (e:σ.I a=some (d,f)):∃ o,h.get? a=some o∧o.cls=.ref G.cS:=by
 obtain⟨o,ho,c,_⟩:=(R.I a d f e).here
 exact⟨o,ho,c⟩
theorem Rel.A7 (R:Rel G σ h) {d:Addr} {f:Nat→Option V} (e:σ.I a=some (d,f)):∃ o es ep,h.get? d=some o∧o.data=.dict es ep:=by
 obtain⟨m,⟨o',es,ep,ho',dd,_⟩,_⟩:=(R.I a d f e).ns
 exact⟨o',es,ep,ho',dd⟩
theorem Rel.I5 (R:Rel G σ h) {b d:Addr} {f:Nat→Option V} {xs:List V} (e:σ.L b=some xs) (e':σ.I a=some (d,f)):d≠b:=by
 rintro rfl
 obtain⟨o,es,ep,ho,hd⟩:=R.A7 e'
 obtain⟨ws,n,ho',_⟩:=R.L _ _ e
 obtain rfl:=ae (ho.symm.trans ho');cases hd
theorem Rel.G8 (R:Rel G σ h) {b d:Addr} {f:Nat→Option V} {xs:List Key} (e:σ.S b=some xs) (e':σ.I a=some (d,f)):d≠b:=by
 rintro rfl
 obtain⟨o,es,ep,ho,hd⟩:=R.A7 e'
 obtain⟨o',es',ep',t',ho',_,hd',_⟩:=R.S _ _ e
 rw [ho] at ho';cases ho';rw [hd] at hd';cases hd'
theorem Rel.yU (R:Rel G σ h) {b d:Addr} {f:Nat→Option V} (e:h.get? b=none) (e':σ.I a=some (d,f)):d≠b:=by
 rintro rfl
 obtain⟨o,es,ep,ho,hd⟩:=R.A7 e'
 rw [ho] at e;cases e
theorem Rel.KQ (R:Rel G σ h) {b:Addr} {o:Obj} (e:σ.Z b=some o):(∃ o,h.get? b=some o∧o.cls=.type "dict")∨∃ o,h.get? b=some o∧o.cls=.type "set" :=
 (R.Z b o e).2.imp (fun q=>by
  obtain⟨x,q⟩:=ax.mp q
  exact R.AB q) fun q=>by
  obtain⟨x,q⟩:=ax.mp q
  exact R.AA q
theorem Rel.atZ (R:Rel G σ h) (x:At a h h') (n:∀ b o,σ.Z b=some o→b≠a):∀ b o,σ.Z b=some o→h'.get? b=some o∧((σ.D b).isSome∨(σ.S b).isSome):=fun b o e=>⟨x.other b o (n b o e) (R.Z b o e).1,(R.Z b o e).2⟩
theorem Rel.yE (R:Rel G σ h) {b:Addr} {o:Obj} (e:h.get? b=some o) (d:(σ.D b).isSome∨(σ.S b).isSome):Rel G (σ.zm b o) h :=
 ⟨R.L,R.D,R.S,R.I,fun c o' q=>by
  by_cases hc:c=b
  ·subst hc
   obtain rfl:=ae ((bg σ.Z c o).symm.trans q)
   exact⟨e,d⟩
  ·exact R.Z c o' ((dq hc).symm.trans q),R.Ll,R.Dl,R.inj,R.apart,R.sep,fun c q=>R.new c (jD (d.elim (fun d=>.inr (.inl d)) fun d=>.inr (.inr (.inl d))) q),R.base⟩
theorem Evo.yE {X:List Addr} {b:Addr} {o:Obj} (d:(σ.D b).isSome∨(σ.S b).isSome):Evo X σ h (σ.zm b o) h :=
 ⟨fun _ _ e _ _=>e,fun _ _ e _=>e,fun c q=>.inl (jD (d.elim (fun d=>.inr (.inl d)) fun d=>.inr (.inr (.inl d))) q),fun _ o e=>⟨o,e⟩⟩
theorem Rel.putL (R:Rel G σ h) (x:At a h h') (hn:σ.L a=none→h.get? a=none) {xs:List V} {ws:List Value} {n:Nat} (hl:IsL h' a ws.toArray n) (hv:VRs G h xs ws) (hz:xs.length≤aq):Rel G (σ.fg a xs) h':=by
 have old:∀ b o,h.get? b=some o→∀ c:Value,o.cls=c→c≠.type "list"→b≠a:=fun b o e c hc hne hb=>by
  subst hb
  cases hq:σ.L b with
  | none=>rw [hn hq] at e;cases e
  | some ys=>obtain⟨o',ho',c'⟩:=R.pK hq;rw [e] at ho';cases ho';exact hne (hc.symm.trans c')
 have neC:∀ b c,(∃ o,h.get? b=some o∧o.cls=c)→c≠.type "list"→b≠a:=fun b c zz2 hne=>by obtain⟨o,ho,hc⟩:=zz2;exact old b o ho c hc hne
 refine⟨fun b ys e=>?_,fun b es e=>R.atD x (neC b _ (R.AB e) (by decide)) e,fun b ks e=>R.atS x (neC b _ (R.AA e) (by decide)) e,
  fun b d f e=>R.atI x (neC b _ (R.H2 e) (fun q=>nomatch q)) (by
   cases hq:σ.L a with
   | none=>exact R.yU (hn hq) e
   | some ys=>exact R.I5 hq e) e,R.atZ x fun b o e=>(R.KQ e).elim (fun q=>neC b _ q (by decide)) fun q=>neC b _ q (by decide),fun b ys e=>?_,R.Dl,R.inj,R.apart,R.sep,fun b d=>?_,fun b o e=>?_⟩
 ·by_cases hb:b=a
  ·subst hb
   simp only [St.fg,bg,dn] at e
   subst e
   exact⟨ws,n,hl,hv.mono x.frz⟩
  ·simp only [St.fg,dq hb] at e
   exact R.atL x hb e
 ·by_cases hb:b=a
  ·subst hb
   simp only [St.fg,bg,dn] at e
   exact e▸hz
  ·simp only [St.fg,dq hb] at e
   exact R.Ll b ys e
 ·rcases yf d with d | rfl
  ·exact R.new b d
  ·cases hq:G.hb.get? b with
   | none=>rfl
   | some o =>
    cases hL:σ.L b with
    | none=>have:=R.base b o hq;rw [hn hL] at this;cases this
    | some ys=>have:=R.new b (.inl (by rw [hL];rfl));rw [hq] at this;cases this
 ·refine x.other b o (fun hb=>?_) (R.base b o e)
  subst hb
  cases hL:σ.L b with
  | none=>have:=R.base b o e;rw [hn hL] at this;cases this
  | some ys=>have:=R.new b (.inl (by rw [hL];rfl));rw [e] at this;cases this
theorem Evo.putL {X:List Addr} (x:At a h h') (hn:σ.L a=none→h.get? a=none) (xs:List V):Evo X σ h (σ.fg a xs) h':=by
 refine⟨fun b o e nd _=>x.other b o (fun hb=>?_) e,x.frz,fun b d=>?_,x.there⟩
 ·subst hb
  cases hq:σ.L b with
  | none=>rw [hn hq] at e;cases e
  | some ys=>exact nd (.inl (by rw [hq];rfl))
 ·rcases yf d with d | rfl
  ·exact .inl d
  ·cases hq:σ.L b with
   | none=>exact .inr (hn hq)
   | some ys=>exact .inl (.inl (by rw [hq];rfl))
theorem Rel.putD (R:Rel G σ h) (x:At a h h') (hn:σ.D a=none→h.get? a=none) (hi:∀ b f,σ.I b≠some (a,f)) {xs:List (Key × V)} {ds:List (Key × Value)} (hl:h'.DictOf G.kk a ds) (hv:DRs G h xs ds) (hz:xs.length≤aq):Rel G (σ.mx a xs) h':=by
 have old:∀ b o,h.get? b=some o→∀ c:Value,o.cls=c→c≠.type "dict"→b≠a:=fun b o e c hc hne hb=>by
  subst hb
  cases hq:σ.D b with
  | none=>rw [hn hq] at e;cases e
  | some ys=>obtain⟨o',ho',c'⟩:=R.AB hq;rw [e] at ho';cases ho';exact hne (hc.symm.trans c')
 have neC:∀ b c,(∃ o,h.get? b=some o∧o.cls=c)→c≠.type "dict"→b≠a:=fun b c zz2 hne=>by obtain⟨o,ho,hc⟩:=zz2;exact old b o ho c hc hne
 refine⟨fun b es e=>R.atL x (neC b _ (R.pK e) (by decide)) e,fun b ys e=>?_,fun b ks e=>R.atS x (neC b _ (R.AA e) (by decide)) e,
  fun b d f e=>R.atI x (neC b _ (R.H2 e) (fun q=>nomatch q)) (fun hd=>hi b f (hd▸e)) e,fun b o e=>(by
   obtain⟨hb,e⟩:=jJ e
   obtain⟨q,r⟩:=R.Z b o e
   refine⟨x.other b o hb q,?_⟩
   show(upd σ.D a xs b).isSome=true∨_
   rw [dq hb];exact r),R.Ll,fun b ys e=>?_,R.inj,fun b d f e=>?_,R.sep,fun b d=>?_,fun b o e=>?_⟩
 ·by_cases hb:b=a
  ·subst hb
   simp only [St.mx,bg,dn] at e
   subst e
   exact⟨ds,hl,hv.mono x.frz⟩
  ·simp only [St.mx,dq hb] at e
   exact R.atD x hb e
 ·by_cases hb:b=a
  ·subst hb
   simp only [St.mx,bg,dn] at e
   exact e▸hz
  ·simp only [St.mx,dq hb] at e
   exact R.Dl b ys e
 ·have hd:d≠a:=fun hd=>hi b f (hd▸e)
  simp only [St.mx,dq hd]
  exact R.apart b d f e
 ·rcases jE d with d | rfl
  ·exact R.new b d
  ·cases hq:G.hb.get? b with
   | none=>rfl
   | some o =>
    cases hL:σ.D b with
    | none=>have:=R.base b o hq;rw [hn hL] at this;cases this
    | some ys=>have:=R.new b (.inr (.inl (by rw [hL];rfl)));rw [hq] at this;cases this
 ·refine x.other b o (fun hb=>?_) (R.base b o e)
  subst hb
  cases hL:σ.D b with
  | none=>have:=R.base b o e;rw [hn hL] at this;cases this
  | some ys=>have:=R.new b (.inr (.inl (by rw [hL];rfl)));rw [e] at this;cases this
theorem Evo.putD {X:List Addr} (x:At a h h') (hn:σ.D a=none→h.get? a=none) (xs:List (Key × V)):Evo X σ h (σ.mx a xs) h':=by
 refine⟨fun b o e nd _=>x.other b o (fun hb=>?_) e,x.frz,fun b d=>?_,x.there⟩
 ·subst hb
  cases hq:σ.D b with
  | none=>rw [hn hq] at e;cases e
  | some ys=>exact nd (.inr (.inl (by rw [hq];rfl)))
 ·rcases jE d with d | rfl
  ·exact .inl d
  ·cases hq:σ.D b with
   | none=>exact .inr (hn hq)
   | some ys=>exact .inl (.inr (.inl (by rw [hq];rfl)))
theorem Rel.yF (R:Rel G σ h) (x:At a h h') (hn:σ.S a=none→h.get? a=none) {xs:List Key} (hl:vd G h' a xs):Rel G (σ.dG a xs) h':=by
 have old:∀ b o,h.get? b=some o→∀ c:Value,o.cls=c→c≠.type "set"→b≠a:=fun b o e c hc hne hb=>by
  subst hb
  cases hq:σ.S b with
  | none=>rw [hn hq] at e;cases e
  | some ys=>obtain⟨o',ho',c'⟩:=R.AA hq;rw [e] at ho';cases ho';exact hne (hc.symm.trans c')
 have neC:∀ b c,(∃ o,h.get? b=some o∧o.cls=c)→c≠.type "set"→b≠a:=fun b c zz2 hne=>by obtain⟨o,ho,hc⟩:=zz2;exact old b o ho c hc hne
 refine⟨fun b es e=>R.atL x (neC b _ (R.pK e) (by decide)) e,fun b ks e=>R.atD x (neC b _ (R.AB e) (by decide)) e,fun b ys e=>?_,
  fun b d f e=>R.atI x (neC b _ (R.H2 e) (fun q=>nomatch q)) (by
   cases hq:σ.S a with
   | none=>exact R.yU (hn hq) e
   | some ys=>exact R.G8 hq e) e,fun b o e=>(by
   obtain⟨hb,e⟩:=jJ e
   obtain⟨q,r⟩:=R.Z b o e
   refine⟨x.other b o hb q,?_⟩
   show _∨(upd σ.S a xs b).isSome=true
   rw [dq hb];exact r),R.Ll,R.Dl,R.inj,R.apart,R.sep,fun b d=>?_,fun b o e=>?_⟩
 ·by_cases hb:b=a
  ·subst hb
   simp only [St.dG,bg,dn] at e
   subst e
   exact hl
  ·simp only [St.dG,dq hb] at e
   exact R.atS x hb e
 ·rcases pD d with d | rfl
  ·exact R.new b d
  ·cases hq:G.hb.get? b with
   | none=>rfl
   | some o =>
    cases hL:σ.S b with
    | none=>have:=R.base b o hq;rw [hn hL] at this;cases this
    | some ys=>have:=R.new b (.inr (.inr (.inl (by rw [hL];rfl))));rw [hq] at this;cases this
 ·refine x.other b o (fun hb=>?_) (R.base b o e)
  subst hb
  cases hL:σ.S b with
  | none=>have:=R.base b o e;rw [hn hL] at this;cases this
  | some ys=>have:=R.new b (.inr (.inr (.inl (by rw [hL];rfl))));rw [e] at this;cases this
theorem Evo.yF {X:List Addr} (x:At a h h') (hn:σ.S a=none→h.get? a=none) (xs:List Key):Evo X σ h (σ.dG a xs) h':=by
 refine⟨fun b o e nd _=>x.other b o (fun hb=>?_) e,x.frz,fun b d=>?_,x.there⟩
 ·subst hb
  cases hq:σ.S b with
  | none=>rw [hn hq] at e;cases e
  | some ys=>exact nd (.inr (.inr (.inl (by rw [hq];rfl))))
 ·rcases pD d with d | rfl
  ·exact .inl d
  ·cases hq:σ.S b with
   | none=>exact .inr (hn hq)
   | some ys=>exact .inl (.inr (.inr (.inl (by rw [hq];rfl))))
theorem Rel.FX (R:Rel G σ h) {d:Addr} {f f':Nat→Option V} (e:σ.I a=some (d,f)) (x:At d h h') (hl:ym G h' a d f'):Rel G (σ.ju a d f') h':=by
 have hda:d≠a:=hl.ne
 have base':∀ c d' g,(σ.ju a d f').I c=some (d',g)→∃ g₀,σ.I c=some (d',g₀):=fun c d' g q=>by
  by_cases hc:c=a
  ·subst hc
   simp only [St.ju,bg,dn,pd] at q
   exact⟨f,q.1▸e⟩
  ·exact⟨g,by simpa [St.ju,upd,hc] using q⟩
 refine⟨fun b es e'=>R.atL x (R.I5 e' e).symm e',fun b ks e'=>R.atD x (fun hb=>?_) e',fun b ys e'=>R.atS x (R.G8 e' e).symm e',fun b d' g e'=>?_,R.atZ x fun b o e' hb=>((R.Z b o e').2.elim (fun q=>(by subst hb;rw [R.apart a b f e] at q;cases q)) fun q=>(by
  obtain⟨ks,q⟩:=ax.mp q
  exact R.G8 q e hb.symm)),R.Ll,R.Dl,fun b b' d' g g' e1 e2=>?_,fun b d' g e'=>?_,fun b d' g b' d'' g' e1 e2=>?_,fun b hd=>?_,fun b o e'=>?_⟩
 ·subst hb;have e'':σ.D b=some ks:=e';rw [R.apart a b f e] at e'';cases e''
 ·by_cases hb:b=a
  ·subst hb
   simp only [St.ju,bg,dn,pd] at e'
   obtain⟨rfl,rfl⟩:=e'
   exact hl
  ·simp only [St.ju,dq hb] at e'
   exact R.atI x (R.sep _ _ _ _ _ _ e' e) (fun hd=>hb (R.inj b a d g f (hd▸e') e)) e'
 ·obtain⟨g₁,q1⟩:=base' b d' g e1
  obtain⟨g₂,q2⟩:=base' b' d' g' e2
  exact R.inj b b' d' g₁ g₂ q1 q2
 ·by_cases hb:b=a
  ·subst hb
   simp only [St.ju,bg,dn,pd] at e'
   exact e'.1▸R.apart b d f e
  ·exact R.apart b d' g (by simpa [St.ju,upd,hb] using e')
 ·obtain⟨g₁,q1⟩:=base' b d' g e1
  obtain⟨g₂,q2⟩:=base' b' d'' g' e2
  exact R.sep _ _ _ _ _ _ q1 q2
 ·have ha:σ.dom a:=.inr (.inr (.inr (.inl (by rw [e];rfl))))
  have hd':σ.dom d:=.inr (.inr (.inr (.inr (.inr ⟨a,f,e⟩))))
  rcases dZ hd with q | rfl | rfl
  ·exact R.new b q
  ·exact R.new _ ha
  ·exact R.new _ hd'
 ·refine x.other b o (fun hb=>?_) (R.base b o e')
  subst hb
  have:=R.new b (.inr (.inr (.inr (.inr (.inr ⟨a,f,e⟩)))))
  rw [e'] at this;cases this
theorem Evo.FX {X:List Addr} {d:Addr} {f:Nat→Option V} (f':Nat→Option V) (e:σ.I a=some (d,f)) (x:At d h h'):Evo X σ h (σ.ju a d f') h':=by
 refine⟨fun b o e' nd _=>x.other b o (fun hb=>nd (hb▸.inr (.inr (.inr (.inr (.inr ⟨a,f,e⟩)))))) e',x.frz,fun b hd=>.inl ?_,x.there⟩
 rcases dZ hd with q | rfl | rfl
 ·exact q
 ·exact .inr (.inr (.inr (.inl (by rw [e];rfl))))
 ·exact .inr (.inr (.inr (.inr (.inr ⟨a,f,e⟩))))
theorem Rel.G5 (R:Rel G σ h) {d:Addr} (ha:h.get? a=none) (hd:h.get? d=none) (hda:d≠a) (hk:∀ b o,h.get? b=some o→h'.get? b=some o) (hl:ym G h' a d fun _=>none):Rel G (σ.ju a d fun _=>none) h':=by
 have R':=R.same (fun b o e _=>hk b o e) (fun b o e _=>hk b o e) fun b o e=>hk b o (R.base b o e)
 have hndom:∀ b,h.get? b=none→¬ σ.dom b:=fun b hb q=>by obtain⟨o,ho⟩:=R.nv q;rw [hb] at ho;cases ho
 have nod:∀ b g,σ.I b≠some (d,g):=fun b g q=>hndom d hd (.inr (.inr (.inr (.inr (.inr ⟨b,g,q⟩)))))
 have hIa:σ.I a=none:=by
  cases hq:σ.I a with
  | none=>rfl
  | some p=>exact absurd (.inr (.inr (.inr (.inl (by rw [hq];rfl))))) (hndom a ha)
 have base:∀ c d' g,(σ.ju a d fun _=>none).I c=some (d',g)→(c=a∧d'=d)∨(c≠a∧σ.I c=some (d',g)):=fun c d' g q=>by
  by_cases hc:c=a
  ·subst hc
   simp only [St.ju,bg,dn,pd] at q
   exact .inl ⟨rfl,q.1.symm⟩
  ·exact .inr ⟨hc,by simpa [St.ju,upd,hc] using q⟩
 refine⟨R'.L,R'.D,R'.S,fun b d' g e'=>?_,R'.Z,R.Ll,R.Dl,fun b b' d' g g' e1 e2=>?_,fun b d' g e'=>?_,fun b d' g b' d'' g' e1 e2=>?_,fun b q=>?_,R'.base⟩
 ·by_cases hb:b=a
  ·subst hb
   simp only [St.ju,bg,dn,pd] at e'
   obtain⟨rfl,rfl⟩:=e'
   exact hl
  ·exact R'.I b d' g (by simpa [St.ju,upd,hb] using e')
 ·rcases base b d' g e1 with ⟨rfl,rfl⟩ | ⟨_,q1⟩<;>rcases base b' d' g' e2 with ⟨h1,h2⟩ | ⟨_,q2⟩
  ·exact h1.symm
  ·exact absurd q2 (nod _ _)
  ·exact absurd (h2▸q1) (nod _ _)
  ·exact R.inj b b' d' g g' q1 q2
 ·rcases base b d' g e' with ⟨rfl,rfl⟩ | ⟨_,q1⟩
  ·show σ.D d'=none
   cases hq:σ.D d' with
   | none=>rfl
   | some p=>exact absurd (.inr (.inl (by rw [hq];rfl))) (hndom d' hd)
  ·exact R.apart b d' g q1
 ·have inDom:∀ c d' g,σ.I c=some (d',g)→σ.dom c∧σ.dom d':=fun c d' g q=>⟨.inr (.inr (.inr (.inl (by rw [q];rfl)))),.inr (.inr (.inr (.inr (.inr ⟨c,g,q⟩))))⟩
  rcases base b d' g e1 with ⟨rfl,rfl⟩ | ⟨_,q1⟩<;>rcases base b' d'' g' e2 with ⟨h1,h2⟩ | ⟨_,q2⟩
  ·rw [h2];exact hda.symm
  ·rintro rfl;exact hndom _ ha (inDom _ _ _ q2).2
  ·rw [h2];rintro rfl;exact hndom _ hd (inDom _ _ _ q1).1
  ·exact R.sep _ _ _ _ _ _ q1 q2
 ·have fresh:∀ c,h.get? c=none→G.hb.get? c=none:=fun c hc=>by
   cases hq:G.hb.get? c with
   | none=>rfl
   | some o=>rw [R.base c o hq] at hc;cases hc
  rcases dZ q with q | rfl | rfl
  ·exact R.new b q
  ·exact fresh _ ha
  ·exact fresh _ hd
theorem Evo.G5 {X:List Addr} {d:Addr} (f:Nat→Option V) (ha:h.get? a=none) (hd:h.get? d=none) (hk:∀ b o,h.get? b=some o→h'.get? b=some o):Evo X σ h (σ.ju a d f) h':=by
 refine⟨fun b o e _ _=>hk b o e,fun b o e _=>hk b o e,fun b q=>?_,fun b o e=>⟨o,hk b o e⟩⟩
 rcases dZ q with q | rfl | rfl
 ·exact .inl q
 ·exact .inr ha
 ·exact .inr hd
end
end MP
end
section
namespace MP
open PySem PyProof.Rows
structure AOk (A:Around) (d:Nat):Prop where
 handled:A.handled=none
 depth:A.depth+3*d+20<recursionLimit
 units:A.units+30*d+300<cLine
structure iv (env:Env):Prop where
 kind:env.scope.kind=.function
 nd:(env.scope.names.map (·.1)).Nodup
 globals:env.globals=mainGlobals
 builtins:env.builtins=builtinsNs
structure FR (G:Stc) (σ:St) (env:Env) (ρ:Fr) (h:Heap):Prop where
 ns:∃ m,h.Ns env.locals m∧∀ i x,env.scope.names[i]?=some (x,.local)→OV G h (ρ i) (m x)
 cells:∀ (i:Nat) (x:Str) (k:NameKind),env.scope.names[i]?=some (x,k)→k=.cell∨k=.free→∃ c w,env.cells.lookup x=some c∧h.IsCell c w∧OV G h (ρ i) w∧¬ σ.dom c∧c≠env.locals∧(G.cap x=false→G.hb.get? c=none)
 inj:∀ (i j:Nat) (x y:Str) (k k':NameKind) (c:Addr),env.scope.names[i]?=some (x,k)→env.scope.names[j]?=some (y,k')→(k=.cell∨k=.free)→(k'=.cell∨k'=.free)→env.cells.lookup x=some c→env.cells.lookup y=some c→i=j
 loc:¬ σ.dom env.locals
 notfrz:∀ o,h.get? env.locals=some o→¬ Frz o
 new:G.hb.get? env.locals=none
 allc:∀ p∈env.cells,∃ o,h.get? p.2=some o
theorem FR.evo {G:Stc} {σ σ':St} {env:Env} {ρ:Fr} {h h':Heap} (F:FR G σ env ρ h) (x:Evo [] σ h σ' h'):FR G σ' env ρ h':=by
 obtain⟨m,⟨o,es,ep,ho,r⟩,hm⟩:=F.ns
 have ho':=x.keep _ _ ho F.loc (by simp)
 have still:∀ b o,h.get? b=some o→¬ σ.dom b→¬ σ'.dom b:=fun b o e nd d=>(x.dom b d).elim nd fun q=>by rw [e] at q;cases q
 refine⟨⟨m,⟨o,es,ep,ho',r⟩,fun i y e=>(hm i y e).mono x.frz⟩,fun i y k e hk=>?_,F.inj,still _ _ ho F.loc,fun o'' e=>?_,F.new,fun p hp=>by obtain⟨o,e⟩:=F.allc p hp;exact x.there _ o e⟩
 ·obtain⟨c,w,h1,⟨oc,hoc,hd⟩,h3,h4,h5⟩:=F.cells i y k e hk
  exact⟨c,w,h1,⟨oc,x.keep _ _ hoc h4 (by simp),hd⟩,h3.mono x.frz,still _ _ hoc h4,h5⟩
 ·rw [ho'] at e;cases e;exact F.notfrz o ho
inductive fq (G:Stc) (X:List Addr) (σ:St) (s:Shared) (Q:V→St→Prop) (w:Value) (s':Shared):Prop
 | mk (v:V) (σ':St) (h':Heap) (tk:Nat):s'={ s with heap:=h',toks:=tk }→Q v σ'→VR G h' v w→Rel G σ' h'→Evo X σ s.heap σ' h'→fq G X σ s Q w s'
inductive jd (G:Stc) (X:List Addr) (σ:St) (s:Shared) (Q:Bool→St→Prop) (b:Bool) (s':Shared):Prop
 | mk (σ':St) (h':Heap) (tk:Nat):s'={ s with heap:=h',toks:=tk }→Q b σ'→Rel G σ' h'→Evo X σ s.heap σ' h'→jd G X σ s Q b s'
inductive AY (G:Stc) (X:List Addr) (σ:St) (s:Shared) (Q:List V→St→Prop) (ws:List Value) (s':Shared):Prop
 | mk (vs:List V) (σ':St) (h':Heap) (tk:Nat):s'={ s with heap:=h',toks:=tk }→Q vs σ'→VRs G h' vs ws→Rel G σ' h'→Evo X σ s.heap σ' h'→AY G X σ s Q ws s'
section
variable {G:Stc} {X:List Addr} {σ σ₁:St} {s:Shared} {h₁:Heap} {tk:Nat}
theorem fq.back {Q:V→St→Prop} {w:Value} {s':Shared} (x:Evo X σ s.heap σ₁ h₁) (l:fq G X σ₁ { s with heap:=h₁,toks:=tk } Q w s'):fq G X σ s Q w s':=by
 obtain⟨v,σ',h',t,rfl,q,vr,r,e⟩:=l
 exact⟨v,σ',h',t,rfl,q,vr,r,x.trans e⟩
theorem jd.back {Q:Bool→St→Prop} {b:Bool} {s':Shared} (x:Evo X σ s.heap σ₁ h₁) (l:jd G X σ₁ { s with heap:=h₁,toks:=tk } Q b s'):jd G X σ s Q b s':=by
 obtain⟨σ',h',t,rfl,q,r,e⟩:=l
 exact⟨σ',h',t,rfl,q,r,x.trans e⟩
theorem fq.here {Q:V→St→Prop} {v:V} {w:Value} (q:Q v σ) (vr:VR G s.heap v w) (r:Rel G σ s.heap):fq G X σ s Q w { s with toks:=tk }:=⟨v,σ,s.heap,tk,rfl,q,vr,r,Evo.refl _ _ _⟩
theorem fq.uu {Q:V→St→Prop} {v:V} {w:Value} (q:Q v σ) (vr:VR G s.heap v w) (r:Rel G σ s.heap):fq G X σ s Q w s:=⟨v,σ,s.heap,s.toks,rfl,q,vr,r,Evo.refl _ _ _⟩
theorem jd.here {Q:Bool→St→Prop} {b:Bool} (q:Q b σ) (r:Rel G σ s.heap):jd G X σ s Q b s:=⟨σ,s.heap,s.toks,rfl,q,r,Evo.refl _ _ _⟩
theorem jd.uu {Q:Bool→St→Prop} {b:Bool} (q:Q b σ) (r:Rel G σ s.heap):jd G X σ s Q b { s with toks:=tk }:=⟨σ,s.heap,tk,rfl,q,r,Evo.refl _ _ _⟩
end
noncomputable abbrev Stc.M (G:Stc):Model:=model G.prog G.w
noncomputable def ct (G:Stc) (C:Cal) (sc:Scope) (d:Nat) (e:Ex) (ex:Expr):Prop :=
 ∀ (A:Around) (E:Value→Shared→Prop) (env:Env) (ρ:Fr) (σ:St) (Q:V→St→Prop) (s:Shared),AOk A d→env.scope=sc→iv env→FR G σ env ρ s.heap→Rel G σ s.heap →
  wpE C e ρ σ Q→wpAny G.M A (eval ex env) (fq G [] σ s Q) E s
noncomputable def pq (G:Stc) (C:Cal) (sc:Scope) (d:Nat) (e:Ex) (ex:Expr):Prop :=
 ∀ (A:Around) (E:Value→Shared→Prop) (env:Env) (ρ:Fr) (σ:St) (Q:Bool→St→Prop) (s:Shared),AOk A d→env.scope=sc→iv env→FR G σ env ρ s.heap→Rel G σ s.heap →
  wpT C e ρ σ Q→wpAny G.M A (isTrue ex env (eval ex env)) (jd G [] σ s Q) E s
noncomputable def kg (G:Stc) (C:Cal) (sc:Scope) (d:Nat) (es:Exs) (exs:List Expr):Prop :=
 ∀ (A:Around) (E:Value→Shared→Prop) (env:Env) (ρ:Fr) (σ:St) (Q:List V→St→Prop) (s:Shared) (pos:Pos),AOk A d→env.scope=sc→iv env→FR G σ env ρ s.heap→Rel G σ s.heap →
  so C es ρ σ Q→wpAny G.M A (spliced (backTo pos (starEach exs env))) (AY G [] σ s Q) E s
section
variable {G:Stc} {A:Around} {E:Value→Shared→Prop} {s:Shared} {σ:St} {α:Type}
theorem md {t:Sem Value} {P:V→St→Prop} {R:Value→Shared→Prop} (h:wpAny G.M A t (fq G [] σ s P) E s)
  (k:∀ v σ₁ h₁ tk w,P v σ₁→VR G h₁ v w→Rel G σ₁ h₁→Evo [] σ s.heap σ₁ h₁→R w { s with heap:=h₁,toks:=tk }):wpAny G.M A t R E s :=
 av h (fun _ _ zz2=>by obtain⟨v,σ',h',tk,e,q,vr,r,x⟩:=zz2;exact e▸k v σ' h' tk _ q vr r x) fun _ _ x=>x
theorem kA {t:Sem Bool} {P:Bool→St→Prop} {R:Bool→Shared→Prop} (h:wpAny G.M A t (jd G [] σ s P) E s)
  (k:∀ b σ₁ h₁ tk,P b σ₁→Rel G σ₁ h₁→Evo [] σ s.heap σ₁ h₁→R b { s with heap:=h₁,toks:=tk }):wpAny G.M A t R E s :=
 av h (fun _ _ zz2=>by obtain⟨σ',h',tk,e,q,r,x⟩:=zz2;exact e▸k _ σ' h' tk q r x) fun _ _ x=>x
theorem k9 {t:Sem (List Value)} {P:List V→St→Prop} {R:List Value→Shared→Prop} (h:wpAny G.M A t (AY G [] σ s P) E s)
  (k:∀ vs σ₁ h₁ tk ws,P vs σ₁→VRs G h₁ vs ws→Rel G σ₁ h₁→Evo [] σ s.heap σ₁ h₁→R ws { s with heap:=h₁,toks:=tk }):wpAny G.M A t R E s :=
 av h (fun _ _ zz2=>by obtain⟨v,σ',h',tk,e,q,vr,r,x⟩:=zz2;exact e▸k v σ' h' tk _ q vr r x) fun _ _ x=>x
end
theorem jV {G:Stc} {σ:St} {h:Heap} {a:Addr} {xs:List V} {ws:List Value} (R:Rel G σ h) (e:σ.L a=some xs) (v:VRs G h xs ws):ws.length≤aq:=v.length▸R.Ll a xs e
theorem vO {n:Nat} (h:n≤aq):(n:Int)<2^63:=Int.lt_of_le_of_lt (Int.ofNat_le.mpr h) (by decide)
theorem G7 (n:Nat):((n:Int) != 0)=(n != 0):=by
 cases n<;>rfl
theorem lD {α β:Type} {ws:List α} {ns:List β} (q:ws.length=ns.length):ws.toArray.isEmpty=ns.isEmpty:=by
 cases ws<;>cases ns<;>first | rfl | cases q
set_option maxRecDepth 100000 in
theorem uF {prog:Program} {w:World} {A:Around} {E:Value→Shared→Prop} {s:Shared} {a:Addr} {o:Obj} {Q:Bool→Shared→Prop} (ho:s.heap.get? a=some o) (hc:o.cls=.type "function") (h:Q true s):wpAny (model prog w) A (truthy (.ref a)) Q E s:=by
 have hT:s.TypeIs (.ref a) "function":=⟨o,ho,hc⟩
 unfold truthy
 first
  | refine ab (wpAny_callSpecial?_none (name:=Str.ofString "__bool__") hT (by rw [fm,dg];kernel_rfl) ?_)
  | refine ab (af (ab (wpAny_callSpecial?_none (name:=Str.ofString "__bool__") hT (by rw [fm,dg];kernel_rfl) ?_)))
 first
  | refine ab (wpAny_specialOf (name:=Str.ofString "__len__") (r:=none) hT (by rw [fm,dg];kernel_rfl) ?_)
  | refine ab (af (ab (wpAny_specialOf (name:=Str.ofString "__len__") (r:=none) hT (by rw [fm,dg];kernel_rfl) ?_)))
 exact af h
theorem yz {G:Stc} {A:Around} {E:Value→Shared→Prop} {s:Shared} {σ:St} {v:V} {w:Value} {K:Bool→Prop} (R:Rel G σ s.heap) (vr:VR G s.heap v w) (h:pz v σ K) {Q:Bool→Shared→Prop}
  (k:∀ b tk,K b→Q b { s with toks:=tk }):wpAny G.M A (truthy w) Q E s:=by
 cases v
 case none=>obtain rfl:=vr;exact truthy_none (k _ s.toks h)
 case bool=>obtain rfl:=vr;exact vi (k _ s.toks h)
 case int=>obtain⟨t,rfl⟩:=vr;exact truthy_int (k _ s.toks h)
 case str =>
  obtain⟨t,rfl⟩:=vr
  exact PySem.P.truthy_str (Int.not_le.mpr (vO h.1)) (k _ _ (by rw [G7];exact h.2))
 case lst =>
  obtain rfl:=vr
  obtain⟨xs,e,hk⟩:=h
  obtain⟨ws,n,hl',hv⟩:=R.L _ xs e
  exact wpAny_truthy_list hl'.isList (vO (jV R e hv)) (k _ _ (by rw [lD hv.length.symm];exact hk))
 case ro =>
  obtain⟨a,ws,n,rfl,g,r⟩:=vr
  exact wpAny_truthy_list ⟨_,R.base _ _ g,rfl,_,rfl⟩ (vO (gj (Nat.le_of_eq r.length) h.1)) (k _ _ (by rw [lD r.length];exact h.2))
 case clo =>
  obtain⟨a,o,rfl,_,ho,hc⟩:=vr
  exact uF (R.base _ _ ho) hc (k _ s.toks h)
 all_goals first | exact False.elim h | exact False.elim vr
noncomputable def binOp:Bop→Operator
 | .add=>.Add | .sub=>.Sub | .mul=>.Mult | .fdiv=>.FloorDiv | .mod=>.Mod | .pow=>.Pow
noncomputable def gB:Cop→CmpOp
 | .eq=>.Eq | .ne=>.NotEq | .lt=>.Lt | .le=>.LtE | .gt=>.Gt | .ge=>.GtE | .is=>.Is | .isNot=>.IsNot | .isIn=>.In | .notIn=>.NotIn
theorem log2_lt_of {b:Int} (h:b.natAbs<2^60):b.natAbs.log2<9000:=by
 by_cases h0:b.natAbs=0
 ·rw [h0];decide +kernel
 ·have:=(Nat.log2_lt h0).mpr h;(exact gv (.l .A (.n 9000)) .a (.l .A (.n 60)) this)
section
variable {G:Stc} {A:Around} {E:Value→Shared→Prop} {s:Shared} {σ:St}
theorem iB {op:Bop} {a b:Int} {t u:Tok} {Q:V→St→Prop} (R:Rel G σ s.heap) (h:xv op (.int a) (.int b) σ Q):wpAny G.M A (binaryOp (binOp op) (.int a t) (.int b u)) (fq G [] σ s Q) E s:=by
 cases op with
 | add=>exact add_int (fq.here h (.int _ _) R)
 | sub=>exact sub_int (fq.here h (.int _ _) R)
 | mul =>
  refine mul_int (fq.here h.2 (.int _ _) R) ?_
  rcases h.1 with q | q
  ·exact IntMulOk.of_left (intBits_le_64 (by exact(Ar.nab _).elim (fun q1=>(ke (.il (.g .S) .A) .a .T q1.1)) fun q1=>(pk (.il (.g .S) .A) .c .J .aQ q q1.2)) (by exact(Ar.nab _).elim (fun q1=>(pk (.il .A .S) .c .J .W q q1.2)) fun q1=>(ke (.il .A .S) .a .aK q1.1)))
  ·exact IntMulOk.of_right (intBits_le_64 (by exact(Ar.nab _).elim (fun q1=>(ke (.il (.g .S) .A) .a .T q1.1)) fun q1=>(pk (.il (.g .S) .A) .c .J .aQ q q1.2)) (by exact(Ar.nab _).elim (fun q1=>(pk (.il .A .S) .c .J .W q q1.2)) fun q1=>(ke (.il .A .S) .a .aK q1.1)))
 | fdiv=>exact floordiv_int h.1 (fq.here h.2.2 (.int _ _) R) (.inl (PyProof.noPylong_of_log2 (log2_lt_of h.2.1)))
 | mod=>exact mod_int' h.1 (fq.here h.2 (.int _ _) R)
 | pow =>
  obtain⟨h0,h1,h2,h3⟩:=h
  exact pow_int_small h0 (by exact ke (.ik .A (.n 1000000)) .a (.ik .A (.n 1000)) h1) h2 (fq.here h3 (.int _ _) R)
end
section
variable {G:Stc} {C:Cal} {sc:Scope} {d:Nat}
theorem xG {k:Nat} {pos:Pos}:ct G C sc d .none (.Constant .none k pos):=fun _ _ _ _ _ _ _ _ _ _ _ R h=>Constant_none (fq.uu h .none R)
theorem xW {b:Bool} {k:Nat} {pos:Pos}:ct G C sc d (.bool b) (.Constant (.bool b) k pos):=fun _ _ _ _ _ _ _ _ _ _ _ R h=>Constant_bool (fq.uu h (.bool b) R)
theorem sI {i:Int} {k:Nat} {pos:Pos}:ct G C sc d (.int i) (.Constant (.int i) k pos):=fun _ _ _ _ _ _ _ _ _ _ _ R h=>wpAny_Constant_int (fq.here h (.int _ _) R)
theorem BO {x:Str} {k:Nat} {pos:Pos}:ct G C sc d (.str x) (.Constant (.str x) k pos):=fun _ _ _ _ _ _ s _ _ _ _ R h=>by
 show wpAny _ _ (mkText x) _ _ s
 exact wpAny_mkText (fq.here h (.str _ _) R)
theorem qz {names:List (Str × NameKind)} (nd:(names.map (·.1)).Nodup):∀ {i:Nat} {x:Str} {k:NameKind},names[i]?=some (x,k)→names.lookup x=some k:=by
 induction names with
 | nil=>intro i x k e;simp at e
 | cons p r ih =>
  intro i x k e
  obtain⟨y,k'⟩:=p
  simp only [gp,List.nodup_cons] at nd
  cases i with
  | zero=>simp only [List.getElem?_cons_zero,dn,pd] at e;obtain⟨rfl,rfl⟩:=e;simp
  | succ i =>
   simp only [List.getElem?_cons_succ] at e
   have hne:x≠y:=fun q=>nd.1 (by
    subst q
    exact bw.mpr ⟨(x,k),cq e,rfl⟩)
   rw [kl,qy.mpr hne]
   exact ih nd.2 e
noncomputable def isVar (k:NameKind):Bool:=k==.local||k==.cell||k==.free
noncomputable def gk (x:Str):Bool:=!(x==("__debug__":Str))&&!(x==("__classdict__":Str))
theorem i9 {A:Around} {E:Value→Shared→Prop} {env:Env} {ρ:Fr} {σ:St} {s:Shared} {i:Nat} {x:Str} {k:NameKind} {v:V} {Q:Value→Shared→Prop} (eo:iv env) (F:FR G σ env ρ s.heap)
  (hi:env.scope.names[i]?=some (x,k)) (hk:isVar k=true) (hx:gk x=true) (hv:ρ i=some v) (h:∀ w,VR G s.heap v w→Q w s):wpAny G.M A (loadName env x) Q E s:=by
 have hkind:env.kindOf x=some k:=qz eo.nd hi
 simp only [gk,cg,dp] at hx
 have get:∀ {w:Option Value},OV G s.heap (ρ i) w→∃ w',w=some w'∧VR G s.heap v w':=fun {w} o=>by
  rw [hv] at o
  cases w with
  | none=>exact o.elim
  | some w'=>exact⟨w',rfl,o⟩
 cases k with
 | «local» =>
  obtain⟨m,hn,hm⟩:=F.ns
  obtain⟨w',e,vr⟩:=get (hm i x hi)
  exact wpAny_loadName_local eo.kind hkind hn e (h w' vr)
 | cell =>
  obtain⟨c,w,hc,hcell,o,_,_,_⟩:=F.cells i x _ hi (.inl rfl)
  obtain⟨w',rfl,vr⟩:=get o
  exact wpAny_loadName_cell eo.kind hkind hc hcell (h w' vr)
 | free =>
  obtain⟨c,w,hc,hcell,o,_,_,_⟩:=F.cells i x _ hi (.inr rfl)
  obtain⟨w',rfl,vr⟩:=get o
  exact wpAny_loadName_free eo.kind hkind hc hcell (h w' vr) hx.2
 | _=>cases hk
theorem lV {i:Nat} {x:Str} {k:NameKind} {pos:Pos} (hi:sc.names[i]?=some (x,k)) (hk:isVar k=true) (hx:gk x=true):ct G C sc d (.loc i) (.Name x pos):=fun A E env ρ σ Q s ao es eo F R h=>by
 obtain⟨v,hv,q⟩:=h
 have hx':(x==("__debug__":Str))=false:=by simp only [gk,cg,dp] at hx;exact hx.1
 exact wpAny_Name (i9 eo F (by rw [es];exact hi) hk hx hv fun w vr=>fq.uu q vr R) hx'
theorem sH {a:Ex} {x:Expr} {pos:Pos} (ha:ct G C sc d a x):ct G C sc d (.neg a) (.UnaryOp .USub x pos):=fun A E env ρ σ Q s ao es eo F R h =>
 UnaryOp_ (md (ha A E env ρ σ _ s ao es eo F R h) fun v σ₁ h₁ tk w q vr r x=>by
  obtain⟨i,rfl,q⟩:=q
  obtain⟨t,rfl⟩:=vr
  exact PyProof.Rows.neg_int (fq.back (tk:=tk) x (fq.here q (.int _ _) r)))
theorem BU {a:Ex} {x:Expr} {pos:Pos} (ha:ct G C sc d a x):ct G C sc d (.not a) (.UnaryOp .Not x pos):=fun A E env ρ σ Q s ao es eo F R h =>
 UnaryOp_ (md (ha A E env ρ σ _ s ao es eo F R h) fun v σ₁ h₁ tk w q vr r x=>not_of (yz (s:={ s with heap:=h₁,toks:=tk }) r vr q fun b tk' q=>fq.back (tk:=tk) x (fq.here q (.bool _) r)))
theorem snd_and {a b:Ex} {e₁ e₂:Expr} {rest:List Expr} {pos:Pos} (ha:ct G C sc d a e₁) (hb:ct G C sc d b (.BoolOp .And (e₂::rest) pos)):ct G C sc d (.and a b) (.BoolOp .And (e₁::e₂::rest) pos):=fun A E env ρ σ Q s ao es eo F R h =>
 BoolOp_and (md (ha A E env ρ σ _ s ao es eo F R h) fun v σ₁ h₁ tk w q vr r x=>yz (s:={ s with heap:=h₁,toks:=tk }) r vr q fun t tk' q=>by
  cases t with
  | true=>exact av (hb A E env ρ σ₁ Q { s with heap:=h₁,toks:=tk' } ao es eo (F.evo x) r q) (fun _ _ l=>fq.back x l) fun _ _ x=>x
  | false=>exact fq.back (tk:=tk) x (fq.here q vr r))
theorem FK {a b:Ex} {e₁ e₂:Expr} {rest:List Expr} {pos:Pos} (ha:ct G C sc d a e₁) (hb:ct G C sc d b (.BoolOp .Or (e₂::rest) pos)):ct G C sc d (.or a b) (.BoolOp .Or (e₁::e₂::rest) pos):=fun A E env ρ σ Q s ao es eo F R h =>
 BoolOp_or (md (ha A E env ρ σ _ s ao es eo F R h) fun v σ₁ h₁ tk w q vr r x=>yz (s:={ s with heap:=h₁,toks:=tk }) r vr q fun t tk' q=>by
  cases t with
  | false=>exact av (hb A E env ρ σ₁ Q { s with heap:=h₁,toks:=tk' } ao es eo (F.evo x) r q) (fun _ _ l=>fq.back x l) fun _ _ x=>x
  | true=>exact fq.back (tk:=tk) x (fq.here q vr r))
theorem BX {c a b:Ex} {x y z:Expr} {pos:Pos} (hc:pq G C sc d c x) (ha:ct G C sc d a y) (hb:ct G C sc d b z):ct G C sc d (.ite c a b) (.IfExp x y z pos):=fun A E env ρ σ Q s ao es eo F R h =>
 IfExp_ (kA (hc A E env ρ σ _ s ao es eo F R h) fun t σ₁ h₁ tk q r x=>by
  cases t with
  | true=>exact av (ha A E env ρ σ₁ Q _ ao es eo (F.evo x) r q) (fun _ _ l=>fq.back x l) fun _ _ x=>x
  | false=>exact av (hb A E env ρ σ₁ Q _ ao es eo (F.evo x) r q) (fun _ _ l=>fq.back x l) fun _ _ x=>x)
theorem xZ {a:Ex} {x:Expr} {pos:Pos} (ha:pq G C sc d a x):pq G C sc d (.not a) (.UnaryOp .Not x pos):=fun A E env ρ σ Q s ao es eo F R h =>
 isTrue_not (av (ha A E env ρ σ _ s ao es eo F R h) (fun _ _ zz2=>by obtain⟨a,b,c,e,q,r,x⟩:=zz2;exact⟨a,b,c,e,q,r,x⟩) fun _ _ x=>x)
theorem y2 {a b:Ex} {e₁:Expr} {rest:List Expr} {pos:Pos} (ha:pq G C sc d a e₁) (hb:pq G C sc d b (.BoolOp .And rest pos)):pq G C sc d (.and a b) (.BoolOp .And (e₁::rest) pos):=fun A E env ρ σ Q s ao es eo F R h =>
 isTrue_and (kA (ha A E env ρ σ _ s ao es eo F R h) fun t σ₁ h₁ tk q r x=>by
  cases t with
  | true=>exact av (hb A E env ρ σ₁ Q _ ao es eo (F.evo x) r q) (fun _ _ l=>jd.back x l) fun _ _ x=>x
  | false=>exact jd.back (tk:=tk) x (jd.here q r))
theorem C8 {a b:Ex} {e₁:Expr} {rest:List Expr} {pos:Pos} (ha:pq G C sc d a e₁) (hb:pq G C sc d b (.BoolOp .Or rest pos)):pq G C sc d (.or a b) (.BoolOp .Or (e₁::rest) pos):=fun A E env ρ σ Q s ao es eo F R h =>
 isTrue_or (kA (ha A E env ρ σ _ s ao es eo F R h) fun t σ₁ h₁ tk q r x=>by
  cases t with
  | false=>exact av (hb A E env ρ σ₁ Q _ ao es eo (F.evo x) r q) (fun _ _ l=>jd.back x l) fun _ _ x=>x
  | true=>exact jd.back (tk:=tk) x (jd.here q r))
theorem y0 {c a b:Ex} {x y z:Expr} {pos:Pos} (hc:pq G C sc d c x) (ha:pq G C sc d a y) (hb:pq G C sc d b z):pq G C sc d (.ite c a b) (.IfExp x y z pos):=fun A E env ρ σ Q s ao es eo F R h =>
 isTrue_IfExp (kA (hc A E env ρ σ _ s ao es eo F R h) fun t σ₁ h₁ tk q r x=>by
  cases t with
  | true=>exact av (ha A E env ρ σ₁ Q _ ao es eo (F.evo x) r q) (fun _ _ l=>jd.back x l) fun _ _ x=>x
  | false=>exact av (hb A E env ρ σ₁ Q _ ao es eo (F.evo x) r q) (fun _ _ l=>jd.back x l) fun _ _ x=>x)
theorem su {e:Ex} {x:Expr} (he:ct G C sc d e x) (ht:∀ env whole,isTrue x env whole=(do let v←whole;standAt x.pos;holding [v] (truthy v)))
  (hw:∀ ρ σ Q,wpT C e ρ σ Q→wpE C e ρ σ fun v σ=>pz v σ fun b=>Q b σ):pq G C sc d e x:=fun A E env ρ σ Q s ao es eo F R h =>
 isTrue_plain (md (he A E env ρ σ _ s ao es eo F R (hw ρ σ Q h)) fun v σ₁ h₁ tk w q vr r y=>yz (s:={ s with heap:=h₁,toks:=tk }) r vr q fun b tk' q=>jd.back (tk:=tk) y (jd.uu q r)) (ht env _)
theorem jo:kg G C sc d .nil []:=fun A E env ρ σ Q s pos ao es eo F R h=>Calls.spliced_nil ⟨[],σ,s.heap,s.toks,rfl,h,.nil,R,Evo.refl _ _ _⟩
theorem fx {e:Ex} {r:Exs} {x:Expr} {xs:List Expr} (he:ct G C sc d e x) (hr:kg G C sc d r xs) (hx:∀ env,starEach (x::xs) env=(false,eval x env)::starEach xs env):kg G C sc d (.cons e r) (x::xs):=fun A E env ρ σ Q s pos ao es eo F R h =>
 spliced_more (md (he A E env ρ σ _ s ao es eo F R h) fun v σ₁ h₁ tk w q vr rr x =>
  k9 (hr A E env ρ σ₁ _ { s with heap:=h₁,toks:=tk } pos ao es eo (F.evo x) rr q) fun vs σ₂ h₂ tk₂ ws q₂ vrs r₂ x₂ =>
   ⟨v::vs,σ₂,h₂,tk₂,rfl,q₂,.cons (vr.mono x₂.frz) vrs,r₂,x.trans x₂⟩) (hx env)
theorem sF {es:Exs} {xs:List Expr} {k:Nat} {pos:Pos} (h₀:kg G C sc d es xs):ct G C sc d (.tup es) (.Tuple xs k pos):=fun A E env ρ σ Q s ao ess eo F R h =>
 Tuple_ (k9 (h₀ A E env ρ σ _ s pos ao ess eo F R h) fun vs σ₁ h₁ tk ws q vrs r x=>by
  have hz:=q.1
  rw [vrs.length] at hz
  unfold aq at hz
  refine gx (?_:fq G [] σ s Q (.ref h₁.objs.size) _) (by show ws.toArray.size≤sizeLine;rw [cv,show sizeLine=16777216 from rfl];(exact gv .bL .a .bD hz))
  exact⟨.tup vs,σ₁,_,tk,rfl,q.2,.tup (IsT.new _ _) (vrs.mono fun _ _ e _=>ak _ e),r.push _,x.trans (Evo.push _ _ _ _)⟩)
theorem BV {es:Exs} {xs:List Expr} {pos:Pos} (h₀:kg G C sc d es xs):ct G C sc d (.lst es) (.List xs pos):=fun A E env ρ σ Q s ao ess eo F R h =>
 List_ (k9 (h₀ A E env ρ σ _ s pos ao ess eo F R h) fun vs σ₁ h₁ tk ws q vrs r x=>by
  have hz:=q.1
  have hz':=hz
  rw [vrs.length] at hz
  unfold aq at hz
  have hn:σ₁.L h₁.objs.size=none:=by
   cases hq:σ₁.L h₁.objs.size with
   | none=>rfl
   | some ys=>obtain⟨o,ho,_⟩:=r.pK hq;rw [none_at_size] at ho;cases ho
  refine gx (?_:fq G [] σ s Q (.ref h₁.objs.size) _) (by show ws.toArray.size≤sizeLine;rw [cv,show sizeLine=16777216 from rfl];(exact gv .bL .a .bD hz))
  have at':At h₁.objs.size h₁ (h₁.push { cls:=.type "list",data:=.seq ws.toArray }):=At.push h₁
  exact⟨.lst _,_,_,tk,rfl,q.2 _ hn,.lst _,r.putL at' (fun _=>none_at_size _) (IsL.new _ _) vrs hz',x.trans (Evo.putL at' (fun _=>none_at_size _) _)⟩)
end
end MP
end
section
namespace MP
open PySem PyProof.Rows
section
variable {G:Stc} {A:Around} {E:Value→Shared→Prop} {s:Shared}
noncomputable abbrev uY (G:Stc):Obj:={ cls:=.type "set",dict:=none,data:=.set #[] 0 (.fresh 0 0 G.led) }
theorem uW (h:Heap):vd G (h.push (uY G)) h.objs.size [] :=
 ⟨_,#[],0,_,bq _ rfl,⟨rfl,rfl,rfl⟩,rfl,fun e he=>by simp at he,fun k=>by simp,by decide,by rfl,by rfl,⟨rfl,rfl,.nil,rfl,3,ay 3,rfl⟩,(by show 0*5<7*3;decide)⟩
theorem nB {Q:Value→Shared→Prop} (h:Q (.ref s.heap.objs.size) { s with heap:=s.heap.push (uY G) }) :
  codeAny G.M A (.call (.builtin "set.__new__") ⟨[.type "set"],[]⟩) (wants Q E) s:=by
 refine tq ?_
 show wpAny _ A.in1 (do checkBuiltinCall "set.__new__" ⟨[.type "set"],[]⟩;again (.builtin "set.__new__" ⟨[.type "set"],[]⟩)) _ _ s
 refine ab (dj F.newCall_set_0 (af ⟨gS F.plain_set_new _,qe F.entry_set_new ?_⟩))
 rw [rn F.plain_set_new _]
 unfold Builtin.«set.__new__» Builtin.Frozenset.newClass
 have hsub:=sub_set_self
 obtain⟨hp,g,d,tk,os⟩:=s
 dsimp only
 wp_walk
 refine xl (af ?_)
 dsimp only
 simp only [newObj]
 refine ab (wpAny_alloc (af ?_))
 exact af h
set_option maxHeartbeats 1000000 in
set_option maxRecDepth 100000 in
theorem nD {Q:Value→Shared→Prop} (h:Q (.ref s.heap.objs.size) { s with heap:=s.heap.push (uY G) }):wpAny G.M A (call (.type "set") []) Q E s:=by
 obtain⟨c,tl,hmro⟩:=F.called_set.mro
 have hmade:=F.called_set.made
 have hsub:=F.called_set.sub
 refine oe (tq ?_)
 show wpAny _ _ (callAny (.type "set") _) _ _ _
 refine af ⟨eP _ (by decide +kernel),qe F.entry_type_call ?_⟩
 rw [Around.under_plain (weight_type_call_type "set" [] []) rfl]
 have h1:=F.called_set.notType
 have h2:=F.called_set.canCreate
 have hct:=F.typeCall_set_0
 repeat (any_goals (first | assumption | wp_step))
 refine codeAny_mono (nB (E:=E) (Q:=fun obj s₁=>obj=.ref s.heap.objs.size∧s₁={ s with heap:=s.heap.push (uY G) }) ⟨rfl,rfl⟩) fun r s₁ hr=>?_
 cases r with
 | error e=>exact hr
 | ok fl =>
  cases fl with
  | ret obj =>
   obtain⟨rfl,rfl⟩:=hr
   have hT:Shared.TypeIs { s with heap:=s.heap.push (uY G) } (.ref s.heap.objs.size) "set":=⟨_,bq _ rfl,rfl⟩
   have hli:=F.called_set.init.lookup
   have hbi:=F.called_set.init.bind (.ref s.heap.objs.size)
   repeat (any_goals (first | assumption | wp_step))
   refine codeAny_mono (yp (R:=wants (fun r s₂=>r=.none∧Q (.ref s.heap.objs.size) s₂) E) F.called_set.init.plain F.entry_set_init (check_set_init hT ?_)) fun r₂ s₂ hr₂=>?_
   ·unfold Builtin.«set.__init__» noKeywords
    wp_walk
    exact⟨rfl,h⟩
   ·cases r₂ with
    | error e=>exact hr₂
    | ok fl₂ =>
     cases fl₂ with
     | ret r =>
      obtain⟨rfl,hq⟩:=hr₂
      repeat (any_goals (first | assumption | wp_step))
     | _=>exact hr₂.elim
  | _=>exact hr.elim
theorem iF {a:Addr} {o:Obj} {es es':Array (Int × Value)} {ep:Nat} {t t':SetTable} {ks:List Key} (ho:s.heap.get? a=some o) (hex:o.ExactSet) (hd:o.data=.set es ep t)
  (hel:ElemsOf G.kk es'.toList) (hmem:∀ k,decide (k∈ks)=true↔∃ e∈es'.toList,G.kk.is k e.2=true) (hb:es'.size<scanBound) (hf:t'.fits es'.size=true) (hn:es'.size=ks.length) (hT:Tbl G.led t') (hr:es'.size*5<t'.mask*3) :
  (s.heap.update a (Obj.putSet es' t')).get? a=some { o with data:=.set es' (ep+1) t' }∧vd G (s.heap.update a (Obj.putSet es' t')) a ks:=by
 obtain⟨hg,_⟩:=SetOf_store (knd:=G.kk) ho hex hd hel hmem hb hf
 exact⟨hg,_,es',ep+1,t',hg,hex,rfl,hel,hmem,hb,hf,hn,hT,hr⟩
theorem AU {g:Bool→Sem Unit} (hg:∀ (b:Bool) (s₁:Shared) (Q':Unit→Shared→Prop),Q' () s₁→wpAny G.M A (g b) Q' E s₁)
  {a:Addr} {o:Obj} {es es1:Array (Int × Value)} {ep:Nat} {t t2:SetTable} {ks:List Key} (ho:s.heap.get? a=some o) (hex:o.ExactSet) (hd:o.data=.set es ep t)
  (hel:ElemsOf G.kk es1.toList) (hmem:∀ k,decide (k∈ks)=true↔∃ e∈es1.toList,G.kk.is k e.2=true) (hb:es1.size<scanBound) (hf:t2.fits es1.size=true) (hn:es1.size=ks.length) (hT:Tbl G.led t2)
  {R:Option Bool→Shared→Prop} (h:∀ h',Heap.SameBut a s.heap h'→vd G h' a ks→R (some true) { s with heap:=h' }) :
  wpAny G.M A (do
    storeSet a es1 t2
    if (!false&&t2.tooFull)=true then do
      g (relayAll t2 es1 (SetTable.grown es1.size)).2.2
      storeSet a (relayAll t2 es1 (SetTable.grown es1.size)).1 (relayAll t2 es1 (SetTable.grown es1.size)).2.1
      pure (some true)
     else pure (some true)) R E s:=by
 have hz:es1.size=t2.place.size:=by
  unfold SetTable.fits at hf
  exact(jw.mp (qh.mp hf).1).symm
 have hfull:t2.tooFull=true∨es1.size*5<t2.mask*3:=by
  unfold SetTable.tooFull SetTable.fill
  rw [hT.nod,hz]
  simp
  (exact gh fun q1=>(gn .ff .e (.j (.r .A 3) (.r .B 5)) (.g (.r .B 5) (.r .A 3)) (fP.mp q1).1 (fP.mp q1).2))
 have sb1:=ji s.heap a (Obj.putSet es1 t2)
 have hsb:es1.size<4096:=hb
 refine ab (wpAny_storeSet_of ho hd ?_ (fits_of_scanBound hb))
 obtain⟨hg1,_⟩:=SetOf_store (knd:=G.kk) ho hex hd hel hmem hb hf
 split
 ·have hp:=relayAll_perm t2 es1 (SetTable.grown es1.size)
  have hfr:=relayAll_fits t2 es1 (SetTable.grown es1.size)
  have hgr:SetTable.grown es1.size=es1.size*4:=by
   unfold SetTable.grown
   rw [aw (by exact gv (.g (.n 50000) .A) .a (.l .A (.n 4096)) hsb)]
  have hTr:=lX hT es1 (SetTable.grown es1.size) (by rw [hgr];(exact gv (.l (.r .A 4) (.n (2^60))) [[1,4]] (.l .A (.n 4096)) hsb)) (by rw [hgr];exact ay _)
  rw [hgr] at hTr
  rw [hgr] at hp hfr ⊢
  generalize relayAll t2 es1 (es1.size*4)=L at hp hfr hTr ⊢
  have sz:L.1.size=es1.size:=by rw [← ef,hp.length_eq,ef]
  have hb2:L.1.size<scanBound:=by rw [sz];exact hb
  obtain⟨k,h3,h2⟩:=hTr.1.two
  have h8:8≤2^k:=Nat.pow_le_pow_right (n:=2) (by decide) h3
  refine ab (hg _ _ _ (ab (wpAny_storeSet_of hg1 rfl (af (h _ (sb1.trans (ji _ a _)) ?_)) (fits_of_scanBound hb2))))
  exact(iF (s:={ s with heap:=s.heap.update a (Obj.putSet es1 t2) }) hg1 hex rfl (hel.perm hp) (fun k=>(hmem k).trans ⟨fun⟨e,he,q⟩=>⟨e,hp.mem_iff.mpr he,q⟩,fun⟨e,he,q⟩=>⟨e,hp.mem_iff.mp he,q⟩⟩) hb2 hfr (sz.trans hn) hTr.1 (by rw [sz];have:=hTr.2;(exact qc (.l (.r .A 5) (.r .B 3)) [[4,5,-7,7]] (.l (.r .A 4) .L) (.e .L .C) (.k (.n 8) .C) hTr.2 h2 h8))).2
 ·rename_i c
  exact af (h _ sb1 (iF (s:=s) ho hex hd hel hmem hb hf hn hT (hfull.resolve_left fun q=>c (by rw [q];rfl))).2)
theorem D5 {b:Bool} {Q:Unit→Shared→Prop} (h:Q () s):wpAny G.M A (match b with | true=>rule "set.scan.the-table-gave-way" | false=>pure ()) Q E s:=by
 cases b
 ·exact af h
 ·exact xj h
theorem rW {a:Addr} {ks:List Key} {k:Key} {x:Value} {Q:Bool→Shared→Prop} (hkey:G.kk.is k x=true) (hsc:x.scannable=true) (hpk:plainKind x=true) (hS:vd G s.heap a ks) (hroom:ks.length+1<scanBound)
  (h:∀ b h',Heap.SameBut a s.heap h'→vd G h' a (if k∈ks then ks else ks++[k])→Q b { s with heap:=h' }):wpAny G.M A (setAddHashed a x (G.kk.hash k)) Q E s:=by
 obtain⟨o,es,ep,t,ho,hex,hd,hel,hmem,hb,hf,hn,hT,hroom'⟩:=id hS
 unfold setAddHashed setAddHashedIn
 refine br (ab (gD ho hd hf ?_))
 dsimp only
 rw [byScan_of hsc hb hel]
 simp only [↓reduceIte]
 unfold setAddByScan
 refine ab (ab (xj (ab (wpAny_setScan_of hkey ho hd hf hel ?_))))
 cases hr:List.findIdx? (fun e=>G.kk.is k e.2) es.toList with
 | some j =>
  obtain⟨hj,hpj,_⟩:=List.findIdx?_eq_some_iff_getElem.mp hr
  have hk:k∈ks:=ah ((hmem k).mpr ⟨es.toList[j],km hj,hpj⟩)
  have:=h false s.heap (Heap.SameBut.refl a s.heap) (by rw [bx hk];exact hS)
  exact af (af this)
 | none =>
  have hk:k∉ks:=fun q=>by
   obtain⟨e,he,hp⟩:=(hmem k).mp (cm q)
   have:=List.findIdx?_eq_none_iff.mp hr e he
   rw [hp] at this;cases this
  rw [aw hk] at h
  have hperm:=layNew_perm t es (G.kk.hash k) x
  have hfits:=layNew_fits t es (G.kk.hash k) x
  have hz:es.size=t.place.size:=by
   unfold SetTable.fits at hf
   exact(jw.mp (qh.mp hf).1).symm
  have hTn:=qU hT es (G.kk.hash k) x hz (by
   obtain⟨k,h3,h2⟩:=hT.two
   have h8:8≤2^k:=Nat.pow_le_pow_right (n:=2) (by decide) h3
   (exact gr .H [[3,1,-3]] (.l (.r .C 5) (.r .B 3)) .bU hroom' hz))
  dsimp only
  generalize layNew t es (G.kk.hash k) x=L at hperm hfits hTn ⊢
  rw [Array.toList_push] at hperm
  have hel1:ElemsOf G.kk L.1.toList:=(hel.push hkey hsc).perm hperm
  have hmem1:∀ k',decide (k'∈ks++[k])=true↔∃ e∈L.1.toList,G.kk.is k' e.2=true:=fun k'=>by
   have:=mem_push_iff (S:=fun k=>decide (k∈ks)) hkey hmem hperm k'
   simpa using this
  have hn1:L.1.size=(ks++[k]).length:=by rw [← ef,hperm.length_eq,bz,bz,ef,hn];rfl
  have hb1:L.1.size<scanBound:=by rw [hn1,bz];exact hroom
  obtain⟨hT1,_,hw⟩:=hTn
  refine ab (D5 ?_)
  rw [hT1.plain,bx rfl,hw]
  refine ab ?_
  rw [hashByValue_scannable 8 hsc]
  refine af (AU (fun b s₁ Q' hq=>by cases b<;>first | exact af hq | exact xj hq) ho hex hd hel1 hmem1 hb1 ?_ hn1 ?_ fun h' hs hS'=>af (h _ h' hs hS'))
  ·split
   ·exact hfits
   ·exact SetTable.fits_plain_off hfits
  ·rw [bx hpk]
   exact hT1
theorem AK {a:Addr} {ks:List Key} {k:Key} {x:Value} {Q:Value→Shared→Prop} (hkey:G.kk.is k x=true) (hsc:x.scannable=true) (hpk:plainKind x=true) (hS:vd G s.heap a ks) (hroom:ks.length+1<scanBound)
  (h:∀ h',Heap.SameBut a s.heap h'→vd G h' a (if k∈ks then ks else ks++[k])→Q .none { s with heap:=h',toks:=s.toks+1 }):wpAny G.M A (call (.builtin "set.add") [.ref a,x]) Q E s:=by
 refine gc F.slot_set_add hS.of.typeIs F.entry_set_add ?_ (F.args_set_add_2 _ _)
 unfold Builtin.«set.add» Builtin.Frozenset.oneOther
 simp only [List.isEmpty_nil,bind_assoc]
 unfold Builtin.Frozenset.addrOf setAdd
 refine ab (af ?_)
 try dsimp only
 refine ab (af ?_)
 try dsimp only
 refine ab (br (ab (G.kk.pyHash hkey (rW (s:={ s with toks:=s.toks+1 }) hkey hsc hpk hS hroom fun b h' hs hS'=>?_))))
 show wpAny _ _ (ret Value.none) _ _ _
 exact af ⟨_,rfl,h h' hs hS'⟩
end
end MP
end
section
set_option tactic.hygienic true
namespace MP
open PySem PyProof.Rows
noncomputable def HA (h:Heap) (w:Value) (d:PyData) (n:Nat):Prop:=∃ as,Reads h w d as∧d.canLay0=true∧d.depth≤n
noncomputable def JN (h:Heap) (ws:List Value) (ds:List PyData) (n:Nat):Prop:=∃ as,ReadsAll h ws ds as∧PyData.canLayAll0 ds=true∧PyData.depthAll ds≤n
theorem eS {G:Stc} {σ:St} {h:Heap} (n:Nat) (ih:∀ {v:V} {w:Value} {d:PyData},jF σ n v=some d→VR G h v w→HA h w d n) :
  {xs:List V}→{ws:List Value}→{ds:List PyData}→xs.mapM (jF σ n)=some ds→VRs G h xs ws→JN h ws ds n
 | [],_,_,e,vr=>by
  obtain rfl:=vr
  obtain rfl:=ae (e:some []=some _)
  exact⟨[],.nil,rfl,cf _⟩
 | x::xs,_,_,e,⟨w,us,q,a,r⟩=>by
  subst q
  rw [List.mapM_cons] at e
  obtain⟨d,e1,e4⟩:=cw.mp e
  obtain⟨ds',e2,e3⟩:=cw.mp e4
  obtain rfl:=ae e3
  obtain⟨as,r1,c1,d1⟩:=ih e1 a
  obtain⟨bs,r2,c2,d2⟩:=eS n ih e2 r
  exact⟨as++bs,.cons r1 r2,by simp [PyData.canLayAll0,c1,c2],Nat.max_le.mpr ⟨d1,d2⟩⟩
theorem yD {h:Heap} {x:Str} {t:Tok} {d:PyData} {n:Nat} (e:(if PyData.strOk x then some (PyData.str x) else Option.none)=some d):HA h (.str x t) d n:=by
 cases c:PyData.strOk x with
 | true=>rw [c] at e;obtain rfl:=ae e;exact⟨[],.str _ _,by simpa [PyData.canLay0] using c,cf _⟩
 | false=>rw [c] at e;exact gb e
theorem dI {G:Stc} {σ:St} {h:Heap} (R:Rel G σ h):(n:Nat)→{v:V}→{w:Value}→{d:PyData}→jF σ n v=some d→VR G h v w→HA h w d n:=by
 intro n
 induction n with
 | zero =>
  intro v w d e vr
  cases v
  case none=>obtain rfl:=vr;obtain rfl:=ae e;exact⟨[],.none,rfl,cf _⟩
  case bool=>obtain rfl:=vr;obtain rfl:=ae e;exact⟨[],.bool _,rfl,cf _⟩
  case int=>obtain⟨t,rfl⟩:=vr;obtain rfl:=ae e;exact⟨[],.int _ _,rfl,cf _⟩
  case str=>obtain⟨t,rfl⟩:=vr;exact yD e
  all_goals exact gb e
 | succ n ih =>
  intro v w d e vr
  cases v
  case none=>obtain rfl:=vr;obtain rfl:=ae e;exact⟨[],.none,rfl,cf _⟩
  case bool=>obtain rfl:=vr;obtain rfl:=ae e;exact⟨[],.bool _,rfl,cf _⟩
  case int=>obtain⟨t,rfl⟩:=vr;obtain rfl:=ae e;exact⟨[],.int _ _,rfl,cf _⟩
  case str=>obtain⟨t,rfl⟩:=vr;exact yD e
  case lst =>
   obtain rfl:=vr
   obtain⟨xs,hx,e⟩:=cw.mp e
   obtain⟨ds,hd,rfl⟩:=eh.mp e
   obtain⟨ws,m,hl,hv⟩:=R.L _ xs hx
   obtain⟨as,r,c,dd⟩:=eS n ih hd hv
   exact⟨_,.list hl rfl rfl (by simpa using r),by simpa [PyData.canLay0] using c,Nat.succ_le_succ dd⟩
  case tup =>
   obtain⟨a,ws,m,rfl,g,r⟩:=vr
   obtain⟨ds,hd,rfl⟩:=eh.mp e
   obtain⟨as,r,c,dd⟩:=eS n ih hd r
   exact⟨_,.tuple g rfl rfl (by simpa using r),by simpa [PyData.canLay0] using c,Nat.succ_le_succ dd⟩
  all_goals exact gb e
section
variable {G:Stc} {A:Around} {E:Value→Shared→Prop} {s:Shared} {σ:St} {d:Nat}
theorem za {d:PyData} (c:d.canLay0=true) (h:d.depth≤6):SeqAt.shaped d=true:=by
 unfold SeqAt.shaped;rw [c,cW];exact cm (gj h (by decide))
theorem AOk.u64 (ao:AOk A d):A.units+64<cLine:=by have:=ao.units;(exact dw (.l (.a .A (.n 64)) .B) .a (.l (.a (.a .A (.m 30 .C)) (.n 300)) .B) this)
theorem FO {a b:V} {x y:Value} {K:Bool→Prop} (ao:AOk A d) (R:Rel G σ s.heap) (va:VR G s.heap a x) (vb:VR G s.heap b y) (h:pV a b σ K) {Q:Value→Shared→Prop} (k:∀ r,K r→Q (.bool r) s):wpAny G.M A (compareOp .Eq x y) Q E s:=by
 rcases gZ h with ⟨i,j,rfl,rfl,h⟩ | ⟨i,j,rfl,rfl,h⟩ | ⟨d,e,hd,he,hk⟩
 ·obtain⟨t,rfl⟩:=va;obtain⟨u,rfl⟩:=vb;exact PyProof.Rows.eq_int (k _ h)
 ·obtain⟨t,rfl⟩:=va;obtain⟨u,rfl⟩:=vb;exact eq_str (k _ h)
 ·obtain⟨as,ra,ca,da⟩:=dI R 6 hd va
  obtain⟨bs,rb,cb,db⟩:=dI R 6 he vb
  exact eq_dataH ra rb (za ca da) (za cb db) ao.u64 (k _ hk)
theorem FL {a b:V} {x y:Value} {K:Bool→Prop} (ao:AOk A d) (R:Rel G σ s.heap) (va:VR G s.heap a x) (vb:VR G s.heap b y) (h:pV a b σ fun r=>K (!r)) {Q:Value→Shared→Prop} (k:∀ r,K r→Q (.bool r) s):wpAny G.M A (compareOp .NotEq x y) Q E s:=by
 rcases gZ h with ⟨i,j,rfl,rfl,h⟩ | ⟨i,j,rfl,rfl,h⟩ | ⟨d,e,hd,he,hk⟩
 ·obtain⟨t,rfl⟩:=va;obtain⟨u,rfl⟩:=vb;exact ne_int (k _ h)
 ·obtain⟨t,rfl⟩:=va;obtain⟨u,rfl⟩:=vb;exact ne_str (k _ h)
 ·obtain⟨as,ra,ca,da⟩:=dI R 6 hd va
  obtain⟨bs,rb,cb,db⟩:=dI R 6 he vb
  exact ne_dataH ra rb (za ca da) (za cb db) ao.u64 (k _ hk)
theorem iX {v:Value} {R:Bool→Shared→Prop} (h:R (v==.none) s):wpAny G.M A (isSame v .none) R E s:=by
 cases v<;>exact dj (by rfl) (by exact h)
theorem B9 {h:Heap} {a:V} {x:Value} (va:VR G h a x):(x==.none)=isNone a:=by
 cases a
 case int=>obtain⟨t,rfl⟩:=va;rfl
 case str=>obtain⟨t,rfl⟩:=va;rfl
 case tup=>obtain⟨_,_,_,rfl,_⟩:=va;rfl
 case mt=>obtain⟨_,_,_,_,rfl,_⟩:=va;rfl
 case zt=>obtain⟨_,_,rfl,_⟩:=va;rfl
 case cD=>obtain⟨_,_,rfl,_⟩:=va;rfl
 case ro=>obtain⟨_,_,_,rfl,_⟩:=va;rfl
 case clo=>obtain⟨_,_,rfl,_⟩:=va;rfl
 all_goals obtain rfl:=va;rfl
theorem iA {a b:V} {x y:Value} {K:Bool→Prop} (R:Rel G σ s.heap) (va:VR G s.heap a x) (vb:VR G s.heap b y) (h:B4 a b σ K) {Q:Bool→Shared→Prop} (k:∀ r,K r→Q r s):wpAny G.M A (isSame x y) Q E s:=by
 cases b with
 | none =>
  obtain rfl:=vb
  exact iX (k _ (by rw [B9 va];exact h))
 | lst q =>
  obtain rfl:=vb
  have h:E9 q a σ K:=h
  cases a with
  | none=>obtain rfl:=va;exact wpAny_isSame_plain rfl (k _ h)
  | lst p =>
   obtain rfl:=va
   obtain⟨h1,h2,h3⟩:=h
   obtain⟨xs,e1⟩:=ax.mp h1
   obtain⟨ys,e2⟩:=ax.mp h2
   by_cases hpq:p=q
   ·subst hpq
    exact wpAny_isSame_ref_self (k _ (qj p▸h3))
   ·obtain⟨o1,g1,c1⟩:=R.pK e1
    obtain⟨o2,g2,c2⟩:=R.pK e2
    exact wpAny_isSame_ref_other hpq g1 g2 (by rw [c1];decide) (k _ (qy.mpr hpq▸h3))
  | _=>exact False.elim h
 | _=>exact False.elim h
theorem nc {G:Stc} {h:Heap}:{ns:List Int}→{ws:List Value}→VRs G h (ns.map V.int) ws→IntsAre ws ns
 | [],_,e=>by obtain rfl:=e;exact .nil
 | _::_,_,⟨_,_,e,⟨t,e'⟩,r⟩=>by subst e;subst e';exact .cons _ _ (nc r)
theorem xd (ns:List Int) (i:Int):(ns.any fun x=>x==i)=ns.contains i:=by
 rw [Bool.eq_iff_iff];simp
theorem FN {a b:V} {x y:Value} {K:Bool→Prop} (R:Rel G σ s.heap) (va:VR G s.heap a x) (vb:VR G s.heap b y) (h:B5 a b σ K) {Q:Value→Shared→Prop} (k:∀ r,K r→Q (.bool r) s):wpAny G.M A (compareOp .In x y) Q E s:=by
 obtain⟨i,rfl,h⟩:=pb (v:=a) h
 obtain⟨l,rfl,ns,e,hk⟩:=vu (v:=b) h
 obtain⟨t,rfl⟩:=va
 obtain rfl:=vb
 obtain⟨ws,n,hl,hv⟩:=R.L _ _ e
 exact in_list_ints hl.isList (nc hv) (k _ (by rw [xd];exact hk))
theorem uH {a b:V} {x y:Value} {K:Bool→Prop} (R:Rel G σ s.heap) (va:VR G s.heap a x) (vb:VR G s.heap b y) (h:B5 a b σ fun r=>K (!r)) {Q:Value→Shared→Prop} (k:∀ r,K r→Q (.bool r) s):wpAny G.M A (compareOp .NotIn x y) Q E s:=by
 obtain⟨i,rfl,h⟩:=pb (v:=a) h
 obtain⟨l,rfl,ns,e,hk⟩:=vu (v:=b) h
 obtain⟨t,rfl⟩:=va
 obtain rfl:=vb
 obtain⟨ws,n,hl,hv⟩:=R.L _ _ e
 exact notin_list_ints hl.isList (nc hv) (k _ (by rw [xd];exact hk))
theorem fT {op:Cop} {a b:V} {x y:Value} {K:Bool→Prop} (ao:AOk A d) (R:Rel G σ s.heap) (va:VR G s.heap a x) (vb:VR G s.heap b y) (h:cY op a b σ K) {Q:Value→Shared→Prop} (k:∀ r,K r→Q (.bool r) s):wpAny G.M A (compareOp (gB op) x y) Q E s:=by
 have ord:E8 op a b K→wpAny G.M A (compareOp (gB op) x y) Q E s:=fun h=>by
  obtain⟨i,rfl,h⟩:=pb (v:=a) h
  obtain⟨j,rfl,h⟩:=pb (v:=b) h
  obtain⟨t,rfl⟩:=va
  obtain⟨u,rfl⟩:=vb
  cases op
  case lt=>exact lt_int (k _ h)
  case le=>exact le_int (k _ h)
  case gt=>exact gt_int (k _ h)
  case ge=>exact ge_int (k _ h)
  all_goals exact False.elim h
 cases op with
 | eq=>exact FO ao R va vb h k
 | ne=>exact FL ao R va vb h k
 | is =>
  show wpAny G.M A (do return .bool (← isSame x y)) Q E s
  exact ab (iA R va vb h fun r q=>af (k _ q))
 | isNot =>
  show wpAny G.M A (do return .bool (!(← isSame x y))) Q E s
  exact ab (iA (K:=fun r=>K (!r)) R va vb h fun r q=>af (k _ q))
 | isIn=>exact FN R va vb h k
 | notIn=>exact uH R va vb h k
 | lt=>exact ord h
 | le=>exact ord h
 | gt=>exact ord h
 | ge=>exact ord h
end
section
variable {G:Stc} {C:Cal} {sc:Scope} {d:Nat}
theorem BZ {op:Cop} {a b:Ex} {x y:Expr} {pos:Pos} (ha:ct G C sc d a x) (hb:ct G C sc d b y) (hm:behindInMarks (gB op) y=false):ct G C sc d (.cmp op a b) (.Compare x [gB op] [y] pos):=fun A E env ρ σ Q s ao es eo F R h =>
 wpAny_Compare1 (md (ha A E env ρ σ _ s ao es eo F R h) fun v σ₁ h₁ tk w q vr r x =>
  md (hb A E env ρ σ₁ _ { s with heap:=h₁,toks:=tk } ao es eo (F.evo x) r q) fun v₂ σ₂ h₂ tk₂ w₂ q₂ vr₂ r₂ x₂ =>
   fT (s:={ s with heap:=h₂,toks:=tk₂ }) ao r₂ (vr.mono x₂.frz) vr₂ q₂ fun b q=>fq.back (x.trans x₂) (fq.uu (s:={ s with heap:=h₂,toks:=tk₂ }) q (.bool _) r₂)) hm
theorem gP {G:Stc} {A:Around} {E:Value→Shared→Prop} {s:Shared} {env:Env} {l op r pos whole} {Q:Bool→Shared→Prop}
  (h:wpAny G.M A (eval l env) (fun a s₁=>wpAny G.M A (eval r env) (fun b s₂=>wpAny G.M A (compareOp op a b) (fun c s₃=>wpAny G.M A (truthy c) Q E s₃) E s₂) E s₁) E s)
  (hm:behindInMarks op r=false):wpAny G.M A (isTrue (.Compare l [op] [r] pos) env whole) Q E s:=by
 rw [isTrue_Compare1,markedBehindIn_of_false hm]
 refine ab (av h (fun a s₁ h₁=>ab (br (av h₁ (fun b s₂ h₂=>ab (er (ab (wpAny_operating (av h₂ (fun c s₃ h₃=>br h₃) fun _ _ x=>x)))) ) fun _ _ x=>x))) fun _ _ x=>x)
theorem y1 {op:Cop} {a b:Ex} {x y:Expr} {pos:Pos} (ha:ct G C sc d a x) (hb:ct G C sc d b y) (hm:behindInMarks (gB op) y=false):pq G C sc d (.cmp op a b) (.Compare x [gB op] [y] pos):=fun A E env ρ σ Q s ao es eo F R h =>
 gP (md (ha A E env ρ σ _ s ao es eo F R h) fun v σ₁ h₁ tk w q vr r x =>
  md (hb A E env ρ σ₁ _ { s with heap:=h₁,toks:=tk } ao es eo (F.evo x) r q) fun v₂ σ₂ h₂ tk₂ w₂ q₂ vr₂ r₂ x₂ =>
   fT (s:={ s with heap:=h₂,toks:=tk₂ }) ao r₂ (vr.mono x₂.frz) vr₂ q₂ fun b q=>vi (jd.back (x.trans x₂) (jd.here (s:={ s with heap:=h₂,toks:=tk₂ }) q r₂))) hm
end
end MP
end
section
namespace MP
open PySem PyProof.Rows
theorem oh {n:Nat} (h:n≤aq):n≤sizeLine:=by rw [show sizeLine=16777216 from rfl];unfold aq at h;(exact gv .bL .a .bD h)
section
variable {G:Stc} {σ:St} {h:Heap}
theorem Rel.GU (R:Rel G σ h):σ.L h.objs.size=none:=by
 cases hq:σ.L h.objs.size with
 | none=>rfl
 | some ys=>obtain⟨o,ho,_⟩:=R.pK hq;rw [none_at_size] at ho;cases ho
theorem Rel.freshD (R:Rel G σ h):σ.D h.objs.size=none:=by
 cases hq:σ.D h.objs.size with
 | none=>rfl
 | some ys=>obtain⟨o,ho,_⟩:=R.AB hq;rw [none_at_size] at ho;cases ho
theorem Rel.GS (R:Rel G σ h):σ.S h.objs.size=none:=by
 cases hq:σ.S h.objs.size with
 | none=>rfl
 | some ys=>obtain⟨o,ho,_⟩:=R.AA hq;rw [none_at_size] at ho;cases ho
theorem dR {X:List Addr} {σ₁:St} {s:Shared} {h₁:Heap} {tk:Nat} {Q:V→St→Prop} {vs:List V} {ws:List Value} (r:Rel G σ₁ h₁) (x:Evo X σ s.heap σ₁ h₁) (vrs:VRs G h₁ vs ws) (hz:vs.length≤aq)
  (q:∀ c,σ₁.L c=none→Q (.lst c) (σ₁.fg c vs)):fq G X σ s Q (.ref h₁.objs.size) { s with heap:=h₁.push { cls:=.type "list",data:=.seq ws.toArray },toks:=tk }:=by
 have at':At h₁.objs.size h₁ (h₁.push { cls:=.type "list",data:=.seq ws.toArray }):=At.push h₁
 exact⟨.lst _,_,_,tk,rfl,q _ r.GU,.lst _,r.putL at' (fun _=>none_at_size _) (IsL.new _ _) vrs hz,x.trans (Evo.putL at' (fun _=>none_at_size _) _)⟩
theorem VRs.rep {vs:List V} {ws:List Value} (x:VRs G h vs ws):∀ k:Nat,VRs G h (List.replicate k vs).flatten (List.replicate k ws).flatten
 | 0=>by simpa using VRs.nil
 | k+1=>by simpa [List.replicate_succ] using x.append (x.rep k)
theorem VRs.ints {ws:List Value} {ns:List Int} (i:IntsAre ws ns):VRs G h (ns.map V.int) ws:=by
 induction i with
 | nil=>exact .nil
 | cons n t r ih=>exact .cons (.int n t) ih
end
section
variable {G:Stc} {A:Around} {E:Value→Shared→Prop} {s:Shared} {σ:St}
theorem mK {l:Addr} {items:Array Value} {k:Nat} {x:Int} {u:Tok} {Q:Value→Shared→Prop} (hl:IsL s.heap l items k) (hlo:-(2^63:Int)≤x) (hhi:x<2^63) (hsz:items.size*x.toNat≤2^24)
  (h:Q (.ref s.heap.objs.size) { s with heap:=s.heap.push { cls:=.type "list",data:=.seq (List.foldl (fun x1 x2=>x1++x2) #[] (List.replicate (if items.isEmpty=true then 0 else x.toNat) items)) } }) :
  wpAny G.M A (binaryOp .Mult (.ref l) (.int x u)) Q E s :=
 wpAny_binaryOp_repeat_ref (T:="list") (U:="int") (by decide) ⟨_,hl,rfl⟩ (fun s'=>typeIs_int s' x u) noFill_list_mul F.fills_int_mul F.slot_int_rmul repeat_list F.slot_int_index.lookup
  (call_meets F.slot_int_rmul (typeIs_int s x u) F.entry_int_rmul (F.args_int_rmul_2 _ _) (int___rmul___int_list x u l items k)
   ⟨hl,rfl,⟨_,hl,rfl⟩,call_meets F.slot_list_mul ⟨_,hl,rfl⟩ F.entry_list_mul (F.args_list_mul_2 _ _)
    (AutoListH.list___mul___list_int_3 l items k x u (by simp [Builtin.List.listFitsIndex];(exact⟨(ke (.ik (.ng 9223372036854775808) .A) .a .a0 hlo),(ke (.il .A (.n 9223372036854775808)) .a .aM hhi)⟩)) (by exact gR .bN [[8,8,1,-1,-1]] (.k .B (.n (2^24))) (.l .C (.n 8)) (.e (.a (.m 8 .A) .C) .D) (.e .V (.n (2^63))) hsz (Ar.mH _ 8 (by decide)).1 (Ar.mH _ 8 (by decide)).2 (aa (zu (.k .U (.n (2^63))) .i))) (by simp [Builtin.List.listTooLong,sizeLine];(exact gv .bL .a .bK hsz)))
    ⟨hl,h⟩⟩)
set_option maxHeartbeats 2000000 in
theorem xX {op:Bop} {a b:V} {x y:Value} {Q:V→St→Prop} (R:Rel G σ s.heap) (va:VR G s.heap a x) (vb:VR G s.heap b y) (h:xv op a b σ Q):wpAny G.M A (binaryOp (binOp op) x y) (fq G [] σ s Q) E s:=by
 have ints':∀ i j t u,x=.int i t→y=.int j u→xv op (.int i) (.int j) σ Q→wpAny G.M A (binaryOp (binOp op) x y) (fq G [] σ s Q) E s:=fun i j t u e1 e2 q=>by
  subst e1;subst e2;exact iB R q
 have mulAt:∀ (l:Addr) (xs:List V) (ws:List Value) (i:Int) (t:Tok) (n:Nat),IsL s.heap l ws.toArray n→VRs G s.heap xs ws→xs.length*i.toNat≤aq→i.natAbs<2^60→(∀ c,σ.L c=none→Q (.lst c) (σ.fg c (List.replicate i.toNat xs).flatten)) →
   x=.ref l→y=.int i t→wpAny G.M A (binaryOp .Mult x y) (fq G [] σ s Q) E s:=fun l xs ws i t n hl hv hz hb q e1 e2=>by
  subst e1;subst e2
  have h1:=hv.length
  refine mK hl (by exact(Ar.nab _).elim (fun q1=>(ke .a0 .a .T q1.1)) fun q1=>(pk .a0 .c .J .aQ hb q1.2)) (by exact(Ar.nab _).elim (fun q1=>(pk .aM .c .J .W hb q1.2)) fun q1=>(ke .aM .a .aK q1.1)) ?_ ?_
  ·simp only [cv];rw [← h1];unfold aq at hz;(exact gv .bK .a .bD hz)
  ·have e:List.foldl (fun x1 x2=>x1++x2) #[] (List.replicate (if ws.toArray.isEmpty=true then 0 else i.toNat) ws.toArray)=((List.replicate i.toNat ws).flatten).toArray:=by
    rw [listMul_foldl]
    cases ws with
    | nil=>simp
    | cons w ws=>simp
   rw [e]
   exact dR (tk:=s.toks) R (Evo.refl _ _ _) (hv.rep _) (by rw [lm_len_rep_flat,Nat.mul_comm];exact hz) q
 rcases nX h with ⟨i,j,rfl,rfl,_⟩ | ⟨rfl,l,n,rfl,rfl,q⟩ | ⟨rfl,m,rfl,q⟩
 ·obtain⟨t,rfl⟩:=va.inv
  obtain⟨u,rfl⟩:=vb.inv
  exact iB R h
 ·obtain⟨u,rfl⟩:=vb.inv
  obtain rfl:=va
  obtain⟨xs,e1,hz,hb,q⟩:=q
  obtain⟨ws,n,hl,hv⟩:=R.L _ _ e1
  exact mulAt _ _ _ _ _ _ hl hv hz hb q rfl rfl
 ·obtain rfl:=vb
  obtain⟨xs,ys,e4,e5,hz,q⟩:=q
  obtain⟨us,m,hl',hv'⟩:=R.L _ _ e5
  have go:∀ (l:Addr) (ws:List Value) (n:Nat),x=.ref l→IsL s.heap l ws.toArray n→VRs G s.heap xs ws→wpAny G.M A (binaryOp (binOp .add) x (.ref _)) (fq G [] σ s Q) E s:=fun l ws n ex hl hv=>by
   subst ex
   have h1:=hv.length;have h2:=hv'.length
   refine P.add_list hl hl' ?_ (by simp only [cv];rw [← h1,← h2];exact oh hz)
   rw [List.append_toArray]
   exact dR (tk:=s.toks) R (Evo.refl _ _ _) (hv.append hv') (by simpa using hz) q
  unfold itemsOf at e4
  cases e6:gJ a with
  | some l' =>
   rw [e6] at e4
   have e6:=cZ e6;subst e6
   obtain⟨ws,n,hl,hv⟩:=R.L _ _ e4
   exact go _ ws n va.inv hl hv
  | none =>
   rw [e6] at e4
   cases e7:vRo a with
   | none=>rw [e7] at e4;cases e4
   | some ns =>
    rw [e7] at e4
    cases e4
    have e7:=FC e7;subst e7
    obtain⟨a,ws,n,ex,g,r⟩:=va.inv
    exact go a ws n ex (R.base _ _ g) (VRs.ints (G:=G) (h:=s.heap) r)
theorem sM {C:Cal} {sc:Scope} {d:Nat} {op:Bop} {a b:Ex} {x y:Expr} {pos:Pos} (ha:ct G C sc d a x) (hb:ct G C sc d b y):ct G C sc d (.bin op a b) (.BinOp x (binOp op) y pos):=fun A E env ρ σ Q s ao es eo F R h =>
 wpAny_BinOp (md (ha A E env ρ σ _ s ao es eo F R h) fun v σ₁ h₁ tk w q vr r x =>
  md (hb A E env ρ σ₁ _ { s with heap:=h₁,toks:=tk } ao es eo (F.evo x) r q) fun v₂ σ₂ h₂ tk₂ w₂ q₂ vr₂ r₂ x₂ =>
   av (xX (s:={ s with heap:=h₂,toks:=tk₂ }) r₂ (vr.mono x₂.frz) vr₂ q₂) (fun _ _ l=>fq.back (x.trans x₂) l) fun _ _ x=>x)
theorem DRs.look {h:Heap} (k:Key):{es:List (Key × V)}→{ds:List (Key × Value)}→DRs G h es ds→OV G h (es.lookup k) (valueAt ds k)
 | [],_,e=>by obtain rfl:=e;exact trivial
 | (k',v)::es,_,⟨w,us,e,a,r⟩=>by
  subst e
  by_cases hk:k'=k
  ·subst hk;simpa [valueAt,OV] using a
  ·rw [kl,qy.mpr (fun q=>hk q.symm)]
   simpa [valueAt,List.find?_cons,hk] using DRs.look k r
theorem key_is {v:V} {k:Key} {w:Value} {h:Heap} (hk:v.iW=some k) (vr:VR G h v w):G.kk.is k w=true:=by
 cases v
 case int=>obtain⟨t,rfl⟩:=vr;obtain rfl:=ae hk;simp [keyKind,tF,Value.isInt]
 case str=>obtain⟨t,rfl⟩:=vr;obtain rfl:=ae hk;simp [keyKind,tF,Value.isStrOf]
 all_goals exact gb hk
theorem xB {a b:V} {x y:Value} {ve se:Expr} {K:V→Prop} (R:Rel G σ s.heap) (va:VR G s.heap a x) (vb:VR G s.heap b y) (h:nU a b σ K) (hs:subscripted se false x y=operate [x,y] (getItem x y)) {Q:Value→Shared→Prop} (k:∀ v w tk,K v→VR G s.heap v w→Q w { s with toks:=tk }) :
  wpAny G.M A (subscriptTail ve se x y) Q E s:=by
 have listAt:∀ (l:Addr) (ws:List Value) (i:Int) (t:Tok) (n:Nat) (v:Value),IsL s.heap l ws.toArray n→ws.length≤aq→0≤fb ws.length i→ws[(fb ws.length i).toNat]?=some v→x=.ref l→y=.int i t→(∀ tk,Q v { s with toks:=tk })→wpAny G.M A (subscriptTail ve se x y) Q E s:=fun l ws i t n v hl hz h0 hv e1 e2 hq=>by
  subst e1;subst e2
  have hlt:(fb ws.length i).toNat<ws.length:=(cj.mp hv).1
  unfold fb at h0 hv hlt
  unfold aq at hz
  by_cases hi:i<0
  ·simp only [hi,rp] at h0 hv hlt
   exact tail_any hl.isList.typeIs gG.lookup (wpAny_getItem_list_neg hl.isList hi (by simp only [cv];(exact jQ (.ik (.g .L) .A) .a (.ik .O (.a .A .L)) h0)) (by exact pk .a0 .b .bD (.ik .O (.a .A .L)) hz h0) (by simpa using hv) (hq s.toks)) hs
  ·simp only [hi,je] at h0 hv hlt
   exact tail_any hl.isList.typeIs gG.lookup (wpAny_getItem_list hl.isList (by exact ke .T .a (.ig .A .O) hi) (by exact(Ar.ton _).elim (fun q1=>(pQ .aM .k .bD .a7 (.ie .P .A) hz hlt q1.2)) fun q1=>(ke .aM .a .aK q1.1)) (by simpa using hv) (hq s.toks)) hs
 have tupAt:∀ (l:Addr) (ws:List Value) (i:Int) (t:Tok) (n:Nat) (v:Value),IsT s.heap l ws.toArray n→i.natAbs<2^60→0≤fb ws.length i→ws[(fb ws.length i).toNat]?=some v→x=.ref l→y=.int i t→(∀ tk,Q v { s with toks:=tk })→wpAny G.M A (subscriptTail ve se x y) Q E s:=fun l ws i t n v hl hz h0 hv e1 e2 hq=>by
  subst e1;subst e2
  have hlt:(fb ws.length i).toNat<ws.length:=(cj.mp hv).1
  have hT:IsTup s.heap l ws.toArray:=⟨_,hl,rfl,n,rfl⟩
  refine tail_any hT.typeIs slot_tuple_getitem.lookup (PyProof.Rows.getItem_tuple hT (by exact(Ar.nab _).elim (fun q1=>(ke .a0 .a .T q1.1)) fun q1=>(pk .a0 .c .J .aQ hz q1.2)) (by exact(Ar.nab _).elim (fun q1=>(pk .aM .c .J .W hz q1.2)) fun q1=>(ke .aM .a .aK q1.1)) (j:=(fb ws.length i).toNat) ?_ (by simpa using hv) (hq s.toks)) hs
  unfold seqIndex?
  rw [cv]
  change (if (decide (0≤fb ws.length i)&&decide (fb ws.length i<ws.length))=true then some (fb ws.length i).toNat else none)=_
  rw [bx]
  simp only [cg,fw];(exact⟨(ke .T .a .T h0),((Ar.ton _).elim (fun q1=>(u4 (.il .A .L) .c .a7 (.ie .P .A) hlt q1.2)) fun q1=>(u4 (.il .A .L) .b .a7 .aK hlt q1.1))⟩)
 cases a with
 | lst a =>
  obtain rfl:=va
  obtain⟨i,rfl,xs,v,e,h0,hx,hk⟩:=pb (v:=b) h
  obtain⟨t,rfl⟩:=vb
  obtain⟨ws,n,hl,hv⟩:=R.L _ _ e
  have hlen:=hv.length
  obtain⟨w,hw,vr⟩:=hv.get hx
  rw [hlen] at h0 hw
  exact listAt _ ws _ _ n w hl (hlen▸R.Ll _ _ e) h0 hw rfl rfl fun tk=>k v w tk hk vr
 | ro ns =>
  obtain⟨i,rfl,v,hz,h0,hx,hk⟩:=pb (v:=b) h
  obtain⟨t,rfl⟩:=vb
  obtain⟨a,ws,n,rfl,g,r⟩:=va
  have hv:=VRs.ints (G:=G) (h:=s.heap) r
  have hlen:=r.length.symm
  obtain⟨w,hw,vr⟩:=hv.get (v:=.int v) (by rw [az,hx];rfl)
  rw [hlen] at h0 hw
  exact listAt _ ws _ _ _ w (R.base _ _ g) (hlen▸hz) h0 hw rfl rfl fun tk=>k (.int v) w tk hk vr
 | tup xs =>
  obtain⟨i,rfl,v,hb,h0,hx,hk⟩:=pb (v:=b) h
  obtain⟨t,rfl⟩:=vb
  obtain⟨a,ws,n,rfl,g,r⟩:=va
  obtain⟨w,hw,vr⟩:=r.get hx
  exact tupAt _ _ _ _ _ _ g hb (r.length▸h0) (r.length▸hw) rfl rfl fun tk=>k v w tk hk vr
 | dct a =>
  obtain rfl:=va
  obtain⟨es,kk,v,e,hkey,hl,hk⟩:=h
  obtain⟨ds,hd,hv⟩:=R.D _ _ e
  have hh:=hv.look kk
  rw [hl] at hh
  cases hq:valueAt ds kk with
  | none=>rw [hq] at hh;exact hh.elim
  | some w =>
   rw [hq] at hh
   exact tail_any hd.typeIs slot_dict_getitem.lookup (wpAny_getItem_of (key_is hkey vb) hd.mapOf hq (k v w _ hk hh)) hs
 | _=>exact False.elim h
end
end MP
end
section
namespace MP
open PySem PyProof.Rows
structure GOk (G:Stc):Prop where
 cls:∃ N mN,ClsAt G.hb G.cS N mN∧mN "__getattribute__"=none∧mN "__getattr__"=none∧mN "__setattr__"=none∧∀ x∈G.attrs,mN x=none∧typeLookup (.type "object") x=pure none
 len:G.attrs.length≤100
 nd:G.attrs.Nodup
 sys:∃ o,G.hb.get? sysModules=some o
 names:∃ mg mb,G.hb.Ns mainGlobals mg∧G.hb.Ns builtinsNs mb∧∀ x,G.gl x=(mg x).or (mb x)
noncomputable def isSlice (x:Expr):Bool:=dX 26 x
theorem dB {se:Expr} (h:isSlice se=false) (x y:Value):subscripted se false x y=operate [x,y] (getItem x y):=by
 cases se<;>first | rfl | exact Bool.noConfusion h
section
variable {G:Stc} {C:Cal} {sc:Scope} {d:Nat}
theorem sG {a b:Ex} {x y:Expr} {pos:Pos} (ha:ct G C sc d a x) (hb:ct G C sc d b y) (hs:isSlice y=false):ct G C sc d (.sub a b) (.Subscript x y pos):=fun A E env ρ σ Q s ao es eo F R h =>
 Subscript_ (md (ha A E env ρ σ _ s ao es eo F R h) fun v σ₁ h₁ tk w q vr r x =>
  md (hb A E env ρ σ₁ _ { s with heap:=h₁,toks:=tk } ao es eo (F.evo x) r q) fun v₂ σ₂ h₂ tk₂ w₂ q₂ vr₂ r₂ x₂ =>
   xB (s:={ s with heap:=h₂,toks:=tk₂ }) r₂ (vr.mono x₂.frz) vr₂ q₂ (dB hs _ _) fun v w tk q vr=>fq.back (tk:=tk₂) (x.trans x₂) (fq.here (s:={ s with heap:=h₂,toks:=tk₂ }) q vr r₂))
noncomputable def DP (G:Stc) (C:Cal) (sc:Scope) (d:Nat) (e:Ex) (x:Option Expr):Prop:=(e=.none∧x=none)∨∃ y,x=some y∧ct G C sc d e y
theorem DP.at {e:Ex} {x:Option Expr} (p:DP G C sc d e x) (A:Around) (E:Value→Shared→Prop) (env:Env) (ρ:Fr) (σ:St) (Q:V→St→Prop) (s:Shared) (ao:AOk A d) (es:env.scope=sc) (eo:iv env) (F:FR G σ env ρ s.heap) (R:Rel G σ s.heap)
  (h:wpE C e ρ σ Q):wpAny G.M A (evalPart x env) (fq G [] σ s Q) E s:=by
 rcases p with ⟨rfl,rfl⟩ | ⟨y,rfl,p⟩
 ·exact eJ (fq.uu h .none R)
 ·exact evalPart_some_step (p A E env ρ σ Q s ao es eo F R h)
theorem CN (a:Int) (n:Nat):(max 0 (min a n)).toNat=min n a.toNat:=by
 rcases xr a 0 with h | h
 ·rw [Int.toNat_of_nonpos h,Nat.min_zero,Int.max_eq_left (Int.le_trans (Int.min_le_left ..) h)];rfl
 ·rcases xr a n with h' | h'
  ·rw [Int.min_eq_left h',Int.max_eq_right h,Nat.min_eq_right (Int.toNat_le.mpr h')]
  ·rw [Int.min_eq_right h',Int.max_eq_right (Int.natCast_nonneg n),fk,Nat.min_eq_left ((Int.le_toNat h).mpr h')]
theorem jK (n:Nat) (i:Int):clipAt n i=dh n i:=CN _ n
theorem part_of {h:Heap} {v:V} {w:Value} {k:Nat} {i:Int} (vr:VR G h v w) (e:ye k v=some i):∃ o,IsPart w o∧o.getD k=i:=by
 cases v
 case none=>obtain rfl:=vr;exact⟨none,.none,ae e⟩
 case int=>obtain⟨t,rfl⟩:=vr;exact⟨_,.int _ _,ae e⟩
 all_goals exact gb e
theorem rH (n:Nat) (o:Option Int) {i:Int} (h:o.getD (0:Nat)=i):o.elim 0 (clipAt n)=dh n i:=by
 cases o with
 | none=>simp at h;subst h;simp [dh,fb]
 | some j=>simp at h;subst h;exact jK n j
theorem rG (n:Nat) (o:Option Int) {i:Int} (h:o.getD (n:Nat)=i):o.elim n (clipAt n)=dh n i:=by
 cases o with
 | none=>obtain rfl:=(h:(n:Int)=i);exact(Nat.min_self n).symm
 | some j=>simp at h;subst h;exact jK n j
theorem xC {A:Around} {E:Value→Shared→Prop} {s:Shared} {σ:St} {a b c:V} {x y z:Value} {ve:Expr} {lo hi:Option Expr} {p:Pos} {Q:V→St→Prop} (R:Rel G σ s.heap) (va:VR G s.heap a x) (vb:VR G s.heap b y) (vc:VR G s.heap c z) (h:rZ a b c σ Q) :
  wpAny G.M A (subscriptTail ve (.Slice lo hi none p) x (.ref s.heap.objs.size)) (fq G [] σ s Q) E { s with heap:=s.heap.push { cls:=.type "slice",data:=.fields #[y,z,.none] } }:=by
 have go:∀ (l:Addr) (xs:List V) (ws:List Value) (n:Nat) (i j:Int),x=.ref l→IsL s.heap l ws.toArray n→VRs G s.heap xs ws→xs.length≤aq→ye 0 b=some i→ye xs.length c=some j→(∀ c,σ.L c=none→Q (.lst c) (σ.fg c ((xs.take (dh xs.length j)).drop (dh xs.length i)))) →
   wpAny G.M A (subscriptTail ve (.Slice lo hi none p) x (.ref s.heap.objs.size)) (fq G [] σ s Q) E { s with heap:=s.heap.push { cls:=.type "slice",data:=.fields #[y,z,.none] } }:=fun l xs ws n i j e hl hv hz hi hj q=>by
  subst e
  obtain⟨o1,p1,e1⟩:=part_of vb hi
  obtain⟨o2,p2,e2⟩:=part_of vc hj
  have hl':(s.heap.push { cls:=.type "slice",data:=.fields #[y,z,.none] }).IsList l ws.toArray:=(hl.push _).isList
  have hlen:=hv.length
  refine tail_any (T:="list") (id:="list.__getitem__") (ops:=[.ref s.heap.objs.size,.ref l]) ?_ gG.lookup (wpAny_getItem_list_slice hl' (Heap.IsSliceOf.new ..) p1 p2 .none (by simp) ?_ (by simp only [cv];rw [← hlen];exact oh hz)) rfl
  ·exact hl'.typeIs
  ·have e:slicePick ws.toArray o1 o2 none=((ws.take (dh ws.length j)).drop (dh ws.length i)).toArray:=by
    rw [slicePick_plain,cv,rH ws.length o1 e1,rG ws.length o2 (hlen▸e2),List.drop_take]
   rw [e]
   have R':=R.push { cls:=.type "slice",data:=.fields #[y,z,.none] }
   have hv':=((hv.take (dh xs.length j)).drop (dh xs.length i)).mono (h':=s.heap.push { cls:=.type "slice",data:=.fields #[y,z,.none] }) fun _ _ e _=>ak _ e
   rw [← hlen]
   exact dR (s:=s) (tk:=s.toks) R' (Evo.push _ _ _ _) hv' (by simp only [gq,dt];(exact rz .A .d .M .bS .b3 hz (Ar.iw _ _).2.1 (uj _ _))) q
 cases a with
 | lst a =>
  obtain rfl:=va
  obtain⟨xs,i,j,e,hi,hj,_,_,q⟩:=h
  obtain⟨ws,n,hl,hv⟩:=R.L _ _ e
  exact go _ xs ws n i j rfl hl hv (R.Ll _ _ e) hi hj q
 | ro ns =>
  obtain⟨a,ws,n,rfl,g,r⟩:=va
  obtain⟨i,j,hz,hi,hj,_,_,q⟩:=h
  refine go _ _ _ _ i j rfl (R.base _ _ g) (VRs.ints r) (by simpa using hz) hi (by simpa using hj) fun c hc=>?_
  have:=q c hc
  simpa [List.map_drop,cV] using this
 | _=>exact False.elim h
theorem BP {a b c:Ex} {x:Expr} {lo hi:Option Expr} {p pos:Pos} (ha:ct G C sc d a x) (hb:DP G C sc d b lo) (hc:DP G C sc d c hi):ct G C sc d (.slc a b c) (.Subscript x (.Slice lo hi none p) pos):=fun A E env ρ σ Q s ao es eo F R h =>
 Subscript_ (md (ha A E env ρ σ _ s ao es eo F R h) fun v σ₁ h₁ tk w q vr r x =>
  wpAny_Slice (md (hb.at A E env ρ σ₁ _ { s with heap:=h₁,toks:=tk } ao es eo (F.evo x) r q) fun v₂ σ₂ h₂ tk₂ w₂ q₂ vr₂ r₂ x₂ =>
   md (hc.at A E env ρ σ₂ _ { s with heap:=h₂,toks:=tk₂ } ao es eo (F.evo (x.trans x₂)) r₂ q₂) fun v₃ σ₃ h₃ tk₃ w₃ q₃ vr₃ r₃ x₃ =>
    eJ (av (xC (s:={ s with heap:=h₃,toks:=tk₃ }) r₃ ((vr.mono x₂.frz).mono x₃.frz) (vr₂.mono x₃.frz) vr₃ q₃) (fun _ _ l=>fq.back (x.trans (x₂.trans x₃)) l) fun _ _ x=>x)))
noncomputable def lg (x:Expr):Bool:=!(dX 16 x&&(kids x).tail.isEmpty)
theorem wk {o:Expr} (h:lg o=true) (attr:Str) (env:Env) (whole:Sem Value):attributeBase o attr env whole=whole:=by
 cases o with
 | Call f args kws pos =>
  cases args with
  | nil=>exact Bool.noConfusion h
  | cons a as=>cases f<;>rfl
 | _=>rfl
theorem ym.inst {h:Heap} {a dd:Addr} {f:Nat→Option V} (I:ym G h a dd f) {m:Str→Option Value} (hm:h.Ns1 dd m):h.Inst a G.cS m:=by
 obtain⟨o,ho,hc,hd,hn⟩:=I.here
 exact⟨o,ho,hc,hn,.inr ⟨dd,hd,I.ne,hm⟩⟩
theorem mS {h:Heap} {v:V} {w:Value} (vr:VR G h v w):handedOut w=pure w:=by
 cases v
 case int=>obtain⟨t,rfl⟩:=vr;rfl
 case str=>obtain⟨t,rfl⟩:=vr;rfl
 case tup=>obtain⟨_,_,_,rfl,_⟩:=vr;rfl
 case mt=>obtain⟨_,_,_,_,rfl,_⟩:=vr;rfl
 case zt=>obtain⟨_,_,rfl,_⟩:=vr;rfl
 case cD=>obtain⟨_,_,rfl,_⟩:=vr;rfl
 case ro=>obtain⟨_,_,_,rfl,_⟩:=vr;rfl
 case clo=>obtain⟨_,_,rfl,_⟩:=vr;rfl
 all_goals obtain rfl:=vr;rfl
theorem o5 {A:Around} {E:Value→Shared→Prop} {s:Shared} {σ:St} {a dd:Addr} {f:Nat→Option V} {i:Nat} {name:Str} {u:V} {expr:Bool} {Q:Value→Shared→Prop} (K:GOk G) (R:Rel G σ s.heap) (hI:σ.I a=some (dd,f)) (hn:G.attrs[i]?=some name) (hu:f i=some u)
  (k:∀ w tk,VR G s.heap u w→Q w { s with toks:=tk }):wpAny G.M A (getAttr (.ref a) name expr) Q E s:=by
 obtain⟨N,mN,X,hga,hgt,hsa,hat⟩:=K.cls
 have I:=R.I a dd f hI
 obtain⟨m,hm,hv,_⟩:=I.ns
 have ov:=hv i name hn
 rw [hu] at ov
 cases hq:m name with
 | none=>rw [hq] at ov;exact ov.elim
 | some w =>
  rw [hq] at ov
  obtain⟨hh,g,dr,t,os⟩:=s
  obtain⟨nm,q,bs,sn,sub,col,d2,k0,k1,k2,k3,k5,hC⟩:=(X.keeps R.base).obj
  have hmem:=cq hn
  exact load_attr hC (X.keeps R.base).ns hga (hat name hmem).1 (hat name hmem).2 (I.inst hm) hq (mS ov) (k w _ ov)
theorem o7 {a:Ex} {i:Nat} {x:Expr} {name:Str} {pos:Pos} (K:GOk G) (ha:ct G C sc d a x) (hb:lg x=true) (hn:G.attrs[i]?=some name):ct G C sc d (.attr a i) (.Attribute x name pos):=fun A E env ρ σ Q s ao es eo F R h =>
 Attribute_any_ (md (ha A E env ρ σ _ s ao es eo F R h) fun v σ₁ h₁ tk w q vr r x=>by
  obtain⟨b,dd,f,u,rfl,hI,hu,q⟩:=q
  obtain rfl:=vr
  exact o5 (s:={ s with heap:=h₁,toks:=tk }) K r hI hn hu fun w tk' vr=>fq.back (tk:=tk) x (fq.here (s:={ s with heap:=h₁,toks:=tk }) q vr r)) (by rw [arm_eval_Attribute,wk hb])
end
end MP
end
section
namespace MP
open PySem PyProof.Rows
noncomputable def isStar:Expr→Bool
 | .Starred _ _=>true
 | _=>false
noncomputable def noStar:List Expr→Bool
 | []=>true
 | e::r=>!isStar e&&noStar r
theorem band {a b:Bool} (h:(a&&b)=true):a=true∧b=true:=(cg a b).mp h
theorem dC {e:Expr} (h:(!isStar e)=true) (r:List Expr) (env:Env):starEach (e::r) env=(false,eval e env)::starEach r env:=by
 cases e<;>first | rfl | exact Bool.noConfusion h
theorem sr:{args:List Expr}→noStar args=true→(env:Env)→starEach args env=args.map fun e=>(false,eval e env)
 | [],_,env=>rfl
 | e::r,h,env=>(dC (band h).1 r env).trans (bu (_::·) (sr (band h).2 env))
theorem di {x:Expr} {xs:List Expr} (h:noStar (x::xs)=true):(∀ env,starEach (x::xs) env=(false,eval x env)::starEach xs env)∧noStar xs=true :=
 ⟨dC (band h).1 xs,(band h).2⟩
theorem ja {args:List Expr} (h:noStar args=true) (pos:Pos) (env:Env):(backTo pos (starEach args env)).any (·.1)=false:=by
 rw [sr h]
 simp [backTo,List.any_eq_false]
theorem rS {args:List Expr} (h:noStar args=true) (pos:Pos) (env:Env):(backTo pos (starEach args env)).all (fun x=>!x.1)=true:=by
 rw [sr h]
 simp [backTo]
theorem nh {M:Model} {A:Around} {E:Value→Shared→Prop} {s:Shared} {f:Value} {trees:List (Bool × Sem Value)} {Q:Args→Shared→Prop} (hp:trees.any (·.1)=false) (h:wpAny M A (spliced trees) (fun vs s'=>Q ⟨vs,[]⟩ s') E s):wpAny M A (evalArgs f true trees []) Q E s:=by
 cases trees with
 | nil =>
  unfold evalArgs
  show wpAny M A (spliced []>>=_) Q E s
  refine ab (av h (fun vs s' h'=>?_) fun _ _ x=>x)
  refine br ?_
  exact ab (af (ab (af (af h'))))
 | cons t r =>
  obtain⟨b,x⟩:=t
  simp only [List.any_cons,Bool.or_eq_false_iff] at hp
  obtain⟨rfl,_⟩:=hp
  exact Calls.evalArgs_plain h
section
variable {G:Stc} {C:Cal} {sc:Scope} {d:Nat}
theorem oz {A:Around} {E:Value→Shared→Prop} {s:Shared} {env:Env} {o:Expr} {name:Str} {args:List Expr} {apos pos:Pos} {Q:Value→Shared→Prop} (hb:lg o=true) (hs:noStar args=true) (hlen:args.length<30) (hline:(apos.endLine==pos.line)=true)
  (h:wpAny G.M A (eval o env) (fun ov s₁=>∀ pl,wpAny G.M A (getMethod ov name pl) (fun p s₂=>wpAny G.M A (callWith pos p.1 p.2 (backTo pos (starEach args env)) []) Q E s₂) E s₁) E s) :
  wpAny G.M A (eval (.Call (.Attribute o name apos) args [] pos) env) Q E s:=by
 rw [arm_eval_Call,wk hb]
 refine ab (av h (fun ov s₁ h₁=>?_) fun _ _ e=>e)
 refine ab (er ?_)
 have hform:methodCallForm (args.length+([]:List Keyword).length) (backTo pos (starEach args env)) (backToKw pos (keywordEach [] env))=true:=by
  unfold methodCallForm
  rw [rS hs]
  show decide (args.length<30)=true
  exact cm hlen
 have hpos:methodCallPos true o env apos pos=pure pos:=by unfold methodCallPos;simp [hline]
 unfold methodCall
 rw [hform]
 refine ab (br (av (h₁ _) (fun p s₂ h₂=>?_) fun _ _ e=>e))
 exact ab (dj hpos h₂)
theorem ow {A:Around} {E:Value→Shared→Prop} {s:Shared} {env:Env} {ρ:Fr} {σ:St} {id:String} {first:List Value} {es:Exs} {args:List Expr} {pos:Pos} {P:List V→St→Prop} {Q:Value→Shared→Prop} (hs:noStar args=true) (hes:kg G C sc d es args)
  (ao:AOk A d) (hsc:env.scope=sc) (eo:iv env) (F:FR G σ env ρ s.heap) (R:Rel G σ s.heap) (h:so C es ρ σ P)
  (k:∀ vs σ₁ h₁ tk ws,P vs σ₁→VRs G h₁ vs ws→Rel G σ₁ h₁→Evo [] σ s.heap σ₁ h₁→wpAny G.M A (call (.builtin id) (first++ws)) Q E { s with heap:=h₁,toks:=tk }) :
  wpAny G.M A (callWith pos (.builtin id) first (backTo pos (starEach args env)) []) Q E s :=
 Calls.callWith_builtin (ja hs pos env) (nh (ja hs pos env) (k9 (hes A E env ρ σ P s pos ao hsc eo F R h) k))
theorem HM {σ:St} {h:Heap} {a:Addr} {xs ys:List V} {ws us:List Value} {n:Nat} {f:Array Value→Array Value} (R:Rel G σ h) (e:σ.L a=some xs) (hl:IsL h a ws.toArray n) (hv:VRs G h ys us) (hz:ys.length≤aq) (hf:f ws.toArray=us.toArray) :
  Rel G (σ.fg a ys) (h.update a (Obj.mapSeq f))∧Evo [] σ h (σ.fg a ys) (h.update a (Obj.mapSeq f)):=by
 have hu:=hl.update f
 rw [hf] at hu
 have x:At a h (h.update a (Obj.mapSeq f)):=⟨fun b o hb eb=>(kz h _ (xm hb)).trans eb,⟨_,hu⟩,fun o eo=>by
  obtain rfl:=ae (eo.symm.trans hl);exact fY rfl rfl⟩
 exact⟨R.putL x (fun q=>by rw [e] at q;cases q) hu hv hz,Evo.putL x (fun q=>by rw [e] at q;cases q) _⟩
noncomputable def nG:BM→Str
 | .append=>"append"
 | .insert=>"insert"
 | .extend=>"extend"
 | .index=>"index"
 | .count=>"count"
 | .get=>"get"
 | .setdefault=>"setdefault"
 | .add=>"add"
noncomputable def JA:BM→String
 | .append=>"list.append"
 | .insert=>"list.insert"
 | .extend=>"list.extend"
 | .index=>"list.index"
 | .count=>"list.count"
 | .get=>"dict.get"
 | .setdefault=>"dict.setdefault"
 | .add=>"set.add"
theorem oN {h:Heap} {a:Addr} {items:Array Value} {n:Nat} (hl:IsL h a items n):∀ b,Value.ref a=.ref b→∃ ob,h.get? b=some ob∧ob.dict=none:=fun b e=>by
 injection e with e;subst e;exact⟨_,hl,rfl⟩
theorem uK {A:Around} {E:Value→Shared→Prop} {s:Shared} {σ:St} {k:BM} {v:V} {w:Value} {pl:Sem Bool} {Q:Value × List Value→Shared→Prop} (R:Rel G σ s.heap) (vr:VR G s.heap v w) (h:J9 k v σ) (q:Q (.builtin (JA k),[w]) s) :
  wpAny G.M A (getMethod w (nG k) pl) Q E s:=by
 have lst:∀ (a:Addr) (name:Str) (id:String),(σ.L a).isSome=true→Slot "list" name id→typeOf (.builtin id)=pure (.type "method_descriptor")→Q (.builtin id,[.ref a]) s→wpAny G.M A (getMethod (.ref a) name pl) Q E s:=fun a name id e sl ty q=>by
  obtain⟨xs,e⟩:=ax.mp e
  obtain⟨ws,n,hl,_⟩:=R.L _ _ e
  exact gH ⟨_,hl,rfl⟩ PySem.F.plainAttrs_list sl ty (oN hl) q
 cases k
 case get =>
  obtain⟨a,rfl,h⟩:=tx (v:=v) h
  obtain rfl:=vr
  obtain⟨xs,e⟩:=ax.mp h
  obtain⟨ds,hd,_⟩:=R.D _ _ e
  exact gH hd.typeIs eK PySem.F.slot_dict_get PySem.F.type_dict_get hd.mapOf.noDict q
 case setdefault =>
  obtain⟨a,rfl,h⟩:=tx (v:=v) h
  obtain rfl:=vr
  obtain⟨xs,e⟩:=ax.mp h
  obtain⟨ds,hd,_⟩:=R.D _ _ e
  exact gH hd.typeIs eK PySem.F.slot_dict_setdefault PySem.F.type_dict_setdefault hd.mapOf.noDict q
 case add =>
  obtain⟨a,rfl,h⟩:=t8 (v:=v) h
  obtain rfl:=vr
  obtain⟨xs,e⟩:=ax.mp h
  exact getMethod_set_add (R.S _ _ e).of q
 all_goals
  obtain⟨a,rfl,h⟩:=vu (v:=v) h
  obtain rfl:=vr
 case append=>exact lst _ _ _ h cU PySem.F.type_list_append q
 case insert=>exact lst _ _ _ h PySem.F.slot_list_insert PySem.F.type_list_insert q
 case extend=>exact lst _ _ _ h PySem.F.slot_list_extend PySem.F.type_list_extend q
 case index=>exact lst _ _ _ h PySem.F.slot_list_index PySem.F.type_list_index q
 case count=>exact lst _ _ _ h PySem.F.slot_list_count PySem.F.type_list_count q
end
end MP
end
section
namespace MP
open PySem PyProof.Rows
section
variable {G:Stc} {A:Around} {E:Value→Shared→Prop} {s:Shared} {σ:St}
theorem zb (K:GOk G) (R:Rel G σ s.heap) {b:Addr} (d:σ.dom b):(b==sysModules)=false:=by
 refine qy.mpr fun e=>?_
 obtain⟨o,ho⟩:=K.sys
 have:=R.new b d
 rw [e,ho] at this;cases this
theorem DRs.put {h:Heap} {k:Key} {v:V} {w:Value} (vr:VR G h v w) {es:List (Key × V)} {ds:List (Key × Value)} (r:DRs G h es ds):DRs G h (putD es k v) (stored ds k w):=by
 have hany:∀ {es:List (Key × V)} {ds:List (Key × Value)},DRs G h es ds→(es.any fun e=>e.1==k)=ds.any fun kv=>decide (kv.1=k):=by
  intro es
  induction es with
  | nil=>intro ds r;obtain rfl:=r;rfl
  | cons e es ih=>intro ds r;obtain⟨w,us,rfl,a,r⟩:=r;rw [List.any_cons,List.any_cons,ih r];rfl
 have hmap:∀ {es:List (Key × V)} {ds:List (Key × Value)},DRs G h es ds→DRs G h (es.map fun e=>if e.1=k then (k,v) else e) (ds.map fun kv=>if kv.1=k then (kv.1,w) else kv):=by
  intro es
  induction es with
  | nil=>intro ds r;obtain rfl:=r;exact .nil
  | cons e es ih =>
   intro ds r
   obtain⟨k',v'⟩:=e
   obtain⟨w',us,rfl,a,r⟩:=r
   rw [gp,gp]
   by_cases hk:k'=k
   ·subst hk;rw [bx rfl,bx rfl];exact .cons vr (ih r)
   ·rw [aw hk,aw hk];exact .cons a (ih r)
 have happ:∀ {es:List (Key × V)} {ds:List (Key × Value)},DRs G h es ds→DRs G h (es++[(k,v)]) (ds++[(k,w)]):=by
  intro es
  induction es with
  | nil=>intro ds r;obtain rfl:=r;exact .cons vr .nil
  | cons e es ih=>intro ds r;obtain⟨w',us,rfl,a,r⟩:=r;exact .cons a (ih r)
 unfold putD stored
 rw [hany r]
 split
 ·exact hmap r
 ·exact happ r
theorem DRs.length {h:Heap}:{es:List (Key × V)}→{ds:List (Key × Value)}→DRs G h es ds→es.length=ds.length
 | [],_,e=>e▸rfl
 | _::_,_,⟨_,_,e,_,r⟩=>e▸bu (·+1) r.length
theorem OV.getD {h:Heap} {v:Option V} {w:Option Value} {u:V} {x:Value} (o:OV G h v w) (a:VR G h u x):VR G h (v.getD u) (w.getD x):=by
 cases v<;>cases w
 ·exact a
 ·exact False.elim o
 ·exact False.elim o
 ·exact o
theorem fV (es:List (Key × V)) (k:Key) (v:V):(putD es k v).length≤es.length+1:=by
 unfold putD;split<;>simp
theorem DF (R:Rel G σ s.heap) {a:Addr} {es:List (Key × V)} (e:σ.D a=some es):∀ b f,σ.I b≠some (a,f):=fun b f q=>by
 have:=R.apart b a f q;rw [e] at this;cases this
theorem FE {h':Heap} {a:Addr} {es es':List (Key × V)} {ds:List (Key × Value)} (R:Rel G σ s.heap) (e:σ.D a=some es) (hs:Heap.SameBut a s.heap h') (hd:h'.DictOf G.kk a ds) (hv:DRs G s.heap es' ds) (hz:es'.length≤aq) :
  Rel G (σ.mx a es') h'∧Evo [] σ s.heap (σ.mx a es') h':=by
 obtain⟨ds0,⟨o,ees,ep,ho,hc,hdt,_⟩,_⟩:=R.D _ _ e
 obtain⟨o',ees',ep',ho',_⟩:=id hd
 have x:At a s.heap h':=At.iQ hs ho (pj hdt) ho'
 exact⟨R.putD x (fun q=>by rw [e] at q;cases q) (DF R e) hd hv hz,Evo.putD x (fun q=>by rw [e] at q;cases q) _⟩
theorem oT {v:V} {k:Key} {w:Value} {h:Heap} (hk:v.iW=some k) (vr:VR G h v w):w.scannable=true:=by
 cases v
 case int=>obtain⟨t,rfl⟩:=vr;rfl
 case str=>obtain⟨t,rfl⟩:=vr;rfl
 all_goals exact gb hk
theorem yG {es:List (Key × V)} {k:Key} (h:es.lookup k=none) (v:V):putD es k v=es++[(k,v)]:=by
 unfold putD
 rw [aw]
 simp only [List.any_eq_true,not_exists,not_and]
 intro e he hk
 rw [nr] at h
 have:=h e he
 simp only [jw] at hk
 simp [hk] at this
theorem uX (R:Rel G σ s.heap) {a:Addr} {es:List (Key × V)} (e:σ.D a=some es):Rel G (σ.mx a es) s.heap∧Evo [] σ s.heap (σ.mx a es) s.heap:=by
 have hu:upd σ.D a es=σ.D:=by
  funext b
  unfold upd
  split
  ·rename_i h;rw [h,e]
  ·rfl
 have hd:∀ b,(σ.mx a es).dom b→σ.dom b:=fun b d=>(jE d).elim id fun q=>.inr (.inl (by rw [q,e];rfl))
 have hs:σ.mx a es={ σ with Z:=clr σ.Z a }:=by unfold St.mx;rw [hu]
 refine⟨?_,fun _ _ e _ _=>e,fun _ _ e _=>e,fun b d=>.inl (hd b d),fun _ o e=>⟨o,e⟩⟩
 refine⟨R.L,?_,R.S,R.I,fun b o q=>?_,R.Ll,?_,R.inj,?_,R.sep,fun b d=>R.new b (hd b d),R.base⟩
 ·rw [hs];exact R.D
 ·rw [hs] at q ⊢;exact R.Z b o (jJ q).2
 ·rw [hs];exact R.Dl
 ·rw [hs];exact R.apart
theorem K0 {a:Addr} {ks ks':List Key} {h':Heap} (R:Rel G σ s.heap) (e:σ.S a=some ks) (hs':Heap.SameBut a s.heap h') (hS':vd G h' a ks') :
  Rel G (σ.dG a ks') h'∧Evo [] σ s.heap (σ.dG a ks') h':=by
 obtain⟨o,ees,ep,tt,ho,hc,hdt,_⟩:=R.S _ _ e
 obtain⟨o',ees',ep',tt',ho',_⟩:=id hS'
 have x:At a s.heap h':=At.iQ hs' ho (oA hdt) ho'
 have hn:σ.S a=none→s.heap.get? a=none:=fun q=>by rw [e] at q;cases q
 exact⟨R.yF x hn hS',Evo.yF x hn _⟩
theorem VRs.one {h:Heap} {v:V} {ws:List Value}:VRs G h [v] ws→∃ w,ws=[w]∧VR G h v w
 | ⟨w,us,e,a,r⟩=>⟨w,e.trans (bu (w::·) r),a⟩
theorem VRs.two {h:Heap} {v u:V} {ws:List Value}:VRs G h [v,u] ws→∃ w w',ws=[w,w']∧VR G h v w∧VR G h u w'
 | ⟨w,us,e,a,r⟩=>by obtain⟨w',e',b⟩:=VRs.one r;exact⟨w,w',e.trans (bu (w::·) e'),a,b⟩
theorem qA {k:BM} {v:V} {w:Value} {vs:List V} {ws:List Value} {Q:V→St→Prop} (K:GOk G) (R:Rel G σ s.heap) (vr:VR G s.heap v w) (vrs:VRs G s.heap vs ws) (h:HJ k v vs σ Q) :
  wpAny G.M A (call (.builtin (JA k)) (w::ws)) (fq G [] σ s Q) E s:=by
 cases k
 case append =>
  obtain⟨a,rfl,h⟩:=vu (v:=v) h
  obtain rfl:=vr
  obtain⟨x,rfl,xs,e,hz,q⟩:=dM (vs:=vs) h
  obtain⟨wa,rfl,va⟩:=vrs.one
  obtain⟨us,n,hl,hv⟩:=R.L _ _ e
  have hlen:=hv.length
  refine call_meets cU ⟨_,hl,rfl⟩ PySem.F.entry_list_append (PySem.F.args_list_append_2 _ _) (list_append _ _ _ _ (by simp only [cv];rw [← hlen];exact oh (by exact bh .A .a .C hz))) ⟨hl,?_⟩
  obtain⟨r',x'⟩:=HM (f:=fun x=>x.push wa) R e hl (hv.append (.cons va .nil)) (by simp;(exact bh .H .a .C hz)) (by simp)
  exact⟨.none,_,_,_,rfl,q,.none,r',x'⟩
 case insert=>exact False.elim h
 case extend=>exact False.elim h
 case index=>exact False.elim h
 case count=>exact False.elim h
 case get =>
  obtain⟨a,rfl,h⟩:=tx (v:=v) h
  obtain rfl:=vr
  obtain⟨x,y,rfl,es,kk,e,hkey,q⟩:=iL (vs:=vs) h
  obtain⟨wa,wb,rfl,va,vb⟩:=vrs.two
  obtain⟨ds,hd,hv⟩:=R.D _ _ e
  have hl:=hv.look kk
  refine call_meetsIn PySem.F.slot_dict_get hd.typeIs PySem.F.entry_dict_get (PySem.F.args_dict_get_3 _ _ _) (meets_dict_get_default G.kk _ (key_is hkey va) (zb K R (.inr (.inl (by rw [e];rfl)))) _) ⟨_,hd.mapOf,?_⟩
  exact⟨_,σ,s.heap,_,rfl,q,hl.getD vb,R,Evo.refl _ _ _⟩
 case setdefault =>
  obtain⟨a,rfl,h⟩:=tx (v:=v) h
  obtain rfl:=vr
  obtain⟨x,y,rfl,es,kk,e,hkey,hz,q⟩:=iL (vs:=vs) h
  obtain⟨wa,wb,rfl,va,vb⟩:=vrs.two
  obtain⟨ds,hd,hv⟩:=R.D _ _ e
  have hl:=hv.look kk
  have hlen:=hv.length
  refine call_meetsIn PySem.F.slot_dict_setdefault hd.typeIs PySem.F.entry_dict_setdefault (PySem.F.args_dict_setdefault_3 _ _ _) (kt_meets_setdefault G.kk _ (key_is hkey va) (zb K R (.inr (.inl (by rw [e];rfl)))) _) ⟨ds,hd,by rw [← hlen];exact oh (by exact bh .A .a .C hz),fun v' hv'=>?_,fun hn h' hm' hs'=>?_⟩
  ·rw [hv'] at hl
   cases h1:es.lookup kk with
   | none=>rw [h1] at hl;exact hl.elim
   | some u =>
    rw [h1] at hl q
    simp only [Option.getD_some,Option.isSome_some,rp] at q
    obtain⟨r',x'⟩:=uX R e
    exact⟨u,_,s.heap,_,rfl,q,hl,r',x'⟩
  ·rw [hn] at hl
   cases h1:es.lookup kk with
   | some u=>rw [h1] at hl;exact hl.elim
   | none =>
    rw [h1] at q
    simp only [Option.getD_none,sd,cy,je] at q
    have e2:=yG h1
    obtain⟨r',x'⟩:=FE R e hs' hm' (hv.put vb) (gj (fV _ _ _) (by exact bh .H .a .C hz))
    rw [e2] at r' x'
    exact⟨_,_,h',_,rfl,q,vb.mono x'.frz,r',x'⟩
 case add =>
  obtain⟨a,rfl,h⟩:=t8 (v:=v) h
  obtain rfl:=vr
  obtain⟨x,rfl,h⟩:=dM (vs:=vs) h
  obtain⟨i,rfl,ks,e,hz,q⟩:=pb (v:=x) h
  obtain⟨wa,rfl,va⟩:=vrs.one
  have hS:=R.S _ _ e
  have hpk:plainKind wa=true:=by obtain⟨t,rfl⟩:=va;rfl
  have hkey:(V.int i).iW=some (.int i):=rfl
  refine AK (key_is hkey va) (oT hkey va) hpk hS (by rw [show scanBound=4096 from rfl];(exact gv (.l .M (.n 4096)) .a (.l .A (.n 4000)) hz)) fun h' hs' hS'=>?_
  obtain⟨r',x'⟩:=K0 R e hs' hS'
  exact⟨.none,_,h',_,rfl,q,.none,r',x'⟩
theorem FP {C:Cal} {sc:Scope} {d:Nat} {k:BM} {a:Ex} {es:Exs} {o:Expr} {args:List Expr} {apos pos:Pos} (K:GOk G) (ha:ct G C sc d a o) (hes:kg G C sc d es args) (hb:lg o=true) (hs:noStar args=true) (hlen:args.length<30) (hline:(apos.endLine==pos.line)=true) :
  ct G C sc d (.bm k a es) (.Call (.Attribute o (nG k) apos) args [] pos):=fun A E env ρ σ Q s ao ess eo F R h =>
 oz hb hs hlen hline (md (ha A E env ρ σ _ s ao ess eo F R h) fun v σ₁ h₁ tk w q vr r x pl =>
  uK (s:={ s with heap:=h₁,toks:=tk }) r vr q.1 (ow (s:={ s with heap:=h₁,toks:=tk }) hs hes ao ess eo (F.evo x) r q.2 fun vs σ₂ h₂ tk₂ ws q₂ vrs r₂ x₂ =>
   av (qA (s:={ s with heap:=h₂,toks:=tk₂ }) K r₂ (vr.mono x₂.frz) vrs q₂) (fun _ _ l=>fq.back (x.trans x₂) l) fun _ _ x=>x))
end
end MP
end
section
namespace MP
open PySem PyProof.Rows
noncomputable def pg (p:Arguments):Bool:=p.posonlyargs.isEmpty&&p.kwonlyargs.isEmpty&&p.vararg.isNone&&p.kwarg.isNone
noncomputable def addDefaults:List (Str × Value)→List (Str × Value)→List (Str × Value)
 | slots,[]=>slots
 | slots,(n,d)::r=>addDefaults (if (slots.lookup n).isNone then slots++[(n,d)] else slots) r
theorem td {M:Model} {A:Around} {E:Value→Shared→Prop} {s:Shared} (f:Str × Value→List (Str × Value)→Sem (ForInStep (List (Str × Value))))
  (hf:∀ n d slots,f (n,d) slots=if (slots.lookup n).isNone then pure (.yield (slots++[(n,d)])) else pure (.yield slots)) :
  ∀ (l:List (Str × Value)) (slots:List (Str × Value)) (Q:List (Str × Value)→Shared→Prop),Q (addDefaults slots l) s→wpAny M A (forIn l slots f) Q E s
 | [],slots,Q,h=>by rw [nt];exact af h
 | (n,d)::r,slots,Q,h=>by
  rw [rq,hf]
  refine ab ?_
  unfold addDefaults at h
  split
  ·rename_i hc
   rw [bx hc] at h
   exact af (td f hf r _ Q h)
  ·rename_i hc
   rw [aw hc] at h
   exact af (td f hf r _ Q h)
theorem ti:∀ (l₁ l₂ slots:List (Str × Value)),addDefaults slots (l₁++l₂)=addDefaults (addDefaults slots l₁) l₂
 | [],_,_=>rfl
 | (n,d)::r,l₂,slots=>by simp only [List.cons_append,addDefaults];exact ti r l₂ _
theorem uy:∀ (l slots:List (Str × Value)),(∀ p∈l,(slots.lookup p.1).isSome=true)→addDefaults slots l=slots
 | [],_,_=>rfl
 | (n,d)::r,slots,h=>by
  have h1:=h (n,d) (.head _)
  simp only [addDefaults]
  rw [aw (by cases hq:slots.lookup n<;>simp_all)]
  exact uy r slots fun p hp=>h p (.tail _ hp)
theorem ri {slots:List (Str × Value)} {n:Str} (h:n∈slots.map (·.1)):(slots.lookup n).isSome=true:=by
 cases hq:slots.lookup n with
 | some v=>rfl
 | none =>
  rw [nr] at hq
  obtain⟨p,hp,rfl⟩:=bw.mp h
  have:=hq p hp
  simp at this
theorem lookup_none_of_not_mem {slots:List (Str × Value)} {n:Str} (h:n∉slots.map (·.1)):slots.lookup n=none:=by
 rw [nr]
 intro p hp
 simp only [bne_iff_ne,ne_eq,qy]
 rintro rfl
 exact h (bw.mpr ⟨p,hp,rfl⟩)
theorem xf:∀ (l slots:List (Str × Value)),(l.map (·.1)).Nodup→(∀ n∈l.map (·.1),n∉slots.map (·.1))→addDefaults slots l=slots++l
 | [],_,_,_=>by simp [addDefaults]
 | (n,d)::r,slots,hn,h=>by
  simp only [gp,List.nodup_cons] at hn
  have h1:=h n (.head _)
  simp only [addDefaults]
  rw [bx (by rw [lookup_none_of_not_mem h1];rfl)]
  rewrite [xf r _ hn.2 fun m hm=>?_]
  ·simp
  ·have h2:=h m (.tail _ hm)
   simp only [jy,gp,List.map_nil,gm,aj,fP]
   exact⟨h2,fun e=>hn.1 (e▸hm)⟩
theorem o9 {n₁ n₂:List Str} {vals d₁ d₂:List Value} (hnd:(n₁++n₂).Nodup) (h1:n₁.length=vals.length) (h2:n₂.length=d₂.length) (h3:d₁.length≤n₁.length) :
  addDefaults ((n₁++n₂).zip vals) (((n₁++n₂).drop ((n₁++n₂).length-(d₁++d₂).length)).zip (d₁++d₂))=(n₁++n₂).zip (vals++d₂):=by
 have e0:(n₁++n₂).zip vals=n₁.zip vals:=by
  have:=List.zip_append (l₁:=n₁) (r₁:=n₂) (l₂:=vals) (r₂:=[]) h1
  simpa using this
 have e1:(n₁++n₂).drop ((n₁++n₂).length-(d₁++d₂).length)=n₁.drop (n₁.length-d₁.length)++n₂:=by
  rw [bz,bz,show n₁.length+n₂.length-(d₁.length+d₂.length)=n₁.length-d₁.length by exact eF .B [[1,-1,-1,1],[1,1,1,-1]] .aV (.e (.a .A (.a .F .D)) (.a .G .C)) .a6 h2 (aa (ee (.k .P .T) .o (.e .D .B) .G h2 h3)) (aa (bh .A .a .A h3)),List.drop_append,show n₁.length-d₁.length-n₁.length=0 by(exact Ar.sub _ _ (fun q1 p1=>(Ar.sub _ _ (fun q2 p2=>(ee .L [[1,0,0],[1,1,1]] .a3 (.e .T .B) p1 p2)) fun q2 p2=>(gr .L [[1,0,0],[1,1,1]] .a3 .aF p1 p2))) fun q1 p1=>(gv .L .B .L p1))]
  rfl
 have f1:(n₁.zip vals).map (·.1)=n₁:=List.map_fst_zip (by exact bh .A .a .B h1)
 have f2:(n₂.zip d₂).map (·.1)=n₂:=List.map_fst_zip (by exact bh .A .a .B h2)
 have hd:=List.nodup_append.mp hnd
 rw [e0,e1,List.zip_append (by rw [gq];(exact Ar.sub _ _ (fun q1 p1=>(Ar.sub _ _ (fun q2 p2=>(ee .B .n (.e .Y .D) (.e .a5 .D) p1 p2)) fun q2 p2=>(gR .B [[1,1,-1,0,1],[1,0,1,1,0]] .aP (.e .a1 .C) .M .aB h3 p1 q2 p2))) fun q1 p1=>(Ar.sub _ _ (fun q2 p2=>(rz .B .m .aW .L (.e (.a .D .B) .C) q1 p1 p2)) fun q2 p2=>(gR .B [[1,1,1,0,1],[1,0,0,1,0]] .aP .aW .L .aB h3 q1 p1 p2)))),ti]
 have e2:addDefaults (n₁.zip vals) ((n₁.drop (n₁.length-d₁.length)).zip d₁)=n₁.zip vals:=uy _ _ fun p hp=>by
  refine ri ?_
  rw [f1]
  exact List.mem_of_mem_drop (List.of_mem_zip hp).1
 rw [e2,xf,List.zip_append h1]
 ·rw [f2];exact hd.2.1
 ·intro n hn hm
  rw [f1] at hm;rw [f2] at hn
  exact hd.2.2 n hm n hn rfl
theorem uS {ns:List Str} {vals ds:List Value} (hnd:ns.Nodup) (h1:vals.length≤ns.length) (h2:ns.length≤vals.length+ds.length) (h3:ds.length≤ns.length) :
  addDefaults (ns.zip vals) ((ns.drop (ns.length-ds.length)).zip ds)=ns.zip (vals++ds.drop (ds.length-(ns.length-vals.length))):=by
 have en:=List.take_append_drop vals.length ns
 have ed:=List.take_append_drop (ds.length-(ns.length-vals.length)) ds
 have:=o9 (n₁:=ns.take vals.length) (n₂:=ns.drop vals.length) (vals:=vals) (d₁:=ds.take (ds.length-(ns.length-vals.length))) (d₂:=ds.drop (ds.length-(ns.length-vals.length)))
  (by rw [en];exact hnd) (by rw [dt];(exact(Ar.iw _ _).2.2.elim (fun q1=>(gn .B .l .A .a1 (Ar.iw _ _).1 q1)) fun q1=>(qc .B .m .aP .A .bV h1 (Ar.iw _ _).1 q1))) (by rw [gq,gq];(exact Ar.sub _ _ (fun q1 p1=>(Ar.sub _ _ (fun q2 p2=>(ee .B [[1,1,-1],[1,-1,1]] .b1 (.e .a8 .D) p1 p2)) fun q2 p2=>(jN .B [[1,0,0,1,1,0],[1,1,1,-1,0,1]] (.k .C .a0) (.e .a1 .C) .c2 (.k .F .A) .bH h2 (aa (bh .A .a .A h1)) p1 q2 p2))) fun q1 p1=>(Ar.sub _ _ (fun q2 p2=>(rz .B [[1,0,1,0],[1,1,0,1]] .aW .a5 .X q1 p1 p2)) fun q2 p2=>(jN .B [[1,0,0,0,1,0],[1,1,1,1,0,1]] (.k .C .a0) (.e .a1 .C) (.k .F .G) .a5 .bH h2 (aa (bh .A .a .A h1)) q1 p1 p2)))) (by rw [dt,dt];(exact Ar.sub _ _ (fun q1 p1=>((Ar.iw _ _).2.2.elim (fun q2=>(Ar.sub _ _ (fun q3 p3=>(rU .A [[1,1,1,1,1,-1]] .aW (.k .A .F) (.e (.a .F .G) .C) (.k .H .B) (.e (.a .G .H) .D) h3 (Ar.iw _ _).1 p1 q2 p3)) fun q3 p3=>(rU .A .A .aW (.k .A .F) (.e (.a .F .G) .C) (.k .H .B) (.k .D .H) h3 (Ar.iw _ _).1 p1 q2 q3))) fun q2=>(rz .A .d .aW .G .aH h3 (Ar.iw _ _).2.1 q2))) fun q1 p1=>(gr .A .b .G .aF (Ar.iw _ _).1 p1)))
 rw [en,ed] at this
 exact this
theorem oG:∀ (ms:List Str) (n:Str) (u:Value) (l:List (Str × Value)),n∉ms→(ms.filterMap fun m=>(((n,u)::l).lookup m).map (m,·))=ms.filterMap fun m=>(l.lookup m).map (m,·)
 | [],_,_,_,_=>rfl
 | m::ms,n,u,l,h=>by
  simp only [cu,fP] at h
  have e:((n,u)::l).lookup m=l.lookup m:=by rw [kl,qy.mpr (xm h.1)]
  simp only [eu,e,oG ms n u l h.2]
theorem oH:∀ {ns:List Str} {us:List Value},ns.Nodup→us.length=ns.length→(ns.filterMap fun n=>((ns.zip us).lookup n).map (n,·))=ns.zip us
 | [],_,_,_=>by simp
 | n::ns,[],_,h=>by simp at h
 | n::ns,u::us,hn,h=>by
  simp only [List.nodup_cons] at hn
  have ih:=oH (ns:=ns) (us:=us) hn.2 (by simpa using h)
  simp only [List.zip_cons_cons,eu,List.lookup_cons_self,Option.map_some]
  rw [oG ns n u _ hn.1,ih]
theorem rO {M:Model} {A:Around} {E:Value→Shared→Prop} {s:Shared} {fd:FuncData} {vals ds:List Value} {Q:List (Str × Value)→Shared→Prop} (hp:pg fd.params=true)
  (hd:∀ (Q:Option (Array Value)→Shared→Prop),(∀ o,(o.getD #[]).toList=ds→Q o s)→wpAny M A (seqItems? fd.defaults) Q E s)
  (hnd:(fd.params.args.map (·.arg)).Nodup) (h1:vals.length≤fd.params.args.length) (h2:fd.params.args.length≤vals.length+ds.length) (h3:ds.length≤fd.params.args.length)
  (h:Q ((fd.params.args.map (·.arg)).zip (vals++ds.drop (ds.length-(fd.params.args.length-vals.length)))) s):wpAny M A (bindArgs fd ⟨vals,[]⟩) Q E s:=by
 obtain⟨nm,qn,params,body,sc,gl,clo,df,kdf,dc,pm,cd,bl⟩:=fd
 obtain⟨po,args,va,ko,kd,ka,dfs⟩:=params
 simp only [pg,cg,eN,qp] at hp
 obtain⟨⟨⟨rfl,rfl⟩,rfl⟩,rfl⟩:=hp
 dsimp only at hd hnd h1 h2 h3 h
 have hlen:(args.map (·.arg)).length=args.length:=au _
 generalize hns:args.map (·.arg)=ns at *
 rw [← hlen] at h1 h2 h3 h
 unfold bindArgs
 dsimp only
 rw [hns]
 simp only [List.map_nil,wo,fc,nt]
 refine ab (af ?_)
 refine ab (hd _ fun o ho=>?_)
 dsimp only
 rw [ho,aw (by simp;(exact bh .A .a .A h1))]
 have hdd:ds.drop (ds.length-ns.length)=ds:=by rw [show ds.length-ns.length=0 by(exact gv .L .B .L (gT (bh .A .a .A h3)))];rfl
 rw [hdd,aw]
 ·refine ab (td _ (fun n d slots=>by first | rfl | (split<;>rfl)) _ _ _ ?_)
  rw [uS hnd h1 h2 h3]
  refine ab (af ?_)
  dsimp only
  rw [aw (by simp),oH hnd (by rw [bz,gq];(exact Ar.sub _ _ (fun q1 p1=>(Ar.sub _ _ (fun q2 p2=>(Ar.sub _ _ (fun q3 p3=>(eF .a3 .t (.e .a6 .F) .bB .aZ p1 p2 p3)) fun q3 p3=>(jN .a3 [[1,0,0,0,1,0],[1,1,1,-1,0,1]] .G (.e .a6 .F) .bB .bV .bH h1 p1 p2 q3 p3))) fun q2 p2=>(Ar.sub _ _ (fun q3 p3=>(jN .a3 [[1,1,-1,0,1,0],[1,0,1,1,0,1]] (.k .C .a1) .c3 (.k .D .G) .aY .aZ h2 p1 q2 p2 p3)) fun q3 p3=>(H4 .a3 [[1,1,0,-1,0,1,0],[1,0,1,1,1,0,1]] (.k .C .a1) .G .c3 (.k .D .G) .aY .bH h2 h1 p1 q2 p2 p3)))) fun q1 p1=>(Ar.sub _ _ (fun q2 p2=>(Ar.sub _ _ (fun q3 p3=>(jN .a3 [[1,0,1,0,1,-1],[1,1,0,1,0,0]] .G .aU .a5 (.e (.a .F .G) .D) .aZ h1 q1 p1 p2 p3)) fun q3 p3=>(qc .a3 [[1,0,0,1],[1,1,1,0]] .G .a5 .bV h1 p1 q3))) fun q2 p2=>(DM .a3 [[1,1,0,1,0,1],[1,0,1,0,1,0]] (.k .C .a1) .G .aU .a5 .aY h2 h1 q1 p1 p2))))]
  exact af h
 ·simp only [dp,Bool.not_eq_false,eN,List.filter_eq_nil_iff]
  intro n hn hq
  have hm:n∈(ns.zip vals).map (·.1):=by
   have e0:ns.zip vals=(ns.take vals.length).zip vals:=by
    have:=List.zip_append (l₁:=ns.take vals.length) (r₁:=ns.drop vals.length) (l₂:=vals) (r₂:=[]) (by rw [dt];(exact(Ar.iw _ _).2.2.elim (fun q1=>(gn .B .l .A .a1 (Ar.iw _ _).1 q1)) fun q1=>(qc .B .m .aP .A .bV h1 (Ar.iw _ _).1 q1)))
    simpa using this
   rw [e0,List.map_fst_zip (by rw [dt];(exact bh .A .a .A (Ar.iw _ _).1))]
   rw [List.mem_take_iff_getElem] at hn ⊢
   obtain⟨i,hi,e⟩:=hn
   exact⟨i,by(first | exact(Ar.iw _ _).2.2.elim (fun q1=>(rU .C .A (.k .C .a0) (.l .A .G) (.k .G .H) (.e (.a .H .F) .C) .aH h2 hi (Ar.iw _ _).1 (aa (bh .A .a .A h3)) q1)) fun q1=>(rz .C .d .U .aW .aH hi (Ar.iw _ _).2.1 q1) | omega),e⟩
  have hm':=ri hm
  rw [qp] at hq
  rw [hq] at hm'
  cases hm'
end MP
end
section
namespace MP
open PySem PyProof.Rows
noncomputable def envX (env:Env):List Addr:=env.locals::env.cells.map (·.2)
inductive FlR (G:Stc) (h:Heap):Fl→Flow→Prop
 | next:FlR G h .next .next
 | brk:FlR G h .brk .brk
 | cont:FlR G h .cont .cont
 | ret {v:V} {w:Value}:VR G h v w→FlR G h (.ret v) (.ret w)
inductive nk (G:Stc) (env:Env) (σ:St) (s:Shared) (K:Fl→Fr→St→Prop) (f:Flow) (s':Shared):Prop
 | mk (fl:Fl) (ρ':Fr) (σ':St) (h':Heap) (tk:Nat):s'={ s with heap:=h',toks:=tk }→FlR G h' fl f→K fl ρ' σ'→FR G σ' env ρ' h'→Rel G σ' h'→Evo (envX env) σ s.heap σ' h'→nk G env σ s K f s'
inductive lN (G:Stc) (env:Env) (σ:St) (s:Shared) (K:Fr→St→Prop) (s':Shared):Prop
 | mk (ρ':Fr) (σ':St) (h':Heap) (tk:Nat):s'={ s with heap:=h',toks:=tk }→K ρ' σ'→FR G σ' env ρ' h'→Rel G σ' h'→Evo (envX env) σ s.heap σ' h'→lN G env σ s K s'
theorem mem_of_lookup {α β:Type} [BEq α] [LawfulBEq α] {l:List (α × β)} {x:α} {c:β} (h:l.lookup x=some c):(x,c)∈l:=by
 induction l with
 | nil=>simp at h
 | cons p r ih =>
  obtain⟨y,b⟩:=p
  rw [kl] at h
  split at h
  ·rename_i hy;cases h;rw [jw] at hy;subst hy;exact .head _
  ·exact .tail _ (ih h)
section
variable {G:Stc} {env:Env} {σ σ₁:St} {s:Shared} {h₁:Heap} {tk:Nat}
theorem Evo.wide {σ':St} {h h':Heap} (x:Evo [] σ h σ' h') (env:Env):Evo (envX env) σ h σ' h':=x.more fun _ h=>(nomatch h)
theorem nk.back {K:Fl→Fr→St→Prop} {f:Flow} {s':Shared} (x:Evo (envX env) σ s.heap σ₁ h₁) (l:nk G env σ₁ { s with heap:=h₁,toks:=tk } K f s'):nk G env σ s K f s':=by
 obtain⟨fl,ρ',σ',h',t,rfl,a,b,c,d,e⟩:=l
 exact⟨fl,ρ',σ',h',t,rfl,a,b,c,d,x.trans e⟩
theorem lN.back {K:Fr→St→Prop} {s':Shared} (x:Evo (envX env) σ s.heap σ₁ h₁) (l:lN G env σ₁ { s with heap:=h₁,toks:=tk } K s'):lN G env σ s K s':=by
 obtain⟨ρ',σ',h',t,rfl,b,c,d,e⟩:=l
 exact⟨ρ',σ',h',t,rfl,b,c,d,x.trans e⟩
theorem Rel.frame {h h':Heap} {a:Addr} {o':Obj} (R:Rel G σ h) (hs:Heap.SameBut a h h') (hd:¬ σ.dom a) (hb:G.hb.get? a=none) (hf:gu h h'):Rel G σ h' :=
 R.same (fun b o e d=>by rw [hs.2 b (fun hb=>hd (hb▸d))];exact e) hf fun b o e=>by rw [hs.2 b (fun h=>by subst h;rw [hb] at e;cases e)];exact R.base b o e
theorem Evo.frame {h h':Heap} {a:Addr} {o':Obj} {X:List Addr} (hs:Heap.SameBut a h h') (ha:h'.get? a=some o') (hX:a∈X) (hf:gu h h'):Evo X σ h σ h' :=
 ⟨fun b o e _ hx=>by rw [hs.2 b (fun hb=>hx (hb▸hX))];exact e,hf,fun b d=>.inl d,uf hs ha⟩
theorem dN {names:List (Str × NameKind)} (nd:(names.map (·.1)).Nodup) {i j:Nat} {x:Str} {k k':NameKind} (hi:names[i]?=some (x,k)) (hj:names[j]?=some (x,k')):i=j:=by
 have h1:(names.map (·.1))[i]?=some x:=by rw [az,hi];rfl
 have h2:(names.map (·.1))[j]?=some x:=by rw [az,hj];rfl
 have hlt:i<(names.map (·.1)).length:=(cj.mp h1).1
 exact(List.getElem?_inj hlt nd).mp (h1.trans h2.symm)
noncomputable def iY (k:NameKind):Bool:=k==.local||k==.cell
noncomputable def Own (G:Stc) (x:Str) (k:NameKind):Prop:=iY k=true∧G.cap x=false
theorem hY {A:Around} {E:Value→Shared→Prop} {X:List Addr} {ρ:Fr} {i:Nat} {x:Str} {k:NameKind} {v:V} {w:Value} {Q:Unit→Shared→Prop} (eo:iv env) (F:FR G σ env ρ s.heap) (R:Rel G σ s.heap)
  (hi:env.scope.names[i]?=some (x,k)) (hk:iY k=true) (hN:∀ c,env.cells.lookup x=some c→k=.cell→G.hb.get? c=none) (vr:VR G s.heap v w) (hXl:env.locals∈X) (hXc:∀ c,env.cells.lookup x=some c→k=.cell→c∈X)
  (q:∀ h' tk,FR G σ env (upd ρ i v) h'→Rel G σ h'→Evo X σ s.heap σ h'→Q () { s with heap:=h',toks:=tk }):wpAny G.M A (storeName env x w) Q E s:=by
 have hkind:env.kindOf x=some k:=qz eo.nd hi
 cases k with
 | «local» =>
  obtain⟨m,hn,hm⟩:=F.ns
  refine wpAny_storeName_local hkind hn (fun h' hn' hs=>?_) (by rw [eo.kind];rfl)
  have hf:gu s.heap h':=nf hs F.notfrz
  obtain⟨o',es',ep',ho',hd',_⟩:=id hn'
  have R':=R.frame (o':=o') hs F.loc F.new hf
  refine q h' _ ⟨⟨_,hn',fun j y hj=>?_⟩,fun j y k' hj hk'=>?_,F.inj,F.loc,fun o e=>?_,F.new,fun p hp=>by obtain⟨o,e⟩:=F.allc p hp;exact uf hs ho' _ o e⟩ R' (Evo.frame hs ho' hXl hf)
  ·by_cases hij:j=i
   ·subst hij
    rw [hi] at hj;cases hj
    simp only [bg,rp]
    exact vr.mono hf
   ·have hxy:y≠x:=fun e=>hij (by subst e;exact dN eo.nd hj hi)
    simp only [dq hij,hxy,je]
    exact(hm j y hj).mono hf
  ·obtain⟨c,w',h1,⟨oc,hoc,hd⟩,h3,h4,h5,h6⟩:=F.cells j y k' hj hk'
   have hij:j≠i:=fun e=>by
    subst e;rw [hi] at hj;cases hj;rcases hk' with h | h<;>cases h
   refine⟨c,w',h1,⟨oc,by rw [hs.2 c h5];exact hoc,hd⟩,?_,h4,h5,h6⟩
   rw [dq hij];exact h3.mono hf
  ·rw [ho'] at e;cases e;exact pj hd'
 | cell =>
  obtain⟨c,w₀,hc,hcell,o,h4,h5,h6⟩:=F.cells i x _ hi (.inl rfl)
  have h7:=hN c hc rfl
  refine wpAny_storeName_cell eo.kind hkind hc hcell fun h' hc' hs=>?_
  obtain⟨oc,hoc,hd⟩:=id hcell
  obtain⟨oc',hoc',hd'⟩:=id hc'
  have hf:gu s.heap h':=nf hs fun o e=>by rw [hoc] at e;cases e;exact nC hd
  have R':=R.frame (o':=oc') hs h4 h7 hf
  have hX:c∈X:=hXc c hc rfl
  obtain⟨m,⟨o2,es,ep,ho2,r2⟩,hm⟩:=F.ns
  refine q h' _ ⟨⟨m,⟨o2,es,ep,by rw [hs.2 _ h5.symm];exact ho2,r2⟩,fun j y hj=>?_⟩,fun j y k' hj hk'=>?_,F.inj,F.loc,fun o e=>?_,F.new,fun p hp=>by obtain⟨o,e⟩:=F.allc p hp;exact uf hs hoc' _ o e⟩ R' (Evo.frame hs hoc' hX hf)
  ·have hij:j≠i:=fun e=>by subst e;rw [hi] at hj;cases hj
   rw [dq hij]
   exact(hm j y hj).mono hf
  ·obtain⟨c2,w2,g1,⟨oc2,goc2,gd⟩,g3,g4,g5,g6⟩:=F.cells j y k' hj hk'
   by_cases hij:j=i
   ·subst hij
    rw [hi] at hj;cases hj
    rw [hc] at g1;cases g1
    exact⟨c,some w,hc,hc',by rw [bg];exact vr.mono hf,h4,h5,h6⟩
   ·have hcc:c2≠c:=fun e=>by subst e;exact hij (F.inj j i y x k' _ c2 hj hi hk' (.inl rfl) g1 hc)
    refine⟨c2,w2,g1,⟨oc2,by rw [hs.2 _ hcc];exact goc2,gd⟩,?_,g4,g5,g6⟩
    rw [dq hij];exact g3.mono hf
  ·rw [hs.2 _ h5.symm] at e;exact F.notfrz o e
 | _=>cases hk
theorem CG {ρ:Fr} {i:Nat} {x:Str} {k:NameKind} {h:Heap} (F:FR G σ env ρ h) (hi:env.scope.names[i]?=some (x,k)) (hk:Own G x k):∀ c,env.cells.lookup x=some c→k=.cell→G.hb.get? c=none:=fun c hc e=>by
 obtain⟨c',w₀,hc',_,_,_,_,h6⟩:=F.cells i x _ hi (.inl e)
 rw [hc] at hc';cases hc'
 exact h6 hk.2
theorem cB {A:Around} {E:Value→Shared→Prop} {X:List Addr} {ρ:Fr} {i:Nat} {x:Str} {k:NameKind} {v:V} {w:Value} {Q:Unit→Shared→Prop} (eo:iv env) (F:FR G σ env ρ s.heap) (R:Rel G σ s.heap)
  (hi:env.scope.names[i]?=some (x,k)) (hk:Own G x k) (vr:VR G s.heap v w) (hXl:env.locals∈X) (hXc:∀ c,env.cells.lookup x=some c→c∈X)
  (q:∀ h' tk,FR G σ env (upd ρ i v) h'→Rel G σ h'→Evo X σ s.heap σ h'→Q () { s with heap:=h',toks:=tk }):wpAny G.M A (storeName env x w) Q E s :=
 hY eo F R hi hk.1 (CG F hi hk) vr hXl (fun c hc _=>hXc c hc) q
theorem uq {A:Around} {E:Value→Shared→Prop} {ρ:Fr} {i:Nat} {x:Str} {k:NameKind} {v:V} {w:Value} {Q:Unit→Shared→Prop} (eo:iv env) (F:FR G σ env ρ s.heap) (R:Rel G σ s.heap)
  (hi:env.scope.names[i]?=some (x,k)) (hk:Own G x k) (vr:VR G s.heap v w)
  (q:∀ h' tk,FR G σ env (upd ρ i v) h'→Rel G σ h'→Evo (envX env) σ s.heap σ h'→Q () { s with heap:=h',toks:=tk }):wpAny G.M A (storeName env x w) Q E s :=
 cB eo F R hi hk vr (.head _) (fun c hc=>.tail _ (bw.mpr ⟨(x,c),mem_of_lookup hc,rfl⟩)) q
end
end MP
end
section
namespace MP
open PySem PyProof.Rows
noncomputable def tu (G:Stc) (C:Cal) (sc:Scope) (d:Nat) (st:Stm) (x:Stmt):Prop :=
 ∀ (A:Around) (E:Value→Shared→Prop) (env:Env) (ρ:Fr) (σ:St) (K:Fl→Fr→St→Prop) (s:Shared),AOk A d→env.scope=sc→iv env→FR G σ env ρ s.heap→Rel G σ s.heap →
  wpS C st ρ σ K→wpAny G.M A (exec x env) (nk G env σ s K) E s
noncomputable def c7 (G:Stc) (C:Cal) (sc:Scope) (d:Nat) (st:jt) (xs:List Stmt):Prop :=
 ∀ (A:Around) (E:Value→Shared→Prop) (env:Env) (ρ:Fr) (σ:St) (K:Fl→Fr→St→Prop) (s:Shared),AOk A d→env.scope=sc→iv env→FR G σ env ρ s.heap→Rel G σ s.heap →
  fy C st ρ σ K→wpAny G.M A (execs xs env) (nk G env σ s K) E s
section
variable {G:Stc} {C:Cal} {sc:Scope} {d:Nat}
theorem nk.here {env:Env} {σ:St} {s:Shared} {tk:Nat} {K:Fl→Fr→St→Prop} {fl:Fl} {f:Flow} {ρ:Fr} (a:FlR G s.heap fl f) (q:K fl ρ σ) (F:FR G σ env ρ s.heap) (R:Rel G σ s.heap):nk G env σ s K f { s with toks:=tk } :=
 ⟨fl,ρ,σ,s.heap,tk,rfl,a,q,F,R,Evo.refl _ _ _⟩
theorem nk.uu {env:Env} {σ:St} {s:Shared} {K:Fl→Fr→St→Prop} {fl:Fl} {f:Flow} {ρ:Fr} (a:FlR G s.heap fl f) (q:K fl ρ σ) (F:FR G σ env ρ s.heap) (R:Rel G σ s.heap):nk G env σ s K f s :=
 ⟨fl,ρ,σ,s.heap,s.toks,rfl,a,q,F,R,Evo.refl _ _ _⟩
theorem uQ:c7 G C sc d .nil []:=fun A E env ρ σ K s ao es eo F R h=>wpAny_execs_nil (nk.uu .next h F R)
theorem qC {st:Stm} {r:jt} {x:Stmt} {xs:List Stmt} (h₁:tu G C sc d st x) (h₂:c7 G C sc d r xs):c7 G C sc d (.cons st r) (x::xs):=fun A E env ρ σ K s ao es eo F R h =>
 jX (av (h₁ A E env ρ σ _ s ao es eo F R h) (fun f s' l=>by
  obtain⟨fl,ρ',σ',h',tk,rfl,a,q,F',R',x'⟩:=l
  cases a with
  | next=>exact av (h₂ A E env ρ' σ' K _ ao es eo F' R' q) (fun _ _ l=>nk.back x' l) fun _ _ x=>x
  | brk=>exact⟨.brk,ρ',σ',h',tk,rfl,.brk,q,F',R',x'⟩
  | cont=>exact⟨.cont,ρ',σ',h',tk,rfl,.cont,q,F',R',x'⟩
  | ret v=>exact⟨_,ρ',σ',h',tk,rfl,.ret v,q,F',R',x'⟩) fun _ _ x=>x)
theorem xF {pos:Pos}:tu G C sc d .pass (.Pass pos):=fun A E env ρ σ K s ao es eo F R h=>wpAny_Pass (nk.uu .next h F R)
theorem C1 {pos:Pos}:tu G C sc d .brk (.Break pos):=fun A E env ρ σ K s ao es eo F R h=>by
 show wpAny G.M A (do standAt pos;pure Flow.brk) _ _ s
 exact ab (er (af (nk.uu .brk h F R)))
theorem xT {pos:Pos}:tu G C sc d .cont (.Continue pos):=fun A E env ρ σ K s ao es eo F R h=>by
 show wpAny G.M A (do standAt pos;pure Flow.cont) _ _ s
 exact ab (er (af (nk.uu .cont h F R)))
theorem xR {x:Stmt}:tu G C sc d .dead x:=fun A E env ρ σ K s ao es eo F R h=>h.elim
theorem uM {x:Expr}:ct G C sc d .dead x:=fun A E env ρ σ K s ao es eo F R h=>h.elim
theorem uL {x:Expr}:pq G C sc d .dead x:=fun A E env ρ σ K s ao es eo F R h=>h.elim
theorem BR {e:Ex} {x:Expr} {pos:Pos} (he:ct G C sc d e x):tu G C sc d (.ret e) (.Return (some x) pos):=fun A E env ρ σ K s ao es eo F R h =>
 wpAny_Return_some (md (he A E env ρ σ _ s ao es eo F R h) fun v σ₁ h₁ tk w q vr r x=>⟨.ret v,ρ,σ₁,h₁,tk,rfl,.ret vr,q,F.evo x,r,x.wide env⟩)
theorem xE {pos:Pos}:tu G C sc d (.ret .none) (.Return none pos):=fun A E env ρ σ K s ao es eo F R h =>
 wpAny_Return_none (nk.uu (.ret .none) h F R)
noncomputable def wc (x:Expr):Bool:=!(dX 8 x||(dX 9 x||dX 10 x))
theorem xw {e:Expr} (h:wc e=true) (t:Option Expr) (n:Nat) (env:Env):swapsWith e t n env=pure false:=by
 cases e<;>first | rfl | exact Bool.noConfusion h
theorem xP {e:Ex} {x:Expr} {pos:Pos} (he:ct G C sc d e x) (hc:wc x=true):tu G C sc d (.expr e) (.Expr x pos):=fun A E env ρ σ K s ao es eo F R h =>
 wpAny_Expr (md (he A E env ρ σ _ s ao es eo F R h) fun v σ₁ h₁ tk w q vr r x=>by
  obtain⟨rfl,q⟩:=q
  obtain rfl:=vr
  exact⟨.next,ρ,σ₁,h₁,tk,rfl,.next,q,F.evo x,r,x.wide env⟩) (by unfold interactive;rw [eo.kind];rfl) (xw hc _ _ _)
theorem xU {c:Ex} {t e:jt} {x:Expr} {xs ys:List Stmt} {pos:Pos} (hc:pq G C sc d c x) (ht:c7 G C sc d t xs) (he:c7 G C sc d e ys):tu G C sc d (.cond c t e) (.If x xs ys pos):=fun A E env ρ σ K s ao es eo F R h =>
 wpAny_If (kA (hc A E env ρ σ _ s ao es eo F R h) fun b σ₁ h₁ tk q r x=>by
  cases b with
  | true=>exact av (ht A E env ρ σ₁ K _ ao es eo (F.evo x) r q) (fun _ _ l=>nk.back (x.wide env) l) fun _ _ x=>x
  | false=>exact av (he A E env ρ σ₁ K _ ao es eo (F.evo x) r q) (fun _ _ l=>nk.back (x.wide env) l) fun _ _ x=>x)
theorem xO {c:Ex} {b:jt} {x:Expr} {xs:List Stmt} {pos:Pos} (hc:pq G C sc d c x) (hb:c7 G C sc d b xs):tu G C sc d (.loop c b) (.While x xs [] pos):=fun A E env ρ σ K s ao es eo F R h=>by
 obtain⟨n,h⟩:=h
 refine wpAny_While (codeAny_whileLoop (fun n s'=>∃ ρ' σ' h' tk,s'={ s with heap:=h',toks:=tk }∧tD (fun again ρ σ=>wpT C c ρ σ fun t σ=>if t then fy C b ρ σ (sq again K) else K .next ρ σ) n ρ' σ'∧FR G σ' env ρ' h'∧Rel G σ' h'∧Evo (envX env) σ s.heap σ' h') ?_ n ⟨ρ,σ,s.heap,s.toks,rfl,h,F,R,Evo.refl _ _ _⟩)
 rintro n s' ⟨ρ',σ',h',tk,rfl,hl,F',R',x'⟩
 cases n with
 | zero=>exact hl.elim
 | succ n =>
  refine kA (hc A _ env ρ' σ' _ { s with heap:=h',toks:=tk } ao es eo F' R' hl) fun t σ₁ h₁ tk₁ q r y=>?_
  cases t with
  | false=>exact wpAny_execs_nil ⟨.next,ρ',σ₁,h₁,tk₁,rfl,.next,q,F'.evo y,r,x'.trans (y.wide env)⟩
  | true =>
   refine av (hb A _ env ρ' σ₁ _ _ ao es eo (F'.evo y) r q) (fun f s₂ l=>?_) fun _ _ x=>x
   obtain⟨fl,ρ₂,σ₂,h₂,tk₂,rfl,a,q₂,F₂,R₂,x₂⟩:=l
   have x3:=x'.trans ((y.wide env).trans x₂)
   cases a with
   | next=>exact⟨n,qk n,ρ₂,σ₂,h₂,tk₂,rfl,q₂,F₂,R₂,x3⟩
   | cont=>exact⟨n,qk n,ρ₂,σ₂,h₂,tk₂,rfl,q₂,F₂,R₂,x3⟩
   | brk=>exact⟨.next,ρ₂,σ₂,h₂,tk₂,rfl,.next,q₂,F₂,R₂,x3⟩
   | ret v=>exact⟨_,ρ₂,σ₂,h₂,tk₂,rfl,.ret v,q₂,F₂,R₂,x3⟩
end
end MP
end
section
set_option tactic.hygienic true
namespace MP
open PySem PyProof.Rows
noncomputable def LU (G:Stc) (env:Env) (σ:St) (s:Shared) (K:Fr→St→Prop):Unit→Shared→Prop:=fun _ s'=>lN G env σ s K s'
noncomputable def fK (G:Stc) (C:Cal) (sc:Scope) (d:Nat) (t:Tgt) (x:Expr):Prop :=
 ∀ (A:Around) (E:Value→Shared→Prop) (env:Env) (ρ:Fr) (σ:St) (K:Fr→St→Prop) (s:Shared) (v:V) (w:Value),AOk A d→env.scope=sc→iv env→FR G σ env ρ s.heap→Rel G σ s.heap→VR G s.heap v w →
  DW C t v ρ σ K→wpAny G.M A (assign x env w) (LU G env σ s K) E s
section
variable {G:Stc} {C:Cal} {sc:Scope} {d:Nat}
theorem Rel.keeps {σ:St} {h h':Heap} (R:Rel G σ h) (hk:∀ b o,h.get? b=some o→h'.get? b=some o):Rel G σ h':=R.same (fun b o e _=>hk b o e) (fun b o e _=>hk b o e) fun b o e=>hk b o (R.base b o e)
theorem Evo.keeps {σ:St} {X:List Addr} {h h':Heap} (hk:∀ b o,h.get? b=some o→h'.get? b=some o):Evo X σ h σ h':=⟨fun b o e _ _=>hk b o e,fun b o e _=>hk b o e,fun b d=>.inl d,fun b o e=>⟨o,hk b o e⟩⟩
theorem fD {h h':Heap} (x:Heap.ExtBut h.objs.size h h'):∀ b o,h.get? b=some o→h'.get? b=some o:=fun b o e=>x b o (fj (du e)) e
theorem sD {i:Nat} {x:Str} {k:NameKind} {pos:Pos} (hi:sc.names[i]?=some (x,k)) (hk:Own G x k):fK G C sc d (.var i) (.Name x pos):=fun A E env ρ σ K s v w ao es eo F R vr h =>
 assign_Name (uq eo F R (by rw [es];exact hi) hk vr fun h' tk F' R' x=>⟨_,σ,h',tk,rfl,h,F',R',x⟩)
theorem nZ {A:Around} {E:Value→Shared→Prop} {s:Shared} {σ:St} {a dd:Addr} {f:Nat→Option V} {i:Nat} {name:Str} {u:V} {w:Value} {Q:Unit→Shared→Prop} (K:GOk G) (R:Rel G σ s.heap) (hI:σ.I a=some (dd,f)) (hn:G.attrs[i]?=some name) (vr:VR G s.heap u w)
  (k:∀ h' tk,Rel G (σ.ju a dd (upd f i u)) h'→Evo [] σ s.heap (σ.ju a dd (upd f i u)) h'→Q () { s with heap:=h',toks:=tk }):wpAny G.M A (setAttr (.ref a) name w) Q E s:=by
 obtain⟨N,mN,X,hga,hgt,hsa,hat⟩:=K.cls
 have I:=R.I a dd f hI
 obtain⟨m,hm,hv,hout⟩:=I.ns
 obtain⟨hh,g,dr,t,os⟩:=s
 obtain⟨nm,q,bs,sn,sub,col,d2,k0,k1,k2,k3,k5,hC⟩:=(X.keeps R.base).obj
 have hmem:=cq hn
 have hxC:a≠G.cS:=by
  rintro rfl
  obtain⟨_,_,_,_,_,_,_,_,_,_,_,_,hC0⟩:=X.obj
  have:=R.new _ (.inr (.inr (.inr (.inl (by rw [hI];rfl)))))
  rw [hC0] at this;cases this
 have hw:Within m G.attrs:=fun y hy=>by
  by_cases h:y∈G.attrs
  ·exact h
  ·exact absurd (hout y h) hy
 refine store_attr PySem.F.store_object hC (X.keeps R.base).ns hsa (hat name hmem).1 (hat name hmem).2 hxC (I.inst hm) (fun h' tk' I' hk hsame=>?_) hw (gj K.len (by decide))
 obtain⟨o,ho,hc,hd,hnc⟩:=I.here
 obtain⟨o₁,e₁,c₁,dt₁,sl₁,dk₁⟩:=hsame o ho
 have eo:o₁=o:=by
  obtain⟨oc,od,odt,osl⟩:=o
  obtain⟨oc₁,od₁,odt₁,osl₁⟩:=o₁
  simp only at c₁ dt₁ sl₁ hd
  subst c₁;subst dt₁;subst sl₁
  have:=dk₁ dd hd
  simp only at this
  rw [hd,this]
 subst eo
 have hns':h'.Ns1 dd (fun y=>if y=name then some w else m y):=by
  obtain⟨o',e',_,_,hd'⟩:=I'
  obtain rfl:=ae (e₁.symm.trans e')
  rcases hd' with ⟨hn0,_⟩ | ⟨d',hd',_,hns'⟩
  ·rw [hd] at hn0;cases hn0
  ·obtain rfl:=ae (hd.symm.trans hd');exact hns'
 have at':At dd hh h':=by
  obtain⟨od,es,ep,hod,hdd,_⟩:=hm
  obtain⟨od',es',ep',hod',_⟩:=hns'
  refine⟨fun b ob hb e=>?_,⟨od',hod'⟩,fun o' e=>?_⟩
  ·by_cases hba:b=a
   ·subst hba
    rw [ho] at e;cases e;exact e₁
   ·exact hk b ob hba (fun o₀ d' e₀ ed=>by
     obtain rfl:=ae (ho.symm.trans e₀);obtain rfl:=ae (hd.symm.trans ed);exact hb) e
  ·obtain rfl:=ae (hod.symm.trans e);exact pj hdd
 have hI':ym G h' a dd (upd f i u):=by
  refine⟨⟨_,e₁,hc,hd,hnc⟩,⟨_,hns',fun j y hj=>?_,fun y hy=>?_⟩,I.ne⟩
  ·by_cases hij:j=i
   ·subst hij
    rw [hn] at hj;cases hj
    simp only [bg,rp]
    exact vr.mono at'.frz
   ·have hxy:y≠name:=fun e=>by
     subst e
     have hlt:j<G.attrs.length:=(cj.mp hj).1
     exact hij ((List.getElem?_inj hlt K.nd).mp (hj.trans hn.symm))
    simp only [dq hij,hxy,je]
    exact(hv j y hj).mono at'.frz
  ·have:y≠name:=fun e=>hy (e▸hmem)
   simp only [this,je]
   exact hout y hy
 exact k h' tk' (R.FX hI at' hI') (Evo.FX _ hI at')
theorem x6 {o:Ex} {i:Nat} {x:Expr} {name:Str} {pos:Pos} (K:GOk G) (ho:ct G C sc d o x) (hn:G.attrs[i]?=some name):fK G C sc d (.attr o i) (.Attribute x name pos):=fun A E env ρ σ Kt s v w ao es eo F R vr h=>by
 rw [assign_Attribute]
 refine ab (br (md (ho A E env ρ σ _ s ao es eo F R h) fun u σ₁ h₁ tk w₁ q vr₁ r x=>?_))
 obtain⟨a,dd,f,rfl,hI,q⟩:=q
 obtain rfl:=vr₁
 refine ab (er (ab (br (nZ (s:={ s with heap:=h₁,toks:=tk }) K r hI hn (vr.mono x.frz) fun h' tk' R' x'=>wpAny_release ?_))))
 exact⟨ρ,_,h',tk',rfl,q,(F.evo x).evo x',R',(x.trans x').wide env⟩
theorem lE {A:Around} {E:Value→Shared→Prop} {it l:Addr} {items:Array Value} (hne:l≠it):∀ (n i:Nat) (s:Shared) (Q:List Value→Shared→Prop),s.heap.IsListIter it l i→s.heap.IsList l items→i+n≤items.size →
  (∀ h',h'.IsListIter it l (i+n)→Heap.SameBut it s.heap h'→Q ((items.toList.drop i).take n) { s with heap:=h' })→wpAny G.M A (draw (.ref it) n) Q E s
 | 0,i,s,Q,hit,hl,hn,hQ=>by
  rw [draw]
  exact af (by simpa using hQ s.heap hit (.refl ..))
 | n+1,i,s,Q,hit,hl,hn,hQ=>by
  rw [draw]
  have hx:items[i]?=some items[i]:=ey (by exact dw .C .a (.k .a3 .B) hn)
  refine ab (wpAny_pyNext_list_item hit hl hx fun h₁ hit₁ hs₁=>?_)
  have hl₁:h₁.IsList l items:=by obtain⟨o,ho,r⟩:=hl;exact⟨o,by rw [hs₁.2 l hne];exact ho,r⟩
  refine ab (br (lE hne n (i+1) _ _ hit₁ hl₁ (by exact dw (.k .a2 .C) .a .aS hn) fun h₂ hit₂ hs₂=>af ?_))
  have hd:items.toList.drop i=items[i]::items.toList.drop (i+1):=by
   rw [zw (by simpa using (by(exact dw .C .a (.k .a3 .B) hn):i<items.size))];simp
  have:=hQ h₂ (by rw [show i+(n+1)=i+1+n by(exact xi (.e .Z .a2) .j)];exact hit₂) (hs₁.trans hs₂)
  rw [hd,List.take_succ_cons] at this
  exact this
theorem gK {A:Around} {E:Value→Shared→Prop} {s:Shared} {t:Addr} {items:Array Value} {Q:List Value→Shared→Prop} (hh:A.handled=none) (ht:s.heap.IsList t items)
  (hQ:∀ h',Heap.ExtBut s.heap.objs.size s.heap h'→Q items.toList { s with heap:=h' }):wpAny G.M A (unpackItems (.ref t) items.size none) Q E s:=by
 have hlt:t≠s.heap.objs.size:=by obtain⟨o,ho,_⟩:=ht;exact fj (du ho)
 unfold unpackItems
 refine ab ?_
 ·unfold notIterableAtAll
  refine ab (wpAny_specialOf ht.typeIs slot_list_iter.lookup ?_)
  refine af ?_
  simp only [cy,je]
  refine ab (br (wpAny_pyIter_list ht ?_))
  have hp:(s.heap.push { cls:=.type "list_iterator",data:=.fields #[.ref t,.int 0 0] }).IsList t items:=by obtain⟨o,ho,r⟩:=ht;exact⟨o,ak _ ho,r⟩
  refine ab (br (lE hlt items.size 0 _ _ ⟨_,bq _ rfl,rfl,rfl⟩ hp (by exact ic (.k (.a .O .A) .A) .i) fun h₁ hit₁ hs₁=>?_))
  have hall:List.take items.size (List.drop 0 items.toList)=items.toList:=by
   rw [List.drop_zero];exact List.take_of_length_le (by simp)
  rw [hall]
  rw [aw (by simp)]
  have ht₁:h₁.IsList t items:=by obtain⟨o,ho,r⟩:=hp;exact⟨o,by rw [hs₁.2 t hlt];exact ho,r⟩
  refine ab (br (wpAny_pyNext_list_end hh hit₁ ht₁ (by simp) fun h₂ he₂=>?_))
  simp only [sd,cy,je]
  refine af (hQ h₂ fun b o hb e=>he₂ b o hb (hs₁.extBut b o hb (ak _ e)))
noncomputable def wL (G:Stc):Prop:=∀ (A:Around) (E:Value→Shared→Prop) (s:Shared) (t:Addr) (ws:List Value) (n:Nat) (dd:Option Addr) (Q:List Value→Shared→Prop),A.handled=none→(∀ b o,G.hb.get? b=some o→s.heap.get? b=some o) →
 s.heap.get? t=some { cls:=.ref G.cM,dict:=dd,data:=.seq ws.toArray n,slots:=#[] } →
 (∀ h',Heap.ExtBut s.heap.objs.size s.heap h'→Q ws { s with heap:=h' })→wpAny G.M A (unpackItems (.ref t) ws.length none) Q E s
theorem ru {A:Around} {E:Value→Shared→Prop} {s:Shared} {σ:St} {v:V} {w:Value} {vs:List V} {Q:List Value→Shared→Prop} (U:wL G) (hh:A.handled=none) (R:Rel G σ s.heap) (vr:VR G s.heap v w) (e:HN v σ=some vs)
  (k:∀ ws h',VRs G h' vs ws→Rel G σ h'→(∀ b o,s.heap.get? b=some o→h'.get? b=some o)→Q ws { s with heap:=h' }):wpAny G.M A (unpackItems w vs.length none) Q E s:=by
 have fin:∀ ws h',VRs G s.heap vs ws→Heap.ExtBut s.heap.objs.size s.heap h'→Q ws { s with heap:=h' }:=fun ws h' r x =>
  k ws h' (r.mono fun b o e _=>fD x b o e) (R.keeps (fD x)) (fD x)
 cases v
 case lst =>
  obtain rfl:=vr
  obtain⟨ws,n,hl,hv⟩:=R.L _ _ e
  have:=gK (G:=G) (A:=A) (E:=E) (Q:=Q) hh hl.isList fun h' x=>fin ws h' hv x
  rw [cv,← hv.length] at this
  exact this
 case tup =>
  obtain⟨a,ws,n,rfl,g,r⟩:=vr
  obtain rfl:=ae e
  have:=PyProof.Rows.unpackItems_tuple (prog:=G.prog) (w:=G.w) (A:=A) (E:=E) (Q:=Q) hh ⟨_,g,rfl,_,rfl⟩ fun h' x=>fin _ h' r x
  rw [cv,← r.length] at this
  exact this
 case mt =>
  obtain⟨a,ws,n,dd,rfl,g,r⟩:=vr
  obtain rfl:=ae e
  have:=U A E s _ _ _ _ Q hh R.base g fun h' x=>fin _ h' r x
  rw [← r.length] at this
  exact this
 all_goals exact gb e
theorem any_some {α:Type} {a:Option α} {f:α→Bool} (h:a.any f=true):∃ x,a=some x∧f x=true:=by
 cases a with
 | none=>exact Bool.noConfusion h
 | some x=>exact⟨x,rfl,h⟩
noncomputable def sv (sc:Scope) (i:Nat):Str:=(sc.names[i]?.map (·.1)).getD ""
noncomputable def kindAt (k:NameKind→Bool) (sc:Scope) (i:Nat):Bool:=sc.names[i]?.any fun y=>k y.2&&gk y.1
theorem dT {p:NameKind→Bool} {i:Nat} (h:kindAt p sc i=true):∃ k,sc.names[i]?=some (sv sc i,k)∧p k=true∧gk (sv sc i)=true:=by
 obtain⟨y,e,h⟩:=any_some h
 have e':sv sc i=y.1:=by unfold sv;rw [e];rfl
 exact⟨y.2,e'▸e,(band h).1,e'▸(band h).2⟩
noncomputable def pa (sc:Scope):List Nat→List Expr→List Expr
 | []=>fun _=>[]
 | i::is=>fun l=>.Name (sv sc i) (l.headD default).pos::pa sc is l.tail
noncomputable def ownAt (cap:Str→Bool) (sc:Scope) (i:Nat):Bool:=kindAt iY sc i&&!cap (sv sc i)
theorem qK {G:Stc} {sc:Scope} {i:Nat} (h:ownAt G.cap sc i=true):∃ k,sc.names[i]?=some (sv sc i,k)∧Own G (sv sc i) k∧gk (sv sc i)=true:=by
 obtain⟨k,h1,h2,h3⟩:=dT (band h).1
 exact⟨k,h1,⟨h2,by simpa using (band h).2⟩,h3⟩
noncomputable def mA (cap:Str→Bool) (sc:Scope) (is:List Nat):Bool:=is.all (ownAt cap sc)
theorem eZ {env:Env}:(is:List Nat)→(l:List Expr)→(assignEach (pa sc is l) env).length=is.length
 | [],_=>rfl
 | _::is,l=>bu (·+1) (eZ is l.tail)
theorem cI {env:Env}:(is:List Nat)→(l:List Expr)→(assignEach (pa sc is l) env).findIdx? (·.1)=none
 | [],_=>rfl
 | _::is,l=>by
  have e:=cI (env:=env) is l.tail
  show List.findIdx? _ ((false,_)::assignEach (pa sc is l.tail) env)=none
  rw [List.findIdx?_cons,e];rfl
noncomputable def sE (elts:List Expr):List Str:=elts.filterMap fun x=>bif dX 23 x then some (ll x) else none
theorem xy {A:Around} {E:Value→Shared→Prop} {env:Env} {X:List Addr} (hsc:env.scope=sc) (eo:iv env) (hXl:env.locals∈X) {σ:St}:(is:List Nat)→(l:List Expr)→{vs:List V}→{ws:List Value}→{ρ:Fr}→{s:Shared}→{Q:Unit→Shared→Prop}→mA G.cap sc is=true→is.length=vs.length→(∀ y∈sE (pa sc is l),∀ c,env.cells.lookup y=some c→c∈X) →
  FR G σ env ρ s.heap→Rel G σ s.heap→VRs G s.heap vs ws→(∀ h' tk,FR G σ env (mu is vs ρ) h'→Rel G σ h'→Evo X σ s.heap σ h'→Q () { s with heap:=h',toks:=tk }) →
  wpAny G.M A (assignInOrder ((assignEach (pa sc is l) env).map (·.2)) ws) Q E s
 | [],_,_,ws,_,s,_,_,_,_,F,R,_,k=>by
  show wpAny G.M A (assignInOrder [] ws) _ E s
  exact af (k s.heap s.toks F R (Evo.refl _ _ _))
 | _::_,_,[],_,_,_,_,_,hl,_,_,_,_,_=>nomatch hl
 | i::is,l,v::vs,_,ρ,s,Q,hn,hl,hX,F,R,⟨w,us,e,va,vr⟩,k=>by
  subst e
  obtain⟨kk,hi,hk,_⟩:=qK (band hn).1
  show wpAny G.M A (do holding us (assign (.Name (sv sc i) (l.headD default).pos) env w);assignInOrder ((assignEach (pa sc is l.tail) env).map (·.2)) us) Q E s
  refine ab (br (assign_Name (cB eo F R (by rw [hsc];exact hi) hk va hXl (hX _ (.head _)) fun h' tk F' R' x'=>?_)))
  exact xy hsc eo hXl is l.tail (s:={ s with heap:=h',toks:=tk }) (band hn).2 (Nat.succ.inj hl) (fun y hy=>hX y (.tail _ hy)) F' R' (vr.mono x'.frz) fun h2 tk2 F2 R2 x2=>k h2 tk2 F2 R2 (x'.trans x2)
theorem pX {A:Around} {E:Value→Shared→Prop} {env:Env} (hsc:env.scope=sc) (eo:iv env) {σ:St} {is:List Nat} {l:List Expr} {vs:List V} {ws:List Value} {ρ:Fr} {s:Shared} {Q:Unit→Shared→Prop} (h1:mA G.cap sc is=true) (h2:is.length=vs.length)
  (F:FR G σ env ρ s.heap) (R:Rel G σ s.heap) (vr:VRs G s.heap vs ws) (k:∀ h' tk,FR G σ env (mu is vs ρ) h'→Rel G σ h'→Evo (envX env) σ s.heap σ h'→Q () { s with heap:=h',toks:=tk }) :
  wpAny G.M A (assignInOrder ((assignEach (pa sc is l) env).map (·.2)) ws) Q E s :=
 xy hsc eo (.head _) is l h1 h2 (fun y _ c hc=>.tail _ (bw.mpr ⟨(y,c),mem_of_lookup hc,rfl⟩)) F R vr k
theorem BG {is:List Nat} {l:List Expr} {k:Nat} {pos:Pos} (U:wL G) (hn:mA G.cap sc is=true):fK G C sc d (.tup is) (.Tuple (pa sc is l) k pos):=fun A E env ρ σ K s v w ao es eo F R vr h=>by
 obtain⟨vs,e,hl,q⟩:=h
 rw [assign_Tuple]
 refine ab (er ?_)
 unfold unpack
 rw [eZ,cI,hl]
 refine ab (br (ru U ao.handled R vr e fun ws h' vrs R' hk=>?_))
 refine pX es eo hn hl (F.evo (Evo.keeps hk)) R' vrs fun h2 tk2 F2 R2 x2=>?_
 exact⟨_,σ,h2,tk2,rfl,q,F2,R2,(Evo.keeps hk).trans x2⟩
theorem BH {o i:Ex} {x y:Expr} {pos:Pos} (ho:ct G C sc d o x) (hi:ct G C sc d i y):fK G C sc d (.sub o i) (.Subscript x y pos):=fun A E env ρ σ K s v w ao es eo F R vr h=>by
 rw [arm_assign_Subscript]
 refine ab (br (md (ho A E env ρ σ _ s ao es eo F R h) fun u σ₁ h₁ tk w₁ q vr₁ r x=>?_))
 refine ab (br (md (hi A E env ρ σ₁ _ { s with heap:=h₁,toks:=tk } ao es eo (F.evo x) r q) fun j σ₂ h₂ tk₂ w₂ q₂ vr₂ r₂ x₂=>?_))
 refine ab (er (ab (br ?_)))
 have hvw:VR G h₂ v w:=(vr.mono x.frz).mono x₂.frz
 obtain⟨a,rfl,es',kk,e,hkey,hz,q₂⟩:=tx (v:=u) q₂
 obtain rfl:=vr₁
 obtain⟨ds,hd,hv⟩:=r₂.D _ _ e
 refine wpAny_setItem_pairs (s:={ s with heap:=h₂,toks:=tk₂ }) (key_is hkey vr₂) hd (fun h' hd' hs'=>wpAny_release ?_) (by rw [← hv.length];exact oh (by exact bh .A .a .C hz))
 obtain⟨R',x'⟩:=FE (s:={ s with heap:=h₂,toks:=tk₂ }) r₂ e hs' hd' (hv.put hvw) (gj (fV _ _ _) (by exact bh .H .a .C hz))
 exact⟨ρ,_,h',_,rfl,q₂,((F.evo x).evo x₂).evo x',R',((x.trans x₂).trans x').wide env⟩
end
end MP
end
section
set_option tactic.hygienic true
namespace MP
open PySem PyProof.Rows
noncomputable def si (sc:Scope) (ts:List Expr):List Str:=ts.filterMap fun
 | .Name id pos=>if sc.names.lookup id==some .local&&pos.line==(ts.head?.map (·.pos.line)).getD 0 then some id else none
 | _=>none
noncomputable def K3 (x:Expr):Option (Option (List Expr)):=bif dX 25 x then some (some (kids x)) else bif dX 24 x then none else some none
noncomputable def tgK:List Expr→Option (Option (List Expr))
 | []=>some none
 | x::r=>bif r.isEmpty then K3 x else some none
noncomputable def tupK (x:Expr):Option (List Expr):=bif dX 25 x then some (kids x) else none
noncomputable def HP (sc:Scope) (ts vs:List Expr):Option (Option (List Str)) :=
 bif !(ts.length==2||ts.length==3)||vs.length != ts.length then some none
 else bif vs.any isStar then some none
 else bif (si sc ts).length != ts.length||(si sc ts).eraseDups.length != (si sc ts).length then some none
 else bif vs.all (foldedForSure 8) then some none
 else bif vs.all (constantsAlone 8) then none
 else some (some (si sc ts))
noncomputable def swp (sc:Scope) (targets:List Expr) (value:Expr):Option (Option (List Str)) :=
 (tgK targets).bind fun o=>o.elim (some none) fun ts=>(tupK value).elim (some none) (HP sc ts)
theorem x8 {targets:List Expr} (h:tgK targets=some none) (value:Expr) (env:Env):swappedStores targets value env=pure none:=by
 cases targets with
 | nil=>rfl
 | cons x r =>
  cases r with
  | nil=>cases x<;>first | rfl | exact gb (ae h).symm | exact gb h
  | cons y r=>cases x<;>rfl
theorem x7 {targets:List Expr} {ts:List Expr} (h:tgK targets=some (some ts)):∃ k p,targets=[.Tuple ts k p]:=by
 cases targets with
 | nil=>exact gb (ae h)
 | cons x r =>
  cases r with
  | nil =>
   cases x
   case Tuple=>obtain rfl:=ae (ae h);exact⟨_,_,rfl⟩
   all_goals first | exact gb (ae h) | exact gb h
  | cons y r=>exact gb (ae h)
theorem uE {value:Expr} (h:tupK value=none) (ts:List Expr) (k:Nat) (p:Pos) (env:Env):swappedStores [.Tuple ts k p] value env=pure none:=by
 cases value<;>first | rfl | exact gb h.symm
theorem uD {value:Expr} {vs:List Expr} (h:tupK value=some vs):∃ k p,value=.Tuple vs k p:=by
 cases value
 case Tuple=>obtain rfl:=ae h;exact⟨_,_,rfl⟩
 all_goals exact gb h
theorem eD {α:Type} {b:Bool} {x y:Option (Option α)} {r:Option α} {t u:Sem (Option α)} (h:(bif b then x else y)=some r) (h1:x=some r→t=pure r) (h2:y=some r→u=pure r):(if b=true then t else u)=pure r:=by
 cases b with
 | true=>exact h1 h
 | false=>exact h2 h
theorem lS {sc:Scope} {targets:List Expr} {value:Expr} {r:Option (List Str)} {env:Env} (h:swp sc targets value=some r) (hs:env.scope=sc) (hk:env.blockKind=.function):swappedStores targets value env=pure r:=by
 obtain⟨o,h1,h⟩:=cw.mp h
 cases o with
 | none=>obtain rfl:=ae h;exact x8 h1 value env
 | some ts =>
  obtain⟨k,p,rfl⟩:=x7 h1
  have h:(tupK value).elim (some none) (HP sc ts)=some r:=h
  cases h2:tupK value with
  | none=>rw [h2] at h;obtain rfl:=ae h;exact uE h2 ts k p env
  | some vs =>
   rw [h2] at h
   obtain⟨k',p',rfl⟩:=uD h2
   subst hs
   have e:swappedStores [.Tuple ts k p] (.Tuple vs k' p') env=(if (!(ts.length==2||ts.length==3)||vs.length != ts.length||env.blockKind != .function)=true then pure none
    else if vs.any isStar=true then pure none
    else if ((si env.scope ts).length != ts.length||(si env.scope ts).eraseDups.length != (si env.scope ts).length)=true then pure none
    else if vs.all (foldedForSure 8)=true then pure none
    else if vs.all (constantsAlone 8)=true then (do unsupported "assign.tuple-of-constant-expressions:order-of-the-stores";pure (some (si env.scope ts)))
    else pure (some (si env.scope ts))):=rfl
   rw [e,hk,show(ScopeKind.function != ScopeKind.function)=false from rfl,cX]
   exact eD h (fun h=>ae h▸rfl) fun h=>eD h (fun h=>ae h▸rfl) fun h=>eD h (fun h=>ae h▸rfl) fun h=>eD h (fun h=>ae h▸rfl) fun h=>eD h (fun h=>gb h) fun h=>ae h▸rfl
theorem rt {value:Expr} (h:wc value=true) (targets:List Expr) (n:Nat) (env:Env):swapsWithSole targets value n env=pure false:=by
 cases targets with
 | nil=>rfl
 | cons t r =>
  cases r with
  | nil=>exact xw h _ _ _
  | cons=>rfl
section
variable {G:Stc} {C:Cal} {sc:Scope} {d:Nat}
inductive zk (G:Stc) (C:Cal) (sc:Scope) (d:Nat):List Tgt→List Expr→Prop
 | nil:zk G C sc d [] []
 | cons {t:Tgt} {x:Expr} {ts:List Tgt} {xs:List Expr}:fK G C sc d t x→(∀ env,assignEach (x::xs) env=(false,assign x env)::assignEach xs env)→zk G C sc d ts xs→zk G C sc d (t::ts) (x::xs)
theorem sN {A:Around} {E:Value→Shared→Prop} {env:Env} (ao:AOk A d) (es:env.scope=sc) (eo:iv env) {ts:List Tgt} {xs:List Expr} (ht:zk G C sc d ts xs):∀ {ρ:Fr} {σ:St} {K:Fr→St→Prop} {s:Shared} {v:V} {w:Value},FR G σ env ρ s.heap→Rel G σ s.heap→VR G s.heap v w →
  cA C ts v ρ σ K→wpAny G.M A (assignAll w ((assignEach xs env).map (·.2))) (LU G env σ s K) E s:=by
 induction ht with
 | nil =>
  intro ρ σ K s v w F R vr h
  exact af ⟨ρ,σ,s.heap,s.toks,rfl,h,F,R,Evo.refl _ _ _⟩
 | @cons t x ts xs hx he hr ih =>
  intro ρ σ K s v w F R vr h
  rw [he]
  have go:wpAny G.M A (holding [w] (assign x env w)>>=fun _=>assignAll w ((assignEach xs env).map (·.2))) (LU G env σ s K) E s:=by
   refine ab (br (av (hx A E env ρ σ _ s v w ao es eo F R vr h) (fun _ s' l=>?_) fun _ _ x=>x))
   obtain⟨ρ',σ',h',tk,rfl,q,F',R',x'⟩:=l
   exact av (ih F' R' (vr.mono x'.frz) q) (fun _ _ l=>lN.back x' l) fun _ _ x=>x
  cases hr with
  | nil =>
   show wpAny G.M A (assign x env w) (LU G env σ s K) E s
   refine av (hx A E env ρ σ _ s v w ao es eo F R vr h) (fun _ s' l=>?_) fun _ _ x=>x
   exact l
  | cons a b c =>
   rw [b env] at go ⊢
   exact go
theorem qB {ts:List Tgt} {e:Ex} {xs:List Expr} {x:Expr} {pos:Pos} (ht:zk G C sc d ts xs) (he:ct G C sc d e x) (hc:wc x=true) (hw:swp sc xs x=some none):tu G C sc d (.assign ts e) (.Assign xs x pos):=fun A E env ρ σ K s ao es eo F R h=>by
 rw [exec_Assign]
 refine ab (er ?_)
 rw [rt hc]
 refine ab (af ?_)
 rw [aw (by decide)]
 refine ab (md (he A E env ρ σ _ s ao es eo F R h) fun v σ₁ h₁ tk w q vr r x=>?_)
 rw [lS hw es (by unfold Env.blockKind;rw [eo.kind];rfl)]
 refine ab (af ?_)
 show wpAny G.M A (do assignAll w _;pure Flow.next) _ _ _
 refine ab (av (sN (s:={ s with heap:=h₁,toks:=tk }) ao es eo ht (F.evo x) r vr q) (fun _ s' l=>af ?_) fun _ _ x=>x)
 obtain⟨ρ',σ',h',tk',rfl,q',F',R',x'⟩:=l
 exact⟨.next,ρ',σ',h',tk',rfl,.next,q',F',R',(x.wide env).trans x'⟩
theorem zx:∀ (xs:List Nat) (vs:List V) (x:Nat) (v:V) (ρ:Fr),xs.length=vs.length→mu (xs++[x]) (vs++[v]) ρ=upd (mu xs vs ρ) x v
 | [],[],_,_,_,_=>rfl
 | [],_::_,_,_,_,h=>absurd h.symm (eL _)
 | _::_,[],_,_,_,h=>absurd h (eL _)
 | y::xs,u::vs,x,v,ρ,h=>by
  exact zx xs vs x v _ (Nat.succ.inj h)
theorem wX {α:Type} {f:Nat→Option α} {i j:Nat} {a b:α} (h:i≠j):upd (upd f i a) j b=upd (upd f j b) i a:=by
 funext k
 unfold upd
 by_cases h1:k=j<;>by_cases h2:k=i<;>simp_all
theorem iH:∀ (xs:List Nat) (vs:List V) (x:Nat) (v:V) (ρ:Fr),x∉xs→mu xs vs (upd ρ x v)=upd (mu xs vs ρ) x v
 | [],_,_,_,_,_=>rfl
 | _::_,[],_,_,_,_=>rfl
 | y::xs,u::vs,x,v,ρ,h=>by
  show mu xs vs (upd (upd ρ x v) y u)=upd (mu xs vs (upd ρ y u)) x v
  have h:=lP h
  rw [wX h.1,iH xs vs x v _ h.2]
theorem yc:∀ (xs:List Nat) (vs:List V) (ρ:Fr),xs.length=vs.length→xs.Nodup→mu xs.reverse vs.reverse ρ=mu xs vs ρ
 | [],[],_,_,_=>rfl
 | [],_::_,_,h,_=>absurd h.symm (eL _)
 | _::_,[],_,h,_=>absurd h (eL _)
 | x::xs,v::vs,ρ,h,hn=>by
  have hn:=List.nodup_cons.mp hn
  have h:xs.length=vs.length:=Nat.succ.inj h
  rw [tn,tn,zx _ _ _ _ _ (by rw [ir,ir];exact h),yc xs vs ρ h hn.2]
  exact(iH xs vs x v ρ hn.1).symm
noncomputable def I3 (cap:Str→Bool) (sc:Scope) (is:List Nat) (xs:List Str):Bool:=decide (xs=is.map (sv sc))&&mA cap sc is
theorem fS {A:Around} {E:Value→Shared→Prop} {env:Env} (hsc:env.scope=sc) (eo:iv env) {σ:St}:(is:List Nat)→{vs:List V}→{ws:List Value}→{ρ:Fr}→{s:Shared}→{Q:Unit→Shared→Prop}→mA G.cap sc is=true→is.length=vs.length →
  FR G σ env ρ s.heap→Rel G σ s.heap→VRs G s.heap vs ws→(∀ h' tk,FR G σ env (mu is vs ρ) h'→Rel G σ h'→Evo (envX env) σ s.heap σ h'→Q () { s with heap:=h',toks:=tk }) →
  wpAny G.M A (assignInOrder ((is.map (sv sc)).map fun n=>bindName env n) ws) Q E s
 | [],_,ws,_,s,_,_,_,F,R,_,k=>by
  show wpAny G.M A (assignInOrder [] ws) _ E s
  exact af (k s.heap s.toks F R (Evo.refl _ _ _))
 | _::_,[],_,_,_,_,_,hl,_,_,_,_=>nomatch hl
 | i::is,v::vs,_,ρ,s,Q,hn,hl,F,R,⟨w,us,e,va,vr⟩,k=>by
  subst e
  obtain⟨kk,hi,hk,_⟩:=qK (band hn).1
  show wpAny G.M A (do holding us (bindName env (sv sc i) w);assignInOrder ((is.map (sv sc)).map fun n=>bindName env n) us) Q E s
  refine ab (br (wpAny_bindName (uq eo F R (by rw [hsc];exact hi) hk va fun h' tk F' R' x'=>?_)))
  exact fS hsc eo is (s:={ s with heap:=h',toks:=tk }) (band hn).2 (Nat.succ.inj hl) F' R' (vr.mono x'.frz) fun h2 tk2 F2 R2 x2=>k h2 tk2 F2 R2 (x'.trans x2)
theorem snd_swap {is:List Nat} {e:Ex} {xs:List Expr} {x:Expr} {pos:Pos} {names:List Str} (U:wL G) (he:ct G C sc d e x) (hc:wc x=true) (hw:swp sc xs x=some (some names)) (hn:I3 G.cap sc is names=true) (hnd:is.Nodup):tu G C sc d (.assign [.tup is] e) (.Assign xs x pos):=fun A E env ρ σ K s ao es eo F R h=>by
 rw [exec_Assign]
 refine ab (er ?_)
 rw [rt hc]
 refine ab (af ?_)
 rw [aw (by decide)]
 refine ab (md (he A E env ρ σ _ s ao es eo F R h) fun v σ₁ h₁ tk w q vr r x=>?_)
 rw [lS hw es (by unfold Env.blockKind;rw [eo.kind];rfl)]
 refine ab (af ?_)
 obtain⟨vs,ev,hl,q⟩:=q
 show wpAny G.M A (do rule "assign.swapped-stores";let items←unpackItems w names.length none;assignInOrder (names.reverse.map fun n=>bindName env n) items.reverse;pure Flow.next) _ _ _
 refine ab (xj (ab ?_))
 obtain rfl:=ah (band hn).1
 rw [au,hl,← List.map_reverse]
 refine ru (s:={ s with heap:=h₁,toks:=tk }) U ao.handled r vr ev fun ws h' vrs R' hk=>?_
 refine ab (fS es eo is.reverse (by unfold mA;rw [List.all_reverse];exact(band hn).2) (by simpa using hl) ((F.evo x).evo (Evo.keeps hk)) R' vrs.reverse fun h2 tk2 F2 R2 x2=>af ?_)
 rw [yc _ _ _ hl hnd] at F2
 exact⟨.next,_,_,h2,tk2,rfl,.next,q,F2,R2,(x.wide env).trans ((Evo.keeps hk).trans x2)⟩
end
end MP
end
section
namespace MP
open PySem PyProof.Rows
theorem fZ:typeLookup (.type "list") (dunderI "add")=pure (some (.builtin "list.__iadd__")):=by rw [fm,dg];kernel_rfl
theorem rB:fillsInplaceSlot (.type "list") "add" (Operator.Add==.Add)=pure false:=by
 unfold fillsInplaceSlot
 show(typeLookup (.type "list") (dunderI "add")>>=fun fi=>pure (fi.isSome&&!isSeqSlot fi))=pure false
 rw [fZ];first | rfl | kernel_rfl
theorem zP:seqSlot? (.type "list") (dunderI "add")=pure (some (.builtin "list.__iadd__")):=by
 unfold seqSlot?
 rw [fZ];first | rfl | kernel_rfl
section
variable {G:Stc} {A:Around} {E:Value→Shared→Prop} {s:Shared} {σ:St}
theorem rA {a b:Value} {Q:Value→Shared→Prop} (ha:s.TypeIs a "list") (hb:s.TypeIs b "list") (hc:wpAny G.M A (call (.builtin "list.__iadd__") [a,b]) Q E s):wpAny G.M A (inplaceOp .Add a b) Q E s:=by
 unfold inplaceOp
 refine br ?_
 refine ab (wpAny_typeOf ha (ab (dj rB ?_)))
 show wpAny _ A (if false=true then _ else _) Q E s
 rw [aw jl]
 refine ab (wpAny_binaryOp1_none (nm:="add") ha hb noFill_list_add ?_)
 refine ab (dj zP ?_)
 exact ab (xj hc)
theorem xY {op:Bop} {a b:V} {x y:Value} {Q:V→St→Prop} (hop:op=.add∨op=.sub) (R:Rel G σ s.heap) (va:VR G s.heap a x) (vb:VR G s.heap b y) (h:EB op a b σ Q):wpAny G.M A (inplaceOp (binOp op) x y) (fq G [] σ s Q) E s:=by
 cases a with
 | lst a =>
  obtain rfl:=va
  obtain⟨b,rfl,h⟩:=vu (v:=b) h
  obtain rfl:=vb
  rcases hop with rfl | rfl
  ·obtain⟨xs,ys,hne,e1,e2,hz,q⟩:=h
   obtain⟨us,n,hl,hv⟩:=R.L _ _ e1
   obtain⟨ts,m,hl',hv'⟩:=R.L _ _ e2
   have hlen:=hv.length;have hlen':=hv'.length
   have hz1:us.length+ts.length≤sizeLine:=by rw [← hlen,← hlen'];exact oh hz
   refine rA ⟨_,hl,rfl⟩ ⟨_,hl',rfl⟩ (call_meets PySem.F.slot_list_iadd ⟨_,hl,rfl⟩ PySem.F.entry_list_iadd (PySem.F.args_list_iadd_2 _ _) (AutoSeq1.list___iadd___list_list_0 _ _ _ _ _ _ ?_ (by simp only [cv];(exact dw .A .a (.k .Y .B) hz1)) (by simp only [cv];(exact dw (.k .P .Q) .a .Q hz1))) ⟨hl,hl',?_⟩)
   ·simp only [cv,Builtin.List.listTooLong];rw [show sizeLine=16777216 from rfl] at hz1;simp;intro _;first | omega | (unfold sizeLine;(exact bh (.k .P (.n (2^24))) .a (.k .P (.n 16777216)) hz1))
   ·obtain⟨r',x'⟩:=HM (f:=fun x=>x++ts.toArray) R e1 hl (hv.append hv') (by simpa using hz) (by simp)
    exact⟨.lst _,_,_,_,rfl,q,.lst _,r',x'⟩
  ·exact False.elim h
 | int a =>
  obtain⟨t,rfl⟩:=va
  obtain⟨b,rfl,h⟩:=pb (v:=b) h
  obtain⟨u,rfl⟩:=vb
  rcases hop with rfl | rfl
  ·exact P.iadd_int (fq.here h (.int _ _) R)
  ·exact P.isub_int (fq.here h (.int _ _) R)
 | _=>exact False.elim h
theorem C7 {C:Cal} {sc:Scope} {d:Nat} {op:Bop} {i:Nat} {e:Ex} {x:Str} {k:NameKind} {y:Expr} {pos pos':Pos} (hop:op=.add∨op=.sub) (he:ct G C sc d e y) (hi:sc.names[i]?=some (x,k)) (hk:Own G x k) (hx:gk x=true) :
  tu G C sc d (.aug i op e) (.AugAssign (.Name x pos') (binOp op) y pos):=fun A E env ρ σ K s ao es eo F R h=>by
 obtain⟨v,hv,h⟩:=h
 have hkv:isVar k=true:=by cases k<;>first | rfl | exact Bool.noConfusion hk.1
 refine wpAny_AugAssign_Name (i9 eo F (by rw [es];exact hi) hkv hx hv fun w vr=>?_)
 refine md (he A E env ρ σ _ s ao es eo F R h) fun u σ₁ h₁ tk w₁ q vr₁ r x=>?_
 refine av (xY (s:={ s with heap:=h₁,toks:=tk }) hop r (vr.mono x.frz) vr₁ q) (fun w' s' l=>?_) fun _ _ x=>x
 obtain⟨v',σ',h',tk',rfl,q',vr',r',x'⟩:=l
 refine uq (s:={ s with heap:=h',toks:=tk' }) eo ((F.evo x).evo x') r' (by rw [es];exact hi) hk vr' fun h2 tk2 F2 R2 x2=>?_
 exact⟨.next,_,σ',h2,tk2,rfl,.next,q',F2,R2,((x.trans x').wide env).trans x2⟩
end
end MP
end
section
namespace MP
set_option genInjectivity false
open PySem PyProof.Rows
theorem FR.but {G:Stc} {own:List Addr} {σ:St} {env:Env} {ρ:Fr} {h h':Heap} (F:FR G σ env ρ h) (hk:∀ b o,b∉own→h.get? b=some o→h'.get? b=some o) (hf:gu h h') (hX:∀ b∈own,b∉envX env):FR G σ env ρ h':=by
 obtain⟨m,⟨o,es,ep,ho,r⟩,hm⟩:=F.ns
 have ho':=hk _ _ (fun q=>hX _ q (.head _)) ho
 refine⟨⟨m,⟨o,es,ep,ho',r⟩,fun i y e=>(hm i y e).mono hf⟩,fun i y k e hkk=>?_,F.inj,F.loc,fun o'' e=>?_,F.new,fun p hp=>?_⟩
 ·obtain⟨c,w,h1,⟨oc,hoc,hd⟩,h3,h4,h5⟩:=F.cells i y k e hkk
  exact⟨c,w,h1,⟨oc,hk _ _ (fun q=>hX _ q (.tail _ (bw.mpr ⟨(y,c),mem_of_lookup h1,rfl⟩))) hoc,hd⟩,h3.mono hf,h4,h5⟩
 ·rw [ho'] at e;cases e;exact F.notfrz o ho
 ·obtain⟨o,e⟩:=F.allc p hp
  exact⟨o,hk _ _ (fun q=>hX _ q (.tail _ (bw.mpr ⟨p,hp,rfl⟩))) e⟩
theorem Evo.but {X own:List Addr} {σ σ':St} {h₀ h h':Heap} (x:Evo X σ h₀ σ' h) (hk:∀ b o,b∉own→h.get? b=some o→h'.get? b=some o) (hnew:∀ b∈own,h₀.get? b=none):Evo X σ h₀ σ' h':=by
 have out:∀ b o,h₀.get? b=some o→b∉own:=fun b o e q=>by rw [hnew b q] at e;cases e
 exact⟨fun b o e nd nx=>hk b o (out b o e) (x.keep b o e nd nx),fun b o e f=>hk b o (out b o e) (x.frz b o e f),x.dom,fun b o e=>by obtain⟨o₁,e₁⟩:=x.there b o e;exact⟨o₁,hk b o₁ (out b o e) e₁⟩⟩
structure Itr (G:Stc) where
 it:Addr
 own:List Addr
 vs:List V
 Gd:St→Prop
 tup:Bool
 pos:Nat→Heap→Prop
 keep:∀ i h h',pos i h→(∀ b∈own,∀ o,h.get? b=some o→h'.get? b=some o)→gu h h'→pos i h'
 there:∀ i h,pos i h→∀ b∈own,∃ o,h.get? b=some o
 self:∀ (A:Around) (E:Value→Shared→Prop) (s:Shared) (i:Nat) (Q:Value→Shared→Prop),pos i s.heap→Q (.ref it) s→wpAny G.M A (pyIter (.ref it)) Q E s
 nofrz:∀ i h,pos i h→∀ b∈own,∀ o,h.get? b=some o→¬ Frz o
 next:∀ (A:Around) (E:Value→Shared→Prop) (s:Shared) (σ:St) (i:Nat) (v:V) (target:Expr) (Q:Value→Shared→Prop),A.handled=none→Rel G σ s.heap→Gd σ→pos i s.heap→vs[i]?=some v→(tup=true→∃ es k p,target=.Tuple es k p) →
  (∀ w h' tk,VR G h' v w→pos (i+1) h'→(∀ b o,b∉own→s.heap.get? b=some o→h'.get? b=some o)→Q w { s with heap:=h',toks:=tk }) →
  wpAny G.M A (pyNext (.ref it)) (fun r s₁=>match r with | none=>False | some w=>wpAny G.M A (letOwnedTupleGo target (.ref it) w) (fun _ s₂=>Q w s₂) E s₁) E s
 stop:∀ (A:Around) (E:Value→Shared→Prop) (s:Shared) (σ:St) (i:Nat) (Q:Option Value→Shared→Prop),A.handled=none→Rel G σ s.heap→Gd σ→pos i s.heap→vs[i]?=none →
  (∀ h' tk,(∀ b o,b∉own→s.heap.get? b=some o→h'.get? b=some o)→Q none { s with heap:=h',toks:=tk })→wpAny G.M A (pyNext (.ref it)) Q E s
section
variable {G:Stc} {C:Cal} {sc:Scope} {d:Nat}
theorem Itr.frz (I:Itr G) {h h':Heap} {i:Nat} (hp:I.pos i h) (hk:∀ b o,b∉I.own→h.get? b=some o→h'.get? b=some o):gu h h':=fun b o e f=>hk b o (fun hb=>I.nofrz i h hp b hb o e f) e
theorem Itr.rel (I:Itr G) {σ:St} {h h':Heap} {i:Nat} (hp:I.pos i h) (R:Rel G σ h) (hd:∀ b∈I.own,¬ σ.dom b) (hb:∀ b∈I.own,G.hb.get? b=none) (hk:∀ b o,b∉I.own→h.get? b=some o→h'.get? b=some o):Rel G σ h' :=
 R.same (fun b o e dm=>hk b o (fun q=>hd b q dm) e) (fun b o e f=>hk b o (fun q=>I.nofrz i h hp b q o e f) e) fun b o e=>hk b o (fun q=>by rw [hb b q] at e;cases e) (R.base b o e)
inductive pS (G:Stc) (σ:St) (s:Shared) (tupled:Bool) (P:List V→(St→Prop)→St→Prop) (itv:Value) (s':Shared):Prop
 | mk (I:Itr G) (σ':St) (h':Heap) (tk:Nat):s'={ s with heap:=h',toks:=tk }→itv=.ref I.it→(I.tup=true→tupled=true)→P I.vs I.Gd σ'→I.pos 0 h'→Rel G σ' h'→Evo [] σ s.heap σ' h'→(∀ b∈I.own,s.heap.get? b=none)→(∀ b∈I.own,¬ σ'.dom b)→pS G σ s tupled P itv s'
noncomputable def uz (G:Stc) (C:Cal) (sc:Scope) (d:Nat) (tupled:Bool) (it:It) (x:Expr):Prop :=
 ∀ (A:Around) (E:Value→Shared→Prop) (env:Env) (ρ:Fr) (σ:St) (P:List V→(St→Prop)→St→Prop) (s:Shared),AOk A d→env.scope=sc→iv env→FR G σ env ρ s.heap→Rel G σ s.heap →
  nW C it ρ σ P→wpAny G.M A (eval x env) (fun v s₁=>wpAny G.M A (pyIter v) (pS G σ s tupled P) E s₁) E s
noncomputable def u5 (G:Stc) (C:Cal) (sc:Scope) (d:Nat) (t:Tg) (x:Expr):Prop :=
 ∀ (A:Around) (E:Value→Shared→Prop) (env:Env) (ρ:Fr) (σ:St) (K:Fr→Prop) (s:Shared) (v:V) (w:Value),AOk A d→env.scope=sc→iv env→FR G σ env ρ s.heap→Rel G σ s.heap→VR G s.heap v w →
  lq t v σ ρ K→wpAny G.M A (assign x env w) (fun _ s'=>∃ ρ' h' tk,s'={ s with heap:=h',toks:=tk }∧K ρ'∧FR G σ env ρ' h'∧Rel G σ h'∧Evo (envX env) σ s.heap σ h') E s
noncomputable def isTup (x:Expr):Bool:=dX 25 x
noncomputable def dA (x:Expr):List Str:=bif dX 23 x then [ll x] else bif dX 25 x then sE (kids x) else []
noncomputable def tj (G:Stc) (C:Cal) (sc:Scope) (d:Nat) (t:Tg) (x:Expr):Prop :=
 ∀ (A:Around) (E:Value→Shared→Prop) (X:List Addr) (env:Env) (ρ:Fr) (σ:St) (K:Fr→Prop) (s:Shared) (v:V) (w:Value),env.locals∈X→(∀ y∈dA x,∀ c,env.cells.lookup y=some c→c∈X)→AOk A d→env.scope=sc→iv env→FR G σ env ρ s.heap→Rel G σ s.heap→VR G s.heap v w →
  lq t v σ ρ K→wpAny G.M A (assign x env w) (fun _ s'=>∃ ρ' h' tk,s'={ s with heap:=h',toks:=tk }∧K ρ'∧FR G σ env ρ' h'∧Rel G σ h'∧Evo X σ s.heap σ h') E s
theorem tj.plain {t:Tg} {x:Expr} (h:tj G C sc d t x):u5 G C sc d t x:=fun A E env ρ σ K s v w=>h A E (envX env) env ρ σ K s v w (.head _) fun y _ c hc=>.tail _ (bw.mpr ⟨(y,c),mem_of_lookup hc,rfl⟩)
theorem BI {i:Nat} {x:Str} {k:NameKind} {pos:Pos} (hi:sc.names[i]?=some (x,k)) (hk:Own G x k):tj G C sc d (.var i) (.Name x pos):=fun A E X env ρ σ K s v w hXl hXc ao es eo F R vr h =>
 assign_Name (cB eo F R (by rw [es];exact hi) hk vr hXl (hXc x (.head _)) fun h' tk F' R' x=>⟨_,h',tk,rfl,h,F',R',x⟩)
theorem BJ {is:List Nat} {l:List Expr} {k:Nat} {pos:Pos} (U:wL G) (hn:mA G.cap sc is=true):tj G C sc d (.tup is) (.Tuple (pa sc is l) k pos):=fun A E X env ρ σ K s v w hXl hXc ao es eo F R vr h=>by
 obtain⟨vs,e,hl,q⟩:=h
 rw [assign_Tuple]
 refine ab (er ?_)
 unfold unpack
 rw [eZ,cI,hl]
 refine ab (br (ru U ao.handled R vr e fun ws h' vrs R' hk=>?_))
 refine xy es eo hXl is l hn hl hXc (F.evo (Evo.keeps hk)) R' vrs fun h2 tk2 F2 R2 x2=>?_
 exact⟨_,h2,tk2,rfl,q,F2,R2,(Evo.keeps hk).trans x2⟩
inductive jW (I:Itr G) (env:Env) (σ:St) (s:Shared) (T:V→Fr→St→(Fr→St→Prop)→Prop) (K:Fr→St→Prop) (n:Nat) (s':Shared):Prop
 | mk (i:Nat) (σ':St) (ρ':Fr) (h':Heap) (tk':Nat):n=I.vs.length-i→s'={ s with heap:=h',toks:=tk' }→I.pos i h'→FR G σ' env ρ' h'→Rel G σ' h'→Evo (envX env) σ s.heap σ' h'→(∀ b∈I.own,¬ σ'.dom b)→mX (I.vs.drop i) I.Gd T ρ' σ' K→jW I env σ s T K n s'
theorem jW.next {I:Itr G} {env:Env} {σ:St} {s:Shared} {T:V→Fr→St→(Fr→St→Prop)→Prop} {K:Fr→St→Prop} {i tk:Nat} {σ':St} {ρ':Fr} {h':Heap} (lt:i<I.vs.length) (hp:I.pos (i+1) h') (F:FR G σ' env ρ' h') (R:Rel G σ' h') (x:Evo (envX env) σ s.heap σ' h') (hd:∀ b∈I.own,¬ σ'.dom b) (q:mX (I.vs.drop (i+1)) I.Gd T ρ' σ' K) :
  ∃ m,m<I.vs.length-i∧jW I env σ s T K m { s with heap:=h',toks:=tk }:=⟨_,by exact ee .C .c (.e .a3 .D) .b1 (aa (bh .H .a .C lt)) (aa (bh .A .a .C lt)),i+1,σ',ρ',h',tk,rfl,rfl,hp,F,R,x,hd,q⟩
theorem Itr.xA {I:Itr G} {Y:List Addr} {σa σb:St} {ha hb:Heap} {j:Nat} (hX:∀ b∈I.own,b∉Y) (hp:I.pos j ha) (hd:∀ c∈I.own,¬ σa.dom c) (x:Evo Y σa ha σb hb):I.pos j hb∧∀ c∈I.own,¬ σb.dom c :=
 ⟨I.keep _ _ _ hp (fun c hc o e=>x.keep c o e (hd c hc) (hX c hc)) x.frz,fun c hc dm=>(x.dom c dm).elim (hd c hc) fun q=>by obtain⟨o,e⟩:=I.there _ _ hp c hc;rw [e] at q;cases q⟩
theorem tT {l:List V} {i:Nat} {v:V} (e:l[i]?=some v):i<l.length∧l.drop i=v::l.drop (i+1):=by
 have h:=cj.mp e
 refine⟨h.1,?_⟩
 rw [zw h.1,h.2]
theorem oU {x:Expr} (h:isTup x=true):∃ es k p,x=.Tuple es k p:=by
 cases x<;>first | exact⟨_,_,_,rfl⟩ | exact Bool.noConfusion h
theorem lZ {σ:St} {env:Env} {ρ:Fr} {h:Heap} {own:List Addr} (F:FR G σ env ρ h) (hn:∀ b∈own,h.get? b=none):∀ b∈own,b∉envX env:=fun b hb hm=>by
 rcases cu.mp hm with rfl | hm
 ·obtain⟨m,⟨o,es',ep,ho,_⟩,_⟩:=F.ns
  rw [hn _ hb] at ho;cases ho
 ·obtain⟨p,hp,rfl⟩:=bw.mp hm
  obtain⟨o,ho⟩:=F.allc p hp
  rw [hn _ hb] at ho;cases ho
theorem yM {σ:St} {h:Heap} {own:List Addr} (R:Rel G σ h) (hn:∀ b∈own,h.get? b=none):∀ b∈own,G.hb.get? b=none:=fun b hb=>by
 cases hq:G.hb.get? b with
 | none=>rfl
 | some o=>have:=R.base b o hq;rw [hn b hb] at this;cases this
theorem wB {t:Tg} {b:jt} {x:Expr} {ys:List Stmt} (ht:u5 G C sc d t x) (hb:c7 G C sc d b ys) {A:Around} {E:Value→Shared→Prop} {env:Env} {I:Itr G} {σ₀ σ:St} {s:Shared} {ρ:Fr} {K:Fl→Fr→St→Prop} {i tk:Nat} {h:Heap} {v:V} {w:Value} (ao:AOk A d) (es:env.scope=sc) (eo:iv env)
  (hX:∀ b∈I.own,b∉envX env) (lt:i<I.vs.length) (F:FR G σ env ρ h) (R:Rel G σ h) (x0:Evo (envX env) σ₀ s.heap σ h) (hp:I.pos (i+1) h) (hd:∀ b∈I.own,¬ σ.dom b) (vr:VR G h v w)
  (hf:lq t v σ ρ fun ρ=>fy C b ρ σ (sq (fun ρ σ=>mX (I.vs.drop (i+1)) I.Gd (fun v ρ σ k=>lq t v σ ρ fun ρ=>fy C b ρ σ (sq k K)) ρ σ fun ρ σ=>K .next ρ σ) K))
  {Qp:Flow→Shared→Prop} (h1:∀ s',(∃ m,m<I.vs.length-i∧jW I env σ₀ s (fun v ρ σ k=>lq t v σ ρ fun ρ=>fy C b ρ σ (sq k K)) (fun ρ σ=>K .next ρ σ) m s')→Qp .next s'∧Qp .cont s') (h2:∀ s',nk G env σ₀ s K .next s'→Qp .brk s') (h3:∀ w s',nk G env σ₀ s K (.ret w) s'→Qp (.ret w) s') :
  wpAny G.M A (assign x env w) (fun _ s₃=>wpAny G.M A (execs ys env) Qp E s₃) E { s with heap:=h,toks:=tk }:=by
 refine av (ht A _ env ρ σ _ { s with heap:=h,toks:=tk } v w ao es eo F R vr hf) (fun _ s₃ l=>?_) fun _ _ x=>x
 obtain⟨ρ₃,h₃,tk₃,rfl,q₃,F₃,R₃,x₃⟩:=l
 obtain⟨hp3,hnd3⟩:=I.xA hX hp hd x₃
 refine av (hb A _ env ρ₃ σ _ _ ao es eo F₃ R₃ q₃) (fun f s₄ l=>?_) fun _ _ x=>x
 obtain⟨fl,ρ₄,σ₄,h₄,tk₄,rfl,a,q₄,F₄,R₄,x₄⟩:=l
 obtain⟨hp4,hnd4⟩:=I.xA hX hp3 hnd3 x₄
 have x5:=(x0.trans x₃).trans x₄
 cases a with
 | next=>exact(h1 _ (jW.next lt hp4 F₄ R₄ x5 hnd4 q₄)).1
 | cont=>exact(h1 _ (jW.next lt hp4 F₄ R₄ x5 hnd4 q₄)).2
 | brk=>exact h2 _ ⟨.next,ρ₄,σ₄,h₄,tk₄,rfl,.next,q₄,F₄,R₄,x5⟩
 | ret v=>exact h3 _ _ ⟨_,ρ₄,σ₄,h₄,tk₄,rfl,.ret v,q₄,F₄,R₄,x5⟩
theorem xQ {t:Tg} {it:It} {b:jt} {x y:Expr} {ys:List Stmt} {pos:Pos} (ht:u5 G C sc d t x) (hi:uz G C sc d (isTup x) it y) (hb:c7 G C sc d b ys) (hs:∀ env v,foldedSetIterable y env v=pure v) :
  tu G C sc d (.each t it b) (.For x y ys [] pos):=fun A E env ρ σ K s ao es eo F R h=>by
 refine wpAny_For (av (hi A E env ρ σ _ s ao es eo F R h) (fun v s₁ h₁=>av h₁ (fun itv s₂ l=>?_) fun _ _ x=>x) fun _ _ x=>x) (hs env)
 obtain⟨I,σ₁,h₁,tk,rfl,rfl,htup,hf,hp,r,x₁,hnew,hnd⟩:=l
 have hbase:=yM R hnew
 have hX:=lZ F hnew
 refine codeAny_forLoop_any (jW I env σ s (fun v ρ σ k=>lq t v σ ρ fun ρ=>fy C b ρ σ (sq k K)) fun ρ σ=>K .next ρ σ) ?_ (I.vs.length-0)
  ⟨0,σ₁,ρ,h₁,tk,rfl,rfl,hp,F.evo x₁,r,x₁.wide env,hnd,hf⟩
 rintro n s' ⟨i,σ',ρ',h',tk',rfl,rfl,hp',F',R',x',hnd',hf'⟩
 cases hq:I.vs[i]? with
 | none =>
  rw [List.drop_eq_nil_of_le (jg.mp hq)] at hf'
  refine I.stop A _ { s with heap:=h',toks:=tk' } σ' i _ ao.handled R' hf'.1 hp' hq fun h2 tk2 hk2=>?_
  exact wpAny_execs_nil ⟨.next,ρ',σ',h2,tk2,rfl,.next,hf'.2,F'.but hk2 (I.frz hp' hk2) hX,I.rel hp' R' hnd' hbase hk2,x'.but hk2 hnew⟩
 | some v =>
  obtain⟨hlt,hcons⟩:=tT hq
  rw [hcons] at hf'
  refine av (I.next A _ { s with heap:=h',toks:=tk' } σ' i v x ?Q ao.handled R' hf'.1 hp' hq (fun q=>oU (htup q)) ?k) (fun r s₁ hr=>?m) fun _ _ x=>x
  case m =>
   cases r with
   | none=>exact hr.elim
   | some w=>exact hr
  case k =>
   intro w h2 tk2 vr hp2 hk2
   exact wB ht hb ao es eo hX hlt (F'.but hk2 (I.frz hp' hk2) hX) (I.rel hp' R' hnd' hbase hk2) (x'.but hk2 hnew) hp2 hnd' vr hf'.2 (fun _ q=>⟨q,q⟩) (fun _ q=>q) fun _ _ q=>q
end
end MP
end
section
set_option tactic.hygienic true
namespace MP
open PySem PyProof.Rows
noncomputable def ownsTuple (n:String):Bool:=["enumerate","zip","dict_itemiterator","dict_reverseitemiterator","odict_iterator","itertools.zip_longest","itertools.pairwise"].contains n
section
variable {G:Stc} {A:Around} {E:Value→Shared→Prop} {s:Shared}
theorem mz {it:Addr} {o:Obj} {n:String} {target:Expr} {w:Value} {Q:Unit→Shared→Prop} (ho:s.heap.get? it=some o) (hc:o.cls=.type n) (hn:ownsTuple n=false) (h:Q () s):wpAny G.M A (letOwnedTupleGo target (.ref it) w) Q E s:=by
 have go:wpAny G.M A (do
   let (.ref r,.ref a):=(Value.ref it,w) | return
   let o←load r
   match o.cls,o.data with
   | .type n,.fields vs=>if (ownsTuple n&&vs[0]?==some (rawInt a))=true then do rule "for.unpacks-the-owned-tuple";updateField r 0 .none else pure ()
   | _,_=>pure ():Sem Unit) Q E s:=by
  cases w with
  | ref a =>
   refine ab (xk ho ?_)
   rw [hc]
   cases o.data with
   | fields vs =>
    show wpAny _ _ (if (ownsTuple n&&vs[0]?==some (rawInt a))=true then _ else _) _ _ _
    rw [hn,Bool.false_and,aw (by decide)]
    exact af h
   | _=>exact af h
  | _=>exact af h
 cases target<;>first | exact go | exact af h
theorem fh {o:Obj} {n:String} {vs:Array Value} (hc:o.cls=.type n) (hd:o.data=.fields vs) (h1:n ≠ "builtin_function_or_method") (h2:n ≠ "method-wrapper"):¬ Frz o:=by
 rintro (⟨_,_,_,h⟩ | ⟨h | h,_⟩ | ⟨_,h⟩)
 ·rw [hd] at h;cases h
 ·rw [hc] at h;injection h with h;exact h1 h
 ·rw [hc] at h;injection h with h;exact h2 h
 ·rw [hd] at h;cases h
noncomputable def CV (G:Stc) (it l:Addr) (hne:l≠it) (xs:List V):Itr G where
 it:=it
 own:=[it]
 vs:=xs
 Gd:=fun τ=>τ.L l=some xs
 tup:=false
 pos:=fun i h=>h.IsListIter it l i
 keep:=fun i h h' zz3 hk _=>by obtain⟨o,ho,r⟩:=zz3;exact⟨o,hk it (.head _) o ho,r⟩
 there:=fun i h zz2 b hb=>by obtain⟨o,ho,r⟩:=zz2;obtain rfl:=aj.mp hb;exact⟨o,ho⟩
 self:=fun A E s i Q hp q=>wpAny_pyIter_listiter hp q
 nofrz:=fun i h zz2 b hb o' e=>by
  obtain⟨o,ho,hc,hd⟩:=zz2
  obtain rfl:=aj.mp hb
  obtain rfl:=ae (ho.symm.trans e)
  exact fh hc hd (by decide) (by decide)
 next:=fun A E s σ i v target Q hh R hg hp hv htup k=>by
  obtain⟨ws,n,hl,hvs⟩:=R.L l xs hg
  obtain⟨w,hw,vr⟩:=hvs.get hv
  refine wpAny_pyNext_list_item hp hl.isList (by simpa using hw) fun h' hp' hs=>?_
  obtain⟨o,ho,hc,hd⟩:=id hp'
  have hf:gu s.heap h':=nf hs fun o e=>by
   obtain⟨o',ho',hc',hd'⟩:=id hp
   obtain rfl:=ae (ho'.symm.trans e)
   exact fh hc' hd' (by decide) (by decide)
  refine mz ho hc (by decide) (k w h' s.toks (vr.mono hf) hp' fun b o hb e=>?_)
  rw [hs.2 b (fun q=>hb (q▸.head _))];exact e
 stop:=fun A E s σ i Q hh R hg hp hv k=>by
  obtain⟨ws,n,hl,hvs⟩:=R.L l xs hg
  have hlen:=hvs.length
  refine wpAny_pyNext_list_end hh hp hl.isList (by simpa [← hlen] using hv) fun h' he=>?_
  exact k h' s.toks fun b o hb e=>he b o (fun q=>hb (q▸.head _)) e
end
end MP
end
section
namespace MP
open PySem PyProof.Rows
theorem slot_set_iter:Slot "set" "__iter__" "set.__iter__" :=
 .of (owner:="set") (n:="__iter__") (by rw [fm,dg];kernel_rfl) (by decide +kernel) (by decide +kernel) (by decide +kernel)
  (by first | exact .inl (by decide +kernel) | exact .inr (by decide +kernel)) (by rw [me];kernel_rfl)
theorem jC:entryFor table "set.__iter__"=some Builtin.«frozenset.__iter__» :=
 entryFor_alias (id':="frozenset.__iter__") (by kernel_rfl) (by first | rfl | decide +kernel | (unfold String.splitOn;simp +decide [String.splitOnAux])) (by decide +kernel) (by kernel_rfl)
theorem kI (a:Value):argsOk "set.__iter__" ⟨[a],[]⟩:=by unfold argsOk;kernel_rfl
theorem jf:Slot "set_iterator" "__next__" "set_iterator.__next__" :=
 .of (owner:="set_iterator") (n:="__next__") (by rw [fm,dg];kernel_rfl) (by decide +kernel) (by decide +kernel) (by decide +kernel)
  (by first | exact .inl (by decide +kernel) | exact .inr (by decide +kernel)) (by rw [me];kernel_rfl)
theorem tg:entryFor table "set_iterator.__next__"=some Builtin.«set_iterator.__next__»:=entryFor_of_fast (by kernel_rfl)
theorem ud (a:Value):argsOk "set_iterator.__next__" ⟨[a],[]⟩:=by unfold argsOk;kernel_rfl
theorem tw:Slot "set_iterator" "__iter__" "set_iterator.__iter__" :=
 .of (owner:="set_iterator") (n:="__iter__") (by rw [fm,dg];kernel_rfl) (by decide +kernel) (by decide +kernel) (by decide +kernel)
  (by first | exact .inl (by decide +kernel) | exact .inr (by decide +kernel)) (by rw [me];kernel_rfl)
theorem cO:entryFor table "set_iterator.__iter__"=some Builtin.«dict_keyiterator.__iter__» :=
 entryFor_alias (id':="dict_keyiterator.__iter__") (by kernel_rfl) (by first | rfl | decide +kernel | (unfold String.splitOn;simp +decide [String.splitOnAux])) (by decide +kernel) (by kernel_rfl)
theorem eE (a:Value):argsOk "set_iterator.__iter__" ⟨[a],[]⟩:=by unfold argsOk;kernel_rfl
theorem j9 {α:Type}:∀ (l:List α) {i:Nat} (h:i<l.length),(l[i]::l.eraseIdx i).Perm l
 | x::l,0,_=>.refl _
 | x::l,i+1,h=>(List.Perm.swap _ _ _).trans ((j9 l (tm h)).cons x)
theorem sY {α:Type} (next:Nat→Nat):∀ (f k:Nat) (l:List α) (out:Array α),l.length=f→(pickOrder.go next f k l out).toList.Perm (out.toList++l)
 | 0,k,l,out,h=>by
  obtain rfl:=List.length_eq_zero_iff.mp h
  unfold pickOrder.go
  rw [fc]
 | f+1,k,l,out,h=>by
  have hlt:next k%l.length<l.length:=yr _ (by exact bh .N [[1,-1]] .a8 h)
  unfold pickOrder.go
  rw [bc hlt]
  dsimp only
  refine(sY next f (k+1) _ _ (by rw [List.length_eraseIdx_of_lt hlt];(exact gr .B .x (.e .C .L) (.e .M .C) h (aa (bh .R .a .a7 hlt))))).trans ?_
  rw [Array.toList_push,List.append_assoc]
  exact(List.Perm.append_left _ (j9 l hlt))
theorem vD {α:Type} (next:Nat→Nat) (xs:Array α):(pickOrder next xs).toList.Perm xs.toList:=by
 have:=sY next xs.size 0 xs.toList #[] (by simp)
 simpa [pickOrder] using this
section
variable {G:Stc} {A:Around} {E:Value→Shared→Prop} {s:Shared}
noncomputable def ur (G:Stc) (a:Addr) (es:Array (Int × Value)) (ep:Nat):Array (Int × Value):=if G.w.params.followText "set-order" then pickOrder (G.w.params.setOrder a ep) es else es
theorem cG (a:Addr) (es:Array (Int × Value)) (ep:Nat):(ur G a es ep).toList.Perm es.toList:=by
 unfold ur
 split
 ·exact vD _ _
 ·exact .refl _
theorem cF (a:Addr) (es:Array (Int × Value)) (ep:Nat):(ur G a es ep).size=es.size:=by
 rw [← ef,(cG a es ep).length_eq,ef]
theorem yi {Q:Bool→Shared→Prop} (h:Q (G.w.params.followText "set-order") s):wpAny G.M A setsByText Q E s:=by
 unfold setsByText
 exact ab (xl (af h))
theorem iG {a:Addr} {o:Obj} {es:Array (Int × Value)} {ep slot i:Nat} {t:SetTable} {Q:Option (Value × Nat)→Shared→Prop} (ho:s.heap.get? a=some o) (hd:o.data=.set es ep t) (hf:t.fits es.size=true) (hT:Tbl G.led t)
  (hs:G.led=true→SetTable.below t.place slot=i) (h:∀ slot',(i<es.size→G.led=true→SetTable.below t.place slot'=i+1)→Q (((ur G a es ep)[i]?).map fun e=>(e.2,slot')) s):wpAny G.M A (setNext a slot i ep) Q E s:=by
 have hz:t.place.size=es.size:=by
  unfold SetTable.fits at hf
  exact jw.mp (qh.mp hf).1
 unfold setNext
 refine ab (gD ho hd hf ?_)
 dsimp only
 refine ab (yi ?_)
 cases hb:G.w.params.followText "set-order" with
 | true =>
  have hl:G.led=false:=by show(!_)=false;rw [hb];rfl
  simp only [bne_self_eq_false,cy,↓reduceIte,pure_bind]
  unfold setWalk
  refine ab (ab (gD ho hd hf ?_))
  dsimp only
  refine ab (yi ?_)
  rw [hb]
  simp only [↓reduceIte]
  refine ab (xl (af (af ?_)))
  have:=h slot (fun _ q=>by rw [hl] at q;cases q)
  unfold ur at this
  rw [hb] at this
  exact this
 | false =>
  have hl:G.led=true:=by show(!_)=true;rw [hb];rfl
  have hdr:(!t.plain&&decide (es.size>1))=false:=by rw [hT.plain];rfl
  have hle:(!t.led&&!es.isEmpty)=false:=by rw [hT.led,hl];rfl
  simp only [cy,↓reduceIte]
  show wpAny _ _ (if (!t.plain&&decide (es.size>1))=true then _ else _) _ _ s
  rw [hdr,aw (by decide)]
  refine ab ?_
  show wpAny _ _ (if (!t.led&&!es.isEmpty)=true then _ else _) _ _ s
  rw [hle,aw (by decide)]
  refine af ?_
  have e0:ur G a es ep=es:=by unfold ur;rw [hb];rfl
  rw [hs hl]
  rw [e0] at h
  rcases Nat.lt_or_ge i es.size with c | c
  ·have e1:es[i]?=some es[i]:=ey c
   have c2:i<t.place.size:=by(exact gr .C .o (.e .B .C) .U hz c)
   have e2:t.place[i]?=some t.place[i]:=ey c2
   have:=h (t.place[i]+1) fun _ _=>rR hT.rise e2
   rw [e1] at this
   rw [e1,e2]
   exact af this
  ·have:=h slot fun q=>by(exact fun q1=>(gr .a8 .f .M (.l .B .C) c q))
   rw [fQ c] at this
   rw [fQ c]
   exact af this
noncomputable def qx (h:Heap) (it a:Addr) (slot i n ep:Nat):Prop :=
 ∃ o,h.get? it=some o∧o.cls=.type "set_iterator"∧o.data=.fields #[.int slot 0,.int i 0,.ref a,.int n 0,.int ep 0]
theorem qx.typeIs {it a slot i n ep} (x:qx s.heap it a slot i n ep):s.TypeIs (.ref it) "set_iterator":=by
 obtain⟨o,ho,hc,_⟩:=x;exact⟨o,ho,hc⟩
theorem mQ {it a:Addr} {slot i n ep:Nat} {Q:Value→Shared→Prop} (hit:qx s.heap it a slot i n ep) (h:Q (.ref it) s):wpAny G.M A (pyIter (.ref it)) Q E s:=by
 refine gE hit.typeIs tw (gc tw hit.typeIs cO ?_ (eE _))
 show wpAny _ _ (ret (.ref it)) _ _ s
 exact af ⟨_,rfl,"set_iterator",_,hit.typeIs,jf.lookup,h⟩
theorem zI {a:Addr} {o:Obj} {es:Array (Int × Value)} {ep:Nat} {t:SetTable} {Q:Value→Shared→Prop} (ho:s.heap.get? a=some o) (hc:o.cls=.type "set") (hd:o.data=.set es ep t) (hf:t.fits es.size=true) (hT:Tbl G.led t)
  (h:Q (.ref s.heap.objs.size) { s with heap:=s.heap.push { cls:=.type "set_iterator",data:=.fields #[.int (0:Nat) 0,.int (0:Nat) 0,.ref a,.int es.size 0,.int ep 0] } }):wpAny G.M A (pyIter (.ref a)) Q E s:=by
 have hTy:s.TypeIs (.ref a) "set":=⟨o,ho,hc⟩
 refine gE hTy slot_set_iter (gc slot_set_iter hTy jC ?_ (kI _))
 unfold Builtin.«frozenset.__iter__»
 refine ab (af ?_)
 refine ab ?_
 unfold Builtin.Frozenset.sizeOf
 refine ab (wpAny_setEntries_of ho hd hf (af ?_))
 refine ab ?_
 unfold setDrawn
 refine ab (gD ho hd hf ?_)
 dsimp only
 refine ab (yi ?_)
 have hdr:(!G.w.params.followText "set-order" && (!t.plain&&decide (es.size>1)))=false:=by rw [hT.plain];simp
 refine af ?_
 show wpAny _ _ (if (!G.w.params.followText "set-order" && (!t.plain&&decide (es.size>1)))=true then _ else _) _ _ s
 rw [hdr,aw (by decide)]
 refine ab (af ?_)
 refine ab (wpAny_setEpoch_of ho hd hf ?_)
 refine ab (gx (af ⟨_,rfl,"set_iterator",_,⟨_,bq _ rfl,rfl⟩,jf.lookup,?_⟩))
 exact h
theorem kC {it a:Addr} {o:Obj} {es:Array (Int × Value)} {ep slot i:Nat} {t:SetTable} {x:Int × Value} {Q:Option Value→Shared→Prop} (hit:qx s.heap it a slot i es.size ep) (ho:s.heap.get? a=some o) (hd:o.data=.set es ep t) (hf:t.fits es.size=true) (hT:Tbl G.led t)
  (hs:G.led=true→SetTable.below t.place slot=i) (hx:(ur G a es ep)[i]?=some x)
  (h:∀ slot' h',qx h' it a slot' (i+1) es.size ep→(G.led=true→SetTable.below t.place slot'=i+1)→Heap.SameBut it s.heap h'→Q (some x.2) { s with heap:=h' }):wpAny G.M A (pyNext (.ref it)) Q E s:=by
 obtain⟨oi,hoi,hc,hdi⟩:=id hit
 have hlt:i<es.size:=by
  obtain⟨q,_⟩:=kr.mp hx
  rw [cF] at q;exact q
 unfold pyNext
 refine ab (wpAny_attempt (oq (name:=Str.ofString "__next__") hit.typeIs jf
  (gc jf hit.typeIs tg ?_ (ud _))))
 unfold Builtin.«set_iterator.__next__»
 refine ab (af ?_)
 refine ab (wpAny_fieldsOf hoi hdi ?_)
 dsimp only
 refine ab (wpAny_setEntries_of ho hd hf ?_)
 rw [aw (by simp)]
 refine ab (m:=setNext a _ _ _) (iG (i:=i) (slot:=slot) ho hd hf hT hs fun slot' q=>?_)
 rw [hx]
 dsimp only [Option.map_some]
 refine ab (eI hoi hdi (by simp) ?_)
 have g1:=qo (Obj.mapFields (·.setIfInBounds 0 (rawInt slot'))) hoi (nS (pv hdi _))
 have d1:=pv hdi (·.setIfInBounds 0 (rawInt slot'))
 refine ab (eI (s:={ s with heap:=s.heap.update it (Obj.mapFields (·.setIfInBounds 0 (rawInt slot'))) }) g1 d1 (by simp) (af ⟨x.2,rfl,af (h slot' _ ?_ (q hlt) ((ji ..).trans (ji ..)))⟩))
 exact⟨_,qo _ g1 (nS (pv d1 _)),(Obj.cls_mapFields ..).trans ((Obj.cls_mapFields ..).trans hc),by
  rw [pv d1];simp [rawInt]⟩
theorem mI {it a:Addr} {o:Obj} {es:Array (Int × Value)} {ep slot i:Nat} {t:SetTable} {Q:Option Value→Shared→Prop} (hh:A.handled=none) (hit:qx s.heap it a slot i es.size ep) (ho:s.heap.get? a=some o) (hd:o.data=.set es ep t) (hf:t.fits es.size=true) (hT:Tbl G.led t)
  (hs:G.led=true→SetTable.below t.place slot=i) (hx:(ur G a es ep)[i]?=none)
  (h:∀ h',Heap.ExtBut it s.heap h'→Q none { s with heap:=h' }):wpAny G.M A (pyNext (.ref it)) Q E s:=by
 obtain⟨oi,hoi,hc,hdi⟩:=id hit
 unfold pyNext
 refine ab (wpAny_attempt (oq (name:=Str.ofString "__next__") hit.typeIs jf
  (gc jf hit.typeIs tg ?_ (ud _))))
 unfold Builtin.«set_iterator.__next__»
 refine ab (af ?_)
 refine ab (wpAny_fieldsOf hoi hdi ?_)
 dsimp only
 refine ab (wpAny_setEntries_of ho hd hf ?_)
 rw [aw (by simp)]
 refine ab (m:=setNext a _ _ _) (iG (i:=i) (slot:=slot) ho hd hf hT hs fun slot' q=>?_)
 rw [hx]
 dsimp only [Option.map_none]
 refine ab (eI hoi hdi (by simp) ?_)
 show wpAny _ _ (newExc (.type "StopIteration") []>>=_) _ _ _
 refine ab ?_
 simp only [newExc,newTuple]
 refine ab (gx ?_ (by size_fits))
 refine ab (m:=firstArgMember _ _) (dj (a:=Value.none) (by first | rfl | (simp only [firstArgMember];rfl)) ?_)
 refine gx ?_ (by size_fits)
 simp only [raiseNew]
 refine ab (wpAny_handled ?_)
 rw [show A.in1.handled=none from hh]
 refine ab (af (wpAny_throw ?_))
 refine ab (wpAny_isInstance (T:="StopIteration") (b:=true) ⟨_,bq _ rfl,rfl⟩ isSubtype_stop ?_)
 exact af (h _ (((ji ..).extBut.push _).push _))
end
end MP
end
section
namespace MP
open PySem PyProof.Rows
section
variable {G:Stc} {A:Around} {E:Value→Shared→Prop} {s:Shared} {σ:St}
theorem my {env:Env} {x:Str} {pos:Pos} {v:Value} {Q:Value→Shared→Prop} (K:GOk G) (eo:iv env) (R:Rel G σ s.heap) (hx:env.scope.names.lookup x=some .globalImplicit) (hn:gk x=true) (hv:G.gl x=some v) (h:Q v s):wpAny G.M A (eval (.Name x pos) env) Q E s:=by
 have hx':(x==("__debug__":Str))=false:=by simp only [gk,cg,dp] at hn;exact hn.1
 refine Calls.Name_function_global eo.kind hx ?_ hx'
 obtain⟨mg,mb,hg,hb,e⟩:=K.names
 rw [e] at hv
 have hg':s.heap.Ns env.globals mg:=by rw [eo.globals];exact hg.keeps R.base
 have hb':s.heap.Ns env.builtins mb:=by rw [eo.builtins];exact hb.keeps R.base
 cases hq:mg x with
 | some u=>rw [hq] at hv;cases hv;exact Calls.loadGlobal_global hg' hq h
 | none=>rw [hq] at hv;exact Calls.loadGlobal_builtin hg' hq hb' hv h
end
end MP
end
section
namespace MP
open PySem PyProof.Rows
noncomputable def zG (G:Stc) (it:Addr) (a c:Int) (n:Nat) (xs:List V) (hl:xs.length=n) (hx:∀ i,i<n→xs[i]?=some (.int (a+c*i))):Itr G where
 it:=it
 own:=[it]
 vs:=xs
 Gd:=fun _=>True
 tup:=false
 pos:=fun i h=>i≤n∧IsRangeIter h it (a+c*i) (n-i) c
 keep:=fun i h h' zz3 hk _=>by obtain⟨hi,hp⟩:=zz3;exact⟨hi,hk it (.head _) _ hp⟩
 there:=fun i h zz2 b hb=>by obtain⟨_,hp⟩:=zz2;obtain rfl:=aj.mp hb;exact⟨_,hp⟩
 self:=fun A E s i Q hp q=>wpAny_pyIter_rangeiter hp.2 q
 nofrz:=fun i h zz2 b hb o' e=>by
  obtain⟨_,hp⟩:=zz2
  obtain rfl:=aj.mp hb
  obtain rfl:=ae (hp.symm.trans e)
  exact fh rfl rfl (by decide) (by decide)
 next:=fun A E s σ i v target Q hh R hg hp hv htup k=>by
  obtain⟨hi,hp⟩:=hp
  have hlt:i<n:=by rw [← hl];exact(cj.mp hv).1
  obtain rfl:v=.int (a+c*i):=ae (hv.symm.trans (hx i hlt))
  refine wpAny_pyNext_range_item hp (by exact bh (.il .O .V) .a .a7 hlt) fun h' hp' hs=>?_
  have e:a+c*i+c=a+c*((i+1:Nat):Int):=by push_cast;rw [Int.mul_add];(exact JL (.ie (.a (.a .A .B) .C) (.a .A (.a .B (.r .C 1)))) .j)
  have e2:(n:Int)-i-1=n-((i+1:Nat):Int):=by(exact xi (.ie (.s .V .U) (.s .L (.t .L))) .j)
  rw [e,e2] at hp'
  refine mz hp' rfl (by decide) (k _ h' _ (.int _ _) ⟨hlt,hp'⟩ fun b o hb e=>?_)
  rw [hs.2 b (fun q=>hb (q▸.head _))];exact e
 stop:=fun A E s σ i Q hh R hg hp hv k=>by
  obtain⟨hi,hp⟩:=hp
  have hge:n≤i:=by rw [← hl];exact jg.mp hv
  refine wpAny_pyNext_range_end hh hp (by exact bh (.ik .V .O) .a .A hge) fun h' he=>?_
  exact k h' s.toks fun b o hb e=>he b o (fun q=>hb (q▸.head _)) e
theorem o8 {a b c:Int} (ha:a.natAbs<2^40) (hb:b.natAbs<2^40) (hc:0<c) (hc':c<2^40):Builtin.Range.small a b c=true:=by
 have hs:0≤Builtin.Range.rangeSize a b c∧Builtin.Range.rangeSize a b c≤2^42:=by
  unfold Builtin.Range.rangeSize
  rw [bx hc]
  split
  ·rename_i h
   have h0:0≤b-a-1:=by(exact kc (.ik .O (.s (.s .A .B) .U)) .a (.il .B .A) h)
   have h1:=Int.ediv_nonneg h0 (Int.le_of_lt hc)
   have h2:=Int.ediv_le_self c h0
   generalize (b-a-1)/c=X at h1 h2 ⊢
   omega
  ·(exact⟨(zu (.ik .O .O) .i),(zu (.ik .O (.n (2^42))) .i)⟩)
 unfold Builtin.Range.small Builtin.Range.rangeFitsLong
 rw [bx hc]
 simp only [cg,lz,fw]
 refine⟨⟨⟨⟨by exact⟨((Ar.nab _).elim (fun q1=>(ke .a0 .a .T q1.1)) fun q1=>(pk .a0 .c .K .aQ ha q1.2)),((Ar.nab _).elim (fun q1=>(pk .aM .c .K .W ha q1.2)) fun q1=>(ke .aM .a .aK q1.1))⟩,by exact⟨((Ar.nab _).elim (fun q1=>(ke .a0 .a .T q1.1)) fun q1=>(pk .a0 .c .K .aQ hb q1.2)),((Ar.nab _).elim (fun q1=>(pk .aM .c .K .W hb q1.2)) fun q1=>(ke .aM .a .aK q1.1))⟩⟩,by exact⟨(ke .a0 .a .b6 hc),(ke .aM .a (.il .A (.n (2^40))) hc')⟩⟩,by exact⟨(ke .a0 .a .T hs.1),(ke .aM .a (.ik .A (.n (2^42))) hs.2)⟩⟩,.inr (by exact⟨((Ar.nab _).elim (fun q1=>(wu (.ik (.g .M) .X) .b (.il .O .B) .T hc q1.1)) fun q1=>(EZ (.ik (.g .M) .X) .k .K (.il .O .B) .aQ hb hc q1.2)),((Ar.nab _).elim (fun q1=>(EZ (.il .X .M) .k .K (.il .B (.n (2^40))) .W hb hc' q1.2)) fun q1=>(wu (.il .X .M) .b (.il .B (.n (2^40))) .aK hc' q1.1))⟩)⟩
section
variable {G:Stc} {C:Cal} {sc:Scope} {d:Nat}
theorem qa {A:Around} {E:Value→Shared→Prop} {s:Shared} {env:Env} {ρ:Fr} {σ:St} {x:Str} {T:String} {es:Exs} {args:List Expr} {p pos:Pos} {P:List V→St→Prop} {Q:Value→Shared→Prop} (K:GOk G) (hs:noStar args=true) (hes:kg G C sc d es args) (hx:sc.names.lookup x=some .globalImplicit) (hn:gk x=true) (hv:G.gl x=some (.type T))
  (ao:AOk A d) (hsc:env.scope=sc) (eo:iv env) (F:FR G σ env ρ s.heap) (R:Rel G σ s.heap) (h:so C es ρ σ P)
  (k:∀ vs σ₁ h₁ tk ws,P vs σ₁→VRs G h₁ vs ws→Rel G σ₁ h₁→Evo [] σ s.heap σ₁ h₁→wpAny G.M A (call (.type T) ws) Q E { s with heap:=h₁,toks:=tk }) :
  wpAny G.M A (eval (.Call (.Name x p) args [] pos) env) Q E s :=
 Call_ (my K eo R (by rw [hsc];exact hx) hn hv (PyProof.Rows.callWith_type (ja hs pos env) (nh (ja hs pos env) (k9 (hes A E env ρ σ P s pos ao hsc eo F R h) k))))
theorem cC {A:Around} {E:Value→Shared→Prop} {s:Shared} {env:Env} {ρ:Fr} {σ:St} {x:Str} {id:String} {es:Exs} {args:List Expr} {p pos:Pos} {P:List V→St→Prop} {Q:Value→Shared→Prop} (K:GOk G) (hs:noStar args=true) (hes:kg G C sc d es args) (hx:sc.names.lookup x=some .globalImplicit) (hn:gk x=true) (hv:G.gl x=some (.builtin id))
  (ao:AOk A d) (hsc:env.scope=sc) (eo:iv env) (F:FR G σ env ρ s.heap) (R:Rel G σ s.heap) (h:so C es ρ σ P)
  (k:∀ vs σ₁ h₁ tk ws,P vs σ₁→VRs G h₁ vs ws→Rel G σ₁ h₁→Evo [] σ s.heap σ₁ h₁→wpAny G.M A (call (.builtin id) ws) Q E { s with heap:=h₁,toks:=tk }) :
  wpAny G.M A (eval (.Call (.Name x p) args [] pos) env) Q E s :=
 Call_ (my K eo R (by rw [hsc];exact hx) hn hv (ow hs hes ao hsc eo F R h fun vs σ₁ h₁ tk ws q vr r x=>k vs σ₁ h₁ tk ws q vr r x))
theorem iK {A:Around} {E:Value→Shared→Prop} {σ₀ σ:St} {s₀:Shared} {a b c:Int} {t u v:Tok} {xs:List V} {n:Nat} {P:List V→(St→Prop)→St→Prop} {tupled:Bool} {tk:Nat} {h₁:Heap} (R:Rel G σ h₁) (x:Evo [] σ₀ s₀.heap σ h₁) (ha:a.natAbs<2^40) (hb:b.natAbs<2^40) (hc:0<c) (hc':c<2^40)
  (hsz:Builtin.Range.rangeSize a b c=n) (hl:xs.length=n) (hx:∀ i,i<n→xs[i]?=some (.int (a+c*i))) (q:P xs (fun _=>True) σ) :
  wpAny G.M A (pyIter (.ref h₁.objs.size)) (pS G σ₀ s₀ tupled P) E { s₀ with heap:=h₁.push { cls:=.type "range",data:=.fields #[.int a t,.int b u,.int c v] },toks:=tk }:=by
 refine wpAny_pyIter_range (IsRange.new ..) (o8 ha hb hc hc') ?_
 have hk:∀ z o,h₁.get? z=some o→((h₁.push { cls:=.type "range",data:=.fields #[.int a t,.int b u,.int c v] }).push { cls:=.type "range_iterator",data:=.fields #[rawInt a,rawInt (Builtin.Range.rangeSize a b c),rawInt c] }).get? z=some o:=fun z o e=>ak _ (ak _ e)
 have hsz1:(h₁.push { cls:=.type "range",data:=.fields #[.int a t,.int b u,.int c v] }).objs.size=h₁.objs.size+1:=iz ..
 have hnone:h₁.get? (h₁.objs.size+1)=none:=yw (by exact ic (.k .A .M) .i)
 refine⟨zG G (h₁.objs.size+1) a c n xs hl hx,σ,_,tk,rfl,by rw [← hsz1];rfl,fun h=>(nomatch h),q,⟨cf _,?_⟩,R.keeps hk,x.trans (Evo.keeps hk),fun z hz=>?_,fun z hz dm=>?_⟩
 ·rw [← hsz1]
  have:=bq (h₁.push { cls:=.type "range",data:=.fields #[.int a t,.int b u,.int c v] }) (o:={ cls:=.type "range_iterator",data:=.fields #[rawInt a,rawInt (Builtin.Range.rangeSize a b c),rawInt c] }) rfl
  show IsRangeIter _ _ (a+c*((0:Nat):Int)) ((n:Int)-((0:Nat):Int)) c
  rw [show a+c*((0:Nat):Int)=a by simp,show(n:Int)-((0:Nat):Int)=n by simp,← hsz]
  exact this
 ·obtain rfl:=aj.mp hz
  cases hq:s₀.heap.get? (h₁.objs.size+1) with
  | none=>rfl
  | some o=>obtain⟨o',e'⟩:=x.there _ _ hq;rw [hnone] at e';cases e'
 ·obtain rfl:=aj.mp hz
  obtain⟨o,e⟩:=R.nv dm
  rw [hnone] at e;cases e
theorem iZ (a b:Int) (n:Nat) (hn:n=(b-a).toNat):(qr a b).length=n∧∀ i,i<n→(qr a b)[i]?=some (.int (a+1*i)):=by
 subst hn
 refine⟨by simp [qr],fun i hi=>?_⟩
 unfold qr
 rw [az,List.getElem?_range hi]
 simp
theorem CZ {tupled:Bool} {e:Ex} {x:Str} {y:Expr} {p pos:Pos} (K:GOk G) (he:ct G C sc d e y) (hst:noStar [y]=true) (hx:sc.names.lookup x=some .globalImplicit) (hn:gk x=true) (hv:G.gl x=some (.type "range")) :
  uz G C sc d tupled (.rng1 e) (.Call (.Name x p) [y] [] pos):=fun A E env ρ σ P s ao es eo F R h=>by
 have hes:kg G C sc d (.cons e .nil) [y]:=fx he jo (di hst).1
 refine qa (P:=fun vs σ=>on1 vs fun v=>∃ n:Int,v=.int n∧n.natAbs<2^40∧P (qr 0 n) (fun _=>True) σ) K hst hes hx hn hv ao es eo F R h fun vs σ₁ h₁ tk ws q vr r x₁=>?_
 obtain⟨v,rfl,n,rfl,hb,q⟩:=dM (vs:=vs) q
 obtain⟨w,rfl,t,rfl⟩:=vr.one
 obtain⟨g1,g2⟩:=iZ 0 n _ rfl
 exact call_range_1 (iK r x₁ (by decide) hb (by decide) (by decide) (by rw [rangeSize_nat]) g1 g2 q)
theorem CY {tupled:Bool} {e f:Ex} {x:Str} {y z:Expr} {p pos:Pos} (K:GOk G) (he:ct G C sc d e y) (hf:ct G C sc d f z) (hst:noStar [y,z]=true) (hx:sc.names.lookup x=some .globalImplicit) (hn:gk x=true) (hv:G.gl x=some (.type "range")) :
  uz G C sc d tupled (.rng2 e f) (.Call (.Name x p) [y,z] [] pos):=fun A E env ρ σ P s ao es eo F R h=>by
 have hes:kg G C sc d (.cons e (.cons f .nil)) [y,z]:=fx he (fx hf jo (di (di hst).2).1) (di hst).1
 refine qa (P:=fun vs σ=>on2 vs fun v u=>∃ m n:Int,v=.int m∧u=.int n∧m.natAbs<2^40∧n.natAbs<2^40∧P (qr m n) (fun _=>True) σ) K hst hes hx hn hv ao es eo F R h fun vs σ₁ h₁ tk ws q vr r x₁=>?_
 obtain⟨v,u,rfl,m,n,rfl,rfl,ha,hb,q⟩:=iL (vs:=vs) q
 obtain⟨w,w',rfl,⟨t,rfl⟩,⟨t',rfl⟩⟩:=vr.two
 obtain⟨g1,g2⟩:=iZ m n _ rfl
 exact call_range_2 (iK r x₁ ha hb (by decide) (by decide) (by rw [rangeSize_nat]) g1 g2 q)
theorem VRs.three {h:Heap} {v u z:V} {ws:List Value} (x:VRs G h [v,u,z] ws):∃ w w' w'',ws=[w,w',w'']∧VR G h v w∧VR G h u w'∧VR G h z w'':=by
 obtain⟨w,us,e,a,r⟩:=x
 obtain⟨w',w'',e',b,c⟩:=VRs.two r
 exact⟨w,w',w'',e.trans (bu (w::·) e'),a,b,c⟩
end
end MP
end
section
namespace MP
open PySem PyProof.Rows
theorem zr:entryFor table "dict_itemiterator.__iter__"=some Builtin.«dict_keyiterator.__iter__» :=
 entryFor_alias (id':="dict_keyiterator.__iter__") (by kernel_rfl) (by first | rfl | decide +kernel | (unfold String.splitOn;simp +decide [String.splitOnAux])) (by decide +kernel) (by kernel_rfl)
noncomputable def qX:Value→Key
 | .int i _=>.int i
 | .str s _=>.str s
 | _=>.int 0
section
variable {G:Stc}
theorem f9 {k:Key} {v:Value} (h:G.kk.is k v=true):qX v=k:=by
 rcases jz h with ⟨i,t,rfl,rfl⟩ | ⟨x,t,rfl,rfl⟩<;>rfl
theorem qW {h:Heap} {k:Key} {v:Value} (e:G.kk.is k v=true):VR G h k.v v:=by
 rcases jz e with ⟨i,t,rfl,rfl⟩ | ⟨x,t,rfl,rfl⟩
 ·exact .int _ _
 ·exact .str _ _
noncomputable def cJ (G:Stc) (a:Addr) (es:Array (Int × Value)) (ep:Nat):List Key:=(ur G a es ep).toList.map fun e=>qX e.2
theorem iR (a:Addr) (es:Array (Int × Value)) (ep:Nat):(cJ G a es ep).length=es.size:=by
 unfold cJ
 rw [au,ef,cF]
theorem qO {a:Addr} {es:Array (Int × Value)} {ep:Nat} {ks:List Key} (he:ElemsOf G.kk es.toList) (hm:∀ k,decide (k∈ks)=true↔∃ e∈es.toList,G.kk.is k e.2=true) (k:Key):k∈cJ G a es ep↔k∈ks:=by
 have hp:=cG (G:=G) a es ep
 refine Iff.trans ⟨fun h=>?_,fun h=>?_⟩ ((hm k).symm.trans (by simp))
 ·obtain⟨e,h1,h2⟩:=bw.mp h
  have h3:=hp.mem_iff.mp h1
  obtain⟨⟨k',q,_⟩,_⟩:=he e h3
  rw [f9 q] at h2
  exact⟨e,h3,h2▸q⟩
 ·obtain⟨e,h1,h2⟩:=h
  exact bw.mpr ⟨e,hp.mem_iff.mpr h1,f9 h2⟩
theorem vJ {a:Addr} {es:Array (Int × Value)} {ep i:Nat} {v:V} (he:ElemsOf G.kk es.toList) (hv:((cJ G a es ep).map Key.v)[i]?=some v):∃ x,(ur G a es ep)[i]?=some x∧∀ h,VR G h v x.2:=by
 unfold cJ at hv
 rw [az,az] at hv
 cases hq:(ur G a es ep).toList[i]? with
 | none=>rw [hq] at hv;cases hv
 | some x =>
  rw [hq] at hv
  obtain rfl:=ae hv
  have hm:x∈es.toList:=(cG (G:=G) a es ep).mem_iff.mp (cq hq)
  obtain⟨⟨k',q,_⟩,_⟩:=he x hm
  refine⟨x,by simpa using hq,fun h=>?_⟩
  have q':G.kk.is (qX x.2) x.2=true:=by rw [f9 q];exact q
  exact qW q'
noncomputable def GP (G:Stc) (it a:Addr) (hne:a≠it) (o:Obj) (es:Array (Int × Value)) (ep:Nat) (t:SetTable) (hd:o.data=.set es ep t) (hf:t.fits es.size=true) (hT:Tbl G.led t) (he:ElemsOf G.kk es.toList):Itr G where
 it:=it
 own:=[it]
 vs:=(cJ G a es ep).map Key.v
 Gd:=fun τ=>τ.Z a=some o
 tup:=false
 pos:=fun i h=>∃ slot,qx h it a slot i es.size ep∧(G.led=true→SetTable.below t.place slot=i)
 keep:=fun i h h' zz3 hk _=>by obtain⟨slot,⟨o,ho,r⟩,q⟩:=zz3;exact⟨slot,⟨o,hk it (.head _) o ho,r⟩,q⟩
 there:=fun i h zz2 b hb=>by obtain⟨slot,⟨o,ho,r⟩,q⟩:=zz2;obtain rfl:=aj.mp hb;exact⟨o,ho⟩
 self:=fun A E s i Q hp q=>by obtain⟨slot,hp,_⟩:=hp;exact mQ hp q
 nofrz:=fun i h zz2 b hb o' e=>by
  obtain⟨slot,⟨o,ho,hc,hd⟩,q⟩:=zz2
  obtain rfl:=aj.mp hb
  obtain rfl:=ae (ho.symm.trans e)
  exact fh hc hd (by decide) (by decide)
 next:=fun A E s σ i v target Q hh R hg hp hv htup k=>by
  obtain⟨slot,hp,hs⟩:=hp
  obtain⟨ho,_⟩:=R.Z _ _ hg
  obtain⟨x,hx,vr⟩:=vJ he hv
  refine kC hp ho hd hf hT hs hx fun slot' h' hp' hs' hsb=>?_
  obtain⟨oi,hoi,hc,hdi⟩:=id hp'
  exact mz hoi hc (by decide) (k _ h' s.toks (vr h') ⟨slot',hp',hs'⟩ fun b o hb e=>by
   rw [hsb.2 b (fun q=>hb (q▸.head _))];exact e)
 stop:=fun A E s σ i Q hh R hg hp hv k=>by
  obtain⟨slot,hp,hs⟩:=hp
  obtain⟨ho,_⟩:=R.Z _ _ hg
  have hlen:=iR (G:=G) a es ep
  have hx:(ur G a es ep)[i]?=none:=by
   rw [jg,au,hlen] at hv
   exact fQ (by rw [cF];exact hv)
  refine mI hh hp ho hd hf hT hs hx fun h' he'=>?_
  exact k h' s.toks fun b o hb e=>he' b o (fun q=>hb (q▸.head _)) e
theorem pairs_at {G:Stc} {h:Heap}:∀ {es:List (Key × V)} {ds:List (Key × Value)},DRs G h es ds→ds.map (·.1)=es.map (·.1)∧∀ (i:Nat) (e:Key × V),es[i]?=some e→∃ w,ds[i]?=some (e.1,w)∧VR G h e.2 w
 | [],ds,r=>by obtain rfl:=r;exact⟨rfl,fun i e q=>by simp at q⟩
 | e::es,ds,r=>by
  obtain⟨w,us,rfl,a,r⟩:=r
  obtain⟨h1,h2⟩:=pairs_at r
  refine⟨by rw [gp,gp,h1],fun i e' q=>?_⟩
  cases i with
  | zero=>obtain rfl:=ae q;exact⟨w,rfl,a⟩
  | succ i=>exact h2 i e' q
noncomputable def CW (G:Stc) (it d:Addr) (o:Obj) (es:List (Key × V)) (ds:List (Key × Value)) (ep:Nat) (hds:ds.map (·.1)=es.map (·.1)) (hat:∀ h:Heap,h.get? d=some o→h.DictAt G.kk d ds ep):Itr G where
 it:=it
 own:=[it]
 vs:=es.map fun e=>e.1.v
 Gd:=fun τ=>τ.Z d=some o
 tup:=false
 pos:=fun i h=>h.IsKeyIter it d i ds.length ep
 keep:=fun i h h' zz3 hk _=>by obtain⟨o,ho,r⟩:=zz3;exact⟨o,hk it (.head _) o ho,r⟩
 there:=fun i h zz2 b hb=>by obtain⟨o,ho,r⟩:=zz2;obtain rfl:=aj.mp hb;exact⟨o,ho⟩
 self:=fun A E s i Q hp q=>by
  refine gE hp.typeIs F.slot_dict_keyiterator_iter (gc F.slot_dict_keyiterator_iter hp.typeIs F.entry_dict_keyiterator_iter ?_ (F.args_dict_keyiterator_iter_1 _))
  show wpAny _ _ (ret (.ref it)) _ _ s
  exact af ⟨_,rfl,"dict_keyiterator",_,hp.typeIs,F.slot_dict_keyiterator_next.lookup,q⟩
 nofrz:=fun i h zz2 b hb o' e=>by
  obtain⟨o,ho,hc,hd⟩:=zz2
  obtain rfl:=aj.mp hb
  obtain rfl:=ae (ho.symm.trans e)
  exact fh hc hd (by decide) (by decide)
 next:=fun A E s σ i v target Q hh R hg hp hv htup k=>by
  obtain⟨ho,_⟩:=R.Z _ _ hg
  have hx:(ds.map (·.1))[i]?.map Key.v=some v:=by
   rw [hds,← az,xq];exact hv
  rw [az] at hx
  cases hq:ds[i]? with
  | none=>rw [hq] at hx;cases hx
  | some e =>
   rw [hq] at hx
   obtain rfl:=ae hx
   refine wpAny_pyNext_dict_item hp (hat _ ho) hq fun key h' hk hp' hsb=>?_
   obtain⟨oi,hoi,hc,hdi⟩:=id hp'
   exact mz hoi hc (by decide) (k _ h' s.toks (qW hk) hp' fun b o hb e=>by
    rw [hsb.2 b (fun q=>hb (q▸.head _))];exact e)
 stop:=fun A E s σ i Q hh R hg hp hv k=>by
  obtain⟨ho,_⟩:=R.Z _ _ hg
  have hlen:ds.length=es.length:=by have:=bu List.length hds;simpa using this
  have hx:ds[i]?=none:=by
   rw [jg,au] at hv
   exact kx (by exact gr .A .b .M (.e .A .C) hv hlen)
  refine wpAny_pyNext_dict_end hh hp (hat _ ho) hx fun h' he=>?_
  exact k h' s.toks fun b o hb e=>he b o (fun q=>hb (q▸.head _)) e
noncomputable def zH (G:Stc) (it d:Addr) (hne:d≠it) (o:Obj) (es:List (Key × V)) (ds:List (Key × Value)) (ep:Nat) (hat:∀ h:Heap,h.get? d=some o→h.DictAt G.kk d ds ep):Itr G where
 it:=it
 own:=[it]
 vs:=es.map fun e=>V.tup [e.1.v,e.2]
 Gd:=fun τ=>τ.Z d=some o
 tup:=true
 pos:=fun i h=>(∃ ok ov,IsItemIter h it d i ds.length ep ok ov)∧DRs G h es ds
 keep:=fun i h h' zz3 hk hf=>by obtain⟨⟨ok,ov,ho⟩,r⟩:=zz3;exact⟨⟨ok,ov,hk it (.head _) _ ho⟩,r.mono hf⟩
 there:=fun i h zz2 b hb=>by obtain⟨⟨ok,ov,ho⟩,r⟩:=zz2;obtain rfl:=aj.mp hb;exact⟨_,ho⟩
 self:=fun A E s i Q hp q=>by
  obtain⟨⟨ok,ov,ho⟩,_⟩:=hp
  have hT:s.TypeIs (.ref it) "dict_itemiterator":=⟨_,ho,rfl⟩
  refine gE hT F.slot_dict_itemiterator_iter (gc F.slot_dict_itemiterator_iter hT zr ?_ (F.args_dict_itemiterator_iter_1 _))
  show wpAny _ _ (ret (.ref it)) _ _ s
  exact af ⟨_,rfl,"dict_itemiterator",_,hT,F.slot_dict_itemiterator_next.lookup,q⟩
 nofrz:=fun i h zz2 b hb o' e=>by
  obtain⟨⟨ok,ov,ho⟩,r⟩:=zz2
  obtain rfl:=aj.mp hb
  obtain rfl:=ae (ho.symm.trans e)
  exact fh rfl rfl (by decide) (by decide)
 next:=fun A E s σ i v target Q hh R hg hp hv htup k=>by
  obtain⟨⟨ok,ov,hp⟩,dr⟩:=hp
  obtain⟨ho,_⟩:=R.Z _ _ hg
  rw [az] at hv
  cases hq:es[i]? with
  | none=>rw [hq] at hv;cases hv
  | some e =>
   rw [hq] at hv
   obtain rfl:=ae hv
   obtain⟨w,hw,vr⟩:=(pairs_at dr).2 i e hq
   obtain⟨es',kk,p,rfl⟩:=htup rfl
   refine wpAny_pyNext_items_item hp (hat _ ho) hw fun key h' hk hp' ht hz hold=>?_
   refine wpAny_letOwnedTupleGo_items (s:={ s with heap:=h' }) hp' fun h₂ hp₂ hsb=>?_
   have old':∀ b o,b∉[it]→s.heap.get? b=some o→h₂.get? b=some o:=fun b o hb eb=>by
    have hbe:b≠it:=fun q=>hb (q▸.head _)
    rw [hsb.2 b hbe]
    exact hold b o hbe eb
   have hf:gu s.heap h₂:=fun b o eb f=>old' b o (fun hb=>by
    obtain rfl:=aj.mp hb
    obtain rfl:=ae (hp.symm.trans eb)
    exact fh rfl rfl (by decide) (by decide) f) eb
   have hne:s.heap.objs.size≠it:=fun q=>jc it (Nat.lt_of_lt_of_eq (du hp) q)
   have htp2:IsT h₂ s.heap.objs.size [key,w].toArray 0:=by
    show h₂.get? _=_
    rw [hsb.2 _ hne];exact ht
   exact k _ h₂ _ (.tup htp2 (.cons (qW hk) (.cons (vr.mono hf) .nil))) ⟨⟨_,_,hp₂⟩,dr.mono hf⟩ old'
 stop:=fun A E s σ i Q hh R hg hp hv k=>by
  obtain⟨⟨ok,ov,hp⟩,dr⟩:=hp
  obtain⟨ho,_⟩:=R.Z _ _ hg
  have hlen:ds.length=es.length:=by have:=bu List.length (pairs_at dr).1;simpa using this
  have hx:ds[i]?=none:=by
   rw [jg,au] at hv
   exact kx (by exact gr .A .b .M (.e .A .C) hv hlen)
  refine wpAny_pyNext_items_end hh hp (hat _ ho) hx fun h' he=>?_
  exact k h' s.toks fun b o hb e=>he b o (fun q=>hb (q▸.head _)) e
end
end MP
end
section
namespace MP
open PySem PyProof.Rows
noncomputable def GO (G:Stc) (it t:Addr) (xs:List V):Itr G where
 it:=it
 own:=[it]
 vs:=xs
 Gd:=fun _=>True
 tup:=false
 pos:=fun i h=>IsTupIter h it t i∧t≠it∧∃ ws n,IsT h t ws.toArray n∧VRs G h xs ws
 keep:=fun i h h' zz3 hk hf=>by obtain⟨⟨o,ho,r⟩,hne,ws,n,ht,vr⟩:=zz3;exact⟨⟨o,hk it (.head _) o ho,r⟩,hne,ws,n,hf t _ (show h.get? t=some { cls:=.type "tuple",dict:=none,data:=.seq ws.toArray n,slots:=#[] } from ht) (.inl ⟨show Value.type "tuple" ≠ .type "list" by decide,_,_,rfl⟩),vr.mono hf⟩
 there:=fun i h zz2 b hb=>by obtain⟨⟨o,ho,r⟩,_⟩:=zz2;obtain rfl:=aj.mp hb;exact⟨o,ho⟩
 self:=fun A E s i Q hp q=>wpAny_pyIter_tupleiter hp.1 q
 nofrz:=fun i h zz2 b hb o' e=>by
  obtain⟨⟨o,ho,hc,hd⟩,_⟩:=zz2
  obtain rfl:=aj.mp hb
  obtain rfl:=ae (ho.symm.trans e)
  exact fh hc hd (by decide) (by decide)
 next:=fun A E s σ i v target Q hh R hg hp hv htup k=>by
  obtain⟨hp,hne,ws,n,ht,vrs⟩:=hp
  obtain⟨w,hw,vr⟩:=vrs.get hv
  refine next_tuple_item hp ⟨_,ht,rfl,n,rfl⟩ (by simpa using hw) fun h' hp' hs=>?_
  obtain⟨o,ho,hc,hd⟩:=id hp'
  have hf:gu s.heap h':=nf hs fun o e=>by
   obtain⟨o',ho',hc',hd'⟩:=id hp
   obtain rfl:=ae (ho'.symm.trans e)
   exact fh hc' hd' (by decide) (by decide)
  refine mz ho hc (by decide) (k w h' s.toks (vr.mono hf) ⟨hp',hne,ws,n,by rw [IsT,hs.2 _ hne];exact ht,vrs.mono hf⟩ fun b o hb e=>?_)
  rw [hs.2 b (fun q=>hb (q▸.head _))];exact e
 stop:=fun A E s σ i Q hh R hg hp hv k=>by
  obtain⟨hp,hne,ws,n,ht,vrs⟩:=hp
  have hlen:=vrs.length
  refine next_tuple_end hh hp ⟨_,ht,rfl,n,rfl⟩ (by simpa [← hlen] using hv) fun h' he=>?_
  exact k h' s.toks fun b o hb e=>he b o (fun q=>hb (q▸.head _)) e
section
variable {G:Stc} {C:Cal} {sc:Scope} {d:Nat}
theorem GQ {tupled:Bool} {e:Ex} {y:Expr} (he:ct G C sc d e y):uz G C sc d tupled (.seq e) y:=fun A E env ρ σ P s ao es eo F R h=>by
 refine md (he A E env ρ σ _ s ao es eo F R h) fun v σ₁ h₁ tk w q vr r x=>?_
 have hnone:h₁.get? h₁.objs.size=none:=none_at_size h₁
 have hnew:s.heap.get? h₁.objs.size=none:=by
  cases hq:s.heap.get? h₁.objs.size with
  | none=>rfl
  | some o=>obtain⟨o',e'⟩:=x.there _ _ hq;rw [hnone] at e';cases e'
 have hdom:¬ σ₁.dom h₁.objs.size:=fun dm=>by obtain⟨o,e⟩:=r.nv dm;rw [hnone] at e;cases e
 cases v with
 | lst a =>
  obtain rfl:=vr
  obtain⟨xs,e,q⟩:=q
  obtain⟨ws,n,hl,hv⟩:=r.L _ _ e
  have hne:=fj (du hl)
  refine wpAny_pyIter_list (s:={ s with heap:=h₁,toks:=tk }) hl.isList ?_
  exact⟨CV G h₁.objs.size _ hne xs,σ₁,_,tk,rfl,rfl,fun h=>(nomatch h),q,⟨_,bq _ rfl,rfl,rfl⟩,r.push _,x.trans (Evo.push _ _ _ _),fun z hz=>by obtain rfl:=aj.mp hz;exact hnew,fun z hz=>by obtain rfl:=aj.mp hz;exact hdom⟩
 | tup xs =>
  obtain⟨a,ws,n,rfl,g,vrs⟩:=vr
  have hne:=fj (du g)
  refine iter_tuple (s:={ s with heap:=h₁,toks:=tk }) ⟨_,g,rfl,_,rfl⟩ ?_
  exact⟨GO G h₁.objs.size _ _,σ₁,_,tk,rfl,rfl,fun h=>(nomatch h),q,⟨⟨_,bq _ rfl,rfl,rfl⟩,hne,_,_,g.push _,vrs.mono fun _ _ e _=>ak _ e⟩,r.push _,x.trans (Evo.push _ _ _ _),fun z hz=>by obtain rfl:=aj.mp hz;exact hnew,fun z hz=>by obtain rfl:=aj.mp hz;exact hdom⟩
 | set a =>
  obtain rfl:=vr
  obtain⟨ks,e,q⟩:=q
  obtain⟨o,es',ep,t,ho,hc,hd,hel,hm,hsz,hf,hn,hT,_⟩:=r.S _ _ e
  have hne:=fj (du ho)
  have dm:(σ₁.D a).isSome∨(σ₁.S a).isSome:=.inr (by rw [e];rfl)
  refine zI (s:={ s with heap:=h₁,toks:=tk }) ho hc.1 hd hf hT ?_
  exact⟨GP G h₁.objs.size a hne o es' ep t hd hf hT hel,σ₁.zm a o,_,tk,rfl,rfl,fun h=>(nomatch h),q o (cJ G a es' ep) (qO hel hm) ((iR a es' ep).trans hn),⟨0,⟨_,bq _ rfl,rfl,rfl⟩,fun _=>rQ hT.rise⟩,(r.yE ho dm).push _,(x.trans (Evo.yE dm)).trans (Evo.push _ _ _ _),fun z hz=>by obtain rfl:=aj.mp hz;exact hnew,fun z hz=>by obtain rfl:=aj.mp hz;exact fun dz=>hdom (jD (.inr (.inr (.inl (by rw [e];rfl)))) dz)⟩
 | _=>exact False.elim q
end
end MP
end
section
namespace MP
open PySem PyProof.Rows
noncomputable def CX (G:Stc) (e it l:Addr) (hle:l≠e) (hli:l≠it) (hei:e≠it) (xs:List V):Itr G where
 it:=e
 own:=[e,it]
 vs:=xs.zipIdx.map fun p=>V.tup [.int p.2,p.1]
 Gd:=fun τ=>τ.L l=some xs
 tup:=true
 pos:=fun i h=>(∃ old,IsEnum h e it i old)∧h.IsListIter it l i
 keep:=fun i h h' zz3 hk _=>by obtain⟨⟨old,he⟩,⟨o,ho,r⟩⟩:=zz3;exact⟨⟨old,hk e (.head _) _ he⟩,⟨o,hk it (.tail _ (.head _)) o ho,r⟩⟩
 there:=fun i h zz2 b hb=>by
  obtain⟨⟨old,he⟩,⟨o,ho,r⟩⟩:=zz2
  rcases cu.mp hb with rfl | hb
  ·exact⟨_,he⟩
  ·obtain rfl:=aj.mp hb;exact⟨o,ho⟩
 self:=fun A E s i Q hp q=>by obtain⟨⟨old,he⟩,_⟩:=hp;exact wpAny_pyIter_enum he q
 nofrz:=fun i h zz2 b hb o' eo=>by
  obtain⟨⟨old,he⟩,⟨o,ho,hc,hd⟩⟩:=zz2
  rcases cu.mp hb with rfl | hb
  ·obtain rfl:=ae (he.symm.trans eo)
   exact fh rfl rfl (by decide) (by decide)
  ·obtain rfl:=aj.mp hb
   obtain rfl:=ae (ho.symm.trans eo)
   exact fh hc hd (by decide) (by decide)
 next:=fun A E s σ i v target Q hh R hg hp hv htup k=>by
  obtain⟨⟨old,he⟩,hit⟩:=hp
  obtain⟨ws,n,hl,hvs⟩:=R.L l xs hg
  rw [az,List.getElem?_zipIdx] at hv
  cases hxi:xs[i]? with
  | none=>rw [hxi] at hv;cases hv
  | some u =>
   rw [hxi] at hv
   simp only [Option.map_some,dn,jq] at hv
   subst hv
   obtain⟨w,hw,vr⟩:=hvs.get hxi
   obtain⟨es,kk,p,rfl⟩:=htup rfl
   refine wpAny_pyNext_enum_item he hit hl.isList (by simpa using hw) hei fun h' heo hit' htp hz hk=>?_
   refine wpAny_letOwnedTupleGo_enum heo fun h₂ he₂ hs₂=>?_
   have old':∀ b o,b∉[e,it]→s.heap.get? b=some o→h₂.get? b=some o:=fun b o hb eb=>by
    have hbe:b≠e:=fun q=>hb (q▸.head _)
    rw [hs₂.2 b hbe]
    exact hk b o hbe (fun q=>hb (q▸.tail _ (.head _))) eb
   have hf:gu s.heap h₂:=fun b o eb f=>old' b o (fun hb=>by
    rcases cu.mp hb with rfl | hb
    ·obtain rfl:=ae (he.symm.trans eb)
     exact fh rfl rfl (by decide) (by decide) f
    ·obtain rfl:=aj.mp hb
     obtain⟨o',ho',hc',hd'⟩:=hit
     obtain rfl:=ae (ho'.symm.trans eb)
     exact fh hc' hd' (by decide) (by decide) f) eb
   have hne:s.heap.objs.size≠e:=fun q=>jc e (Nat.lt_of_lt_of_eq (du he) q)
   have htp2:IsT h₂ s.heap.objs.size [Value.int i s.toks,w].toArray 0:=by
    show h₂.get? _=_
    rw [hs₂.2 _ hne];exact htp
   refine k _ h₂ _ (.tup htp2 (.cons (.int _ _) (.cons (vr.mono hf) .nil))) ⟨⟨_,by exact_mod_cast he₂⟩,?_⟩ old'
   obtain⟨o,ho,r⟩:=hit'
   exact⟨o,by rw [hs₂.2 _ hei.symm];exact ho,r⟩
 stop:=fun A E s σ i Q hh R hg hp hv k=>by
  obtain⟨⟨old,he⟩,hit⟩:=hp
  obtain⟨ws,n,hl,hvs⟩:=R.L l xs hg
  have hlen:=hvs.length
  have hx:xs[i]?=none:=by
   rw [az,List.getElem?_zipIdx] at hv
   cases hxi:xs[i]? with
   | none=>rfl
   | some u=>rw [hxi] at hv;cases hv
  refine wpAny_pyNext_enum_end hh he hit hl.isList (by simpa [← hlen] using hx) fun h' hx'=>?_
  exact k h' s.toks fun b o hb e=>hx' b o (fun q=>hb (q▸.tail _ (.head _))) e
section
variable {G:Stc} {C:Cal} {sc:Scope} {d:Nat}
theorem D2 {e:Ex} {x:Str} {y:Expr} {p pos:Pos} (K:GOk G) (he:ct G C sc d e y) (hst:noStar [y]=true) (hx:sc.names.lookup x=some .globalImplicit) (hn:gk x=true) (hv:G.gl x=some (.type "enumerate")) :
  uz G C sc d true (.enum e) (.Call (.Name x p) [y] [] pos):=fun A E env ρ σ P s ao es eo F R h=>by
 have hes:kg G C sc d (.cons e .nil) [y]:=fx he jo (di hst).1
 refine qa (P:=fun vs σ=>on1 vs fun v=>∃ (a:Addr) (xs:List V),v=.lst a∧σ.L a=some xs∧P (xs.zipIdx.map fun p:V × Nat=>V.tup [.int p.2,p.1]) (fun τ=>τ.L a=some xs) σ) K hst hes hx hn hv ao es eo F R h fun vs σ₁ h₁ tk ws q vr r x₁=>?_
 obtain⟨v,rfl,a,xs,rfl,e1,q⟩:=dM (vs:=vs) q
 obtain⟨w,rfl,rfl⟩:=vr.one
 obtain⟨us,n,hl,hvs⟩:=r.L _ _ e1
 have hlt:=du hl
 refine call_enumerate_list (s:={ s with heap:=h₁,toks:=tk }) hl.isList fun h' hE hI hz hk=>?_
 refine wpAny_pyIter_enum (s:={ s with heap:=h',toks:=tk }) hE ?_
 have fresh:∀ z,h₁.objs.size≤z→h₁.get? z=none:=fun z hz=>yw hz
 refine⟨CX G (h₁.objs.size+1) h₁.objs.size a (fj (Nat.lt_succ_of_lt hlt)) (fj hlt) (Nat.succ_ne_self _) xs,σ₁,h',tk,rfl,rfl,fun _=>rfl,q,⟨⟨_,hE⟩,hI⟩,r.keeps hk,x₁.trans (Evo.keeps hk),fun z hz=>?_,fun z hz dm=>?_⟩
 ·have hzz:h₁.objs.size≤z:=by
   rcases cu.mp hz with rfl | hz
   ·(exact ic (.k .A .M) .i)
   ·obtain rfl:=aj.mp hz;(exact ic (.k .A .A) .i)
  cases hq:s.heap.get? z with
  | none=>rfl
  | some o=>obtain⟨o',e'⟩:=x₁.there _ _ hq;rw [fresh z hzz] at e';cases e'
 ·have hzz:h₁.objs.size≤z:=by
   rcases cu.mp hz with rfl | hz
   ·(exact ic (.k .A .M) .i)
   ·obtain rfl:=aj.mp hz;(exact ic (.k .A .A) .i)
  obtain⟨o,e⟩:=r.nv dm
  rw [fresh z hzz] at e;cases e
end
end MP
end
section
namespace MP
open PySem PyProof.Rows
theorem et:∀ (names:List (Str × NameKind)) (n:Nat) (acc:List (Str × Addr)),cellsFrom n names acc=cellsFrom n names []++acc
 | [],_,_=>by simp [cellsFrom]
 | (x,k)::r,n,acc=>by
  unfold cellsFrom
  split
  ·rw [et r (n+1) ((x,n)::acc),et r (n+1) [(x,n)]];simp
  ·exact et r n acc
theorem ui:∀ (names:List (Str × NameKind)) (n:Nat) (x:Str) (c:Addr),(x,c)∈cellsFrom n names []→(x,NameKind.cell)∈names
 | [],_,_,_,h=>by simp [cellsFrom] at h
 | (y,k)::r,n,x,c,h=>by
  unfold cellsFrom at h
  split at h
  ·rename_i hk
   rw [et] at h
   rcases gm.mp h with h | h
   ·exact .tail _ (ui r _ x c h)
   ·obtain⟨rfl,rfl⟩:=og (aj.mp h)
    rw [jw] at hk;subst hk;exact .head _
  ·exact .tail _ (ui r _ x c h)
theorem rg:∀ (names:List (Str × NameKind)) (n:Nat) (x:Str),(x,NameKind.cell)∈names→∃ c,(x,c)∈cellsFrom n names []
 | [],_,_,h=>by cases h
 | (y,k)::r,n,x,h=>by
  unfold cellsFrom
  split
  ·rw [et]
   rcases cu.mp h with e | h
   ·obtain⟨rfl,_⟩:=og e
    exact⟨n,jh _ (.head _)⟩
   ·obtain⟨c,hc⟩:=rg r (n+1) x h
    exact⟨c,ek _ hc⟩
  ·rename_i hk
   rcases cu.mp h with e | h
   ·obtain⟨_,rfl⟩:=og e;simp at hk
   ·exact rg r n x h
theorem pe {α:Type} {l:List (Str × α)} {x:Str} {c:α} (h:(x,c)∈l):∃ c',l.lookup x=some c':=by
 cases hq:l.lookup x with
 | some c'=>exact⟨c',rfl⟩
 | none=>rw [nr] at hq;have:=hq _ h;simp at this
theorem tc {α:Type} {l r:List (Str × α)} {x:Str} {c:α} (h:l.lookup x=some c):(l++r).lookup x=some c:=by
 rw [List.lookup_append,h];rfl
theorem zp {α:Type} {l r:List (Str × α)} {x:Str} (h:l.lookup x=none):(l++r).lookup x=r.lookup x:=by
 rw [List.lookup_append,h];rfl
theorem oR {names:List (Str × NameKind)} (nd:(names.map (·.1)).Nodup) {x:Str} {k k':NameKind} (h:(x,k)∈names) (h':(x,k')∈names):k=k':=by
 obtain⟨i,hi,e⟩:=gf.mp h
 obtain⟨j,hj,e'⟩:=gf.mp h'
 have h1:names[i]?=some (x,k):=by rw [bc hi,e]
 have h2:names[j]?=some (x,k'):=by rw [bc hj,e']
 have:=dN nd h1 h2
 subst this
 rw [h1] at h2;cases h2;rfl
structure B3 (G:Stc) (σ:St) (h:Heap) (names:List (Str × NameKind)) (cl:List (Str × Addr)) (ρf:Fr):Prop where
 free:∀ (i:Nat) (x:Str),names[i]?=some (x,.free)→∃ c w,cl.lookup x=some c∧h.IsCell c w∧OV G h (ρf i) w∧¬ σ.dom c∧(G.cap x=false→G.hb.get? c=none)
 inj:∀ (i j:Nat) (x y:Str) (c:Addr),names[i]?=some (x,.free)→names[j]?=some (y,.free)→cl.lookup x=some c→cl.lookup y=some c→i=j
 all:∀ p∈cl,∃ o,h.get? p.2=some o
 other:∀ (i:Nat) (x:Str) (k:NameKind),names[i]?=some (x,k)→k≠.free→ρf i=none
theorem j6 {G:Stc} {σ:St} {h:Heap} {names:List (Str × NameKind)} {cl:List (Str × Addr)} {ρf:Fr} {env:Env} {T:String} (R:Rel G σ h) (nd:(names.map (·.1)).Nodup) (K:B3 G σ h names cl ρf)
  (hl:env.locals=h.objs.size) (hc:env.cells=cellsFrom (h.objs.size+1) names cl) (hk:∀ (i:Nat) (x:Str) (k':NameKind),env.scope.names[i]?=some (x,k')→∃ k,names[i]?=some (x,k)∧(k'=k∨(k=.free∧k'=.cell))) :
  FR G σ env ρf (pushCells (h.push { cls:=.type T,data:=.dict #[] }) names)∧(∀ b o,h.get? b=some o→(pushCells (h.push { cls:=.type T,data:=.dict #[] }) names).get? b=some o):=by
 have keep:∀ b o,h.get? b=some o→(pushCells (h.push { cls:=.type T,data:=.dict #[] }) names).get? b=some o:=fun b o e=>pushCells_keeps _ _ b o (ak _ e)
 have frz:gu h (pushCells (h.push { cls:=.type T,data:=.dict #[] }) names):=fun b o e _=>keep b o e
 have ok:=cellsFrom_ok names (h.push { cls:=.type T,data:=.dict #[] }) (h.objs.size+1) [] ⟨fun _ _ hm=>(nomatch hm),List.Pairwise.nil⟩ (by rw [iz];exact ay _)
 rw [iz] at ok
 have nodom:∀ c,h.objs.size≤c→¬ σ.dom c:=fun c hc d=>by obtain⟨o,e⟩:=R.nv d;exact absurd (du e) (jx.mpr hc)
 have nobase:∀ c,h.objs.size≤c→G.hb.get? c=none:=fun c hc=>by
  cases hq:G.hb.get? c with
  | none=>rfl
  | some o=>exact absurd (du (R.base c o hq)) (jx.mpr hc)
 have locObj:(pushCells (h.push { cls:=.type T,data:=.dict #[] }) names).get? h.objs.size=some { cls:=.type T,data:=.dict #[] }:=pushCells_keeps _ _ _ _ (bq _ rfl)
 have cellAt:∀ (i:Nat) (x:Str),names[i]?=some (x,.cell)→∃ c,env.cells.lookup x=some c∧(x,c)∈cellsFrom (h.objs.size+1) names []:=fun i x e=>by
  obtain⟨c,hm⟩:=rg names (h.objs.size+1) x (cq e)
  obtain⟨c',hl'⟩:=pe hm
  exact⟨c',by rw [hc,et];exact tc hl',mem_of_lookup hl'⟩
 have freeAt:∀ (i:Nat) (x:Str),names[i]?=some (x,.free)→env.cells.lookup x=cl.lookup x:=fun i x e=>by
  rw [hc,et]
  refine zp ?_
  cases hq:(cellsFrom (h.objs.size+1) names []).lookup x with
  | none=>rfl
  | some c=>have:=oR nd (ui _ _ _ _ (mem_of_lookup hq)) (cq e);cases this
 refine⟨⟨⟨_,by rewrite [hl];exact(Heap.Ns.new h (.type T)).keeps (pushCells_keeps _ _),fun i x e=>?_⟩,fun i x k' e hk'=>?_,fun i j x y k k' c ei ej hki hkj lx ly=>?_,by rw [hl];exact nodom _ (ay _),fun o e=>?_,by rw [hl];exact nobase _ (ay _),fun p hp=>?_⟩,keep⟩
 ·obtain⟨k,e',hkk⟩:=hk i x _ e
  have:ρf i=none:=K.other i x k e' (by rcases hkk with h | ⟨_,h⟩;exact h▸(by decide);cases h)
  rw [this];trivial
 ·obtain⟨k,e',hkk⟩:=hk i x _ e
  have hk2:k=.cell∨k=.free:=by rcases hkk with h | ⟨h,_⟩;exact h▸hk';exact .inr h
  rcases hk2 with rfl | rfl
  ·obtain⟨c,hlk,hm⟩:=cellAt i x e'
   have hce:=ok.empty x c hm
   refine⟨c,none,hlk,hce.1,by rewrite [K.other i x _ e' (by decide)];trivial,nodom c (Nat.le_of_succ_le hce.2),by rewrite [hl];exact Nat.ne_of_gt (Nat.lt_of_succ_le hce.2),fun _=>nobase c (Nat.le_of_succ_le hce.2)⟩
  ·obtain⟨c,w,h1,h2,h3,h4,h5⟩:=K.free i x e'
   refine⟨c,w,by rw [freeAt i x e'];exact h1,h2.keeps keep,h3.mono frz,h4,?_,h5⟩
   rw [hl];exact fj h2.lt
 ·obtain⟨k1,e1,hk1⟩:=hk i x _ ei
  obtain⟨k2,e2,hk2⟩:=hk j y _ ej
  have hk1':k1=.cell∨k1=.free:=by rcases hk1 with h | ⟨h,_⟩;exact h▸hki;exact .inr h
  have hk2':k2=.cell∨k2=.free:=by rcases hk2 with h | ⟨h,_⟩;exact h▸hkj;exact .inr h
  have low:∀ (i:Nat) (x:Str) (c:Addr),names[i]?=some (x,.free)→env.cells.lookup x=some c→c<h.objs.size:=fun i x c e l=>by
   obtain⟨c',w,h1,h2,_⟩:=K.free i x e
   rw [freeAt i x e,h1] at l;cases l;exact h2.lt
  have high:∀ (i:Nat) (x:Str) (c:Addr),names[i]?=some (x,.cell)→env.cells.lookup x=some c→h.objs.size<c∧(x,c)∈cellsFrom (h.objs.size+1) names []:=fun i x c e l=>by
   obtain⟨c',h1,h2⟩:=cellAt i x e
   rw [h1] at l;cases l
   exact⟨(ok.empty x c h2).2,h2⟩
  rcases hk1' with rfl | rfl<;>rcases hk2' with rfl | rfl
  ·obtain⟨_,m1⟩:=high i x c e1 lx
   obtain⟨_,m2⟩:=high j y c e2 ly
   have:=name_of_addr ok.apart m1 m2
   subst this
   exact dN nd e1 e2
  ·have:=(high i x c e1 lx).1;have:=low j y c e2 ly;exact absurd ‹c<h.objs.size› (jx.mpr (xp ‹h.objs.size<c›))
  ·have:=(high j y c e2 ly).1;have:=low i x c e1 lx;exact absurd ‹c<h.objs.size› (jx.mpr (xp ‹h.objs.size<c›))
  ·exact K.inj i j x y c e1 e2 (by rw [← freeAt i x e1];exact lx) (by rw [← freeAt j y e2];exact ly)
 ·rw [hl,locObj] at e;cases e;exact pj rfl
 ·rw [hc,et] at hp
  rcases gm.mp hp with hp | hp
  ·obtain⟨⟨o,ho,_⟩,_⟩:=ok.empty p.1 p.2 hp;exact⟨o,ho⟩
  ·obtain⟨o,ho⟩:=K.all p hp;exact⟨o,keep _ _ ho⟩
section
variable {G:Stc} {A:Around} {E:Value→Shared→Prop}
theorem lJ {env:Env} {σ:St} {X:List Addr} (eo:iv env) (hXl:env.locals∈X) (hN:∀ (i:Nat) x c,env.scope.names[i]?=some (x,.cell)→env.cells.lookup x=some c→c∈X∧G.hb.get? c=none) (f:Str × Value→PUnit→Sem (ForInStep PUnit)) (hf:∀ n v u,f (n,v) u=(do storeName env n v;pure (.yield ⟨⟩))) :
  ∀ (j:Nat) (ns:List Str) (vs:List V) (ws:List Value) (ρ:Fr) (s:Shared) (Q:PUnit→Shared→Prop),ns.length=ws.length→(∀ (i:Nat) (x:Str),ns[i]?=some x→∃ k,env.scope.names[j+i]?=some (x,k)∧iY k=true) →
   FR G σ env ρ s.heap→Rel G σ s.heap→VRs G s.heap vs ws →
   (∀ h' tk ρ',(∀ i,ρ' i=if i<j then ρ i else if i<j+vs.length then vs[i-j]? else ρ i)→FR G σ env ρ' h'→Rel G σ h'→Evo X σ s.heap σ h'→Q ⟨⟩ { s with heap:=h',toks:=tk }) →
   wpAny G.M A (forIn (ns.zip ws) ⟨⟩ f) Q E s
 | j,[],vs,ws,ρ,s,Q,hl,hn,F,R,vr,q=>by
  cases ws with
  | cons _ _=>simp at hl
  | nil =>
   cases vs with
   | cons _ _=>obtain⟨_,_,e,_⟩:=vr;cases e
   | nil =>
    rw [List.zip_nil_left,nt]
    refine af (q s.heap s.toks ρ (fun i=>?_) F R (Evo.refl _ _ _))
    by_cases h:i<j
    ·simp [h]
    ·simp [h]
 | j,x::ns,vs,ws,ρ,s,Q,hl,hn,F,R,vr,q=>by
  cases vs with
  | nil=>obtain rfl:=vr;cases hl
  | cons v vs =>
   obtain⟨w,ws,rfl,va,vr⟩:=vr
   rw [List.zip_cons_cons,rq,hf]
   obtain⟨k,hi,hk⟩:=hn 0 x rfl
   refine ab (ab (hY eo F R hi hk (fun c hc e=>(hN _ _ c (e▸hi) hc).2) va hXl (fun c hc e=>(hN _ _ c (e▸hi) hc).1) fun h' tk F' R' x'=>af ?_))
   refine lJ eo hXl hN f hf (j+1) ns vs ws _ { s with heap:=h',toks:=tk } Q (by simpa using hl) (fun i y e=>?_) F' R' (vr.mono x'.frz) fun h2 tk2 ρ' hρ F2 R2 x2=>?_
   ·obtain⟨k,hi,hk⟩:=hn (i+1) y (by simpa using e)
    exact⟨k,by rw [show j+1+i=j+(i+1) by(exact xi (.e .a2 .Z) .j)];exact hi,hk⟩
   ·refine q h2 tk2 ρ' (fun i=>?_) F2 R2 (x'.trans x2)
    rw [hρ i]
    simp only [gz,Nat.add_zero]
    by_cases h1:i<j
    ·rw [bx (by exact bh .I .a .C h1),bx h1,dq (by exact bh (.u .A .B) [[-1,1]] .C h1)]
    ·rw [aw h1]
     by_cases h2:i=j
     ·subst h2
      rw [bx (by exact ic (.l .A .M) .i),bx (by exact xi (.l .A .Z) .i),bg];simp
     ·rw [aw (by exact(bp h2).elim (fun q1=>(gn (.g .A .L) .e .bN .C h1 q1)) fun q1=>(bh (.g .A .L) .a .a7 q1))]
      by_cases h3:i<j+1+vs.length
      ·rw [bx h3,bx (by exact dw (.l .A (.a .B .Q)) .a (.l .A (.a .L .C)) h3),show i-j=(i-(j+1))+1 by(exact Ar.sub _ _ (fun q1 p1=>(ee .a8 .n (.e .Y .D) (.e (.a .B .Q) .D) (aa (bh .A .a (.g .B .A) h1)) p1)) fun q1 p1=>((bp h2).elim (fun q2=>(gR .a8 [[0,1,0,0,1],[1,0,1,1,0]] (.g .C .D) (.e .a1 .C) (.k .C .V) .aC h1 (aa (bh .A .a (.g .B .A) h1)) q1 q2)) fun q2=>(gR .a8 [[1,-1,0,1,1],[1,1,1,0,0]] (.e .Y .D) (.k .D .Q) .a5 .aC (aa (bh .A .a (.g .B .A) h1)) q1 p1 q2)))];simp
      ·rw [aw h3,aw (by exact dw (.g .A (.a .B .Q)) .a (.g .A (.a .L .C)) h3),dq h2]
end
end MP
end
section
namespace MP
open PySem PyProof.Rows
noncomputable def kn:List Str→List (Str × NameKind)→Bool
 | [],_=>true
 | x::xs,(y,k)::r=>x==y&&iY k&&kn xs r
 | _::_,[]=>false
theorem fX:∀ {xs:List Str} {r:List (Str × NameKind)},kn xs r=true→∀ (i:Nat) (x:Str),xs[i]?=some x→∃ k,r[i]?=some (x,k)∧iY k=true
 | [],_,_,i,x,e=>by simp at e
 | _::_,[],h,_,_,_=>by simp [kn] at h
 | x::xs,(y,k)::r,h,0,z,e=>by
  simp only [kn,cg,jw] at h
  simp at e;subst e
  exact⟨k,by simp [h.1.1],h.1.2⟩
 | x::xs,(y,k)::r,h,i+1,z,e=>by
  simp only [kn,cg] at h
  simpa using fX h.2 i z (by simpa using e)
structure FnAt (G:Stc) (a:Addr) (n:Nat) (dflt:List V) (sc:Scope) (body:List Stmt):Prop where
 lim:G.hb.NoLimit
 kind:sc.kind=.function
 co:sc.isCoroutine=false
 gen:sc.isGenerator=false
 nd:(sc.names.map (·.1)).Nodup
 mG:∀ (i:Nat) (x:Str),sc.names[i]?≠some (x,.free)
 here:∃ o fd,G.hb.get? a=some o∧o.data=.func fd∧fd.scope=sc∧fd.body=.stmts body∧fd.closure=[]∧fd.globals=mainGlobals∧fd.builtins=builtinsNs∧G.hb.CodeRec fd.code fd.qualname ∧
  pg fd.params=true∧kn (fd.params.args.map (·.arg)) sc.names=true∧fd.params.args.length=n ∧
  ((fd.defaults=.none∧dflt=[])∨∃ t ot ds m,fd.defaults=.ref t∧G.hb.get? t=some ot∧ot.data=.seq (ds.toArray) m∧VRs G G.hb dflt ds)∧dflt.length≤n
section
variable {G:Stc} {A:Around} {E:Value→Shared→Prop} {s:Shared} {σ:St}
theorem AOk.deep {d:Nat} (h:AOk A (d+1)) (env:Env):AOk (A.deeper env) d :=
 ⟨h.handled,by have:=h.depth;show A.depth+1+3*d+20<_;(exact dw (.l (.a (.a .M (.m 3 .B)) (.n 20)) .C) .a (.l (.a (.a .A (.m 3 .L)) (.n 20)) .C) this),by have:=h.units;show A.units+3+30*d+300<_;(exact dw (.l (.a (.a (.a .A (.n 3)) (.m 30 .B)) (.n 300)) .C) .a (.l (.a (.a .A (.m 30 .L)) (.n 300)) .C) this)⟩
theorem jI {a:Addr} {fd:FuncData} {run:Env→Code} {cl:List (Str × Addr)} {ρf ρ':Fr} {vs dv:List V} {ws ds:List Value} {R':Result→Shared→Prop} {n:Nat} {o:Obj} (ho:G.hb.get? a=some o) (hd:o.data=.func fd)
  (lim:G.hb.NoLimit) (kind:fd.scope.kind=.function) (nd:(fd.scope.names.map (·.1)).Nodup) (hclo:fd.closure=cl) (hgl:fd.globals=mainGlobals) (hbu:fd.builtins=builtinsNs) (hpl:pg fd.params=true) (hpar:kn (fd.params.args.map (·.arg)) fd.scope.names=true) (hn:fd.params.args.length=n)
  (hds:∀ (A:Around) (E:Value→Shared→Prop) (Q:Option (Array Value)→Shared→Prop),(∀ o,(o.getD #[]).toList=ds→Q o s)→wpAny G.M A (seqItems? fd.defaults) Q E s) (hvd:VRs G s.heap dv ds) (hdl:dv.length≤n)
  (hrun:(wpAny G.M A.in1 (bindArgs fd ⟨ws,[]⟩) (fun binds s₁ =>
   wpAny G.M A.in1 (newFunctionEnv fd.scope fd.globals fd.closure binds (fd.qualname ++ ".<locals>.") (some a) fd.code none fd.builtins)
    (fun env s₂=>s₂.heap.NoLimit∧codeAny G.M A (run env) R' s₂) (fun e s'=>R' (.error e) s') s₁) (fun e s'=>R' (.error e) s') s)→codeAny G.M A (.call (.ref a) ⟨ws,[]⟩) R' s)
  (clo:B3 G σ s.heap fd.scope.names cl ρf) (R:Rel G σ s.heap) (vr:VRs G s.heap vs ws) (h1:vs.length≤n) (h2:n≤vs.length+dv.length)
  (hρ:∀ i,ρ' i=if i<n then (vs++dv.drop (dv.length-(n-vs.length)))[i]? else ρf i)
  (hb:∀ env h' tk X,env.scope=fd.scope→env.code=fd.code→iv env→FR G σ env ρ' h'→Rel G σ h'→Evo X σ s.heap σ h'→(∀ z∈X,s.heap.get? z=none)→(∀ z∈X,z∈envX env)→(∀ z∈envX env,z∈X∨∃ p∈cl,p.2=z)→codeAny G.M A (run env) R' { s with heap:=h',toks:=tk }):codeAny G.M A (.call (.ref a) ⟨ws,[]⟩) R' s:=by
 have hlen:=vr.length
 have hdlen:=hvd.length
 have hnd:(fd.params.args.map (·.arg)).Nodup:=by
  have hp:∀ {xs:List Str} {r:List (Str × NameKind)},kn xs r=true→∃ ys,r.map (·.1)=xs++ys:=by
   intro xs
   induction xs with
   | nil=>intro r _;exact⟨_,rfl⟩
   | cons x xs ih =>
    intro r h
    cases r with
    | nil=>simp [kn] at h
    | cons p r =>
     simp only [kn,cg,jw] at h
     obtain⟨ys,e⟩:=ih h.2
     exact⟨ys,by simp [e,h.1.1]⟩
  obtain⟨ys,e⟩:=hp hpar
  rw [e] at nd
  exact(List.nodup_append.mp nd).1
 refine hrun ?_
 refine rO (ds:=ds) hpl (hds _ _) hnd (by rw [hn,← hlen];exact h1) (by rw [hn,← hlen,← hdlen];exact h2) (by rw [hn,← hdlen];exact hdl) ?_
 rw [hn,hclo,hgl,hbu]
 simp only [newFunctionEnv,sd,cy,je]
 refine ab (wpAny_alloc ?_)
 refine ab (wpAny_layCells _ (fun name kind cells=>by cases hkc:kind==NameKind.cell<;>simp [hkc]) _ _ _ _ ?_)
 rw [show({ s with heap:=s.heap.push { cls:=.type "frame",data:=.dict #[] } }:Shared).heap.objs.size=s.heap.objs.size+1 from iz ..]
 obtain⟨F₀,hk₀⟩:=j6 (T:="frame") (env:=newEnv fd.scope s.heap.objs.size mainGlobals (cellsFrom (s.heap.objs.size+1) fd.scope.names cl) (fd.qualname ++ ".<locals>.") (some a) fd.code none builtinsNs) R nd clo rfl rfl fun i x k' e=>⟨k',e,.inl rfl⟩
 have eo:iv (newEnv fd.scope s.heap.objs.size mainGlobals (cellsFrom (s.heap.objs.size+1) fd.scope.names cl) (fd.qualname ++ ".<locals>.") (some a) fd.code none builtinsNs):=⟨kind,nd,rfl,rfl⟩
 have x₀:Evo [] σ s.heap σ (pushCells (s.heap.push { cls:=.type "frame",data:=.dict #[] }) fd.scope.names):=Evo.keeps hk₀
 have hall:VRs G s.heap (vs++dv.drop (dv.length-(n-vs.length))) (ws++ds.drop (ds.length-(n-ws.length))):=by
  rw [← hdlen,← hlen]
  exact vr.append (hvd.drop _)
 have ok:=cellsFrom_ok fd.scope.names (s.heap.push { cls:=.type "frame",data:=.dict #[] }) (s.heap.objs.size+1) [] ⟨fun _ _ hm=>(nomatch hm),List.Pairwise.nil⟩ (by rw [iz];exact ay _)
 rw [iz] at ok
 have hX:∀ z∈s.heap.objs.size::(cellsFrom (s.heap.objs.size+1) fd.scope.names []).map (·.2),s.heap.get? z=none:=fun z hz=>by
  rcases cu.mp hz with rfl | hz
  ·exact none_at_size _
  ·obtain⟨p,hp,rfl⟩:=bw.mp hz
   exact yw (Nat.le_of_succ_le (ok.empty p.1 p.2 hp).2)
 have hN:∀ (i:Nat) x c,fd.scope.names[i]?=some (x,.cell)→(cellsFrom (s.heap.objs.size+1) fd.scope.names cl).lookup x=some c→c∈s.heap.objs.size::(cellsFrom (s.heap.objs.size+1) fd.scope.names []).map (·.2)∧G.hb.get? c=none:=fun i x c e hc=>by
  have hm:c∈s.heap.objs.size::(cellsFrom (s.heap.objs.size+1) fd.scope.names []).map (·.2):=by
   obtain⟨c1,hm⟩:=rg fd.scope.names (s.heap.objs.size+1) x (cq e)
   obtain⟨c',hl'⟩:=pe hm
   rw [et,tc hl'] at hc
   cases hc
   exact .tail _ (bw.mpr ⟨_,mem_of_lookup hl',rfl⟩)
  refine⟨hm,?_⟩
  cases hq:G.hb.get? c with
  | none=>rfl
  | some o=>have:=R.base c o hq;rw [hX c hm] at this;cases this
 have hXl:s.heap.objs.size∈s.heap.objs.size::(cellsFrom (s.heap.objs.size+1) fd.scope.names []).map (·.2):=.head _
 have hXm:∀ p∈cellsFrom (s.heap.objs.size+1) fd.scope.names [],p.2∈s.heap.objs.size::(cellsFrom (s.heap.objs.size+1) fd.scope.names []).map (·.2):=fun p hp=>.tail _ (bw.mpr ⟨p,hp,rfl⟩)
 have hXe:∀ z∈s.heap.objs.size::(cellsFrom (s.heap.objs.size+1) fd.scope.names []).map (·.2),z∈s.heap.objs.size::(cellsFrom (s.heap.objs.size+1) fd.scope.names cl).map (·.2):=fun z hz=>by
  rcases cu.mp hz with rfl | hz
  ·exact .head _
  ·obtain⟨p,hp,rfl⟩:=bw.mp hz
   exact .tail _ (bw.mpr ⟨p,by rw [et];exact ek _ hp,rfl⟩)
 generalize s.heap.objs.size::(cellsFrom (s.heap.objs.size+1) fd.scope.names []).map (·.2)=X at hX hN hXl hXm hXe
 refine ab (lJ (X:=X) eo hXl hN _ (fun _ _ _=>rfl) 0 (fd.params.args.map (·.arg)) (vs++dv.drop (dv.length-(n-vs.length))) _ ρf { s with heap:=pushCells (s.heap.push { cls:=.type "frame",data:=.dict #[] }) fd.scope.names } _ ?_ (fun i x e=>?_) F₀ (R.keeps hk₀) (hall.mono fun b o e _=>hk₀ b o e) fun h' tk ρ2 hρ2 F' R' x'=>?_)
 ·rw [au,bz,gq,hn];(exact Ar.sub _ _ (fun q1 p1=>(Ar.sub _ _ (fun q2 p2=>(Ar.sub _ _ (fun q3 p3=>(eF .bG [[1,1,-1,1],[1,-1,1,-1]] .bQ .bB (.e (.a .G .B) .A) p1 p2 p3)) fun q3 p3=>(JD .bG [[1,1,-1,1,-1,0,1],[1,0,0,0,0,1,0]] (.k .D .A) (.e .D .B) (.e (.a .C .F) .G) (.e (.a .F .H) .G) .A (.e .H .O) h1 hlen p1 p2 q3 p3))) fun q2 p2=>(Ar.sub _ _ (fun q3 p3=>(KS .bG [[1,0,0,0,1,1,0,1],[1,1,1,1,-1,0,1,0]] (.k .A .a0) (.e .D .B) (.e .F .G) (.e (.a .C .H) .G) (.k .G .I) (.e .H .O) (.e (.a .I .B) .A) h2 hlen hdlen p1 q2 p2 p3)) fun q3 p3=>(KR .bG [[1,1,0,-1,0,1,1,0,1],[1,0,1,1,1,-1,0,1,0]] (.k .D .A) (.k .A .a0) (.e .D .B) (.e .F .G) (.e (.a .C .H) .G) (.k .G .I) (.e .H .O) (.e .I .O) h1 h2 hlen hdlen p1 q2 p2 p3)))) fun q1 p1=>(Ar.sub _ _ (fun q2 p2=>(Ar.sub _ _ (fun q3 p3=>(JD .bG [[1,1,-1,0,1,0,0],[1,0,0,1,0,1,-1]] (.k .D .A) (.e .D .B) (.k .F .G) .aF (.e (.a .G .H) .F) (.e (.a .H .B) .A) h1 hlen q1 p1 p2 p3)) fun q3 p3=>(gR .bG [[1,1,-1,1,0],[1,0,0,0,1]] (.k .D .A) (.e .D .B) .aF .A h1 hlen p1 q3))) fun q2 p2=>(KU .bG [[1,1,0,-1,0,0,1,0],[1,0,1,1,1,1,0,1]] (.k .D .A) (.k .A .a0) (.e .D .B) (.e .F .G) (.k .G .H) .aF (.e .H .O) h1 h2 hlen hdlen q1 p1 p2)))
 ·rw [jq];exact fX hpar i x e
 ·refine af ⟨lim.keeps R'.base,?_⟩
  have hρ':ρ2=ρ':=by
   funext i
   rw [hρ2 i,hρ i,bz,gq]
   simp only [fu,je,jq,Nat.sub_zero]
   rw [show vs.length+(dv.length-(dv.length-(n-vs.length)))=n by(exact Ar.sub _ _ (fun q1 p1=>(Ar.sub _ _ (fun q2 p2=>(Ar.sub _ _ (fun q3 p3=>(eF .a3 .t (.e .a6 .F) .bB .aZ p1 p2 p3)) fun q3 p3=>(jN .a3 [[1,0,0,0,1,0],[1,1,1,-1,0,1]] .G (.e .a6 .F) .bB .bV .bH h1 p1 p2 q3 p3))) fun q2 p2=>(Ar.sub _ _ (fun q3 p3=>(jN .a3 [[1,1,-1,0,1,0],[1,0,1,1,0,1]] (.k .C .a1) .c3 (.k .D .G) .aY .aZ h2 p1 q2 p2 p3)) fun q3 p3=>(H4 .a3 [[1,0,1,-1,0,1,0],[1,1,0,1,1,0,1]] .G (.k .C .a1) .c3 (.k .D .G) .aY .bH h1 h2 p1 q2 p2 p3)))) fun q1 p1=>(Ar.sub _ _ (fun q2 p2=>(Ar.sub _ _ (fun q3 p3=>(jN .a3 [[1,0,1,0,1,-1],[1,1,0,1,0,0]] .G .aU .a5 (.e (.a .F .G) .D) .aZ h1 q1 p1 p2 p3)) fun q3 p3=>(qc .a3 [[1,0,0,1],[1,1,1,0]] .G .a5 .bV h1 p1 q3))) fun q2 p2=>(DM .a3 [[1,0,1,1,0,1],[1,1,0,0,1,0]] .G (.k .C .a1) .aU .a5 .aY h1 h2 q1 p1 p2)))]
  subst hρ'
  refine hb _ h' tk X rfl rfl eo F' R' ((x₀.more (fun _ h=>nomatch h)).trans x') hX hXe fun z hz=>?_
  rcases cu.mp hz with rfl | hz
  ·exact .inl hXl
  ·obtain⟨p,hp,rfl⟩:=bw.mp hz
   have hp:p∈cellsFrom (s.heap.objs.size+1) fd.scope.names cl:=hp
   rw [et] at hp
   rcases gm.mp hp with hp | hp
   ·exact .inl (hXm p hp)
   ·exact .inr ⟨p,hp,rfl⟩
theorem pJ {a:Addr} {n d:Nat} {dflt:List V} {sc:Scope} {body:List Stmt} {b:jt} {vs:List V} {ws:List Value} {Q:Value→Shared→Prop} (K:FnAt G a n dflt sc body)
  (hb:∀ (A':Around) (E':Value→Shared→Prop) (env:Env) (h':Heap) (tk:Tok),AOk A' d→env.scope=sc→(∀ o fd,G.hb.get? a=some o→o.data=.func fd→env.code=fd.code)→iv env→FR G σ env (frameOf ⟨n,dflt,b⟩ vs) h'→Rel G σ h'→Evo (envX env) σ s.heap σ h'→(∀ z∈envX env,s.heap.get? z=none) →
   wpAny G.M A' (execs body env) (fun f s'=>Q (match f with | .ret v=>v | _=>.none) s') E' { s with heap:=h',toks:=tk })
  (ao:AOk A (d+1)) (R:Rel G σ s.heap) (vr:VRs G s.heap vs ws)
  (h1:vs.length≤n) (h2:n≤vs.length+dflt.length):codeAny G.M A (.call (.ref a) ⟨ws,[]⟩) (wants Q E) s:=by
 obtain⟨o,fd,ho,hd,hsc,hbody,hclo,hgl,hbu,hcode,hpl,hpar,hn,hdf,hdl⟩:=K.here
 subst hsc
 obtain⟨ds,hds,hvd⟩:∃ ds,(∀ (A:Around) (E:Value→Shared→Prop) (Q:Option (Array Value)→Shared→Prop),(∀ o,(o.getD #[]).toList=ds→Q o s)→wpAny G.M A (seqItems? fd.defaults) Q E s)∧VRs G s.heap dflt ds:=by
  rcases hdf with ⟨e1,e2⟩ | ⟨t,ot,ds,m,e1,e2,e3,e4⟩
  ·refine⟨[],fun A E Q q=>?_,by subst e2;exact .nil⟩
   rw [e1]
   show wpAny G.M A (do notAStandIn .none;pure none) Q E s
   exact dj (by rfl) (q none rfl)
  ·refine⟨ds,fun A E Q q=>?_,e4.mono fun b o e _=>R.base b o e⟩
   rw [e1]
   show wpAny G.M A (do match (← load t).data with | .seq xs _=>pure (some xs) | _=>pure none) Q E s
   refine ab (xk (R.base _ _ e2) ?_)
   rw [e3]
   exact af (q _ (by simp))
 refine jI (run:=fun env=>.func body env) (ρf:=fun _=>none) (ρ':=frameOf ⟨n,dflt,b⟩ vs) ho hd K.lim K.kind K.nd hclo hgl hbu hpl hpar hn hds hvd hdl (fun h=>codeAny_call_function (by have:=ao.depth;(exact dw .C .a (.l (.a (.a .A (.m 3 .Q)) (.n 20)) .B) this)) (R.base _ _ ho) hd K.co K.gen hbody (hcode.keeps R.base) h)
  ⟨fun i x e=>absurd e (K.mG i x),fun i j x y c e=>absurd e (K.mG i x),fun p hp=>(nomatch hp),fun _ _ _ _ _=>rfl⟩ R vr h1 h2 (fun i=>?_) fun env h' tk X e1 e2 eo F' R' x' hX hXe hcl=>?_
 ·split
  ·rfl
  ·unfold frameOf cR
   dsimp only
   rw [kx]
   rw [bz,gq];(rename_i z1;exact Ar.sub _ _ (fun q1 p1=>(Ar.sub _ _ (fun q2 p2=>(Ar.sub _ _ (fun q3 p3=>(AP .Q [[1,1,1,-1,1]] (.g .C .D) .a6 (.e (.a .F .H) .G) (.e (.a .H .A) .D) z1 p1 p2 p3)) fun q3 p3=>(rU .Q [[1,1,1,1,-1,1]] .b3 (.g .C .D) .a6 (.e (.a .F .H) .G) (.e .H .O) h1 z1 p1 p2 p3))) fun q2 p2=>(Ar.sub _ _ (fun q3 p3=>(AP .Q .s (.g .C .D) .a6 (.k .G .H) (.e (.a .H .A) .D) z1 p1 q2 p3)) fun q3 p3=>(rU .Q .A .b3 (.g .C .D) .a6 (.k .G .H) (.e .H .O) h1 z1 p1 q2 p3)))) fun q1 p1=>(rz .Q .d .b3 (.g .C .D) .a5 h1 z1 p1))
 ·exact codeAny_func (hb _ _ env h' tk (ao.deep _) e1 (fun o' fd' h1 h2=>by obtain rfl:=ae (ho.symm.trans h1);rw [hd] at h2;cases h2;exact e2) eo F' R' (x'.more hXe) fun z hz=>(hcl z hz).elim (hX z) fun⟨_,hp,_⟩=>nomatch hp)
theorem wG {a:Addr} {n d:Nat} {dflt:List V} {sc:Scope} {body:List Stmt} {b:jt} {vs:List V} {ws:List Value} {Q:V→St→Prop} (K:FnAt G a n dflt sc body)
  (hb:∀ (A':Around) (E':Value→Shared→Prop) (env:Env) (s':Shared),AOk A' d→env.scope=sc→iv env→FR G σ env (frameOf ⟨n,dflt,b⟩ vs) s'.heap→Rel G σ s'.heap→wpAny G.M A' (execs body env) (nk G env σ s' (dH Q)) E' s')
  (ao:AOk A (d+1)) (R:Rel G σ s.heap) (vr:VRs G s.heap vs ws)
  (h1:vs.length≤n) (h2:n≤vs.length+dflt.length):codeAny G.M A (.call (.ref a) ⟨ws,[]⟩) (wants (fq G [] σ s Q) E) s:=by
 refine pJ (b:=b) K (fun A' E' env h' tk ao' e1 _ eo F' R' x' hX=>?_) ao R vr h1 h2
 refine av (hb A' E' env { s with heap:=h',toks:=tk } ao' e1 eo F' R') (fun f s' l=>?_) fun _ _ x=>x
 obtain⟨fl,ρ₂,σ₂,h₂,tk₂,rfl,fr,q,F₂,R₂,x₂⟩:=l
 have x3:Evo [] σ s.heap σ₂ h₂:=(x'.trans x₂).less fun z hz=>.inr (hX z hz)
 cases fr with
 | next=>exact⟨.none,σ₂,h₂,tk₂,rfl,q,.none,R₂,x3⟩
 | ret v=>exact⟨_,σ₂,h₂,tk₂,rfl,q,v,R₂,x3⟩
 | brk=>exact q.elim
 | cont=>exact q.elim
theorem lI {a:Addr} {n d:Nat} {dflt:List V} {sc:Scope} {body:List Stmt} {b:jt} {vs:List V} {ws:List Value} {Q:V→St→Prop} (K:FnAt G a n dflt sc body)
  (hb:∀ (A':Around) (E':Value→Shared→Prop) (env:Env) (s':Shared),AOk A' d→env.scope=sc→iv env→FR G σ env (frameOf ⟨n,dflt,b⟩ vs) s'.heap→Rel G σ s'.heap→wpAny G.M A' (execs body env) (nk G env σ s' (dH Q)) E' s')
  (ao:AOk A (d+1)) (R:Rel G σ s.heap) (vr:VRs G s.heap vs ws)
  (h1:vs.length≤n) (h2:n≤vs.length+dflt.length):wpAny G.M A (call (.ref a) ws) (fq G [] σ s Q) E s:=oe (wG K hb ao R vr h1 h2)
theorem DK {C:Cal} {a:Addr} {n d:Nat} {dflt:List V} {sc:Scope} {body:List Stmt} {b:jt} {vs:List V} {ws:List Value} {Q:V→St→Prop} (K:FnAt G a n dflt sc body) (hb:c7 G C sc d b body) (ao:AOk A (d+1)) (R:Rel G σ s.heap) (vr:VRs G s.heap vs ws)
  (h1:vs.length≤n) (h2:n≤vs.length+dflt.length) (h:fy C b (frameOf ⟨n,dflt,b⟩ vs) σ (dH Q)):wpAny G.M A (call (.ref a) ws) (fq G [] σ s Q) E s :=
 lI (b:=b) K (fun A' E' env s' ao' es eo F' R'=>hb A' E' env _ σ _ s' ao' es eo F' R' h) ao R vr h1 h2
noncomputable def eH (G:Stc) (fa:Nat→Option Addr) (C:Cal) (d:Nat):Prop:=∀ (k:Nat) (a:Addr),fa k=some a→(∃ o fd,G.hb.get? a=some o∧o.data=.func fd)∧∀ (A:Around) (E:Value→Shared→Prop) (vs:List V) (ws:List Value) (σ:St) (Q:V→St→Prop) (s:Shared),AOk A d→Rel G σ s.heap→VRs G s.heap vs ws →
 C k vs σ Q→wpAny G.M A (call (.ref a) ws) (fq G [] σ s Q) E s
theorem ya {C:Cal} {sc:Scope} {d:Nat} {env:Env} {ρ:Fr} {f:Addr} {o:Obj} {fd:FuncData} {first:List Value} {es:Exs} {args:List Expr} {pos:Pos} {P:List V→St→Prop} {Q:Value→Shared→Prop} (hf:G.hb.get? f=some o) (hfd:o.data=.func fd) (hs:noStar args=true) (hes:kg G C sc d es args)
  (ao:AOk A d) (hsc:env.scope=sc) (eo:iv env) (F:FR G σ env ρ s.heap) (R:Rel G σ s.heap) (h:so C es ρ σ P)
  (k:∀ vs σ₁ h₁ tk ws,P vs σ₁→VRs G h₁ vs ws→Rel G σ₁ h₁→Evo [] σ s.heap σ₁ h₁→wpAny G.M A (call (.ref f) (first++ws)) Q E { s with heap:=h₁,toks:=tk }) :
  wpAny G.M A (callWith pos (.ref f) first (backTo pos (starEach args env)) []) Q E s :=
 Calls.callWith_function (o:=o) (fd:=fd) (nh (ja hs pos env) (k9 (hes A E env ρ σ P s pos ao hsc eo F R h) fun vs σ₁ h₁ tk ws q vr r x=>⟨⟨r.base _ _ hf,hfd⟩,k vs σ₁ h₁ tk ws q vr r x⟩))
theorem xV {fa:Nat→Option Addr} {C:Cal} {sc:Scope} {d:Nat} {k:Nat} {f:Addr} {x:Str} {es:Exs} {args:List Expr} {p pos:Pos} (K:GOk G) (CO:eH G fa C d) (hk:fa k=some f) (hes:kg G C sc d es args) (hs:noStar args=true) (hx:sc.names.lookup x=some .globalImplicit) (hn:gk x=true) (hv:G.gl x=some (.ref f)) :
  ct G C sc d (.call k es) (.Call (.Name x p) args [] pos):=fun A E env ρ σ Q s ao ess eo F R h=>by
 obtain⟨⟨o,fd,ho,hd⟩,hc⟩:=CO k f hk
 refine Call_ (my K eo R (by rw [ess];exact hx) hn hv (ya ho hd hs hes ao ess eo F R h fun vs σ₁ h₁ tk ws q vr r x=>?_))
 exact av (hc A E vs ws σ₁ Q { s with heap:=h₁,toks:=tk } ao r vr q) (fun _ _ l=>fq.back x l) fun _ _ x=>x
structure pT (G:Stc) (a:Addr) (n:Nat) (cs:List V) (sc:Scope) (e:Expr):Prop where
 lim:G.hb.NoLimit
 kind:sc.kind=.function
 co:sc.isCoroutine=false
 gen:sc.isGenerator=false
 nd:(sc.names.map (·.1)).Nodup
 here:∃ o fd,G.hb.get? a=some o∧o.data=.func fd∧fd.scope=sc∧fd.body=.expr e∧fd.globals=mainGlobals∧fd.builtins=builtinsNs∧G.hb.CodeRec fd.code fd.qualname ∧
  pg fd.params=true∧kn (fd.params.args.map (·.arg)) sc.names=true∧fd.params.args.length=n∧fd.defaults=.none ∧
  (∀ (i:Nat) (x:Str),sc.names[i]?=some (x,.free)→n≤i∧G.cap x=true∧∃ c w v,fd.closure.lookup x=some c∧G.hb.IsCell c (some w)∧cs[i-n]?=some v∧VR G G.hb v w) ∧
  (∀ (i j:Nat) (x y:Str) (c:Addr),sc.names[i]?=some (x,.free)→sc.names[j]?=some (y,.free)→fd.closure.lookup x=some c→fd.closure.lookup y=some c→i=j) ∧
  (∀ p∈fd.closure,∃ o,G.hb.get? p.2=some o)∧(∀ (i:Nat) (x:Str) (k:NameKind),sc.names[i]?=some (x,k)→k≠.free→i<n)
theorem AI {C:Cal} {a:Addr} {n d:Nat} {cs:List V} {sc:Scope} {e:Expr} {b:Ex} {vs:List V} {ws:List Value} {Q:V→St→Prop} (K:pT G a n cs sc e) (hb:ct G C sc d b e) (ao:AOk A (d+1)) (R:Rel G σ s.heap) (vr:VRs G s.heap vs ws) (h1:vs.length=n)
  (h:wpE C b (fun i=>(vs++cs)[i]?) σ Q):wpAny G.M A (call (.ref a) ws) (fq G [] σ s Q) E s:=by
 obtain⟨o,fd,ho,hd,hsc,hbody,hgl,hbu,hcode,hpl,hpar,hn,hdf,hfree,hinj,hall,hoth⟩:=K.here
 subst hsc
 refine oe ?_
 refine jI (run:=fun env=>.expr e env) (dv:=[]) (ds:=[]) (ρf:=fun i=>if i<n then none else cs[i-n]?) (ρ':=fun i=>(vs++cs)[i]?) ho hd K.lim K.kind K.nd rfl hgl hbu hpl hpar hn (fun A E Q q=>?_) .nil (cf _)
  (fun h=>PySem.W.kla_callFunE (by have:=ao.depth;(exact dw .C .a (.l (.a (.a .A (.m 3 .Q)) (.n 20)) .B) this)) (R.base _ _ ho) hd K.co K.gen hbody (hcode.keeps R.base) h) ⟨fun i x ex=>?_,hinj,fun p hp=>?_,fun i x k ex hk=>bx (hoth i x k ex hk)⟩ R vr (Nat.le_of_eq h1) (by rw [List.length_nil];(exact bh (.k .A (.a .B .O)) [[1,-1]] (.e .B .A) h1)) (fun i=>?_) fun env h' tk X e1 e2 eo F' R' x' hX hXe hcl=>?_
 ·rw [hdf]
  show wpAny G.M A (do notAStandIn .none;pure none) Q E s
  exact dj (by rfl) (q none rfl)
 ·obtain⟨h2,hcap,c,w,v,hc,hcell,hv,vv⟩:=hfree i x ex
  obtain⟨oc,hoc,hdc⟩:=hcell
  refine⟨c,some w,hc,⟨oc,R.base _ _ hoc,hdc⟩,?_,fun dm=>(by rw [R.new c dm] at hoc;cases hoc),fun q=>(by rw [hcap] at q;cases q)⟩
  rw [aw (by exact bh .bN .a .a1 h2),hv]
  exact VR.mono (fun b o e _=>R.base b o e) vv
 ·obtain⟨o,ho⟩:=hall p hp;exact⟨o,R.base _ _ ho⟩
 ·rw [List.drop_nil,fc]
  by_cases c:i<n
  ·rw [bx c,zv (by exact gr .C .o (.e .B .C) .U h1 c)]
  ·rw [aw c,aw c,List.getElem?_append_right (by exact gr .A .b (.e .A .C) (.g .B .C) h1 c),h1]
 ·refine PySem.W.kla_codeExpr (av (hb (A.deeper env) _ env _ σ Q { s with heap:=h',toks:=tk } (ao.deep _) e1 eo F' R' h) (fun v s' l=>?_) fun _ _ x=>x)
  obtain⟨u,σ',h2,tk2,rfl,q,vr',R2,x2⟩:=l
  exact⟨u,σ',h2,tk2,rfl,q,vr',R2,(x'.trans (x2.more fun _ h=>nomatch h)).less fun z hz=>.inr (hX z hz)⟩
noncomputable def jS (G:Stc) (C:Cal) (d:Nat):Prop:=∀ (k:Nat) (cs:List V) (a:Addr),G.clo k cs a→(∃ o fd,G.hb.get? a=some o∧o.data=.func fd)∧∀ (A:Around) (E:Value→Shared→Prop) (vs:List V) (ws:List Value) (σ:St) (Q:V→St→Prop) (s:Shared),AOk A d→Rel G σ s.heap→VRs G s.heap vs ws →
 C (1000+k) (vs++cs) σ Q→wpAny G.M A (call (.ref a) ws) (fq G [] σ s Q) E s
end
end MP
end
section
namespace MP
open PySem PyProof.Rows
structure MethAt (G:Stc) (name:Str) (f:Addr):Prop where
 here:∃ N mN of fd,ClsAt G.hb G.cS N mN∧mN "__getattribute__"=none∧mN "__getattr__"=none∧mN name=some (.ref f)∧G.hb.get? f=some of∧of.cls=.type "function"∧of.data=.func fd
 out:name∉G.attrs
 lk:∃ y,typeLookup (.type "object") name=pure y
section
variable {G:Stc} {A:Around} {E:Value→Shared→Prop} {s:Shared} {σ:St} {fa:Nat→Option Addr} {C:Cal} {sc:Scope} {d:Nat}
theorem o4 {a:Addr} {name:Str} {f:Addr} {pl:Sem Bool} {Q:Value × List Value→Shared→Prop} (M:MethAt G name f) (R:Rel G σ s.heap) (hI:(σ.I a).isSome) (q:Q (.ref f,[.ref a]) s):wpAny G.M A (getMethod (.ref a) name pl) Q E s:=by
 obtain⟨N,mN,of,fd,X,hga,hgt,hf,hfo,hfc,_⟩:=M.here
 obtain⟨y,hB⟩:=M.lk
 obtain⟨⟨dd,g⟩,hI⟩:=ax.mp hI
 have I:=R.I a dd g hI
 obtain⟨m,hm,hv,hout⟩:=I.ns
 obtain⟨hh,gg,dr,t,os⟩:=s
 obtain⟨nm,q',bs,sn,sub,col,d2,k0,k1,k2,k3,k5,hC⟩:=(X.keeps R.base).obj
 exact method_of hC (X.keeps R.base).ns hga hgt hf (R.base _ _ hfo) hfc hB (I.inst hm) (hout name M.out) q
theorem xK {e:Ex} {k:Nat} {f:Addr} {name:Str} {es:Exs} {o:Expr} {args:List Expr} {apos pos:Pos} (CO:eH G fa C d) (hk:fa k=some f) (M:MethAt G name f) (ha:ct G C sc d e o) (hes:kg G C sc d es args) (hb:lg o=true) (hs:noStar args=true) (hlen:args.length<30) (hline:(apos.endLine==pos.line)=true) :
  ct G C sc d (.meth e k es) (.Call (.Attribute o name apos) args [] pos):=fun A E env ρ σ Q s ao ess eo F R h=>by
 refine oz hb hs hlen hline (md (ha A E env ρ σ _ s ao ess eo F R h) fun v σ₁ h₁ tk w q vr r x pl=>?_)
 obtain⟨a,rfl,hI,q⟩:=q
 obtain rfl:=vr
 obtain⟨⟨of,fd,ho,hd⟩,hc⟩:=CO k f hk
 refine o4 (s:={ s with heap:=h₁,toks:=tk }) M r hI (ya (s:={ s with heap:=h₁,toks:=tk }) ho hd hs hes ao ess eo (F.evo x) r q fun vs σ₂ h₂ tk₂ ws q₂ vrs r₂ x₂=>?_)
 exact av (hc A E _ _ σ₂ Q { s with heap:=h₂,toks:=tk₂ } ao r₂ (.cons (.obj a) vrs) q₂) (fun _ _ l=>fq.back (x.trans x₂) l) fun _ _ x=>x
structure nN (G:Stc) (f:Addr):Prop where
 here:∃ N mN of,ClsAt G.hb G.cS N mN∧mN "__init__"=some (.ref f)∧G.hb.get? f=some of∧of.cls=.type "function"
theorem qP (C:Addr) (ws:List Value):(Code.builtin "type.__call__" ⟨.ref C::ws,[]⟩).cUnits≤10:=by
 show 1+3*(Code.frames (.builtin "type.__call__" ⟨.ref C::ws,[]⟩))≤10
 exact dk rfl
theorem AOk.make (h:AOk A (d+1)) (C:Addr) (ws:List Value):AOk (A.under (.builtin "type.__call__" ⟨.ref C::ws,[]⟩)) d :=
 ⟨h.handled,by have:=h.depth;show A.depth+1+3*d+20<_;(exact dw (.l (.a (.a .M (.m 3 .B)) (.n 20)) .C) .a (.l (.a (.a .A (.m 3 .L)) (.n 20)) .C) this),by have:=h.units;have:=qP C ws;show A.units+(Code.cUnits _)+30*d+300<_;(rename_i z1;exact ee (.l (.a (.a .P (.m 30 .C)) (.n 300)) .D) .b (.l (.a (.a .A (.m 30 .Q)) (.n 300)) .D) (.k .B (.n 10)) z1 this)⟩
theorem AOk.less {d':Nat} (h:AOk A d) (hd:d'≤d):AOk A d':=⟨h.handled,by have:=h.depth;(exact ee (.l (.a (.a .A (.m 3 .B)) (.n 20)) .C) [[1,3,1]] .bP (.l (.a (.a .A (.m 3 .D)) (.n 20)) .C) hd this),by have:=h.units;(exact ee (.l (.a (.a .A (.m 30 .B)) (.n 300)) .C) [[1,30,1]] .bP (.l (.a (.a .A (.m 30 .D)) (.n 300)) .C) hd this)⟩
theorem xH {f:Addr} {x:Str} {es:Exs} {args:List Expr} {p pos:Pos} (K:GOk G) (CO:eH G fa C (d-1)) (hd:1≤d) (hk:fa 0=some f) (M:nN G f) (hes:kg G C sc d es args) (hs:noStar args=true) (hne:args≠[]) (hx:sc.names.lookup x=some .globalImplicit) (hn:gk x=true) (hv:G.gl x=some (.ref G.cS)) :
  ct G C sc d (.newM es) (.Call (.Name x p) args [] pos):=fun A E env ρ σ Q s ao ess eo F R h=>by
 obtain⟨N,mN,of,X,hi,hfo,hfc⟩:=M.here
 obtain⟨_,hc⟩:=CO 0 f hk
 have ao':AOk A (d-1+1):=by rw [aa hd];exact ao
 refine Call_ (my K eo R (by rw [ess];exact hx) hn hv ?_)
 have go:∀ vs σ₁ h₁ tk ws,(∀ a dd,σ₁.I a=none→C 0 (.obj a::vs) (σ₁.ju a dd fun _=>none) fun v σ=>v=.none∧Q (.obj a) σ)→VRs G h₁ vs ws→Rel G σ₁ h₁→Evo [] σ s.heap σ₁ h₁→wpAny G.M A (call (.ref G.cS) ws) (fq G [] σ s Q) E { s with heap:=h₁,toks:=tk }:=fun vs σ₁ h₁ tk ws q vr r x=>by
  obtain⟨nm,q',bs,sn,sub,col,d2,k0,k1,k2,k3,k5,hC⟩:=(X.keeps r.base).obj
  refine wpAny_call_obj_init PySem.F.objNew hC (X.keeps r.base).ns hi (r.base _ _ hfo) hfc fun h' xx dx made=>?_
  have hnoI:σ₁.I xx=none:=by
   cases hq:σ₁.I xx with
   | none=>rfl
   | some y=>obtain⟨o,e⟩:=r.nv (.inr (.inr (.inr (.inl (by rw [hq];rfl)))));rw [made.newX] at e;cases e
  have hI:ym G h' xx dx fun _=>none:=by
   obtain⟨o,ho,hcls,hnc,hd⟩:=made.inst
   have hdd:=made.dict o ho
   rcases hd with ⟨hn0,_⟩ | ⟨d',hd',hne,hns⟩
   ·rw [hdd] at hn0;cases hn0
   ·rw [hdd] at hd';cases hd'
    exact⟨⟨o,ho,hcls,hdd,hnc⟩,⟨_,hns,fun _ _ _=>trivial,fun _ _=>rfl⟩,hne⟩
  have r':=r.G5 made.newX made.newD hI.ne made.keeps hI
  have x':Evo [] σ₁ h₁ (σ₁.ju xx dx fun _=>none) h':=Evo.G5 _ made.newX made.newD made.keeps
  refine av (hc _ E _ _ _ _ { s with heap:=h',toks:=tk } (ao'.make _ _) r' (.cons (.obj xx) (vr.mono x'.frz)) (q xx dx hnoI)) (fun w s' l=>?_) fun _ _ x=>x
  obtain⟨v,σ₂,h₂,tk₂,rfl,⟨rfl,q₂⟩,vr₂,r₂,x₂⟩:=l
  cases vr₂
  exact⟨rfl,.obj xx,σ₂,h₂,tk₂,rfl,q₂,.obj xx,r₂,x.trans (x'.trans x₂)⟩
 cases args with
 | nil=>exact absurd rfl hne
 | cons e rest =>
  refine callWith_cls X (k9 (hes A E env ρ σ _ s pos ao ess eo F R h) fun vs σ₁ h₁ tk ws q vr r x=>⟨r.base,go vs σ₁ h₁ tk ws q vr r x⟩) ((di hs).1 env) (ja (di hs).2 pos env)
theorem eH.more {d':Nat} (h:eH G fa C d) (hd:d≤d'):eH G fa C d':=fun k a hk=>⟨(h k a hk).1,fun A E vs ws σ Q s ao=>(h k a hk).2 A E vs ws σ Q s (ao.less hd)⟩
theorem jS.more {C:Cal} {d d':Nat} (h:jS G C d) (hd:d≤d'):jS G C d':=fun k cs a hk=>⟨(h k cs a hk).1,fun A E vs ws σ Q s ao=>(h k cs a hk).2 A E vs ws σ Q s (ao.less hd)⟩
end
end MP
end
section
set_option tactic.hygienic true
namespace MP
open PySem PyProof.Rows
theorem iD:Slot "method_descriptor" "__get__" "method_descriptor.__get__" :=
 .of (owner:="method_descriptor") (n:="__get__") (by rw [fm,dg];kernel_rfl) (by decide +kernel) (by decide +kernel) (by decide +kernel)
  (by first | exact .inl (by decide +kernel) | exact .inr (by decide +kernel)) (by rw [me];kernel_rfl)
theorem pC:entryFor table "method_descriptor.__get__"=some Builtin.«method_descriptor.__get__»:=entryFor_of_tree (by kernel_rfl)
theorem rT (a b c:Value):argsOk "method_descriptor.__get__" ⟨[a,b,c],[]⟩:=by unfold argsOk;kernel_rfl
theorem yX:typeLookup (.type "method_descriptor") "__set__"=pure none:=by rw [fm,dg];kernel_rfl
theorem yY:typeLookup (.type "method_descriptor") "__delete__"=pure none:=by rw [fm,dg];kernel_rfl
structure lO (T:String) (name:Str) (id nm:String):Prop where
 lk:typeLookup (.type T) name=pure (some (.builtin id))
 ty:typeOf (.builtin id)=pure (.type "method_descriptor")
 own:(kfb_private% "ownerAndName") id=(T,nm)
 told:Manifest.toldItsClass.contains id=false
 sub:isSubtype (.type T) (.type T)=pure true
 nm1:(["__module__","__name__","__qualname__","__doc__","__annotations__"]:List Str).contains name=false
 tp1:(Value.type T==Value.type "module")=false
theorem AO:lO "dict" "get" "dict.get" "get" where
 lk:=PySem.F.slot_dict_get.lookup
 ty:=PySem.F.type_dict_get
 own:=by first | decide +kernel | kernel_rfl
 told:=by first | decide +kernel | kernel_rfl
 sub:=by rw [me];kernel_rfl
 nm1:=by decide +kernel
 tp1:=by decide +kernel
theorem AN:lO "set" "__contains__" "set.__contains__" "__contains__" where
 lk:=by rw [fm,dg];kernel_rfl
 ty:=by show builtinType _=_;rw [builtinType_eq_fast];kernel_rfl
 own:=by first | decide +kernel | kernel_rfl
 told:=by first | decide +kernel | kernel_rfl
 sub:=by rw [me];kernel_rfl
 nm1:=by decide +kernel
 tp1:=by decide +kernel
noncomputable def fI (id:String) (a:Addr):Obj:={ cls:=.type "builtin_function_or_method",data:=.fields #[.builtin id,.ref a] }
section
variable {prog:Program} {w:World} {A:Around} {E:Value→Shared→Prop} {s:Shared}
theorem v7 {T:String} {name:Str} {id nm:String} {a:Addr} {o:Obj} {P:Fin→Shared→Prop} (B:lO T name id nm) (hx:s.heap.get? a=some o) (hc:o.cls=.type T) (h:P (.done (.ret (.ref s.heap.objs.size))) { s with heap:=s.heap.push (fI id a) }) :
  wpAny (model prog w) A (Builtin.«method_descriptor.__get__» ⟨[.builtin id,.ref a,.type T],[]⟩) P E s:=by
 have hT:s.TypeIs (.ref a) T:=⟨_,hx,hc⟩
 unfold Builtin.«method_descriptor.__get__»
 refine ab (dj (a:=(.builtin id,some (.ref a),some (.type T))) (by first | rfl | kernel_rfl) ?_)
 simp only [B.told]
 show wpAny _ _ (do
  (do
   let (owner,name):=(kfb_private% "ownerAndName") id
   if !(← isInstance (.ref a) (.type owner)) then
    rule "descr.get.wrong-instance"
    raiseError "TypeError" s!"descriptor '{(Str.ofString name).toString}' for '{← typeName (.type owner)}' objects doesn't apply to a '{← typeNameOf (.ref a)}' object":Sem Unit)
  ret (← newFields "builtin_function_or_method" [.builtin id,.ref a])) _ _ _
 rw [B.own]
 dsimp only
 unfold isInstance
 have hsub:=B.sub
 refine ab (ab ?_)
 refine ab (wpAny_typeOf hT ?_)
 refine dj B.sub ?_
 refine af ?_
 refine ab ?_
 unfold newFields
 exact gx (af h)
theorem rM {T:String} {name:Str} {id nm:String} {a:Addr} {o:Obj} {Q:Value→Shared→Prop} (B:lO T name id nm) (hx:s.heap.get? a=some o) (hc:o.cls=.type T) (h:Q (.ref s.heap.objs.size) { s with heap:=s.heap.push (fI id a) }) :
  wpAny (model prog w) A (call (.builtin "method_descriptor.__get__") [.builtin id,.ref a,.type T]) Q E s :=
 gc iD B.ty pC (v7 B hx hc ⟨_,rfl,h⟩) (rT _ _ _)
theorem y8 {T:String} {name:Str} {id nm:String} {a:Addr} {o:Obj} {tk:Tok} {P:Fin→Shared→Prop} (B:lO T name id nm) (hx:s.heap.get? a=some o) (hc:o.cls=.type T) (hd:o.dict=none) (hnc:∀ c,o.data≠.cls c) (h:P (.done (.ret (.ref s.heap.objs.size))) { s with heap:=s.heap.push (fI id a) }) :
  wpAny (model prog w) A (Builtin.«object.__getattribute__» ⟨[.ref a,.str name tk],[]⟩) P E s:=by
 obtain⟨hh,g,d,t,os⟩:=s
 have hT:(⟨hh,g,d,t,os⟩:Shared).TypeIs (.ref a) T:=⟨_,hx,hc⟩
 have hT5:(⟨hh,g,d,t,os⟩:Shared).TypeIs (.builtin id) "method_descriptor":=B.ty
 have f4:=B.lk
 have f5:=B.ty
 have f6:=iD.lookup
 have f7:=yX
 have f8:=yY
 have hnm:=B.nm1
 unfold Builtin.«object.__getattribute__»
 repeat (any_goals (first | assumption | wp_step))
 split
 ·rename_i c e;exact absurd e (hnc c)
 ·unfold instanceDict
  repeat (any_goals (first | assumption | (with_reducible refine gF hx ?_;rw [hc]) | with_reducible refine wpAny_loadHead hx ?_ | wp_step))
  rw [hd]
  repeat (any_goals (first | assumption | wp_step))
  rw [aw (by rw [hnm];decide)]
  refine af ?_
  repeat (any_goals (first | assumption | ((with_reducible show wpAny _ _ (call (Value.builtin "method_descriptor.__get__") _ _) _ _ _);refine rM B hx hc ?_) | wp_step))
theorem gA {T:String} {name:Str} {id nm ga:String} {a:Addr} {o:Obj} {expr:Bool} {Q:Value→Shared→Prop} (B:lO T name id nm) (sl:Slot T "__getattribute__" ga) (en:entryFor table ga=some Builtin.«object.__getattribute__») (ar:∀ x y,argsOk ga ⟨[x,y],[]⟩)
  (hx:s.heap.get? a=some o) (hc:o.cls=.type T) (hd:o.dict=none) (hnc:∀ c,o.data≠.cls c) (h:Q (.ref s.heap.objs.size) { s with heap:=s.heap.push (fI id a),toks:=s.toks+1 }) :
  wpAny (model prog w) A (getAttr (.ref a) name expr) Q E s:=by
 obtain⟨hh,g,d,t,os⟩:=s
 obtain⟨c,dct,dat,slt⟩:=o
 simp only at hc hd hnc
 subst hc;subst hd
 have hT:∀ tk',(⟨hh,g,d,tk',os⟩:Shared).TypeIs (.ref a) T:=fun _=>⟨_,hx,rfl⟩
 have f3:=sl.lookup
 have f4:=sl.bind (.ref a)
 unfold getAttr getAttrBy
 repeat (any_goals (first | assumption | exact hT _ | ((with_reducible show wpAny _ _ (call (Value.builtin ga) _ _) _ _ _);refine gc sl (hT _) en (y8 B (s:=⟨hh,g,d,t+1,os⟩) hx rfl rfl hnc ⟨_,rfl,?_⟩) (ar _ _)) | wp_step))
 have e:(expr&&onTheHeap (Value.builtin ga))=false:=by cases expr<;>rfl
 rw [aw (by rw [e];decide)]
 unfold boundAndCalled
 refine ab (dj f4 ?_)
 refine gc sl (hT _) en (y8 B (s:=⟨hh,g,d,t+1,os⟩) hx rfl rfl hnc ⟨_,rfl,?_⟩) (ar _ _)
 exact af h
theorem mV {a:Addr} {o:Obj} {expr:Bool} {Q:Value→Shared→Prop} (hx:s.heap.get? a=some o) (hc:o.cls=.type "dict") (hd:o.dict=none) (hnc:∀ c,o.data≠.cls c) (h:Q (.ref s.heap.objs.size) { s with heap:=s.heap.push (fI "dict.get" a),toks:=s.toks+1 }) :
  wpAny (model prog w) A (getAttr (.ref a) "get" expr) Q E s :=
 gA AO PySem.F.slot_dict_getattribute am_entry_dict_getattribute PySem.F.args_dict_getattribute_2 hx hc hd hnc h
theorem entry_set_ga:entryFor table "set.__getattribute__"=some Builtin.«object.__getattribute__» :=
 entryFor_alias (id':="object.__getattribute__") (by kernel_rfl) (by first | rfl | decide +kernel) (by decide +kernel) (by kernel_rfl)
theorem mU {a:Addr} {o:Obj} {expr:Bool} {Q:Value→Shared→Prop} (hx:s.heap.get? a=some o) (hc:o.cls=.type "set") (hd:o.dict=none) (hnc:∀ c,o.data≠.cls c) (h:Q (.ref s.heap.objs.size) { s with heap:=s.heap.push (fI "set.__contains__" a),toks:=s.toks+1 }) :
  wpAny (model prog w) A (getAttr (.ref a) "__contains__" expr) Q E s :=
 gA AN PySem.F.slot_set_getattribute entry_set_ga PySem.F.args_set_getattribute_2 hx hc hd hnc h
theorem nE {pos:Pos} {u a:Addr} {id:String} {first:List Value} {o:Obj} {args:List (Bool × Sem Value)} {Q:Value→Shared→Prop} (hplain:args.any (·.1)=false) (hcl:o.cls=.type "builtin_function_or_method") (hdt:o.data=.fields #[.builtin id,.ref a])
  (h:wpAny (model prog w) A (evalArgs (.ref u) true args []) (fun x s₁=>s₁.heap.get? u=some o∧wpAny (model prog w) A (call (.ref u) (first++x.pos) x.kw) Q E s₁) E s):wpAny (model prog w) A (callWith pos (.ref u) first args []) Q E s:=by
 unfold callWith
 refine ab (br (av h (fun x s₁ h₁=>ab (er ?_)) fun _ _ x=>x))
 obtain⟨ho,hcall⟩:=h₁
 simp only [hplain,List.any_nil,cX]
 refine ab (m:=keeperOf (.ref u)) ?_
 unfold keeperOf
 refine ab (xk ho ?_)
 simp only [hcl,hdt,show(Value.type "builtin_function_or_method" != Value.type "method")=true by decide,show(Value.type "builtin_function_or_method" == Value.type "builtin_function_or_method" || Value.type "builtin_function_or_method" == Value.type "method-wrapper")=true by decide,rp]
 refine af ?_
 exact ab (av hcall (fun r s₂ hr=>ab (br (wpAny_point (af hr)))) fun _ _ x=>x)
theorem AJ {u a:Addr} {id:String} {o:Obj} {b:Builtin} {args:List Value} {Q:Value→Shared→Prop} (ho:s.heap.get? u=some o) (hcl:o.cls=.type "builtin_function_or_method") (hdt:o.data=.fields #[.builtin id,.ref a])
  (hck:∀ (A:Around) (E:Value→Shared→Prop) (Q:Unit→Shared→Prop),Q () s→wpAny (model prog w) A (checkBoundCall id ⟨.ref a::args,[]⟩) Q E s) (hq:id.startsWith "lifetime."=false) (he:entryFor table id=some b)
  (h:∀ A':Around,wpAny (model prog w) A' (b ⟨.ref a::args,[]⟩) (fun fin s'=>∃ v,fin=.done (.ret v)∧Q v s') E s):wpAny (model prog w) A (call (.ref u) args) Q E s:=by
 refine oe (tq ?_)
 show wpAny _ A.in1 (callAny (.ref u) ⟨args,[]⟩) _ _ s
 simp only [callAny]
 refine ab (xk ho ?_)
 simp only [hcl,hdt,show(Value.type "builtin_function_or_method" == Value.type "method" || Value.type "builtin_function_or_method" == Value.type "builtin_function_or_method" || Value.type "builtin_function_or_method" == Value.type "method-wrapper")=true by decide,rp]
 show wpAny _ _ (do checkBoundCall id ⟨.ref a::args,[]⟩;again (.builtin id ⟨.ref a::args,[]⟩)) _ _ s
 refine ab (hck _ _ _ (af ⟨eP _ hq,qe he ?_⟩))
 refine av (h _) (fun fin s' h'=>?_) fun _ _ x=>x
 obtain⟨v,rfl,hv⟩:=h'
 exact hv
theorem AG (a b c:Value):(match Manifest.signature? "dict.get" with | some sig=>Bind.checkArgs "dict.get" { sig with full:=s!"{Bind.lastOf "dict"}.{Bind.lastOf "dict.get"}" } ⟨[a,b,c],[]⟩ | none=>pure ())=pure ():=by
 rw [signature?_of (id:="dict.get") (n:=['t','e','g']) (o:=['t','c','i','d']) (by kernel_rfl) PySem.F.owner_dict];kernel_rfl
theorem AF (a b:Value):(match Manifest.signature? "set.__contains__" with | some sig=>Bind.checkArgs "set.__contains__" { sig with full:=s!"{Bind.lastOf "set"}.{Bind.lastOf "set.__contains__"}" } ⟨[a,b],[]⟩ | none=>pure ())=pure ():=by
 rw [signature?_of (id:="set.__contains__") (n:=['_','_','s','n','i','a','t','n','o','c','_','_']) (o:=['t','e','s']) (by kernel_rfl) PySem.F.owner_set];kernel_rfl
theorem pL {T id:String} {a:Addr} {o:Obj} {rest:List Value} {Q:Unit→Shared→Prop} (hx:s.heap.get? a=some o) (hc:o.cls=.type T) (hnc:∀ c,o.data≠.cls c) (hk:builtinKind id=some .method) (hm:isSubtype (.type T) (.type "module")=pure false) (hv:Manifest.varargsMethods.contains id=false)
  (hF:(match Manifest.signature? id with | some sig=>Bind.checkArgs id { sig with full:=s!"{Bind.lastOf T}.{Bind.lastOf id}" } ⟨.ref a::rest,[]⟩ | none=>pure ())=pure ()) (h:Q () s):wpAny (model prog w) A (checkBoundCall id ⟨.ref a::rest,[]⟩) Q E s:=by
 have hT:s.TypeIs (.ref a) T:=⟨_,hx,hc⟩
 unfold checkBoundCall
 cases hsig:Manifest.signature? id with
 | none=>exact af h
 | some sig =>
  rw [hsig] at hF
  dsimp only at hF ⊢
  rw [hk]
  dsimp only
  rw [aw (by decide)]
  unfold isInstance
  refine ab (ab (wpAny_typeOf hT ?_))
  refine dj hm ?_
  rw [hv,aw (by decide)]
  have hnot:∀ Q':Bool→Shared→Prop,Q' false s→wpAny (model prog w) A (isType (.ref a)) Q' E s:=fun Q' q=>by
   unfold isType loadHead
   refine ab (wpAny_loadPart hx (af ?_))
   split
   ·rename_i c e;exact absurd e (hnc c)
   ·exact q
  refine ab (hnot _ ?_)
  rw [aw (by decide)]
  refine ab (wpAny_typeOf hT ?_)
  exact dj hF h
theorem vV:builtinKind "dict.get"=some .method:=by kernel_rfl
theorem vU:builtinKind "set.__contains__"=some .method:=by kernel_rfl
theorem FJ:isSubtype (.type "dict") (.type "module")=pure false:=by rw [me];kernel_rfl
theorem FI:isSubtype (.type "set") (.type "module")=pure false:=by rw [me];kernel_rfl
theorem BB:Manifest.varargsMethods.contains "dict.get"=false:=by decide +kernel
theorem BA:Manifest.varargsMethods.contains "set.__contains__"=false:=by decide +kernel
theorem DJ {a:Addr} {o:Obj} {x y:Value} {Q:Unit→Shared→Prop} (hx:s.heap.get? a=some o) (hc:o.cls=.type "dict") (hnc:∀ c,o.data≠.cls c) (h:Q () s):wpAny (model prog w) A (checkBoundCall "dict.get" ⟨[.ref a,x,y],[]⟩) Q E s :=
 pL hx hc hnc vV FJ BB (AG _ _ _) h
theorem DI {a:Addr} {o:Obj} {x:Value} {Q:Unit→Shared→Prop} (hx:s.heap.get? a=some o) (hc:o.cls=.type "set") (hnc:∀ c,o.data≠.cls c) (h:Q () s):wpAny (model prog w) A (checkBoundCall "set.__contains__" ⟨[.ref a,x],[]⟩) Q E s :=
 pL (T:="set") (id:="set.__contains__") (rest:=[x]) hx hc hnc vU FI BA (AF (.ref a) x) h
end
end MP
end
section
namespace MP
open PySem PyProof.Rows
theorem qI:plainId "dict.get"=true:=PySem.F.slot_dict_get.plain
theorem vN:("dict.get":String).startsWith "lifetime."=false:=by decide +kernel
theorem vM:("set.__contains__":String).startsWith "lifetime."=false:=by decide +kernel
section
variable {prog:Program} {w:World} {A:Around} {E:Value→Shared→Prop} {s:Shared}
theorem wI {u a:Addr} {id:String} {o:Obj} {b:Builtin} {args:List Value} {S:PySem.Spec} {Q:Value→Shared→Prop} (ho:s.heap.get? u=some o) (hcl:o.cls=.type "builtin_function_or_method") (hdt:o.data=.fields #[.builtin id,.ref a])
  (hck:∀ (A:Around) (E:Value→Shared→Prop) (Q:Unit→Shared→Prop),Q () s→wpAny (model prog w) A (checkBoundCall id ⟨.ref a::args,[]⟩) Q E s) (hq:id.startsWith "lifetime."=false) (he:entryFor table id=some b) (hp:plainId id=true)
  (g:MeetsIn prog w (b ⟨.ref a::args,[]⟩) S) (h:S A (wants Q E) s):wpAny (model prog w) A (call (.ref u) args) Q E s:=by
 refine oe (tq ?_)
 show wpAny _ A.in1 (callAny (.ref u) ⟨args,[]⟩) _ _ s
 simp only [callAny]
 refine ab (xk ho ?_)
 simp only [hcl,hdt,show(Value.type "builtin_function_or_method" == Value.type "method" || Value.type "builtin_function_or_method" == Value.type "builtin_function_or_method" || Value.type "builtin_function_or_method" == Value.type "method-wrapper")=true by decide,rp]
 show wpAny _ _ (do checkBoundCall id ⟨.ref a::args,[]⟩;again (.builtin id ⟨.ref a::args,[]⟩)) _ _ s
 refine ab (hck _ _ _ (af ⟨eP _ hq,qe he ?_⟩))
 rw [rn hp]
 exact g A (wants Q E) s h
theorem jY {K:Type} [DecidableEq K] {knd:KeyKind prog w K} {a:Addr} {k:K} {key:Value} {S:K→Bool} {n:Nat} {Q:Value→Shared→Prop} (hkey:knd.is k key=true) (hsc:key.scannable=true) (hS:s.heap.SetOf knd a S n)
  (h:Q (.bool (S k)) { s with toks:=s.toks+1 }):wpAny (model prog w) A (Builtin.«frozenset.__contains__» ⟨[.ref a,key],[]⟩) (fun fin s'=>∃ v,fin=.done (.ret v)∧Q v s') E s:=by
 unfold Builtin.«frozenset.__contains__» Builtin.Frozenset.oneOther
 simp only [List.isEmpty_nil,bind_assoc]
 unfold Builtin.Frozenset.addrOf Builtin.Frozenset.withSetAsKey setContains
 refine ab (af ?_)
 try dsimp only
 refine ab (af ?_)
 try dsimp only
 refine ab (vg ?_)
 refine br ?_
 refine ab (knd.pyHash hkey ?_)
 refine ab (wpAny_setFind_of (s:={ s with toks:=s.toks+1 }) hkey hsc hS fun r hr=>?_)
 refine af ?_
 show wpAny _ _ (ret (Value.bool r.isSome)) _ _ _
 rw [hr]
 exact af ⟨_,rfl,h⟩
end
section
variable {G:Stc} {C:Cal} {sc:Scope} {d:Nat}
theorem q9 {e:Ex} {x:Expr} {pos:Pos} (he:ct G C sc d e x) (hb:lg x=true):ct G C sc d (.dgetOf e) (.Attribute x "get" pos):=fun A E env ρ σ Q s ao es eo F R h =>
 Attribute_any_ (md (he A E env ρ σ _ s ao es eo F R h) fun v σ₁ h₁ tk w q vr r x=>by
  obtain⟨a,rfl,hD,q⟩:=q
  obtain rfl:=vr
  obtain⟨es',e⟩:=ax.mp hD
  obtain⟨ds,hd,_⟩:=r.D _ _ e
  have hnd:=hd.mapOf.noDict a rfl
  obtain⟨o,ees,ep,ho,hc,hdt,_⟩:=id hd
  obtain⟨o',ho',hdn⟩:=hnd
  obtain rfl:=ae (ho.symm.trans ho')
  refine mV (s:={ s with heap:=h₁,toks:=tk }) ho hc.1 hdn (fun c q=>by rw [hdt] at q;cases q) ?_
  exact⟨.zt a,σ₁,_,_,rfl,q,.zt (bq _ rfl) rfl rfl,r.push _,x.trans (Evo.push _ _ _ _)⟩) (by rw [arm_eval_Attribute,wk hb])
theorem pZ {e:Ex} {x:Expr} {pos:Pos} (he:ct G C sc d e x) (hb:lg x=true):ct G C sc d (.shasOf e) (.Attribute x "__contains__" pos):=fun A E env ρ σ Q s ao es eo F R h =>
 Attribute_any_ (md (he A E env ρ σ _ s ao es eo F R h) fun v σ₁ h₁ tk w q vr r x=>by
  obtain⟨a,rfl,hD,q⟩:=q
  obtain rfl:=vr
  obtain⟨es',e⟩:=ax.mp hD
  have hd:=r.S _ _ e
  obtain⟨o',ho',hdn⟩:=hd.of.noDict (s:={ s with heap:=h₁,toks:=tk }) a rfl
  obtain⟨o,ees,ep,t,ho,hc,hdt,_⟩:=id hd
  obtain rfl:=ae (ho.symm.trans ho')
  refine mU (s:={ s with heap:=h₁,toks:=tk }) ho hc.1 hdn (fun c q=>by rw [hdt] at q;cases q) ?_
  exact⟨.cD a,σ₁,_,_,rfl,q,.cD (bq _ rfl) rfl rfl,r.push _,x.trans (Evo.push _ _ _ _)⟩) (by rw [arm_eval_Attribute,wk hb])
theorem lH {A:Around} {E:Value→Shared→Prop} {s:Shared} {σ:St} {env:Env} {ρ:Fr} {u a:Addr} {id:String} {o:Obj} {es:Exs} {args:List Expr} {pos:Pos} {P:List V→St→Prop} {Q:Value→Shared→Prop} (ho:s.heap.get? u=some o) (hcl:o.cls=.type "builtin_function_or_method") (hdt:o.data=.fields #[.builtin id,.ref a]) (hs:noStar args=true) (hes:kg G C sc d es args)
  (ao:AOk A d) (hsc:env.scope=sc) (eo:iv env) (F:FR G σ env ρ s.heap) (R:Rel G σ s.heap) (h:so C es ρ σ P)
  (k:∀ vs σ₁ h₁ tk ws,P vs σ₁→VRs G h₁ vs ws→Rel G σ₁ h₁→Evo [] σ s.heap σ₁ h₁→h₁.get? u=some o→wpAny G.M A (call (.ref u) ws) Q E { s with heap:=h₁,toks:=tk }) :
  wpAny G.M A (callWith pos (.ref u) [] (backTo pos (starEach args env)) []) Q E s :=
 nE (o:=o) (ja hs pos env) hcl hdt (nh (ja hs pos env) (k9 (hes A E env ρ σ P s pos ao hsc eo F R h) fun vs σ₁ h₁ tk ws q vr r x=>by
  have hu:=x.frz _ _ ho (.inr (.inl ⟨.inl hcl,_,hdt⟩))
  exact⟨hu,k vs σ₁ h₁ tk ws q vr r x hu⟩))
theorem kP {f:Nat} {es:Exs} {x:Str} {kd:NameKind} {args:List Expr} {p pos:Pos} (K:GOk G) (LO:jS G C d) (hi:sc.names[f]?=some (x,kd)) (hk:isVar kd=true) (hx:gk x=true) (hes:kg G C sc d es args) (hs:noStar args=true):ct G C sc d (.callv f es) (.Call (.Name x p) args [] pos):=fun A E env ρ σ Q s ao ess eo F R h=>by
 obtain⟨v,hv,h⟩:=h
 have hx':(x==("__debug__":Str))=false:=by simp only [gk,cg,dp] at hx;exact hx.1
 refine Call_ (wpAny_Name (i9 eo F (by rw [ess];exact hi) hk hx hv fun w vr=>?_) hx')
 have no:(∀ vs σ,¬ H7 v vs C 1000 σ Q)→wpAny G.M A (callWith pos w [] (backTo pos (starEach args env)) []) (fq G [] σ s Q) E s:=fun hno=>by
  unfold callWith
  exact ab (br (nh (ja hs pos env) (k9 (hes A E env ρ σ _ s pos ao ess eo F R h) fun vs σ₁ h₁ tk ws q vr r x=>(hno _ _ q).elim)))
 cases v with
 | zt a =>
  obtain⟨q,o,rfl,ho,hcl,hdt⟩:=vr
  refine lH ho hcl hdt hs hes ao ess eo F R h fun vs σ₁ h₁ tk ws q₁ vrs r x₁ hu=>?_
  obtain⟨k,dd,rfl,es',kk,e,hkey,q₁⟩:=iL (vs:=vs) q₁
  obtain⟨wa,wb,rfl,va,vb⟩:=vrs.two
  obtain⟨ds,hd,hvd⟩:=r.D _ _ e
  obtain⟨od,ees,ep,hod,hcd,hdd,_⟩:=id hd
  have hl:=hvd.look kk
  refine wI (s:={ s with heap:=h₁,toks:=tk }) hu hcl hdt (fun A E Q q=>DJ (s:={ s with heap:=h₁,toks:=tk }) hod hcd.1 (fun c q=>by rw [hdd] at q;cases q) q) vN PySem.F.entry_dict_get qI (meets_dict_get_default G.kk _ (key_is hkey va) (zb (s:={ s with heap:=h₁,toks:=tk }) K r (.inr (.inl (by rw [e];rfl)))) _) ⟨_,hd.mapOf,?_⟩
  exact⟨_,σ₁,h₁,_,rfl,q₁,hl.getD vb,r,x₁⟩
 | cD a =>
  obtain⟨q,o,rfl,ho,hcl,hdt⟩:=vr
  refine lH ho hcl hdt hs hes ao ess eo F R h fun vs σ₁ h₁ tk ws q₁ vrs r x₁ hu=>?_
  obtain⟨k,rfl,ks,kk,e,hkey,q₁⟩:=dM (vs:=vs) q₁
  obtain⟨wa,rfl,va⟩:=vrs.one
  have hS:=r.S _ _ e
  obtain⟨od,ees,ep,t,hod,hcd,hdd,_⟩:=id hS
  refine AJ (s:={ s with heap:=h₁,toks:=tk }) hu hcl hdt (fun A E Q q=>DI (s:={ s with heap:=h₁,toks:=tk }) hod hcd.1 (fun c q=>by rw [hdd] at q;cases q) q) vM PySem.entry_set_contains fun A'=>?_
  refine jY (s:={ s with heap:=h₁,toks:=tk }) (key_is hkey va) (oT hkey va) hS.of ?_
  exact⟨_,σ₁,h₁,_,rfl,q₁,.bool _,r,x₁⟩
 | clo k cs =>
  obtain⟨a,_,rfl,hk,_⟩:=vr
  obtain⟨⟨o,fd,ho,hd⟩,hc⟩:=LO k cs a hk
  refine ya ho hd hs hes ao ess eo F R h fun vs σ₁ h₁ tk ws q vr r x=>?_
  exact av (hc A E vs ws σ₁ Q { s with heap:=h₁,toks:=tk } ao r vr q) (fun _ _ l=>fq.back x l) fun _ _ x=>x
 | _=>exact no fun _ _ q=>q
end
end MP
end
section
namespace MP
open PySem PyProof.Rows
theorem At.grow {h h':Heap} {a:Addr} {o:Obj} (hn:h.get? a=none) (hk:∀ b o,h.get? b=some o→h'.get? b=some o) (ha:h'.get? a=some o):At a h h' :=
 ⟨fun b o _ e=>hk b o e,⟨_,ha⟩,fun o e=>by rw [hn] at e;cases e⟩
section
variable {G:Stc} {C:Cal} {sc:Scope} {d:Nat}
theorem kX {X:List Addr} {σ σ₁:St} {s:Shared} {h₁ h₂:Heap} {tk:Nat} {Q:V→St→Prop} {vs:List V} {ws:List Value} {a n:Nat} (r:Rel G σ₁ h₁) (x:Evo X σ s.heap σ₁ h₁) (hn:h₁.get? a=none) (hk:∀ b o,h₁.get? b=some o→h₂.get? b=some o) (hl:IsL h₂ a ws.toArray n) (vrs:VRs G h₁ vs ws) (hz:vs.length≤aq)
  (q:∀ c,σ₁.L c=none→Q (.lst c) (σ₁.fg c vs)):fq G X σ s Q (.ref a) { s with heap:=h₂,toks:=tk }:=by
 have at':At a h₁ h₂:=At.grow hn hk hl
 have hL:σ₁.L a=none:=by
  cases hq:σ₁.L a with
  | none=>rfl
  | some ys=>obtain⟨o,ho,_⟩:=r.pK hq;rw [hn] at ho;cases ho
 exact⟨.lst _,_,_,tk,rfl,q _ hL,.lst _,r.putL at' (fun _=>hn) hl vrs hz,x.trans (Evo.putL at' (fun _=>hn) _)⟩
theorem BW {e:Ex} {x:Str} {y:Expr} {p pos:Pos} (K:GOk G) (he:ct G C sc d e y) (hst:noStar [y]=true) (hx:sc.names.lookup x=some .globalImplicit) (hn:gk x=true) (hv:G.gl x=some (.builtin "len")) :
  ct G C sc d (.bf .len (.cons e .nil)) (.Call (.Name x p) [y] [] pos):=fun A E env ρ σ Q s ao es eo F R h=>by
 have hes:kg G C sc d (.cons e .nil) [y]:=fx he jo (di hst).1
 refine cC K hst hes hx hn hv ao es eo F R h fun vs σ₁ h₁ tk ws q vr r x₁=>?_
 obtain⟨v,rfl,q⟩:=dM (vs:=vs) q
 obtain⟨w,rfl,va⟩:=vr.one
 cases v with
 | lst a =>
  obtain rfl:=va
  obtain⟨xs,e,q⟩:=q
  obtain⟨us,n,hl,hvs⟩:=r.L _ _ e
  rw [hvs.length] at q
  exact PySem.Calls.call_len_list (s:={ s with heap:=h₁,toks:=tk }) hl.isList (vO (jV r e hvs)) ⟨_,σ₁,h₁,_,rfl,q,.int _ _,r,x₁⟩
 | tup xs =>
  obtain⟨a,us,n,rfl,g,rr⟩:=va
  obtain⟨hz,q⟩:=q
  rw [rr.length] at q hz
  exact PyProof.Rows.len_tuple (s:={ s with heap:=h₁,toks:=tk }) ⟨_,g,rfl,_,rfl⟩ (vO hz) ⟨_,σ₁,h₁,_,rfl,q,.int _ _,r,x₁⟩
 | ro ns =>
  obtain⟨a,us,n,rfl,g,rr⟩:=va
  obtain⟨hz,q⟩:=q
  rw [← rr.length] at q hz
  exact PySem.Calls.call_len_list (s:={ s with heap:=h₁,toks:=tk }) (IsL.isList (r.base _ _ g)) (vO hz) ⟨_,σ₁,h₁,_,rfl,q,.int _ _,r,x₁⟩
 | dct a =>
  obtain rfl:=va
  obtain⟨es',e,q⟩:=q
  obtain⟨ds,hd,hvd⟩:=r.D _ _ e
  have hlen:=hvd.length
  have hz:=r.Dl _ _ e
  unfold aq at hz
  refine call_len_dict (s:={ s with heap:=h₁,toks:=tk }) (zb (s:={ s with heap:=h₁,toks:=tk }) K r (.inr (.inl (by rw [e];rfl)))) hd (by exact gn (.il .L .M) .o (.e .B .A) (.k .B .S) hlen hz) ?_
  rw [hlen] at q
  exact⟨_,σ₁,h₁,_,rfl,q,.int _ _,r,x₁⟩
 | _=>exact False.elim q
theorem sJ {k:BF} {id:String} {W:Int→Int→St→(V→St→Prop)→Prop} {e f:Ex} {x:Str} {y z:Expr} {p pos:Pos} (K:GOk G) (he:ct G C sc d e y) (hf:ct G C sc d f z) (hst:noStar [y,z]=true) (hx:sc.names.lookup x=some .globalImplicit) (hn:gk x=true) (hv:G.gl x=some (.builtin id))
  (hk:∀ vs σ Q,lQ k vs σ Q→on2 vs fun v u=>sf v fun i=>sf u fun j=>W i j σ Q)
  (hc:∀ (A:Around) (E:Value→Shared→Prop) (σ:St) (s:Shared) (i j:Int) (t u:Tok) (Q:V→St→Prop),AOk A d→Rel G σ s.heap→W i j σ Q→wpAny G.M A (call (.builtin id) [.int i t,.int j u]) (fq G [] σ s Q) E s) :
  ct G C sc d (.bf k (.cons e (.cons f .nil))) (.Call (.Name x p) [y,z] [] pos):=fun A E env ρ σ Q s ao es eo F R h=>by
 have hes:kg G C sc d (.cons e (.cons f .nil)) [y,z]:=fx he (fx hf jo (di (di hst).2).1) (di hst).1
 refine cC (P:=fun vs σ=>lQ k vs σ Q) K hst hes hx hn hv ao es eo F R h fun vs σ₁ h₁ tk ws q vr r x₁=>?_
 have q1:=hk vs σ₁ Q q
 clear q
 obtain⟨v,u,rfl,q2⟩:=iL (vs:=vs) q1
 obtain⟨i,rfl,q3⟩:=pb (v:=v) q2
 obtain⟨j,rfl,q⟩:=pb (v:=u) q3
 obtain⟨w,w',rfl,⟨t,rfl⟩,⟨t',rfl⟩⟩:=vr.two
 exact av (hc A E σ₁ { s with heap:=h₁,toks:=tk } i j t t' Q ao r q) (fun _ _ l=>fq.back x₁ l) fun _ _ x=>x
theorem xJ {e f:Ex} {x:Str} {y z:Expr} {p pos:Pos} (K:GOk G) (he:ct G C sc d e y) (hf:ct G C sc d f z) (hst:noStar [y,z]=true) (hx:sc.names.lookup x=some .globalImplicit) (hn:gk x=true) (hv:G.gl x=some (.builtin "min")) :
  ct G C sc d (.bf .min (.cons e (.cons f .nil))) (.Call (.Name x p) [y,z] [] pos):=sJ K he hf hst hx hn hv (fun _ _ _=>id) fun A E σ s i j t u Q ao r q=>by
 refine min_two_ints ao.handled fun h' tk' hk=>?_
 refine⟨_,σ,h',tk',rfl,q,?_,r.keeps hk,Evo.keeps hk⟩
 split
 ·rw [Int.min_eq_right (by(rename_i z1;exact kc (.ik .A .B) .a .D z1))];exact .int _ _
 ·rw [Int.min_eq_left (by(rename_i z1;exact kc (.ik .A .B) .a (.ig .B .A) z1))];exact .int _ _
theorem xN {e f:Ex} {x:Str} {y z:Expr} {p pos:Pos} (K:GOk G) (he:ct G C sc d e y) (hf:ct G C sc d f z) (hst:noStar [y,z]=true) (hx:sc.names.lookup x=some .globalImplicit) (hn:gk x=true) (hv:G.gl x=some (.builtin "max")) :
  ct G C sc d (.bf .max (.cons e (.cons f .nil))) (.Call (.Name x p) [y,z] [] pos):=sJ K he hf hst hx hn hv (fun _ _ _=>id) fun A E σ s i j t u Q ao r q=>by
 refine max_two_ints ao.handled fun h' tk' hk=>?_
 refine⟨_,σ,h',tk',rfl,q,?_,r.keeps hk,Evo.keeps hk⟩
 split
 ·rw [Int.max_eq_right (by(rename_i z1;exact kc (.ik .A .B) .a .D z1))];exact .int _ _
 ·rw [Int.max_eq_left (by(rename_i z1;exact kc (.ik .A .B) .a (.ig .B .A) z1))];exact .int _ _
theorem xD {x:Str} {p pos:Pos} (K:GOk G) (hx:sc.names.lookup x=some .globalImplicit) (hn:gk x=true) (hv:G.gl x=some (.type "set")) :
  ct G C sc d (.bf .set .nil) (.Call (.Name x p) [] [] pos):=fun A E env ρ σ Q s ao es eo F R h=>by
 refine qa (P:=fun vs σ=>lQ .set vs σ Q) K rfl jo hx hn hv ao es eo F R h fun vs σ₁ h₁ tk ws q vr r x₁=>?_
 obtain⟨rfl,q⟩:=EG (vs:=vs) q
 obtain rfl:=vr
 ·refine nD (s:={ s with heap:=h₁,toks:=tk }) ?_
  have at':At h₁.objs.size h₁ (h₁.push (uY G)):=At.push h₁
  exact⟨.set _,_,_,_,rfl,q _ r.GS r.freshD,.set _,r.yF at' (fun _=>none_at_size _) (uW h₁),x₁.trans (Evo.yF at' (fun _=>none_at_size _) _)⟩
theorem q8 {e:Ex} {x x':Str} {y:Expr} {p p' pos pos':Pos} (K:GOk G) (he:ct G C sc d e y) (hst:noStar [y]=true) (hx:sc.names.lookup x=some .globalImplicit) (hn:gk x=true) (hv:G.gl x=some (.type "list"))
  (hx':sc.names.lookup x'=some .globalImplicit) (hn':gk x'=true) (hv':G.gl x'=some (.type "range")) :
  ct G C sc d (.bf .lrange (.cons e .nil)) (.Call (.Name x p) [.Call (.Name x' p') [y] [] pos'] [] pos):=fun A E env ρ σ Q s ao es eo F R h=>by
 have hes:kg G C sc d (.cons e .nil) [y]:=fx he jo (di hst).1
 refine Call_ (my K eo R (by rw [es];exact hx) hn hv (PyProof.Rows.callWith_type (ja (args:=[.Call (.Name x' p') [y] [] pos']) rfl pos env) (nh (ja (args:=[.Call (.Name x' p') [y] [] pos']) rfl pos env) (spliced_more ?_ rfl))))
 refine qa (P:=fun vs σ=>lQ .lrange vs σ Q) K hst hes hx' hn' hv' ao es eo F R h fun vs σ₁ h₁ tk ws q vr r x₁=>?_
 obtain⟨v,rfl,q⟩:=dM (vs:=vs) q
 obtain⟨n,rfl,h0,hz,q⟩:=pb (v:=v) q
 obtain⟨w,rfl,t,rfl⟩:=vr.one
 have hz':=hz
 unfold aq at hz
 refine call_range_1 (s:={ s with heap:=h₁,toks:=tk }) (Calls.spliced_nil ?_)
 have r':=r.push { cls:=.type "range",data:=.fields #[.int 0 tk,.int n t,.int 1 (tk+1)] }
 have x':Evo [] σ s.heap σ₁ (h₁.push { cls:=.type "range",data:=.fields #[.int 0 tk,.int n t,.int 1 (tk+1)] }):=x₁.trans (Evo.push _ _ _ _)
 refine call_list_range (s:={ s with heap:=h₁.push { cls:=.type "range",data:=.fields #[.int 0 tk,.int n t,.int 1 (tk+1)] },toks:=tk+1+1 }) (n:=n.toNat) ao.handled (IsRange.new ..) (o8 (by decide) (by exact(Ar.nab _).elim (fun q1=>(pk .K .b (.ik .A (.t .S)) .W hz q1.2)) fun q1=>(pk .K .b .T .aQ h0 q1.2)) (by decide) (by decide)) (by rw [rangeSize_nat];simp) (by exact(Ar.ton _).elim (fun q1=>(pk .bK .b (.ik .A (.t .S)) .W hz q1.2)) fun q1=>(gv .bK .a .L q1.2)) fun h' tk' acc' c' hk hS' hacc=>?_
 refine kX (ws:=acc'.toList) (vs:=(List.range n.toNat).map fun i:Nat=>V.int i) r' x' (none_at_size _) hk (n:=c') (by show h'.get? _=_;rw [hS']) ?_ (by simp;(exact jQ (.ik .A .L) .a (.ik .A .L) hz')) q
 have hlen:acc'.size=n.toNat:=hacc.1
 have key:∀ (m:Nat) (l:List Value),l.length=m→(∀ (i:Nat) (v:Value),l[i]?=some v→∃ t,v=Value.int (((n.toNat-m)+i:Nat):Int) t)→m≤n.toNat→VRs G (h₁.push { cls:=.type "range",data:=.fields #[.int 0 tk,.int n t,.int 1 (tk+1)] }) ((List.range' (n.toNat-m) m).map fun i:Nat=>V.int i) l:=by
  intro m
  induction m with
  | zero=>intro l hl _ _;obtain rfl:=List.length_eq_zero_iff.mp hl;exact .nil
  | succ m ih =>
   intro l hl hh hm
   cases l with
   | nil=>simp at hl
   | cons w l =>
    obtain⟨t0,rfl⟩:=hh 0 w rfl
    rw [List.range'_succ,gp]
    refine .cons (.int _ _) ?_
    have e:n.toNat-(m+1)+1=n.toNat-m:=by(exact ee (.e .M .B) .n (.e .a3 .D) .b1 (aa (bh .H .a .H hm)) (aa (bh .A .a .H hm)))
    rw [e]
    refine ih l (by simpa using hl) (fun i v e=>?_) (by exact bh .A .a .H hm)
    obtain⟨t1,rfl⟩:=hh (i+1) v (by simpa using e)
    exact⟨t1,by congr 1;(rename_i z1;exact dw (.ie (.t .Z) (.t .a5)) .h (.e .M .C) z1)⟩
 have:=key n.toNat acc'.toList (by simpa using hlen) (fun i v e=>by
  obtain⟨t1,rfl⟩:=hacc.2 i v (by simpa using e)
  exact⟨t1,by congr 1;simp⟩) (ay _)
 rw [Nat.sub_self,← List.range_eq_range'] at this
 exact this
end
end MP
end
section
namespace MP
open PySem PyProof.Rows
noncomputable def Tg.vars:Tg→List Nat
 | .var x=>[x]
 | .tup xs=>xs
noncomputable def Gens.vars:Gens→List Nat
 | .elt _=>[]
 | .cons _ t _ more=>t.vars++more.vars
theorem iI:∀ (xs:List Nat) (vs:List V) (ρ:Fr) (i:Nat),i∉xs→mu xs vs ρ i=ρ i
 | [],_,_,_,_=>rfl
 | _::_,[],_,_,_=>rfl
 | x::xs,v::vs,ρ,i,h=>by
  have h:=lP h
  exact(iI xs vs _ i h.2).trans (dq h.1)
theorem rP {t:Tg} {v:V} {σ:St} {ρ:Fr} {K:Fr→Prop} (h:lq t v σ ρ K):lq t v σ ρ fun ρ'=>K ρ'∧∀ i,i∉t.vars→ρ' i=ρ i:=by
 cases t with
 | var x=>exact⟨h,fun i hi=>dq (by simpa [Tg.vars] using hi)⟩
 | tup xs =>
  obtain⟨vs,e,hl,h⟩:=h
  exact⟨vs,e,hl,h,fun i hi=>iI _ _ _ _ hi⟩
theorem Rel.H8 {G:Stc} {σ:St} {h:Heap} {a:Addr} {xs:List V} {ws:List Value} {n:Nat} (R:Rel G σ h) (hd:¬ σ.dom a) (hb:G.hb.get? a=none) (hl:IsL h a ws.toArray n) (hv:VRs G h xs ws) (hz:xs.length≤aq):Rel G (σ.fg a xs) h:=by
 refine⟨fun b ys e=>?_,R.D,R.S,R.I,R.Z,fun b ys e=>?_,R.Dl,R.inj,R.apart,R.sep,fun b d=>?_,R.base⟩
 ·by_cases hba:b=a
  ·subst hba
   simp only [St.fg,bg,dn] at e
   subst e
   exact⟨ws,n,hl,hv⟩
  ·simp only [St.fg,dq hba] at e
   exact R.L b ys e
 ·by_cases hba:b=a
  ·subst hba
   simp only [St.fg,bg,dn] at e
   exact e▸hz
  ·simp only [St.fg,dq hba] at e
   exact R.Ll b ys e
 ·rcases yf d with d | rfl
  ·exact R.new b d
  ·exact hb
inductive u7 (G:Stc) (env:Env) (D:Addr) (X:List Addr) (tv:List Nat) (ρ:Fr) (σ:St) (s:Shared) (K:Fr→List V→St→Prop) (s':Shared):Prop
 | mk (ρ':Fr) (acc':List V) (σ':St) (h':Heap) (tk:Nat) (ws:List Value) (n:Nat):s'={ s with heap:=h',toks:=tk }→K ρ' acc' σ'→FR G σ' env ρ' h'→Rel G σ' h'→IsL h' D ws.toArray n→VRs G h' acc' ws→acc'.length≤aq→¬ σ'.dom D→Evo (D::X) σ s.heap σ' h'→(∀ i,i∉tv→ρ' i=ρ i)→u7 G env D X tv ρ σ s K s'
structure xh (G:Stc) (env:Env) (D:Addr) (σ:St) (h:Heap) (acc:List V):Prop where
 here:∃ ws n,IsL h D ws.toArray n∧VRs G h acc ws
 len:acc.length≤aq
 out:¬ σ.dom D
 off:D∉envX env
 base:G.hb.get? D=none
theorem xh.evo {G:Stc} {env:Env} {D:Addr} {σ σ':St} {h h':Heap} {acc:List V} {X:List Addr} (a:xh G env D σ h acc) (x:Evo X σ h σ' h') (hX:D∉X):xh G env D σ' h' acc:=by
 obtain⟨ws,n,hl,hv⟩:=a.here
 exact⟨⟨ws,n,x.keep _ _ hl a.out hX,hv.mono x.frz⟩,a.len,fun d=>(x.dom D d).elim a.out fun q=>(by rw [show h.get? D=_ from hl] at q;cases q),a.off,a.base⟩
noncomputable def qw (elt:Expr) (gens:List Comprehension) (scope:Scope) (pos:Pos) (depth:Nat) (acc:Value) (env:Env):Sem Unit :=
 match gens[depth+1]? with
 | some g'=>eval g'.iter env>>=fun x=>standAt g'.iter.pos>>=fun _=>foldedSetIterable g'.iter env x>>=fun x=>holding [x] (pyIter x)>>=fun i =>
  runOwn (.compStart (.ListComp elt gens scope pos) (depth+1) i acc env) env>>=fun _=>pure ()
 | none=>eval elt env>>=fun x=>call (.builtin "list.append") [acc,x]>>=fun _=>pure ()
noncomputable def tests (ifs:List Expr) (env:Env):Sem Bool:=forIn ifs true fun c r=>if r=true then do let ok←isTrue c env (eval c env);pure (ForInStep.yield ok) else pure (ForInStep.yield r)
theorem pH {elt:Expr} {gens:List Comprehension} {scope:Scope} {pos:Pos} {depth:Nat} {it acc:Value} {env:Env} {target iter:Expr} {ifs:List Expr} (hg:gens[depth]?=some ⟨target,iter,ifs,0⟩) (hg':∀ g',gens[depth+1]?=some g'→g'.is_async=0) :
  compTurn (.ListComp elt gens scope pos) depth it acc env=(standAt iter.pos>>=fun _=>pyNext it>>=fun r=>match r with
   | none=>pure (.done .next)
   | some v=>letOwnedTupleGo target it v>>=fun _=>assign target env v>>=fun _=>tests ifs env>>=fun ok =>
    if ok=true then qw elt gens scope pos depth acc env>>=fun _=>again (.compLoop (.ListComp elt gens scope pos) depth it acc env) else again (.compLoop (.ListComp elt gens scope pos) depth it acc env)):=by
 unfold compTurn
 simp only [hg]
 unfold qw tests
 cases hq:gens[depth+1]? with
 | none=>first | rfl | simp
 | some g' =>
  have:=hg' g' hq
  simp [this]
  congr 1
section
variable {prog:Program} {w:World} {A:Around} {R:Result→Shared→Prop} {s:Shared}
theorem eC {elt:Expr} {gens:List Comprehension} {scope:Scope} {pos:Pos} {depth:Nat} {it acc:Value} {env:Env} {target iter:Expr} {ifs:List Expr} (hg:gens[depth]?=some ⟨target,iter,ifs,0⟩)
  (h0:codeAny (model prog w) A (.compLoop (.ListComp elt gens scope pos) depth it acc env) R s)
  (h:wpAny (model prog w) A (pyIter it) (fun it' s'=>codeAny (model prog w) A (.compLoop (.ListComp elt gens scope pos) depth it' acc env) R s') (notedBy (model prog w) A env fun x s'=>R (.error x) s') s) :
  codeAny (model prog w) A (.compStart (.ListComp elt gens scope pos) depth it acc env) R s:=by
 refine tq ?_
 show wpAny _ A ((compStart (.ListComp elt gens scope pos) depth it acc env).onRaise (fun x=>do noteFrame x env;standAt theWindowsPlace)) _ _ s
 refine wpAny_notedAt ?_
 unfold compStart
 have e:clausesOf (.ListComp elt gens scope pos)=gens:=rfl
 simp only [e,hg]
 show wpAny _ A (ask>>=_) _ _ s
 refine ab (xl (wpAny_ite ?_))
 split
 ·first
   | exact ab (af (af (And.intro rfl h0)))
   | exact af (And.intro rfl h0)
 ·exact ab (xj (ab (er (ab (av h (fun it' s' h'=>af (And.intro rfl h')) fun _ _ x=>x)))))
theorem pI {elt:Expr} {gens:List Comprehension} {scope:Scope} {pos:Pos} {depth:Nat} {it acc:Value} {env:Env} {target iter:Expr} {ifs:List Expr} (hg:gens[depth]?=some ⟨target,iter,ifs,0⟩) (hg':∀ g',gens[depth+1]?=some g'→g'.is_async=0) (I:Nat→Shared→Prop)
  (turn:∀ n s,I n s→wpAny (model prog w) A (pyNext it) (fun r s₁=>match r with
   | none=>R (.ok .next) s₁
   | some v=>wpAny (model prog w) A (letOwnedTupleGo target it v) (fun _ s₁'=>wpAny (model prog w) A (assign target env v) (fun _ s₂ =>
     wpAny (model prog w) A (tests ifs env) (fun ok s₃=>if ok=true then wpAny (model prog w) A (qw elt gens scope pos depth acc env) (fun _ s₄=>∃ m,m<n∧I m s₄) (notedBy (model prog w) A env fun e s'=>R (.error e) s') s₃ else ∃ m,m<n∧I m s₃)
      (notedBy (model prog w) A env fun e s'=>R (.error e) s') s₂) (notedBy (model prog w) A env fun e s'=>R (.error e) s') s₁') (notedBy (model prog w) A env fun e s'=>R (.error e) s') s₁) (notedBy (model prog w) A env fun e s'=>R (.error e) s') s)
  (n:Nat) (h:I n s):codeAny (model prog w) A (.compLoop (.ListComp elt gens scope pos) depth it acc env) R s:=by
 refine codeAny_loop rfl I (fun n s hI=>?_) n h
 show wpAny _ A ((compTurn (.ListComp elt gens scope pos) depth it acc env).onRaise (fun x=>do noteFrame x env;theTreesLotGoes x)) _ _ s
 refine wpAny_noted ?_
 rw [pH hg hg']
 refine ab (er (ab (av (turn n s hI) (fun r s₁ h₁=>?_) fun _ _ h'=>h')))
 cases r with
 | none=>exact af h₁
 | some v =>
  refine ab (av h₁ (fun _ s₁' h₁'=>ab (av h₁' (fun _ s₂ h₂=>ab (av h₂ (fun ok s₃ h₃=>?_) fun _ _ h'=>h')) fun _ _ h'=>h')) fun _ _ h'=>h')
  cases ok with
  | false=>exact af ⟨rfl,h₃⟩
  | true=>exact ab (av h₃ (fun _ s₄ h₄=>af ⟨rfl,h₄⟩) fun _ _ h'=>h')
end
section
variable {G:Stc} {C:Cal} {sc:Scope} {d:Nat}
noncomputable def oo (G:Stc) (C:Cal) (sc:Scope) (d:Nat) (cs:Exs) (ifs:List Expr):Prop :=
 ∀ (A:Around) (E:Value→Shared→Prop) (env:Env) (ρ:Fr) (σ:St) (Q:Bool→St→Prop) (s:Shared),AOk A d→env.scope=sc→iv env→FR G σ env ρ s.heap→Rel G σ s.heap →
  vm C cs ρ σ Q→wpAny G.M A (tests ifs env) (jd G [] σ s Q) E s
theorem fR {A:Around} {E:Value→Shared→Prop} {env:Env} {s:Shared} {Q:Bool→Shared→Prop} (f:Expr→Bool→Sem (ForInStep Bool)) (hf:∀ c,f c false=pure (.yield false)) (h:Q false s):∀ ifs:List Expr,wpAny G.M A (forIn ifs false f) Q E s
 | []=>by rw [nt];exact af h
 | c::r=>by
  rw [rq,hf]
  exact ab (af (fR (env:=env) f hf h r))
theorem wF:oo G C sc d .nil []:=fun A E env ρ σ Q s ao es eo F R h=>by
 unfold tests
 rw [nt]
 exact af (jd.here h R)
theorem rK {c:Ex} {cs:Exs} {x:Expr} {xs:List Expr} (hc:pq G C sc d c x) (hr:oo G C sc d cs xs):oo G C sc d (.cons c cs) (x::xs):=fun A E env ρ σ Q s ao es eo F R h=>by
 unfold tests
 rw [rq]
 rw [bx rfl]
 refine ab (ab (kA (hc A E env ρ σ _ s ao es eo F R h) fun b σ₁ h₁ tk q r x=>af ?_))
 cases b with
 | true=>exact av (hr A E env ρ σ₁ Q _ ao es eo (F.evo x) r q) (fun _ _ l=>jd.back x l) fun _ _ x=>x
 | false=>exact fR (env:=env) _ (fun c=>by simp) (jd.back (tk:=tk) x (jd.here q r)) xs
structure XOk (env:Env) (X:List Addr) (gens:List Comprehension):Prop where
 loc:env.locals∈X
 cells:∀ g∈gens,∀ y∈dA g.target,∀ c,env.cells.lookup y=some c→c∈X
 sub:∀ b∈X,b∈envX env
noncomputable def qd (G:Stc) (C:Cal) (sc:Scope) (d:Nat) (more:Gens) (elt:Expr) (gens:List Comprehension) (scope:Scope) (pos:Pos) (depth:Nat):Prop :=
 ∀ (A:Around) (E:Value→Shared→Prop) (env:Env) (ρ:Fr) (σ:St) (acc:List V) (K:Fr→List V→St→Prop) (s:Shared) (D:Addr) (X:List Addr),XOk env X gens→AOk A d→env.scope=sc→iv env→FR G σ env ρ s.heap→Rel G σ s.heap→xh G env D σ s.heap acc →
  xu C more ρ acc σ K→wpAny G.M A (qw elt gens scope pos depth (.ref D) env) (fun _ s'=>u7 G env D X more.vars ρ σ s K s') E s
theorem wK {e:Ex} {elt:Expr} {gens:List Comprehension} {scope:Scope} {pos:Pos} {depth:Nat} (he:ct G C sc d e elt) (hg:gens[depth+1]?=none):qd G C sc d (.elt e) elt gens scope pos depth:=fun A E env ρ σ acc K s D X xo ao es eo F R a h=>by
 unfold qw
 rw [hg]
 refine ab (md (he A E env ρ σ _ s ao es eo F R h) fun v σ₁ h₁ tk w q vr r x=>?_)
 have a₁:=a.evo x (by simp)
 obtain⟨ws,n,hl,hv⟩:=a₁.here
 have hlen:=hv.length
 have hz:=q.1
 refine ab (call_meets (s:={ s with heap:=h₁,toks:=tk }) cU ⟨_,hl,rfl⟩ PySem.F.entry_list_append (PySem.F.args_list_append_2 _ _) (list_append _ _ _ _ (by simp only [cv];rw [← hlen];exact oh (by exact bh .A .a .C q.1))) ⟨hl,af ?_⟩)
 have hu:=hl.update (fun x=>x.push w)
 have e2:ws.toArray.push w=(ws++[w]).toArray:=by simp
 rw [e2] at hu
 have hs:Heap.SameBut D h₁ (h₁.update D (Obj.mapSeq fun x=>x.push w)):=ji ..
 have hf:gu h₁ (h₁.update D (Obj.mapSeq fun x=>x.push w)):=nf hs fun o eo=>by
  obtain rfl:=ae (eo.symm.trans hl);exact fY rfl rfl
 have hk:∀ b o,b∉[D]→h₁.get? b=some o→(h₁.update D (Obj.mapSeq fun x=>x.push w)).get? b=some o:=fun b o hb e=>by rw [hs.2 b (fun q=>hb (q▸.head _))];exact e
 refine⟨ρ,acc++[v],σ₁,_,tk,ws++[w],_,rfl,q.2,(F.evo x).but hk hf (fun b hb=>by obtain rfl:=aj.mp hb;exact a.off),r.frame (o':=default) hs a₁.out a.base hf,hu,(hv.mono hf).append (.cons (vr.mono hf) .nil),by simp;(exact bh .H .a .C q.1),a₁.out,?_,fun _ _=>rfl⟩
 exact(x.more fun _ h=>nomatch h).trans (Evo.frame hs hu (.head _) hf)
noncomputable def kM (C:Cal) (t:Tg) (cs:Exs) (more:Gens) (v:V) (ρ:Fr) (acc:List V) (σ:St) (K:Fr→List V→St→Prop):Prop:=lq t v σ ρ fun ρ'=>vm C cs ρ' σ fun ok σ=>if ok then xu C more ρ' acc σ K else K ρ' acc σ
inductive gC (I:Itr G) (env:Env) (σ₀:St) (s₀:Shared) (D:Addr) (X:List Addr) (vs:List Nat) (ρ:Fr) (T:V→Fr→List V→St→(Fr→List V→St→Prop)→Prop) (K:Fr→List V→St→Prop) (n:Nat) (s':Shared):Prop
 | mk (i:Nat) (σ':St) (ρ':Fr) (acc':List V) (h':Heap) (tk':Nat):n=I.vs.length-i→s'={ s₀ with heap:=h',toks:=tk' }→I.pos i h'→FR G σ' env ρ' h'→Rel G σ' h'→xh G env D σ' h' acc'→Evo (D::X) σ₀ s₀.heap σ' h'→(∀ b∈I.own,¬ σ'.dom b)→(∀ j,j∉vs→ρ' j=ρ j)→gQ (I.vs.drop i) I.Gd T ρ' acc' σ' K→gC I env σ₀ s₀ D X vs ρ T K n s'
theorem gC.next {I:Itr G} {env:Env} {σ₀:St} {s₀:Shared} {D:Addr} {X:List Addr} {vs:List Nat} {ρ:Fr} {T:V→Fr→List V→St→(Fr→List V→St→Prop)→Prop} {K:Fr→List V→St→Prop} {i tk:Nat} {σ':St} {ρ':Fr} {acc':List V} {h':Heap} (lt:i<I.vs.length) (hp:I.pos (i+1) h') (F:FR G σ' env ρ' h') (R:Rel G σ' h') (a:xh G env D σ' h' acc') (x:Evo (D::X) σ₀ s₀.heap σ' h') (hd:∀ b∈I.own,¬ σ'.dom b) (ag:∀ j,j∉vs→ρ' j=ρ j) (q:gQ (I.vs.drop (i+1)) I.Gd T ρ' acc' σ' K) :
  ∃ m,m<I.vs.length-i∧gC I env σ₀ s₀ D X vs ρ T K m { s₀ with heap:=h',toks:=tk }:=⟨_,by exact ee .C .c (.e .a3 .D) .b1 (aa (bh .H .a .C lt)) (aa (bh .A .a .C lt)),i+1,σ',ρ',acc',h',tk,rfl,rfl,hp,F,R,a,x,hd,ag,q⟩
theorem xh.kept {env:Env} {D:Addr} {σ:St} {h h':Heap} {acc:List V} {own:List Addr} (a:xh G env D σ h acc) (hD:D∉own) (hk:∀ b o,b∉own→h.get? b=some o→h'.get? b=some o) (fz:gu h h'):xh G env D σ h' acc:=by
 obtain⟨ws,m,hl,hv⟩:=a.here
 exact⟨⟨ws,m,hk _ _ hD hl,hv.mono fz⟩,a.len,a.out,a.off,a.base⟩
theorem FG {t:Tg} {cs:Exs} {more:Gens} {elt:Expr} {gens:List Comprehension} {scope:Scope} {pos:Pos} {depth:Nat} {target:Expr} {ifs:List Expr} (ht:tj G C sc d t target) (hcs:oo G C sc d cs ifs) (haf:qd G C sc d more elt gens scope pos depth)
  {A:Around} {E:Value→Shared→Prop} {env:Env} {ρ₀ ρ:Fr} {σ₀ σ:St} {acc:List V} {K:Fr→List V→St→Prop} {s₀:Shared} {h:Heap} {tk i:Nat} {D:Addr} {X:List Addr} {I:Itr G} {v:V} {w:Value} (xo:XOk env X gens) (hcell:∀ y∈dA target,∀ c,env.cells.lookup y=some c→c∈X) (ao:AOk A d) (es:env.scope=sc) (eo:iv env)
  (hX:∀ b∈I.own,b∉envX env) (hD:D∉I.own) (lt:i<I.vs.length) (F:FR G σ env ρ h) (R:Rel G σ h) (a:xh G env D σ h acc) (x0:Evo (D::X) σ₀ s₀.heap σ h) (hp:I.pos (i+1) h) (hd:∀ b∈I.own,¬ σ.dom b) (ag:∀ j,j∉t.vars++more.vars→ρ j=ρ₀ j) (vr:VR G h v w)
  (hf:kM C t cs more v ρ acc σ fun ρ acc σ=>gQ (I.vs.drop (i+1)) I.Gd (kM C t cs more) ρ acc σ K) :
  wpAny G.M A (assign target env w) (fun _ s₂=>wpAny G.M A (tests ifs env) (fun ok s₃=>if ok=true then wpAny G.M A (qw elt gens scope pos depth (.ref D) env) (fun _ s₄=>∃ m,m<I.vs.length-i∧gC I env σ₀ s₀ D X (t.vars++more.vars) ρ₀ (kM C t cs more) K m s₄) E s₃
   else ∃ m,m<I.vs.length-i∧gC I env σ₀ s₀ D X (t.vars++more.vars) ρ₀ (kM C t cs more) K m s₃) E s₂) E { s₀ with heap:=h,toks:=tk }:=by
 have ownX:∀ c∈I.own,c∉X:=fun c hc q=>hX c hc (xo.sub c q)
 refine av (ht A _ X env ρ σ _ { s₀ with heap:=h,toks:=tk } v w xo.loc hcell ao es eo F R vr (rP hf)) (fun _ s₃ l=>?_) fun _ _ x=>x
 obtain⟨ρ₃,h₃,tk₃,rfl,⟨q₃,hag₃⟩,F₃,R₃,x₃⟩:=l
 obtain⟨hp3,hnd3⟩:=I.xA ownX hp hd x₃
 have a3:=a.evo x₃ fun q=>a.off (xo.sub D q)
 refine kA (hcs A _ env ρ₃ σ _ { s₀ with heap:=h₃,toks:=tk₃ } ao es eo F₃ R₃ q₃) fun ok σ₄ h₄ tk₄ q₄ R₄ x₄=>?_
 obtain⟨hp4,hnd4⟩:=I.xA (fun c _=>List.not_mem_nil) hp3 hnd3 x₄
 have a4:=a3.evo x₄ List.not_mem_nil
 have F4:=F₃.evo x₄
 have x5:Evo (D::X) σ₀ s₀.heap σ₄ h₄:=(x0.trans (x₃.more fun b hb=>.tail _ hb)).trans (x₄.more fun _ h=>nomatch h)
 have ag4:∀ j,j∉t.vars++more.vars→ρ₃ j=ρ₀ j:=fun j hj=>(hag₃ j (fun q=>hj (ek _ q))).trans (ag j hj)
 cases ok with
 | false =>
  rw [aw jl]
  exact gC.next lt hp4 F4 R₄ a4 x5 hnd4 ag4 q₄
 | true =>
  rw [bx rfl]
  refine av (haf A _ env ρ₃ σ₄ acc _ { s₀ with heap:=h₄,toks:=tk₄ } D X xo ao es eo F4 R₄ a4 q₄) (fun _ s₆ l=>?_) fun _ _ x=>x
  obtain⟨ρ₆,acc₆,σ₆,h₆,tk₆,ws₆,n₆,rfl,q₆,F₆,R₆,hl₆,hv₆,hz₆,hd₆,x₆,hag₆⟩:=l
  obtain⟨hp6,hnd6⟩:=I.xA (fun c hc q=>(cu.mp q).elim (fun e=>by rw [e] at hc;exact hD hc) (ownX c hc)) hp4 hnd4 x₆
  exact gC.next lt hp6 F₆ R₆ ⟨⟨ws₆,n₆,hl₆,hv₆⟩,hz₆,hd₆,a.off,a.base⟩ (x5.trans x₆) hnd6 (fun j hj=>(hag₆ j (fun q=>hj (jh _ q))).trans (ag4 j hj)) q₆
theorem EM {t:Tg} {cs:Exs} {more:Gens} {elt:Expr} {gens:List Comprehension} {scope:Scope} {pos:Pos} {depth:Nat} {target iter:Expr} {ifs:List Expr} (ht:tj G C sc d t target) (hcs:oo G C sc d cs ifs) (haf:qd G C sc d more elt gens scope pos depth) (hg:gens[depth]?=some ⟨target,iter,ifs,0⟩) (hg':∀ g',gens[depth+1]?=some g'→g'.is_async=0)
  {A:Around} {env:Env} {ρ:Fr} {σ₀ σ:St} {acc:List V} {K:Fr→List V→St→Prop} {s₀:Shared} {h:Heap} {tk:Nat} {D:Addr} {X:List Addr} {R:Result→Shared→Prop} (I:Itr G) (hI:I.tup=true→isTup target=true) (xo:XOk env X gens) (ao:AOk A d) (es:env.scope=sc) (eo:iv env) (F:FR G σ env ρ h) (Rl:Rel G σ h) (a:xh G env D σ h acc)
  (hp:I.pos 0 h) (x₀:Evo (D::X) σ₀ s₀.heap σ h) (hnew:∀ b∈I.own,s₀.heap.get? b=none) (hX:∀ b∈I.own,b∉envX env) (hnd:∀ b∈I.own,¬ σ.dom b) (hD:D∉I.own) (hbase:∀ b∈I.own,G.hb.get? b=none)
  (hf:gQ I.vs I.Gd (kM C t cs more) ρ acc σ K)
  (hR:∀ s',u7 G env D X (t.vars++more.vars) ρ σ₀ s₀ K s'→R (.ok .next) s') :
  codeAny G.M A (.compLoop (.ListComp elt gens scope pos) depth (.ref I.it) (.ref D) env) R { s₀ with heap:=h,toks:=tk }:=by
 refine pI hg hg' (gC I env σ₀ s₀ D X (t.vars++more.vars) ρ (kM C t cs more) K) ?_ (I.vs.length-0)
  ⟨0,σ,ρ,acc,h,tk,rfl,rfl,hp,F,Rl,a,x₀,hnd,fun _ _=>rfl,hf⟩
 rintro n s' ⟨i,σ',ρ',acc',h',tk',rfl,rfl,hp',F',R',a',x',hnd',hag,hf'⟩
 cases hq:I.vs[i]? with
 | none =>
  rw [List.drop_eq_nil_of_le (jg.mp hq)] at hf'
  refine I.stop A _ { s₀ with heap:=h',toks:=tk' } σ' i _ ao.handled R' hf'.1 hp' hq fun h2 tk2 hk2=>?_
  have fz:=I.frz hp' hk2
  obtain⟨ws,m,hl,hv⟩:=(a'.kept hD hk2 fz).here
  exact hR _ ⟨ρ',acc',σ',h2,tk2,ws,m,rfl,hf'.2,F'.but hk2 fz hX,I.rel hp' R' hnd' hbase hk2,hl,hv,a'.len,a'.out,x'.but hk2 hnew,hag⟩
 | some v =>
  obtain⟨hlt,hcons⟩:=tT hq
  rw [hcons] at hf'
  refine av (I.next A _ { s₀ with heap:=h',toks:=tk' } σ' i v target ?Q ao.handled R' hf'.1 hp' hq (fun q=>oU (hI q)) ?k) (fun r s₁ hr=>?m) fun _ _ x=>x
  case m =>
   cases r with
   | none=>exact hr.elim
   | some w=>exact hr
  case k =>
   intro w h2 tk2 vr hp2 hk2
   have fz:=I.frz hp' hk2
   exact FG ht hcs haf xo (xo.cells _ (cq hg)) ao es eo hX hD hlt (F'.but hk2 fz hX) (I.rel hp' R' hnd' hbase hk2) (a'.kept hD hk2 fz) (x'.but hk2 hnew) hp2 hnd' hag vr hf'.2
theorem rV {it:It} {t:Tg} {cs:Exs} {more:Gens} {elt:Expr} {gens:List Comprehension} {scope:Scope} {pos:Pos} {depth:Nat} {target iter:Expr} {ifs:List Expr} (hit:uz G C sc d (isTup target) it iter) (ht:tj G C sc d t target) (hcs:oo G C sc d cs ifs) (haf:qd G C sc d more elt gens scope pos (depth+1))
  (hg:gens[depth+1]?=some ⟨target,iter,ifs,0⟩) (hg':∀ g',gens[depth+1+1]?=some g'→g'.is_async=0) (hs:∀ env v,foldedSetIterable iter env v=pure v):qd G C sc d (.cons it t cs more) elt gens scope pos depth:=fun A E env ρ σ acc K s D X xo ao es eo F R a h=>by
 unfold qw
 rw [hg]
 refine ab (av (hit A E env ρ σ _ s ao es eo F R h) (fun v s₁ h₁=>?_) fun _ _ x=>x)
 refine ab (er (ab (dj (hs env v) (ab (br (av h₁ (fun itv s₂ l=>?_) fun _ _ x=>x))))))
 obtain⟨I,σ₁,h₁,tk,rfl,rfl,htup,hf,hp,r,x₁,hnew,hnd⟩:=l
 have hbase:∀ b∈I.own,G.hb.get? b=none:=fun b hb=>by
  cases hq:G.hb.get? b with
  | none=>rfl
  | some o=>have:=R.base b o hq;rw [hnew b hb] at this;cases this
 have hD:D∉I.own:=fun q=>by
  obtain⟨ws,n,hl,_⟩:=a.here
  have:=hnew D q
  rw [show s.heap.get? D=_ from hl] at this;cases this
 have x₁':Evo (D::X) σ s.heap σ₁ h₁:=x₁.more fun _ h=>nomatch h
 have loop:∀ {R':Result→Shared→Prop},(∀ s',u7 G env D X (t.vars++more.vars) ρ σ s K s'→R' (.ok .next) s')→codeAny G.M A (.compLoop (.ListComp elt gens scope pos) (depth+1) (.ref I.it) (.ref D) env) R' { s with heap:=h₁,toks:=tk }:=fun hR =>
  EM ht hcs haf hg hg' I htup xo ao es eo (F.evo x₁) r (a.evo x₁ (by simp)) hp x₁' hnew (lZ F hnew) hnd hD hbase hf hR
 refine ab (wpAny_runOwn (eC hg (loop fun s' l=>af l) (I.self _ _ _ _ _ hp (loop fun s' l=>af l))))
end
end MP
end
section
set_option tactic.hygienic true
namespace MP
open PySem PyProof.Rows
noncomputable def ki (cells:List (Str × Addr)):List (Str × NameKind)→List (Str × Addr)→List (Str × Addr)
 | [],acc=>acc
 | (n,k)::r,acc=>if k==.free then ki cells r ((n,(cells.lookup n).getD 0)::acc) else ki cells r acc
theorem yh {env:Env} (f:Str × NameKind→List (Str × Addr)→Sem (ForInStep (List (Str × Addr))))
  (hf:∀ n k cs,f (n,k) cs=if k==.free then (do let c←cellOf env n;pure (.yield ((n,c)::cs))) else pure (.yield cs)) :
  ∀ (names:List (Str × NameKind)) (acc:List (Str × Addr)),(∀ n,(n,NameKind.free)∈names→(env.cells.lookup n).isSome=true)→forIn names acc f=pure (ki env.cells names acc)
 | [],acc,_=>by rw [nt];rfl
 | (n,k)::r,acc,h=>by
  have hr:=fun acc=>yh f hf r acc fun m hm=>h m (.tail _ hm)
  rw [rq,hf]
  unfold ki
  split
  ·rename_i hk
   rw [jw] at hk
   subst hk
   obtain⟨c,hc⟩:=ax.mp (h n (.head _))
   have e:cellOf env n=pure c:=by unfold cellOf;rw [hc]
   rw [e,hc]
   exact hr _
  ·exact hr acc
theorem c6 {scope:Scope} {env:Env} (h:∀ n,(n,NameKind.free)∈scope.names→(env.cells.lookup n).isSome=true):closureFor scope env=pure (ki env.cells scope.names []):=by
 have e:closureFor scope env=(forIn scope.names [] (fun(x:Str × NameKind) (cs:List (Str × Addr))=>if x.2==.free then (do let c←cellOf env x.1;pure (ForInStep.yield ((x.1,c)::cs))) else pure (ForInStep.yield cs))>>=fun cs=>pure cs):=by
  unfold closureFor
  first | rfl | simp
 rw [e,yh _ (fun n k cs=>rfl) scope.names [] h]
 rfl
theorem uw (cells:List (Str × Addr)):∀ (names:List (Str × NameKind)) (acc:List (Str × Addr)),ki cells names acc=ki cells names []++acc
 | [],_=>by simp [ki]
 | (n,k)::r,acc=>by
  unfold ki
  split
  ·rw [uw cells r ((n,(cells.lookup n).getD 0)::acc),uw cells r [(n,(cells.lookup n).getD 0)]];simp
  ·exact uw cells r acc
theorem nz (cells:List (Str × Addr)):∀ (names:List (Str × NameKind)) (x:Str) (c:Addr),(x,c)∈ki cells names []→(x,NameKind.free)∈names∧c=(cells.lookup x).getD 0
 | [],_,_,h=>by simp [ki] at h
 | (n,k)::r,x,c,h=>by
  unfold ki at h
  split at h
  ·rename_i hk
   rw [uw] at h
   rcases gm.mp h with h | h
   ·exact⟨.tail _ (nz cells r x c h).1,(nz cells r x c h).2⟩
   ·obtain⟨rfl,rfl⟩:=og (aj.mp h)
    rw [jw] at hk;subst hk;exact⟨.head _,rfl⟩
  ·exact⟨.tail _ (nz cells r x c h).1,(nz cells r x c h).2⟩
theorem fG (cells:List (Str × Addr)):∀ (names:List (Str × NameKind)) (x:Str),(x,NameKind.free)∈names→(x,(cells.lookup x).getD 0)∈ki cells names []
 | [],_,h=>by cases h
 | (n,k)::r,x,h=>by
  unfold ki
  split
  ·rw [uw]
   rcases cu.mp h with e | h
   ·obtain⟨rfl,_⟩:=og e;exact jh _ (.head _)
   ·exact ek _ (fG cells r x h)
  ·rename_i hk
   rcases cu.mp h with e | h
   ·obtain⟨_,rfl⟩:=og e;simp at hk
   ·exact fG cells r x h
theorem wj {cells:List (Str × Addr)} {names:List (Str × NameKind)} {x:Str} (h:(x,NameKind.free)∈names):(ki cells names []).lookup x=some ((cells.lookup x).getD 0):=by
 obtain⟨c,hc⟩:=pe (fG cells names x h)
 rw [hc]
 rw [(nz cells names x c (mem_of_lookup hc)).2]
noncomputable def oj (scope sc:Scope):Scope :=
 { scope with names:=scope.names.map fun(n,k)=>if (k==.free&&sc.kind==.function&&sc.names.lookup n==some .cell) then (n,.cell) else (n,k) }
theorem yA {scope:Scope} {env:Env}:relabel scope env=oj scope env.scope:=rfl
noncomputable def mD (sc:Scope) (fv:List (Nat × Nat)) (i:Nat):Str × NameKind→Bool
 | (x,.free)=>match fv.lookup i with
  | some j=>match sc.names[j]? with
   | some (y,k)=>x==y&&(k==.cell||k==.free)
   | none=>false
  | none=>false
 | (_,_)=>(fv.lookup i).isNone
noncomputable def mE (sc:Scope) (fv:List (Nat × Nat)):Nat→List (Str × NameKind)→Bool
 | _,[]=>true
 | i,p::r=>mD sc fv i p&&mE sc fv (i+1) r
theorem mC {sc:Scope} {fv:List (Nat × Nat)}:∀ {names:List (Str × NameKind)} {i:Nat},mE sc fv i names=true→∀ (j:Nat) (p:Str × NameKind),names[j]?=some p→mD sc fv (i+j) p=true
 | [],_,_,j,p,e=>by simp at e
 | q::r,i,h,0,p,e=>by
  simp only [mE,cg] at h
  simp at e;subst e;exact h.1
 | q::r,i,h,j+1,p,e=>by
  simp only [mE,cg] at h
  have:=mC h.2 j p (by simpa using e)
  rw [show i+(j+1)=i+1+j by(exact xi (.e .Z .a2) .j)];exact this
noncomputable def ownIn (scope:Scope) (y:Str):Bool:=match scope.names.lookup y with
 | some .local=>true
 | some .cell=>true
 | _=>false
noncomputable def mB (scope:Scope) (gens:List Comprehension):Bool:=gens.all fun g=>(dA g.target).all (ownIn scope)
theorem Evo.adopt {X:List Addr} {σ σ':St} {h h':Heap} {D:Addr} (xs:List V) (x:Evo X σ h σ' h') (hn:h.get? D=none):Evo X σ h (σ'.fg D xs) h' :=
 ⟨x.keep,x.frz,fun b d=>(yf d).elim (x.dom b) fun e=>.inr (e▸hn),x.there⟩
section
variable {G:Stc} {C:Cal} {sc:Scope} {d:Nat}
theorem AE {σ:St} {env:Env} {ρ:Fr} {h:Heap} {scope:Scope} {fv:List (Nat × Nat)} (F:FR G σ env ρ h) (es:env.scope=sc) (nd:(scope.names.map (·.1)).Nodup) (hfv:mE sc fv 0 scope.names=true) :
  (∀ n,(n,NameKind.free)∈scope.names→(env.cells.lookup n).isSome=true)∧B3 G σ h scope.names (ki env.cells scope.names []) (yg fv ρ):=by
 have at':∀ (i:Nat) (x:Str),scope.names[i]?=some (x,.free)→∃ j k,fv.lookup i=some j∧env.scope.names[j]?=some (x,k)∧(k=.cell∨k=.free):=fun i x e=>by
  have:=mC hfv i _ e
  rw [jq] at this
  simp only [mD] at this
  split at this
  ·rename_i j hj
   split at this
   ·rename_i y k hy
    simp only [cg,jw,lz] at this
    exact⟨j,k,hj,by rw [es,hy,this.1],this.2⟩
   ·cases this
  ·cases this
 have cellAt:∀ (i:Nat) (x:Str),scope.names[i]?=some (x,.free)→∃ j k c w,fv.lookup i=some j∧env.scope.names[j]?=some (x,k)∧(k=.cell∨k=.free)∧env.cells.lookup x=some c∧h.IsCell c w∧OV G h (ρ j) w∧¬ σ.dom c∧c≠env.locals∧(G.cap x=false→G.hb.get? c=none):=fun i x e=>by
  obtain⟨j,k,h1,h2,h3⟩:=at' i x e
  obtain⟨c,w,g1,g2,g3,g4,g5,g6⟩:=F.cells j x k h2 h3
  exact⟨j,k,c,w,h1,h2,h3,g1,g2,g3,g4,g5,g6⟩
 have idx:∀ n,(n,NameKind.free)∈scope.names→∃ i:Nat,scope.names[i]?=some (n,NameKind.free):=fun n hn=>List.getElem?_of_mem hn
 refine⟨fun n hn=>?_,⟨fun i x e=>?_,fun i j x y c ei ej lx ly=>?_,fun p hp=>?_,fun i x k e hk=>?_⟩⟩
 ·obtain⟨i,e⟩:=idx n hn
  obtain⟨j,k,c,w,_,_,_,hc,_⟩:=cellAt i n e
  rw [hc];rfl
 ·obtain⟨j,k,c,w,h1,h2,h3,g1,g2,g3,g4,g5,g6⟩:=cellAt i x e
  refine⟨c,w,by rw [wj (cq e),g1];rfl,g2,?_,g4,g6⟩
  unfold yg
  rw [h1]
  exact g3
 ·obtain⟨a,ka,ca,wa,a1,a2,a3,a4,_⟩:=cellAt i x ei
  obtain⟨b,kb,cb,wb,b1,b2,b3,b4,_⟩:=cellAt j y ej
  rw [wj (cq ei),a4] at lx
  rw [wj (cq ej),b4] at ly
  have lx':ca=c:=by simpa using lx
  have ly':cb=c:=by simpa using ly
  have hab:=F.inj a b x y ka kb c a2 b2 a3 b3 (lx'▸a4) (ly'▸b4)
  subst hab
  rw [a2] at b2
  obtain⟨rfl,_⟩:=og (ae b2)
  exact dN nd ei ej
 ·obtain⟨hm,hc⟩:=nz _ _ p.1 p.2 hp
  obtain⟨i,e⟩:=idx _ hm
  obtain⟨j,k,c,w,_,_,_,g1,⟨o,ho,_⟩,_⟩:=cellAt i _ e
  rw [g1] at hc
  exact⟨o,by rw [hc];exact ho⟩
 ·have:=mC hfv i _ e
  rw [jq] at this
  unfold yg
  cases k<;>first | exact absurd rfl hk | (simp only [mD,qp] at this;rw [this];rfl)
noncomputable def qu (scope:Scope) (env:Env) (cells:List (Str × Addr)) (L:Addr):Env :=
 { scope:=relabel scope env,locals:=L,globals:=env.globals,cells:=cells,qual:=env.qual,func:=none,code:=env.code,frame:=env.frame,builtins:=env.builtins }
theorem pG {fv:List (Nat × Nat)} {it:It} {t:Tg} {cs:Exs} {more:Gens} {elt target iter:Expr} {ifs:List Expr} {rest:List Comprehension} {scope:Scope} {pos p0:Pos} {use:Option (Value→Sem Unit)} (hit:uz G C sc d (isTup target) it iter) (ht:tj G C (oj scope sc) d t target) (hcs:oo G C (oj scope sc) d cs ifs)
  (haf:qd G C (oj scope sc) d more elt (⟨target,iter,ifs,0⟩::rest) scope pos 0) (hs:∀ env v,foldedSetIterable iter env v=pure v) (hkind:scope.kind=.function) (nd:(scope.names.map (·.1)).Nodup) (hfv:mE sc fv 0 scope.names=true) (hgo:mB scope (⟨target,iter,ifs,0⟩::rest)=true) (hasy:∀ g'∈rest,g'.is_async=0)
  {A:Around} {E:Value→Shared→Prop} {env:Env} {ρ:Fr} {σ:St} {Q:V→St→Prop} {s:Shared} {P:Value→Shared→Prop} (ao:AOk A d) (es:env.scope=sc) (eo:iv env) (F:FR G σ env ρ s.heap) (R:Rel G σ s.heap) (h:wpE C (.comp fv it t cs more) ρ σ Q)
  (hP:∀ (v:V) (σ':St) (h':Heap) (tk:Nat) (w:Value) (L:Addr),Q v σ'→VR G h' v w→Rel G σ' h'→Evo [] σ s.heap σ' h'→s.heap.get? L=none→¬ σ'.dom L→(∃ m,h'.Ns L m)→compPost G.M A E use P w L (.ok .next) { s with heap:=h',toks:=tk }) :
  wpAny G.M A (comprehension (.ListComp elt (⟨target,iter,ifs,0⟩::rest) scope pos) scope env p0 (newList []) false (eval iter env) use) P E s:=by
 obtain⟨hsome,_⟩:=AE F es nd hfv
 refine wpAny_comprehension_free rfl (hs env) (c6 hsome) hkind (fun x hx hl=>?_) (av (hit A E env ρ σ _ s ao es eo F R h) (fun v s₁ h₁=>av h₁ (fun itv s₂ l=>?_) fun _ _ x=>x) fun _ _ x=>x)
 ·obtain⟨i,e⟩:=List.getElem?_of_mem hx
  obtain⟨y,k⟩:=x
  simp only at hl
  subst hl
  exact qz nd e
 obtain⟨I,σ₁,h₁,tk,rfl,rfl,htup,hf,hp,r,x₁,hnew,hnd⟩:=l
 have F₁:=F.evo x₁
 refine gx (?_:wpAny G.M A _ _ E _) (by show([]:List Value).toArray.size≤sizeLine;simp)
 have F₂:FR G σ₁ env ρ (h₁.push { cls:=.type "list",data:=.seq ([]:List Value).toArray }):=F₁.evo (Evo.push [] σ₁ h₁ { cls:=.type "list",data:=.seq ([]:List Value).toArray })
 have r₂:=r.push { cls:=.type "list",data:=.seq ([]:List Value).toArray }
 have hD₂:(h₁.push { cls:=.type "list",data:=.seq ([]:List Value).toArray }).get? h₁.objs.size=some { cls:=.type "list",data:=.seq ([]:List Value).toArray }:=bq _ rfl
 have x₂:Evo [] σ s.heap σ₁ (h₁.push { cls:=.type "list",data:=.seq ([]:List Value).toArray }):=x₁.trans (Evo.push _ _ _ _)
 have I₂:I.pos 0 (h₁.push { cls:=.type "list",data:=.seq ([]:List Value).toArray }):=I.keep _ _ _ hp (fun b _ o e=>ak _ e) fun b o e _=>ak _ e
 generalize hH2:h₁.push { cls:=.type "list",data:=.seq ([]:List Value).toArray }=H at *
 have hHs:H.objs.size=h₁.objs.size+1:=by rw [← hH2];exact iz ..
 obtain⟨_,clo⟩:=AE F₂ es nd hfv
 have hrel:∀ (i:Nat) (x:Str) (k':NameKind),(relabel scope env).names[i]?=some (x,k')→∃ k,scope.names[i]?=some (x,k)∧(k'=k∨(k=.free∧k'=.cell)):=fun i x k' e=>by
  simp only [relabel,az] at e
  cases hq:scope.names[i]? with
  | none=>rw [hq] at e;cases e
  | some p =>
   obtain⟨y,k⟩:=p
   rw [hq] at e
   simp only [Option.map_some,dn] at e
   split at e
   ·rename_i hc
    obtain⟨rfl,rfl⟩:=og e
    simp only [cg,jw] at hc
    exact⟨k,rfl,.inr ⟨hc.1.1,rfl⟩⟩
   ·obtain⟨rfl,rfl⟩:=og e
    exact⟨k,rfl,.inl rfl⟩
 obtain⟨F₃,keep⟩:=j6 (T:="dict") (env:=qu scope env (cellsFrom (H.objs.size+1) scope.names (ki env.cells scope.names [])) H.objs.size) r₂ nd clo rfl rfl hrel
 have eo₃:iv (qu scope env (cellsFrom (H.objs.size+1) scope.names (ki env.cells scope.names [])) H.objs.size):=by
  refine⟨hkind,?_,eo.globals,eo.builtins⟩
  have e:(relabel scope env).names.map (·.1)=scope.names.map (·.1):=by
   simp only [relabel,xq]
   refine List.map_congr_left fun p _=>?_
   obtain⟨y,k⟩:=p
   simp only [Function.comp]
   split<;>rfl
  show((relabel scope env).names.map (·.1)).Nodup
  rw [e];exact nd
 have ok:=cellsFrom_ok scope.names (H.push { cls:=.type "dict",data:=.dict #[] }) (H.objs.size+1) [] ⟨fun _ _ hm=>(nomatch hm),List.Pairwise.nil⟩ (by rw [iz];exact ay _)
 rw [iz] at ok
 simp only [newFunctionEnv,Option.isSome_some,rp]
 refine ab (wpAny_alloc ?_)
 refine ab (wpAny_layCells _ (fun name kind cells=>by cases hkc:kind==NameKind.cell<;>simp [hkc]) _ _ _ _ ?_)
 rw [show(H.push { cls:=.type "dict",data:=.dict #[] }).objs.size=H.objs.size+1 from iz ..]
 rw [nt]
 refine ab (af (af ?_))
 generalize hH3:pushCells (H.push { cls:=.type "dict",data:=.dict #[] }) scope.names=H3 at *
 have r₃:=r₂.keeps keep
 have fz:gu H H3:=fun b o e _=>keep b o e
 have x₃:Evo [] σ s.heap σ₁ H3:=x₂.trans (Evo.keeps keep)
 have I₃:I.pos 0 H3:=I.keep _ _ _ I₂ (fun b _ o e=>keep b o e) fz
 have sNone:∀ b,h₁.objs.size≤b→s.heap.get? b=none:=fun b hb=>by
  cases hq:s.heap.get? b with
  | none=>rfl
  | some o=>obtain⟨o',e'⟩:=x₁.there _ _ hq;exact absurd (du e') (jx.mpr hb)
 have ownLt:∀ b∈I.own,b<h₁.objs.size:=fun b hb=>by obtain⟨o,e⟩:=I.there _ _ hp b hb;exact du e
 have hXe:∀ b∈I.own,b∉envX (qu scope env (cellsFrom (H.objs.size+1) scope.names (ki env.cells scope.names [])) H.objs.size):=fun b hb hm=>by
  have hlt:=ownLt b hb
  rcases cu.mp hm with rfl | hm
  ·exact absurd hlt (jx.mpr (by show h₁.objs.size≤H.objs.size;(exact bh .A [[1,-1]] (.e .B .M) hHs)))
  ·obtain⟨p,hp',rfl⟩:=bw.mp hm
   have hp2:p∈cellsFrom (H.objs.size+1) scope.names (ki env.cells scope.names []):=hp'
   rw [et] at hp2
   rcases gm.mp hp2 with h1 | h1
   ·have:=(ok.empty p.1 p.2 h1).2
    exact jc _ (cx hlt (by(exact gr .A .o (.e .C .M) (.k .Q .B) hHs this):h₁.objs.size≤p.2))
   ·obtain⟨hm1,hm2⟩:=nz _ _ p.1 p.2 h1
    obtain⟨c,hc⟩:=ax.mp (hsome _ hm1)
    rw [hc] at hm2
    simp only [Option.getD_some] at hm2
    obtain⟨o,ho⟩:=F.allc (p.1,c) (mem_of_lookup hc)
    have:=hnew p.2 hb
    rw [hm2] at this
    rw [show s.heap.get? c=some o from ho] at this
    cases this
 have hDe:h₁.objs.size∉envX (qu scope env (cellsFrom (H.objs.size+1) scope.names (ki env.cells scope.names [])) H.objs.size):=fun hm=>by
  rcases cu.mp hm with e | hm
  ·have:h₁.objs.size=H.objs.size:=e
   (exact gn .ff [[0,-1,-1]] .a8 (.e .B .A) hHs this)
  ·obtain⟨p,hp',e⟩:=bw.mp hm
   have hp2:p∈cellsFrom (H.objs.size+1) scope.names (ki env.cells scope.names []):=hp'
   rw [et] at hp2
   rcases gm.mp hp2 with h1 | h1
   ·have:=(ok.empty p.1 p.2 h1).2;(exact qc .ff [[0,-1,1,1]] .a8 (.e .C .B) (.k .M .C) hHs e this)
   ·obtain⟨hm1,hm2⟩:=nz _ _ p.1 p.2 h1
    obtain⟨c,hc⟩:=ax.mp (hsome _ hm1)
    rw [hc] at hm2
    obtain⟨o,ho⟩:=F.allc (p.1,c) (mem_of_lookup hc)
    have:=sNone c (by rw [← show p.2=c from hm2,e];exact ay _)
    rw [show s.heap.get? c=some o from ho] at this
    cases this
 have baseNone:∀ b,h₁.objs.size≤b→G.hb.get? b=none:=fun b hb=>by
  cases hq:G.hb.get? b with
  | none=>rfl
  | some o=>exact absurd (du (r.base b o hq)) (jx.mpr hb)
 have domNone:∀ b,h₁.objs.size≤b→¬ σ₁.dom b:=fun b hb dm=>by obtain⟨o,e⟩:=r.nv dm;exact absurd (du e) (jx.mpr hb)
 have acc₀:xh G (qu scope env (cellsFrom (H.objs.size+1) scope.names (ki env.cells scope.names [])) H.objs.size) h₁.objs.size σ₁ H3 [] :=
  ⟨⟨[],0,keep _ _ hD₂,.nil⟩,cf _,domNone _ (ay _),hDe,baseNone _ (ay _)⟩
 have xo:XOk (qu scope env (cellsFrom (H.objs.size+1) scope.names (ki env.cells scope.names [])) H.objs.size) (H.objs.size::(cellsFrom (H.objs.size+1) scope.names []).map (·.2)) (⟨target,iter,ifs,0⟩::rest):=by
  refine⟨.head _,fun g hg y hy c hc=>?_,fun b hb=>?_⟩
  ·have hown:=iy.mp (iy.mp hgo g hg) y hy
   have hc':(cellsFrom (H.objs.size+1) scope.names (ki env.cells scope.names [])).lookup y=some c:=hc
   rw [et] at hc'
   rcases gm.mp (mem_of_lookup hc') with h1 | h1
   ·exact .tail _ (bw.mpr ⟨_,h1,rfl⟩)
   ·obtain⟨hm1,_⟩:=nz _ _ y c h1
    obtain⟨i,e⟩:=List.getElem?_of_mem hm1
    have:=qz nd e
    unfold ownIn at hown
    rw [this] at hown
    cases hown
  ·rcases cu.mp hb with rfl | hb
   ·exact .head _
   ·obtain⟨p,hp',rfl⟩:=bw.mp hb
    refine .tail _ (bw.mpr ⟨p,?_,rfl⟩)
    show p∈cellsFrom (H.objs.size+1) scope.names (ki env.cells scope.names [])
    rw [et];exact ek _ hp'
 have hg':∀ g',(⟨target,iter,ifs,0⟩::rest:List Comprehension)[0+1]?=some g'→g'.is_async=0:=fun g' e=>hasy g' (cq (by simpa using e))
 have loop:codeAny G.M A (.compLoop (.ListComp elt (⟨target,iter,ifs,0⟩::rest) scope pos) 0 (.ref I.it) (.ref h₁.objs.size) (qu scope env (cellsFrom (H.objs.size+1) scope.names (ki env.cells scope.names [])) H.objs.size)) (compPost G.M A E use P (.ref h₁.objs.size) H.objs.size) { s with heap:=H3,toks:=tk }:=by
  refine EM (s₀:=s) (σ₀:=σ) ht hcs haf rfl hg' I htup xo ao (by show relabel scope env=_;rw [yA,es]) eo₃ F₃ r₃ acc₀ I₃ (x₃.more fun _ h=>nomatch h) hnew hXe hnd (fun q=>absurd (ownLt _ q) (jc _)) (fun b hb=>?_) hf fun s' l=>?_
  ·cases hq:G.hb.get? b with
   | none=>rfl
   | some o=>have:=R.base b o hq;rw [hnew b hb] at this;cases this
  ·obtain⟨ρ',acc',σ',h',tk',ws,n,rfl,q,F',R',hl,hv,hz,hd,x',_⟩:=l
   have hb0:=baseNone h₁.objs.size (ay _)
   have hL:σ'.L h₁.objs.size=none:=by
    cases hq:σ'.L h₁.objs.size with
    | none=>rfl
    | some y=>exact absurd (.inl (by rw [hq];rfl)) hd
   have R'':=R'.H8 hd hb0 hl hv hz
   have hXnone:∀ z∈(h₁.objs.size::H.objs.size::(cellsFrom (H.objs.size+1) scope.names []).map (·.2)),s.heap.get? z=none:=fun z hz=>by
    rcases cu.mp hz with rfl | hz
    ·exact sNone _ (ay _)
    rcases cu.mp hz with rfl | hz
    ·exact sNone _ (by exact bh .A [[1,-1]] (.e .B .M) hHs)
    ·obtain⟨p,hp',rfl⟩:=bw.mp hz
     have:=(ok.empty p.1 p.2 hp').2
     exact sNone _ (by exact gr .A .o (.e .C .M) (.k .Q .B) hHs this)
   have x'':Evo [] σ s.heap (σ'.fg h₁.objs.size acc') h':=(x'.adopt acc' (sNone _ (ay _))).less fun z hz=>.inr (hXnone z hz)
   obtain⟨m,hm,_⟩:=F'.ns
   have hlocD:¬ (σ'.fg h₁.objs.size acc').dom H.objs.size:=fun dm=>by
    rcases yf dm with dm | e
    ·exact F'.loc dm
    ·have e':H.objs.size=h₁.objs.size:=e
     (exact gn .ff .p .a8 .B hHs e)
   exact hP (.lst h₁.objs.size) _ h' tk' _ H.objs.size (q _ hL) (.lst _) R'' x'' (sNone _ (by exact bh .A [[1,-1]] (.e .B .M) hHs)) hlocD ⟨m,hm⟩
 exact eC rfl loop (I.self _ _ _ _ _ I₃ loop)
theorem o6 {fv:List (Nat × Nat)} {it:It} {t:Tg} {cs:Exs} {more:Gens} {elt target iter:Expr} {ifs:List Expr} {rest:List Comprehension} {scope:Scope} {pos:Pos} (hit:uz G C sc d (isTup target) it iter) (ht:tj G C (oj scope sc) d t target) (hcs:oo G C (oj scope sc) d cs ifs)
  (haf:qd G C (oj scope sc) d more elt (⟨target,iter,ifs,0⟩::rest) scope pos 0) (hs:∀ env v,foldedSetIterable iter env v=pure v) (hkind:scope.kind=.function) (nd:(scope.names.map (·.1)).Nodup) (hfv:mE sc fv 0 scope.names=true) (hgo:mB scope (⟨target,iter,ifs,0⟩::rest)=true) (hasy:∀ g'∈rest,g'.is_async=0) :
  ct G C sc d (.comp fv it t cs more) (.ListComp elt (⟨target,iter,ifs,0⟩::rest) scope pos):=fun A E env ρ σ Q s ao es eo F R h=>by
 rw [eval_ListComp]
 refine pG (use:=none) hit ht hcs haf hs hkind nd hfv hgo hasy ao es eo F R h fun v σ' h' tk w L q vr R' x hL hd hm=>?_
 obtain⟨m,hm⟩:=hm
 refine⟨m,hm,fun h2 hs2=>?_⟩
 obtain⟨o,ees,ep,ho,hdt,_⟩:=id hm
 have hf:gu h' h2:=nf hs2 fun o' e=>by obtain rfl:=ae (ho.symm.trans e);exact pj hdt
 have hb:G.hb.get? L=none:=by
  cases hq:G.hb.get? L with
  | none=>rfl
  | some o=>have:=R.base L o hq;rw [hL] at this;cases this
 exact⟨v,σ',h2,tk,rfl,q,vr.mono hf,R'.frame (o':=default) hs2 hd hb hf,x.but (own:=[L]) (fun b o hb e=>by rw [hs2.2 b (fun q=>hb (q▸.head _))];exact e) fun b hb=>by obtain rfl:=aj.mp hb;exact hL⟩
theorem iC {i:Nat} {fv:List (Nat × Nat)} {it:It} {t:Tg} {cs:Exs} {more:Gens} {elt target iter:Expr} {ifs:List Expr} {rest:List Comprehension} {scope:Scope} {x:Str} {kd:NameKind} {px pos spos:Pos} (hi:sc.names[i]?=some (x,kd)) (hk:Own G x kd) (hit:uz G C sc d (isTup target) it iter) (ht:tj G C (oj scope sc) d t target) (hcs:oo G C (oj scope sc) d cs ifs)
  (haf:qd G C (oj scope sc) d more elt (⟨target,iter,ifs,0⟩::rest) scope pos 0) (hs:∀ env v,foldedSetIterable iter env v=pure v) (hkind:scope.kind=.function) (nd:(scope.names.map (·.1)).Nodup) (hfv:mE sc fv 0 scope.names=true) (hgo:mB scope (⟨target,iter,ifs,0⟩::rest)=true) (hasy:∀ g'∈rest,g'.is_async=0) :
  tu G C sc d (.assign [.var i] (.comp fv it t cs more)) (.Assign [.Name x px] (.ListComp elt (⟨target,iter,ifs,0⟩::rest) scope pos) spos):=fun A E env ρ σ K s ao es eo F R h=>by
 have plain:ct G C sc d (.comp fv it t cs more) (.ListComp elt (⟨target,iter,ifs,0⟩::rest) scope pos):=o6 hit ht hcs haf hs hkind nd hfv hgo hasy
 by_cases hsw:(env.blockKind==.function&&env.kindOf x==some .local&&px.line==pos.line&&!(scope.names.any fun(n,k)=>n==x&&(k==.local||k==.cell)))=true
 ·have hsw':swapsWith (.ListComp elt (⟨target,iter,ifs,0⟩::rest) scope pos) (some (.Name x px)) spos.line env=pure true:=by
   show(pure _:Sem Bool)=_
   exact bu pure hsw
  rw [exec_Assign_Name_used _ _ _ _ hsw']
  refine ab (er (ab ?_))
  show wpAny G.M A (comprehension _ scope env _ (newList []) false (eval iter env) (some (assign (.Name x px) env))>>=fun _=>pure ()) _ E s
  refine ab ?_
  refine pG (use:=some (assign (.Name x px) env)) (Q:=fun v σ=>cA C [.var i] v ρ σ fun ρ σ=>K .next ρ σ) hit ht hcs haf hs hkind nd hfv hgo hasy ao es eo F R h fun v σ' h' tk w L q vr R' x' hL hd hm=>?_
  obtain⟨m,hm⟩:=hm
  show wpAny G.M A (assign (.Name x px) env w) _ E _
  refine assign_Name (uq (s:={ s with heap:=h',toks:=tk }) eo (F.evo x') R' (by rw [es];exact hi) hk vr fun h2 tk2 F2 R2 x2=>?_)
  have hLX:L∉envX env:=lZ (own:=[L]) F (fun b hb=>by obtain rfl:=aj.mp hb;exact hL) L (.head _)
  obtain⟨o,ees,ep,ho,hdt,hrest⟩:=id hm
  have ho2:=x2.keep _ _ ho hd hLX
  refine⟨m,⟨o,ees,ep,ho2,hdt,hrest⟩,fun h3 hs3=>af (af ?_)⟩
  have hf:gu h2 h3:=nf hs3 fun o' e=>by obtain rfl:=ae (ho2.symm.trans e);exact pj hdt
  have hb:G.hb.get? L=none:=by
   cases hq:G.hb.get? L with
   | none=>rfl
   | some o=>have:=R.base L o hq;rw [hL] at this;cases this
  have hk3:∀ b o,b∉[L]→h2.get? b=some o→h3.get? b=some o:=fun b o hb e=>by rw [hs3.2 b (fun q=>hb (q▸.head _))];exact e
  exact⟨.next,_,σ',h3,tk2,rfl,.next,q,F2.but hk3 hf (fun b hb=>by obtain rfl:=aj.mp hb;exact hLX),R2.frame (o':=default) hs3 hd hb hf,((x'.wide env).trans x2).but (own:=[L]) hk3 fun b hb=>by obtain rfl:=aj.mp hb;exact hL⟩
 ·have hsw':swapsWith (.ListComp elt (⟨target,iter,ifs,0⟩::rest) scope pos) (some (.Name x px)) spos.line env=pure false:=by
   show(pure _:Sem Bool)=_
   exact bu pure (pU.mpr hsw)
  rw [exec_Assign]
  refine ab (er ?_)
  have e1:swapsWithSole [.Name x px] (.ListComp elt (⟨target,iter,ifs,0⟩::rest) scope pos) spos.line env=pure false:=hsw'
  rw [e1]
  refine ab (af ?_)
  rw [aw (by decide)]
  refine ab (md (plain A E env ρ σ (fun v σ=>cA C [.var i] v ρ σ fun ρ σ=>K .next ρ σ) s ao es eo F R h) fun v σ₁ h₁ tk w q vr r x=>?_)
  rw [lS (sc:=sc) (r:=none) rfl es (by unfold Env.blockKind;rw [eo.kind];rfl)]
  refine ab (af ?_)
  show wpAny G.M A (do assignAll w _;pure Flow.next) _ _ _
  refine ab (av (sN (s:={ s with heap:=h₁,toks:=tk }) ao es eo (.cons (sD hi hk) (fun _=>rfl) .nil) (F.evo x) r vr q) (fun _ s' l=>af ?_) fun _ _ x=>x)
  obtain⟨ρ',σ',h',tk',rfl,q',F',R',x'⟩:=l
  exact⟨.next,ρ',σ',h',tk',rfl,.next,q',F',R',(x.wide env).trans x'⟩
end
end MP
end
section
namespace MP
open PySem PyProof.Rows PySem.W
noncomputable def ends {α:Type} (n:Nat) (lt:Nat→Nat→Bool):KasT α→(α→Prop)→Prop
 | .ret a,Q=>Q a
 | .ask i j k,Q=>i<n∧j<n∧ends n lt (k (lt i j)) Q
structure DR (lt:Nat→Nat→Bool):Prop where
 asym:∀ a b,lt a b=true→lt b a=false
 tr:∀ a b c,lt b a=false→lt c b=false→lt c a=false
section
variable {n:Nat} {lt:Nat→Nat→Bool}
noncomputable abbrev at0 (p:Array Nat) (i:Nat):Nat:=p.getD i 0
noncomputable def JM (lt:Nat→Nat→Bool) (p:Array Nat) (k:Nat):Prop:=∀ i j,i<j→j<k→lt (at0 p j) (at0 p i)=false
noncomputable def JQ (lt:Nat→Nat→Bool) (p:Array Nat) (k:Nat):Prop:=∀ i j,i<j→j<k→lt (at0 p i) (at0 p j)=false
structure rX (n:Nat) (p:Array Nat):Prop where
 perm:p.Perm (List.toArray (List.range n))
theorem rX.size {p:Array Nat} (h:rX n p):p.size=n:=by have:=h.perm.size_eq;simpa using this
theorem rX.low {p:Array Nat} (h:rX n p) (hn:0<n) (i:Nat):at0 p i<n:=by
 unfold at0
 by_cases hi:i<p.size
 ·have e:p.getD i 0=p[i]:=by simp [Array.getD,hi]
  rw [e]
  have hm:p[i]∈p.toList:=by simp
  have:=(Array.perm_iff_toList_perm.mp h.perm).mem_iff.mp hm
  simpa using this
 ·have e:p.getD i 0=0:=by simp [Array.getD,hi]
  rw [e];exact hn
theorem rX.step {p q:Array Nat} (h:rX n p) (hq:q.Perm p):rX n q:=⟨hq.trans h.perm⟩
theorem JM.le (L:DR lt) {p:Array Nat} {k:Nat} (h:JM lt p k) {i j:Nat} (hij:i≤j) (hj:j<k):lt (at0 p j) (at0 p i)=false:=by
 rcases kp hij with h1 | rfl
 ·exact h i j h1 hj
 ·cases hq:lt (at0 p i) (at0 p i) with
  | false=>rfl
  | true=>have:=L.asym _ _ hq;rw [hq] at this;cases this
theorem DR.irr (L:DR lt) (a:Nat):lt a a=false:=by
 cases hq:lt a a with
 | false=>rfl
 | true=>have:=L.asym _ _ hq;rw [hq] at this;cases this
theorem JQ.le (L:DR lt) {p:Array Nat} {k:Nat} (h:JQ lt p k) {i j:Nat} (hij:i≤j) (hj:j<k):lt (at0 p i) (at0 p j)=false:=by
 rcases kp hij with h1 | rfl
 ·exact h i j h1 hj
 ·exact L.irr _
end
end MP
end
section
namespace MP
open PySem PyProof.Rows
noncomputable def gN (C N:Addr) (nm q:Str) (k0 k2 k3:Option Value):Obj :=
 { cls:=.type "type",dict:=none,data:=.cls { name:=nm,bases:=[.type "tuple"],mro:=[.ref C,.type "tuple",.type "object"],ns:=N,qualname:=q,hasDict:=false,slotNames:=[],subclasses:=[],abstract:=false,collection:=none,hasDel:=false },slots:=#[k0,none,k2,k3,some .none,some (.bool false)] }
noncomputable def dQ (C:Addr) (dd:Option Addr) (ws:List Value) (n:Nat):Obj:={ cls:=.ref C,dict:=dd,data:=.seq ws.toArray n,slots:=#[] }
theorem mro_tuple:mroOf (.type "tuple")=pure [.type "tuple",.type "object"]:=by kernel_rfl
section
variable {prog:Program} {w:World} {M:Model} {A:Around} {E:Value→Shared→Prop} {h:Heap} {g:Array GenState} {d:Drawn} {t:Nat} {os:OsState} {C N:Addr} {nm q:Str} {k0 k2 k3:Option Value} {mN:Str→Option Value} {dd:Option Addr}
theorem oM {base:Value} {Q:Bool→Shared→Prop} (hC:h.get? C=some (gN C N nm q k0 k2 k3)) (hq:Q ([Value.ref C,.type "tuple",.type "object"].contains base) ⟨h,g,d,t,os⟩):wpAny M A (isSubtype (.ref C) base) Q E ⟨h,g,d,t,os⟩:=by
 unfold gN at hC
 unfold isSubtype
 repeat (any_goals (first | assumption | wp_step))
theorem CQ {Q:List Value→Shared→Prop} (hC:h.get? C=some (gN C N nm q k0 k2 k3)) (hq:Q [.ref C,.type "tuple",.type "object"] ⟨h,g,d,t,os⟩):wpAny M A (mroOf (.ref C)) Q E ⟨h,g,d,t,os⟩:=by
 unfold gN at hC
 unfold mroOf
 repeat (any_goals (first | assumption | wp_step))
theorem qQ {name:Str} {Q:Option Value→Shared→Prop} (hC:h.get? C=some (gN C N nm q k0 k2 k3)) (hn:h.Ns N mN) (hq:Q (mN name) ⟨h,g,d,t,os⟩):wpAny M A (classOwn (.ref C) name) Q E ⟨h,g,d,t,os⟩:=by
 unfold classOwn
 refine ab ?_
 unfold classData
 refine ab (xk hC (af (wpAny_nsGet hn hq)))
theorem dP {name:Str} {y:Option Value} {Q:Option Value→Shared→Prop} (hC:h.get? C=some (gN C N nm q k0 k2 k3)) (hn:h.Ns N mN) (hB:typeLookup (.type "tuple") name=pure y) (hq:Q ((mN name).or y) ⟨h,g,d,t,os⟩):wpAny M A (typeLookup (.ref C) name) Q E ⟨h,g,d,t,os⟩:=by
 have hrest:lookupAlong [.type "tuple",.type "object"] name=pure y:=by rw [typeLookup_eq,mro_tuple] at hB;exact hB
 rw [typeLookup_eq]
 refine ab (CQ hC ?_)
 rw [lookupAlong_cons]
 refine ab (qQ hC hn ?_)
 cases hv:mN name with
 | some v=>rw [hv] at hq;exact af hq
 | none=>rw [hv] at hq;exact dj hrest hq
theorem y7 {it x:Addr} {ox:Obj} {i:Nat} {xs:Array Value} {n:Nat} {v:Value} {Q:Option Value→Shared→Prop} {s:Shared} (hit:IsTupIter s.heap it x i) (hx:s.heap.get? x=some ox) (hd:ox.data=.seq xs n) (hv:xs[i]?=some v)
  (hQ:∀ h',IsTupIter h' it x (i+1)→Heap.SameBut it s.heap h'→Q (some v) { s with heap:=h' }):wpAny (model prog w) A (pyNext (.ref it)) Q E s:=by
 obtain⟨o,ho,hc,hdt⟩:=id hit
 unfold pyNext
 refine ab (wpAny_attempt (oq (name:=Str.ofString "__next__") hit.typeIs mf (gc mf hit.typeIs nT ?_ (nR _))))
 show wpAny _ _ (field (.ref it) 0>>=_) _ _ s
 refine ab (wpAny_field ho hdt (x:=.ref x) rfl ?_)
 show wpAny _ _ (if (Value.ref x==Value.none)=true then _ else _) _ _ s
 rw [aw (show ¬ ((Value.ref x==Value.none)=true) from jl)]
 show wpAny _ _ (field (.ref it) 1>>=_) _ _ s
 refine ab (wpAny_field ho hdt (x:=.int i 0) rfl ?_)
 show wpAny _ _ (seqItems? (.ref x)>>=_) _ _ s
 refine ab (rk hx hd ?_)
 simp only [fk,hv]
 refine ab (eI ho hdt (by simp) (af ⟨v,rfl,af (hQ _ ⟨_,qo _ ho (nS (pv hdt _)),(Obj.cls_mapFields ..).trans hc,?_⟩ (ji ..))⟩))
 rw [pv hdt];simp [rawInt]
theorem CA {it x:Addr} {ox:Obj} {i:Nat} {xs:Array Value} {n:Nat} {Q:Option Value→Shared→Prop} {s:Shared} (hh:A.handled=none) (hit:IsTupIter s.heap it x i) (hx:s.heap.get? x=some ox) (hd:ox.data=.seq xs n) (hv:xs[i]?=none)
  (hQ:∀ h',Heap.ExtBut it s.heap h'→Q none { s with heap:=h' }):wpAny (model prog w) A (pyNext (.ref it)) Q E s:=by
 obtain⟨o,ho,hc,hdt⟩:=id hit
 unfold pyNext
 refine ab (wpAny_attempt (oq (name:=Str.ofString "__next__") hit.typeIs mf (gc mf hit.typeIs nT ?_ (nR _))))
 show wpAny _ _ (field (.ref it) 0>>=_) _ _ s
 refine ab (wpAny_field ho hdt (x:=.ref x) rfl ?_)
 show wpAny _ _ (if (Value.ref x==Value.none)=true then _ else _) _ _ s
 rw [aw (show ¬ ((Value.ref x==Value.none)=true) from jl)]
 show wpAny _ _ (field (.ref it) 1>>=_) _ _ s
 refine ab (wpAny_field ho hdt (x:=.int i 0) rfl ?_)
 show wpAny _ _ (seqItems? (.ref x)>>=_) _ _ s
 refine ab (rk hx hd ?_)
 simp only [fk,hv]
 refine ab (xj (ab (eI ho hdt (by simp) ?_)))
 show wpAny _ _ (newExc (.type "StopIteration") []>>=_) _ _ _
 refine ab ?_
 simp only [newExc,newTuple]
 refine ab (gx ?_ (by size_fits))
 refine ab (m:=firstArgMember _ _) (dj (a:=Value.none) (by first | rfl | (simp only [firstArgMember];rfl)) ?_)
 refine gx ?_ (by size_fits)
 simp only [raiseNew]
 refine ab (wpAny_handled ?_)
 first | rw [show A.in1.handled=none from hh] | rw [hh]
 refine ab (af (wpAny_throw ?_))
 refine ab (wpAny_isInstance (T:="StopIteration") (b:=true) ⟨_,bq _ rfl,rfl⟩ isSubtype_stop ?_)
 exact af (hQ _ (((ji ..).extBut.push _).push _))
theorem CR {x:Addr} {ws:List Value} {n:Nat} {id nn:String} {rest:List Value} {Q:Unit→Shared→Prop} (hC:h.get? C=some (gN C N nm q k0 k2 k3)) (hx:h.get? x=some (dQ C dd ws n)) (hs:splitId id=some ("tuple",nn)) (hk:builtinKind id=some .slot∨builtinKind id=some .method) (ha:argsOk id ⟨.ref x::rest,[]⟩) (hQ:Q () ⟨h,g,d,t,os⟩) :
  wpAny M A (checkBuiltinCall id ⟨.ref x::rest,[]⟩) Q E ⟨h,g,d,t,os⟩:=by
 have inst:∀ {R:Bool→Shared→Prop},R true ⟨h,g,d,t,os⟩→wpAny M A (isInstance (.ref x) (.type "tuple")) R E ⟨h,g,d,t,os⟩:=fun {R} hr=>by
  unfold isInstance
  unfold dQ at hx
  repeat (first | (with_reducible refine gF hx ?_) | (with_reducible refine oM hC ?_) | wp_step)
  exact hr
 rcases hk with hk | hk <;>
 ·simp only [checkBuiltinCall,hk,hs]
  refine ab (inst ?_)
  simp only [um,cy,je]
  cases hsig:Manifest.signature? id with
  | none=>exact af hQ
  | some sig =>
   simp only [argsOk,hsig] at ha
   have h2:Bind.checkArgs id sig ⟨.ref x::rest,[]⟩=pure ():=ha
   show wpAny M A (Bind.checkArgs id sig ⟨.ref x::rest,[]⟩) Q E _
   rw [h2];exact af hQ
theorem GH {x:Addr} {ws:List Value} {n:Nat} {id nn:String} {b:Builtin} {rest:List Value} {Q:Value→Shared→Prop} (hC:h.get? C=some (gN C N nm q k0 k2 k3)) (hx:h.get? x=some (dQ C dd ws n)) (hs:splitId id=some ("tuple",nn)) (hk:builtinKind id=some .slot∨builtinKind id=some .method) (hp:plainId id=true) (he:entryFor table id=some b) (ha:argsOk id ⟨.ref x::rest,[]⟩)
  (hc:wpAny (model prog w) A.in1 (b ⟨.ref x::rest,[]⟩) (fun fin s'=>∃ v,fin=.done (.ret v)∧Q v s') E ⟨h,g,d,t,os⟩):wpAny (model prog w) A (call (.builtin id) (.ref x::rest)) Q E ⟨h,g,d,t,os⟩:=by
 refine oe (yp hp he (CR hC hx hs hk ha (av hc (fun fin s' h'=>?_) fun _ _ e=>e)))
 obtain⟨v,rfl,hv⟩:=h'
 exact hv
theorem nY:splitId "tuple.__iter__"=some ("tuple","__iter__"):=by kernel_rfl
theorem qV:builtinKind "tuple.__iter__"=some .slot:=by kernel_rfl
theorem GF {x:Addr} {ws:List Value} {n:Nat} {Q:Value→Shared→Prop} (hC:h.get? C=some (gN C N nm q k0 k2 k3)) (hn:h.Ns N mN) (hi:mN "__iter__"=none) (hx:h.get? x=some (dQ C dd ws n))
  (hQ:Q (.ref h.objs.size) ⟨h.push { cls:=.type "tuple_iterator",data:=.fields #[.ref x,.int 0 0] },g,d,t,os⟩):wpAny (model prog w) A (pyIter (.ref x)) Q E ⟨h,g,d,t,os⟩:=by
 have hl:=PySem.F.slot_tuple_iter.lookup
 have hb:=PySem.F.slot_tuple_iter.bind (.ref x)
 have hx':=hx
 unfold pyIter specialOf
 unfold dQ at hx
 repeat (first | (with_reducible refine gF hx ?_) | (with_reducible refine dP hC hn hl ?_;rw [hi]) | wp_step)
 have go:∀ (E:Value→Shared→Prop) (R:Option (Value × List Value)→Shared→Prop),R (some (.builtin "tuple.__iter__",[.ref x])) ⟨h,g,d,t,os⟩→wpAny (model prog w) A (do let r←bindSpecial (Value.builtin "tuple.__iter__") (Value.ref x);pure (some r)) R E ⟨h,g,d,t,os⟩:=fun E R hr=>ab (dj hb (af hr))
 have fin:wpAny (model prog w) A (call (.builtin "tuple.__iter__") [.ref x]) (fun r s'=>∃ y,r=.ref y∧y=h.objs.size∧s'=⟨h.push { cls:=.type "tuple_iterator",data:=.fields #[.ref x,.int 0 0] },g,d,t,os⟩) E ⟨h,g,d,t,os⟩:=by
  refine GH hC hx' nY (.inl qV) PySem.F.slot_tuple_iter.plain PySem.F.entry_tuple_iter (PySem.F.args_tuple_iter_1 _) ?_
  show wpAny _ _ (do ret (← newFields "tuple_iterator" [.ref x,rawInt 0])) _ _ _
  exact ab (gx (af ⟨_,rfl,_,rfl,rfl,rfl⟩))
 have tail:wpAny (model prog w) A (match (some (Value.builtin "tuple.__iter__",[Value.ref x]):Option (Value × List Value)) with
    | some (g,first)=>if (g==Value.none)=true then (do let r←(do rule "iter.none";raiseError "TypeError" s!"'{← typeNameOf (.ref x)}' object is not iterable":Sem Value);pure (some r)) else (do let r←call g first;pure (some r))
    | _=>pure none:Sem (Option Value)) (fun a s'=>wpAny (model prog w) A (match a with
     | some it=>(do match←(do typeLookup (← typeOf it) "__next__":Sem (Option Value)) with
       | none=>(do rule "iter.non-iterator";raiseError "TypeError" s!"iter() returned non-iterator of type '{← typeNameOf it}'":Sem Value)
       | some _=>pure it)
     | none=>(do match←bindSpecialIfBound? (.ref x) "__getitem__" with
       | none=>(do rule "iter.not-iterable";raiseError "TypeError" s!"'{← typeNameOf (.ref x)}' object is not iterable":Sem Value)
       | some _=>(do rule "iter.getitem-fallback";newFields "iterator" [.ref x,← mkInt 0]))) Q E s') E ⟨h,g,d,t,os⟩:=by
  dsimp only
  rw [aw (show ¬ ((Value.builtin "tuple.__iter__" == Value.none)=true) from jl)]
  refine ab (av fin (fun r s' hr=>?_) fun _ _ e=>e)
  obtain⟨y,rfl,rfl,rfl⟩:=hr
  refine af ?_
  dsimp only
  refine ab (ab (wpAny_typeOf (T:="tuple_iterator") ⟨_,bq _ rfl,rfl⟩ (dj mf.lookup ?_)))
  exact af hQ
 refine xl ?_
 split
 ·exact go _ _ tail
 ·exact vg (go _ _ tail)
theorem oB {it x:Addr} {ox:Obj} {xs:Array Value} {k:Nat} (hne:x≠it) (hd:ox.data=.seq xs k):∀ (n i:Nat) (s:Shared) (Q:List Value→Shared→Prop),IsTupIter s.heap it x i→s.heap.get? x=some ox→i+n≤xs.size →
  (∀ h',IsTupIter h' it x (i+n)→Heap.SameBut it s.heap h'→Q ((xs.toList.drop i).take n) { s with heap:=h' })→wpAny (model prog w) A (draw (.ref it) n) Q E s
 | 0,i,s,Q,hit,hx,hn,hQ=>by
  rw [draw]
  exact af (by simpa using hQ s.heap hit (.refl ..))
 | n+1,i,s,Q,hit,hx,hn,hQ=>by
  rw [draw]
  have hv:xs[i]?=some xs[i]:=ey (by exact dw .C .a (.k .a3 .B) hn)
  refine ab (y7 hit hx hd hv fun h₁ hit₁ hs₁=>?_)
  refine ab (br (oB hne hd n (i+1) _ _ hit₁ (by rw [hs₁.2 x hne];exact hx) (by exact dw (.k .a2 .C) .a .aS hn) fun h₂ hit₂ hs₂=>af ?_))
  have hdr:xs.toList.drop i=xs[i]::xs.toList.drop (i+1):=by
   rw [zw (by simpa using (by(exact dw .C .a (.k .a3 .B) hn):i<xs.size))];simp
  have:=hQ h₂ (by rw [show i+(n+1)=i+1+n by(exact xi (.e .Z .a2) .j)];exact hit₂) (hs₁.trans hs₂)
  rw [hdr,List.take_succ_cons] at this
  exact this
end
structure wm (G:Stc):Prop where
 here:∃ N mN nm q k0 k2 k3,G.hb.get? G.cM=some (gN G.cM N nm q k0 k2 k3)∧G.hb.Ns N mN∧mN "__iter__"=none∧mN "__lt__"=none∧mN "__len__"=none∧mN "__init__"=none
theorem K1 {G:Stc} (K:wm G):wL G:=fun A E s x ws n dd Q hh hbase hx hQ=>by
 obtain⟨N,mN,nm,q,k0,k2,k3,hC,hN,hi,_⟩:=K.here
 have hlt:x≠s.heap.objs.size:=fj (du hx)
 obtain⟨h,g,d,t,os⟩:=s
 have hC':=hbase _ _ hC
 have hN':=hN.keeps hbase
 have hl:=PySem.F.slot_tuple_iter.lookup
 have hx':h.get? x=some (dQ G.cM dd ws n):=hx
 have hx2:h.get? x=some { cls:=.ref G.cM,dict:=dd,data:=.seq ws.toArray n,slots:=#[] }:=hx
 have ni:∀ R:Bool→Shared→Prop,R false ⟨h,g,d,t,os⟩→wpAny G.M A (notIterableAtAll (.ref x)) R E ⟨h,g,d,t,os⟩:=fun R hr=>by
  unfold notIterableAtAll specialOf
  repeat (first | (with_reducible refine gF hx2 ?_) | (with_reducible refine dP hC' hN' hl ?_;rw [hi]) | wp_step)
  exact hr
 unfold unpackItems
 refine ab (ni _ ?_)
 simp only [cy,je]
 have hp:(h.push { cls:=.type "tuple_iterator",data:=.fields #[.ref x,.int 0 0] }).get? x=some { cls:=.ref G.cM,dict:=dd,data:=.seq ws.toArray n,slots:=#[] }:=ak _ hx2
 refine ab (br (GF hC' hN' hi hx' ?_))
 refine ab (br (oB (xs:=ws.toArray) (k:=n) hlt rfl ws.length 0 _ _ ⟨_,bq _ rfl,rfl,rfl⟩ hp (by simp) fun h₁ hit₁ hs₁=>?_))
 have hall:List.take ws.length (List.drop 0 ws.toArray.toList)=ws:=by simp
 rw [hall,aw (by simp)]
 have hx₁:h₁.get? x=some { cls:=.ref G.cM,dict:=dd,data:=.seq ws.toArray n,slots:=#[] }:=by rw [hs₁.2 x hlt];exact hp
 refine ab (br (CA (xs:=ws.toArray) (n:=n) hh hit₁ hx₁ rfl (by simp) fun h₂ he₂=>?_))
 simp only [sd,cy,je]
 exact af (hQ h₂ fun b o hb e=>he₂ b o hb (hs₁.extBut b o hb (ak _ e)))
end MP
end
section
namespace MP
open PySem PyProof.Rows
noncomputable def cK (ns ms:List Int):Option Fin × Unit:=if ns=ms then (none,()) else (some (.done (.ret (.bool (jn ns ms)))),())
theorem wd:∀ ns:List Int,jn ns ns=false
 | []=>rfl
 | a::as=>(bx rfl).trans (wd as)
section
variable {prog:Program} {w:World} {M:Model} {A:Around} {E:Value→Shared→Prop} {h:Heap} {g:Array GenState} {d:Drawn} {t:Nat} {os:OsState} {C N:Addr} {nm q:Str} {k0 k2 k3:Option Value} {mN:Str→Option Value} {dd de:Option Addr}
theorem CT {s:Shared} (f:Value × Value→Option Fin × Unit→Sem (ForInStep (Option Fin × Unit)))
  (hf:∀ a b st,f (a,b) st=(do let r←eqBool a b;if (!r)=true then (do rule "tuple.compare.by-the-first-pair-that-differs";let v←richCompare .Lt a b;let z←ret v;pure (.done (some z,()))) else pure (.yield (none,())))) :
  ∀ {ws us:List Value} {ns ms:List Int} {Q:Option Fin × Unit→Shared→Prop},IntsAre ws ns→IntsAre us ms→ns.length=ms.length→Q (cK ns ms) s→wpAny (model prog w) A (forIn (ws.zip us) (none,()) f) Q E s:=by
 intro ws us ns ms Q h1
 induction h1 generalizing us ms Q with
 | nil =>
  intro h2 hl hq
  cases h2 with
  | nil=>rw [List.zip_nil_left,nt];exact af hq
  | cons=>simp at hl
 | @cons a ta ws ns h1 ih =>
  intro h2 hl hq
  cases h2 with
  | nil=>simp at hl
  | @cons b tb us ms h2 =>
   rw [List.zip_cons_cons,rq,hf]
   refine ab (ab (wpAny_eqBool_int ?_))
   by_cases hab:a=b
   ·subst hab
    simp only [qj,um,cy,je]
    refine af (ih h2 (by simpa using hl) ?_)
    have e:cK (a::ns) (a::ms)=cK ns ms:=by unfold cK;rw [show jn (a::ns) (a::ms)=jn ns ms from bx rfl];simp
    rw [e] at hq;exact hq
   ·have hne:(a==b)=false:=by simpa using hab
    rw [hne]
    simp only [Bool.not_false,rp]
    have e:cK (a::ns) (b::ms)=(some (.done (.ret (.bool (decide (a<b))))),()):=by unfold cK;rw [show jn (a::ns) (b::ms)=decide (a<b) from aw hab,aw fun q=>hab (List.cons.inj q).1]
    rw [e] at hq
    refine ab (xj (ab ?_))
    have hlt:∀ R:Value→Shared→Prop,R (.bool (decide (a<b))) s→wpAny (model prog w) A (richCompare .Lt (.int a ta) (.int b tb)) R E s:=fun R hr=>lt_int hr
    exact hlt _ (ab (af (af (af hq))))
theorem CS {x y:Addr} {ox oy:Obj} {ws us:List Value} {ns ms:List Int} {n m:Nat} {P:Fin→Shared→Prop} (hx:h.get? x=some ox) (dx:ox.data=.seq ws.toArray n) (hy:h.get? y=some oy) (dy:oy.data=.seq us.toArray m) (h1:IntsAre ws ns) (h2:IntsAre us ms) (hl:ns.length=ms.length)
  (inst:∀ R:Bool→Shared→Prop,R true ⟨h,g,d,t,os⟩→wpAny (model prog w) A (isInstance (.ref y) (.type "tuple")) R E ⟨h,g,d,t,os⟩) (hP:P (.done (.ret (.bool (jn ns ms)))) ⟨h,g,d,t,os⟩):wpAny (model prog w) A (Builtin.«tuple.__lt__» ⟨[.ref x,.ref y],[]⟩) P E ⟨h,g,d,t,os⟩:=by
 unfold Builtin.«tuple.__lt__»
 refine ab (dj (a:=(.ref x,[.ref y])) (by rfl) ?_)
 dsimp only
 refine ab (inst _ ?_)
 simp only [um,cy,je]
 refine ab (m:=Builtin.Tuple.tupleItemsOf (.ref x)) (ab (rk hx dx (af ?_)))
 refine ab (m:=Builtin.Tuple.tupleItemsOf (.ref y)) (ab (rk hy dy (af ?_)))
 refine ab (CT _ (fun a b st=>by rfl) (ws:=ws) (us:=us) h1 h2 hl ?_)
 unfold cK
 by_cases e:ns=ms
 ·rw [bx e]
  subst e
  rw [wd] at hP
  have hlen:ws.toArray.size=us.toArray.size:=by simp [h1.length,h2.length]
  have e2:Builtin.Tuple.tupleCompareSizes .Lt ws.toArray.size us.toArray.size=.bool false:=by unfold Builtin.Tuple.tupleCompareSizes;rw [hlen];simp
  show wpAny _ _ (ret (Builtin.Tuple.tupleCompareSizes .Lt ws.toArray.size us.toArray.size)) _ _ _
  rw [e2]
  exact af hP
 ·rw [aw e]
  exact af hP
end
end MP
end
section
namespace MP
open PySem PyProof.Rows PySem.W
noncomputable def tl (t:Int × Int × Int):List Int:=[t.1,t.2.1,t.2.2]
noncomputable def LeT (s t:Int × Int × Int):Prop:=s.1<t.1∨(s.1=t.1∧(s.2.1<t.2.1∨(s.2.1=t.2.1∧s.2.2≤t.2.2)))
theorem LeT.trans {a b c:Int × Int × Int} (h1:LeT a b) (h2:LeT b c):LeT a c:=by
 unfold LeT at *
 rcases h1 with p | ⟨p,p1⟩
 ·exact .inl (by exact h2.elim (fun q1=>(lL .D .b (.il .A .C) (.il .C .B) p q1)) fun q1=>(lL .D .b (.il .A .C) (.ie .C .B) p q1.1))
 ·rcases h2 with q | ⟨q,q1⟩
  ·exact .inl (by exact lL .D .b (.ie .A .C) (.il .C .B) p q)
  ·refine .inr ⟨p.trans q,?_⟩
   rcases p1 with p | ⟨p,p1⟩
   ·exact .inl (by exact q1.elim (fun q1=>(lL .D .b (.il .A .C) (.il .C .B) p q1)) fun q1=>(lL .D .b (.il .A .C) (.ie .C .B) p q1.1))
   ·rcases q1 with q | ⟨q,q1⟩
    ·exact .inl (by exact lL .D .b (.ie .A .C) (.il .C .B) p q)
    ·exact .inr ⟨p.trans q,Int.le_trans p1 q1⟩
theorem getD_mem {α:Type} {l:List α} {i:Nat} {d:α} (h:i<l.length):l.getD i d∈l:=by
 rw [qf,bc h];simp
noncomputable def Mts (C:Addr) (h:Heap):List (Int × Int × Int)→List Value→Prop
 | []=>fun vs=>vs=[]
 | t::ts=>fun vs=>∃ x dd ws n us,vs=.ref x::us∧h.get? x=some (dQ C dd ws n)∧IntsAre ws (tl t)∧Mts C h ts us
theorem Mts.length {C:Addr} {h:Heap}:{ts:List (Int × Int × Int)}→{vs:List Value}→Mts C h ts vs→ts.length=vs.length
 | []=>fun e=>e▸rfl
 | _::_=>fun z0=>by obtain⟨_,_,_,_,_,e,_,_,r⟩:=z0;exact e▸bu (·+1) r.length
theorem Mts.at {C:Addr} {h:Heap}:{ts:List (Int × Int × Int)}→{vs:List Value}→Mts C h ts vs→(i:Nat)→i<ts.length→∃ x dd ws n,vs.getD i Value.none=.ref x∧h.get? x=some (dQ C dd ws n)∧IntsAre ws (tl (ts.getD i (0,0,0)))
 | [],_,_,i,hi=>absurd hi (fu i)
 | _::_,_,⟨x,dd,ws,n,_,e,g,q,_⟩,0,_=>⟨x,dd,ws,n,e▸rfl,g,q⟩
 | _::_,_,⟨_,_,_,_,_,e,_,_,r⟩,i+1,hi=>by subst e;exact r.at i (tm hi)
theorem Mts.mono {C:Addr} {h h':Heap} (hk:gu h h'):{ts:List (Int × Int × Int)}→{vs:List Value}→Mts C h ts vs→Mts C h' ts vs
 | []=>fun e=>e
 | _::_=>fun z0=>by obtain⟨x,dd,ws,n,us,e,g,q,r⟩:=z0;exact⟨x,dd,ws,n,us,e,hk _ _ g (.inl ⟨fun q=>(nomatch q),_,_,rfl⟩),q,r.mono hk⟩
theorem Mts.of {G:Stc} {h:Heap}:{ts:List (Int × Int × Int)}→{vs:List Value}→VRs G h (ts.map mtV) vs→Mts G.cM h ts vs
 | []=>fun e=>e
 | t::_=>fun z0=>by obtain⟨_,us,e,⟨a,ws,n,dd,e',g,r⟩,rest⟩:=z0;exact⟨a,dd,ws,n,us,e'▸e,g,nc (ns:=tl t) r,Mts.of rest⟩
theorem Mts.vr {G:Stc} {h:Heap}:{ts:List (Int × Int × Int)}→{vs:List Value}→Mts G.cM h ts vs→VRs G h (ts.map mtV) vs
 | []=>fun e=>e
 | t::_=>fun z0=>by obtain⟨x,_,_,_,us,e,g,q,r⟩:=z0;exact⟨.ref x,us,e,.mt g (VRs.ints (ns:=tl t) q),r.vr⟩
section
variable {G:Stc} {A:Around} {E:Value→Shared→Prop} {s:Shared} {σ:St}
end
end MP
end
section
namespace MP
open PySem PyProof.Rows PySem.W
structure pf (G:Stc) (fN fM:Addr):Prop where
 made:Looks G.M G.hb (Bind.madeBy (.ref G.cM)) none
 here:Looks G.M G.hb (Bind.madeHere "tuple.__new__" (.ref G.cM)) ()
 chk:∀ x,Looks G.M G.hb (checkBuiltinCall "tuple.__new__" ⟨[.ref G.cM,x],[]⟩) ()
 mro:Looks G.M G.hb (mroOf (.ref G.cM)) [.ref G.cM,.type "tuple",.type "object"]
 self:Looks G.M G.hb (isSubtype (.ref G.cM) (.ref G.cM)) true
 tup:Looks G.M G.hb (isSubtype (.ref G.cM) (.type "tuple")) true
 init:Looks G.M G.hb (typeLookup (.ref G.cM) "__init__") (some (.builtin "object.__init__"))
 call:Looks G.M G.hb (specialOf (.ref G.cM) "__call__") (some (.builtin "type.__call__"))
 typ:Looks G.M G.hb (isInstance (.ref G.cM) (.type "type")) true
 isT:Looks G.M G.hb (isType (.ref G.cM)) true
 del:Looks G.M G.hb (classHasDel G.cM) false
 new:∀ (A:Around) (E:Value→Shared→Prop) (s:Shared) (Q:Value→Shared→Prop),(∀ b o,G.hb.get? b=some o→s.heap.get? b=some o)→Q (.ref fN) { s with toks:=s.toks+1 }→wpAny G.M A (getAttr (.ref G.cM) "__new__") Q E s
 make:∀ (A:Around) (E:Value→Shared→Prop) (s:Shared) (expr:Bool) (Q:Value→Shared→Prop),(∀ b o,G.hb.get? b=some o→s.heap.get? b=some o)→Q (.ref s.heap.objs.size) { s with heap:=s.heap.push { cls:=.type "method",data:=.fields #[.ref fM,.ref G.cM] },toks:=s.toks+1 }→wpAny G.M A (getAttr (.ref G.cM) "_make" expr) Q E s
 typNew:∀ (A:Around) (E:Value→Shared→Prop) (s:Shared) (expr:Bool) (Q:Value→Shared→Prop),Q (.builtin "tuple.__new__") { s with toks:=s.toks+1 }→wpAny G.M A (getAttr (.type "tuple") "__new__" expr) Q E s
theorem qH:plainId "tuple.__new__"=true:=by decide +kernel
theorem rF:entryFor table "tuple.__new__"=some Builtin.«tuple.__new__»:=entryFor_of_tree (by kernel_rfl)
section
variable {G:Stc} {A:Around} {E:Value→Shared→Prop} {s:Shared} {fN fM:Addr}
noncomputable abbrev yn (G:Stc) (h:Heap):Prop:=∀ b o,G.hb.get? b=some o→h.get? b=some o
theorem uG (K:pf G fN fM) {x:Addr} {ws:List Value} {n:Nat} {Q:Value→Shared→Prop} (hb:yn G s.heap) (hx:IsT s.heap x ws.toArray n) (hz:ws.length≤aq)
  (h:∀ h' y dd,(∀ b o,s.heap.get? b=some o→h'.get? b=some o)→s.heap.get? y=none→h'.get? y=some (dQ G.cM dd ws 0)→Q (.ref y) { s with heap:=h' }) :
  wpAny G.M A (call (.builtin "tuple.__new__") [.ref G.cM,.ref x]) Q E s:=by
 refine oe (yp qH rF ((K.chk (.ref x)) _ _ _ _ hb ?_))
 unfold Builtin.«tuple.__new__»
 dsimp only
 refine ab (K.isT _ _ _ _ hb ?_)
 simp only [um,cy,je]
 refine ab (K.tup _ _ _ _ hb ?_)
 simp only [um,cy,je]
 refine ab (K.here _ _ _ _ hb ?_)
 refine ab (K.init _ _ _ _ hb ?_)
 rw [bx (by decide)]
 have hz':ws.toArray.size≤sizeLine:=by rw [cv];exact oh hz
 refine ab (dj (a:=()) rfl ?_)
 refine ab (dj (a:=()) rfl ?_)
 refine ab ?_
 refine wpAny_collect_seq x (.inr rfl) hx rfl rfl (fun h₁ hk₁=>ab (af ?_)) hz'
 refine ab (wpAny_alloc ?_)
 unfold newObj newObjAsIs
 dsimp only
 rw [aw (by simp only [cv] at hz' ⊢;(exact bh .bN .a .a1 hz'))]
 refine ab (ab (wpAny_alloc ?_))
 have hk:∀ b o,s.heap.get? b=some o→((h₁.push { cls:=.type "dict",data:=.dict #[] }).push (dQ G.cM (some h₁.objs.size) ws 0)).get? b=some o:=fun b o e=>ak _ (ak _ (hk₁ b o e))
 have e:ws.toArray.toList.toArray=ws.toArray:=by simp
 refine ab (K.del _ _ _ _ (fun b o e=>hk b o (hb b o e)) ?_)
 simp only [cy,je]
 refine af (af ?_)
 have e2:(h₁.push { cls:=.type "dict",data:=.dict #[] }).objs.size=h₁.objs.size+1:=iz ..
 show Q (.ref (h₁.push { cls:=.type "dict",data:=.dict #[] }).objs.size) _
 refine h _ _ (some h₁.objs.size) hk ?_ (bq _ rfl)
 rw [e2]
 cases hq:s.heap.get? (h₁.objs.size+1) with
 | none=>rfl
 | some o=>exact absurd (du (hk₁ _ _ hq)) (jx.mpr (Nat.le_succ _))
noncomputable def mJ (p0 p1 p2 p3 p4 p5 p6 p7 p8 p9 p10:Pos) (doc:Str) (c0 c1:Nat):List Stmt :=
 [.Expr (.Constant (.str doc) c0 p0) p1,.Return (some (.Call (.Attribute (.Name "tuple" p2) "__new__" p3) [.Name "_cls" p4,.Tuple [.Name "a" p5,.Name "b" p6,.Name "size" p7] c1 p8] [] p9)) p10]
noncomputable def sy (more:List (Str × Const)):Scope :=
 { kind:=.function,names:=[("_cls",.local),("a",.local),("b",.local),("size",.local),("tuple",.globalImplicit)],isGenerator:=false,isCoroutine:=false,more:=more }
theorem sL {C:Cal} {sc:Scope} {d:Nat} {x:Str} {k:Nat} {p pos:Pos}:tu G C sc d .pass (.Expr (.Constant (.str x) k p) pos):=fun A E env ρ σ K s ao es eo F R h =>
 wpAny_Expr (by
  show wpAny _ _ (mkText x) _ _ s
  refine wpAny_mkText ?_
  exact nk.here .next h F R) (by unfold interactive;rw [eo.kind];rfl) (xw rfl _ _ _)
theorem w5 (K:pf G fN fM) {pl:Sem Bool} {Q:Value × List Value→Shared→Prop} (h:Q (.builtin "tuple.__new__",[]) { s with toks:=s.toks+1 }):wpAny G.M A (getMethod (.type "tuple") "__new__" pl) Q E s:=by
 unfold getMethod specialOf
 have ht:typeOf (.type "tuple")=pure (.type "type"):=by first | rfl | kernel_rfl
 refine ab (ab (dj ht (dj KF.slot_tga.lookup ?_)))
 dsimp only
 rw [bx canon_tga]
 exact ab (K.typNew _ _ _ _ _ (af h))
variable {σ:St}
theorem w9 {C:Cal} {sc:Scope} {d:Nat} {env:Env} {ρ:Fr} {c e:Ex} {xc xe:Expr} {p apos pos:Pos} {vs:List V} {τ:St→Prop} {Q:Value→Shared→Prop} (Kg:GOk G) (K:pf G fN fM) (hc:ct G C sc d c xc) (he:ct G C sc d e xe) (hst:noStar [xc,xe]=true) (hline:(apos.endLine==pos.line)=true)
  (hx:sc.names.lookup ("tuple":Str)=some .globalImplicit) (hg:G.gl "tuple"=some (.type "tuple")) (ao:AOk A d) (es:env.scope=sc) (eo:iv env) (F:FR G σ env ρ s.heap) (R:Rel G σ s.heap)
  (hw:wpE C c ρ σ fun v σ'=>wpE C e ρ σ' fun u σ''=>v=.obj G.cM∧u=.tup vs∧vs.length≤aq∧τ σ'')
  (k:∀ σ₁ h₁ tk y,τ σ₁→VR G h₁ (.mt vs) (.ref y)→Rel G σ₁ h₁→Evo [] σ s.heap σ₁ h₁→Q (.ref y) { s with heap:=h₁,toks:=tk }) :
  wpAny G.M A (eval (.Call (.Attribute (.Name "tuple" p) "__new__" apos) [xc,xe] [] pos) env) Q E s:=by
 refine oz rfl hst (by simp) hline (my Kg eo R (by rw [es];exact hx) (by decide) hg fun pl=>?_)
 refine w5 K ?_
 have hes:kg G C sc d (.cons c (.cons e .nil)) [xc,xe]:=fx hc (fx he jo (di (di hst).2).1) (di hst).1
 refine ow (s:={ s with toks:=s.toks+1 }) (P:=fun us σ=>on2 us fun v u=>v=.obj G.cM∧u=.tup vs∧vs.length≤aq∧τ σ) hst hes ao es eo F R hw fun us σ₁ h₁ tk ws q vr r x₁=>?_
 obtain⟨v,u,rfl,rfl,rfl,hz,q⟩:=iL (vs:=us) q
 obtain⟨w1,w2,rfl,rfl,a,us,n,rfl,g,rr⟩:=vr.two
 refine uG (s:={ s with heap:=h₁,toks:=tk }) K r.base g (by rw [← rr.length];exact hz) fun h' y dd hk hy hm=>?_
 exact k σ₁ h' tk y q (.mt hm (rr.mono fun b o e _=>hk b o e)) (r.keeps hk) (x₁.trans (Evo.keeps hk))
theorem dU {n:Nat} {dflt:List V} {b:jt} {vs:List V} {i:Nat} {v:V} (h:vs[i]?=some v):frameOf ⟨n,dflt,b⟩ vs i=some v:=by
 unfold frameOf cR
 rw [zv (cj.mp h).1]
 exact h
theorem kH {d:Nat} {p0 p1 p2 p3 p4 p5 p6 p7 p8 p9 p10:Pos} {doc:Str} {c0 c1:Nat} {more:List (Str × Const)} {x y z:V} {wx wy wz:Value} {Q:V→St→Prop} (Kg:GOk G) (K:pf G fN fM) (Kf:FnAt G fN 4 [] (sy more) (mJ p0 p1 p2 p3 p4 p5 p6 p7 p8 p9 p10 doc c0 c1)) (hline:(p3.endLine==p9.line)=true) (hg:G.gl "tuple"=some (.type "tuple"))
  (ao:AOk A (d+1)) (R:Rel G σ s.heap) (vx:VR G s.heap x wx) (vy:VR G s.heap y wy) (vz:VR G s.heap z wz) (h:Q (.mt [x,y,z]) σ):wpAny G.M A (call (.ref fN) [.ref G.cM,wx,wy,wz]) (fq G [] σ s Q) E s:=by
 refine lI (b:=.nil) (vs:=[.obj G.cM,x,y,z]) (d:=d) Kf (fun A' E' env s' ao' es eo F' R'=>?_) ao R (.cons (.obj _) (.cons vx (.cons vy (.cons vz .nil)))) (by simp) (by simp)
 have C0:Cal:=fun _ _ _ _=>False
 have l:∀ (i:Nat) (nm:Str) (p:Pos),(sy more).names[i]?=some (nm,.local)→gk nm=true→ct G C0 (sy more) d (.loc i) (.Name nm p):=fun i nm p hi hn=>lV hi rfl hn
 refine jX (av (sL (G:=G) (C:=C0) (sc:=sy more) (d:=d) A' E' env _ σ (fun fl ρ' σ'=>fl=.next∧ρ'=frameOf ⟨4,[],.nil⟩ [.obj G.cM,x,y,z]∧σ'=σ) s' ao' es eo F' R' ⟨rfl,rfl,rfl⟩) (fun f s'' lf=>?_) fun _ _ x=>x)
 obtain⟨fl,ρ',σ',h',tk,rfl,fr,⟨rfl,rfl,hσ⟩,F2,R2,x2⟩:=lf
 rw [hσ] at F2 R2 x2
 cases fr
 refine jX (wpAny_Return_some ?_)
 have ht:ct G C0 (sy more) d (.tup (.cons (.loc 1) (.cons (.loc 2) (.cons (.loc 3) .nil)))) (.Tuple [.Name "a" p5,.Name "b" p6,.Name "size" p7] c1 p8) :=
  sF (fx (l 1 _ _ rfl (by decide)) (fx (l 2 _ _ rfl (by decide)) (fx (l 3 _ _ rfl (by decide)) jo fun _=>rfl) fun _=>rfl) fun _=>rfl)
 refine w9 (s:={ s' with heap:=h',toks:=tk }) (vs:=[x,y,z]) (τ:=fun σ'=>σ'=σ) Kg K (l 0 _ _ rfl (by decide)) ht rfl hline rfl hg ao' es eo F2 R2 ?_ fun σ₁ h₁ tk₁ yy q vr r x₁=>?_
 ·refine⟨.obj G.cM,dU rfl,x,dU rfl,y,dU rfl,z,dU rfl,by simp [aq],rfl,rfl,by simp [aq],rfl⟩
 ·rw [q] at r x₁
  exact⟨.ret (.mt [x,y,z]),_,σ,h₁,tk₁,rfl,.ret vr,h,F2.evo x₁,r,x2.trans (x₁.wide env)⟩
end
end MP
end
section
namespace MP
open PySem PyProof.Rows PySem.W
theorem iP:Slot "object" "__init__" "object.__init__" :=
 Slot.of (owner:="object") (n:="__init__") (by rw [fm,dg];kernel_rfl) (by decide +kernel) (by decide +kernel) (by decide +kernel) (.inl (by decide +kernel)) (by rw [me];kernel_rfl)
theorem oJ:entryFor table "object.__init__"=some Builtin.«object.__init__»:=entryFor_of_tree (by kernel_rfl)
theorem qL:builtinKind "object.__init__"=some .slot:=by kernel_rfl
theorem oI:splitId "object.__init__"=some ("object","__init__"):=by kernel_rfl
theorem qM (a:Value) (rest:List Value):argsOk "object.__init__" ⟨a::rest,[]⟩:=by unfold argsOk;kernel_rfl
section
variable {G:Stc} {A:Around} {E:Value→Shared→Prop} {s:Shared} {fN fM:Addr} {σ:St}
theorem iT (K:pf G fN fM) {h:Heap} {y:Addr} {dd:Option Addr} {ws:List Value} {n:Nat} {base:Value} {r:Bool} (hb:yn G h) (hy:h.get? y=some (dQ G.cM dd ws n)) (hs:Looks G.M G.hb (isSubtype (.ref G.cM) base) r):Looks G.M h (isInstance (.ref y) base) r:=fun A Q E s hk hq=>by
 unfold isInstance typeOf
 refine ab (ab (wpAny_loadPart (hk _ _ hy) (af ?_)))
 exact hs _ _ _ _ (fun b o e=>hk _ _ (hb _ _ e)) hq
theorem vY (K:pf G fN fM) {y:Addr} {dd:Option Addr} {ws:List Value} {n:Nat} {rest:List Value} {P:Fin→Shared→Prop} (hb:yn G s.heap) (hy:s.heap.get? y=some (dQ G.cM dd ws n)) (hq:P (.done (.ret .none)) s) :
  wpAny G.M A (Builtin.«object.__init__» ⟨.ref y::rest,[]⟩) P E s:=by
 have hty:∀ {R:Value→Shared→Prop},R (.ref G.cM) s→wpAny G.M A (typeOf (.ref y)) R E s:=fun {R} hr=>by
  unfold typeOf
  exact ab (wpAny_loadPart hy (af hr))
 unfold Builtin.«object.__init__»
 dsimp only
 by_cases hr:(!rest.isEmpty||!([]:List (Str × Value)).isEmpty)=true
 ·rw [bx hr]
  refine ab (hty (ab (K.init _ _ _ _ hb (ab (K.made _ _ _ _ hb ?_)))))
  have e1:(some (Value.builtin "object.__init__") != some (Value.builtin "object.__init__"))=false:=bne_self_eq_false _
  have e2:((none:Option String) != some "object.__new__")=true:=rfl
  rw [e1,e2]
  exact af hq
 ·rw [aw hr]
  exact af hq
theorem vZ (K:pf G fN fM) (hobj:Looks G.M G.hb (isSubtype (.ref G.cM) (.type "object")) true) {y:Addr} {dd:Option Addr} {ws:List Value} {n:Nat} {rest:List Value} {Q:Value→Shared→Prop} (hb:yn G s.heap) (hy:s.heap.get? y=some (dQ G.cM dd ws n)) (hq:Q .none s) :
  wpAny G.M A (call (.builtin "object.__init__") (.ref y::rest)) Q E s:=by
 have ck:∀ (A:Around) (E:Value→Shared→Prop) (R:Unit→Shared→Prop),R () s→wpAny G.M A (checkBuiltinCall "object.__init__" ⟨.ref y::rest,[]⟩) R E s:=fun A E R hr =>
  check_slot (M:=G.M) (i:="object.__init__") (owner:="object") (n:="__init__") (self:=.ref y) (rest:=rest) (kw:=[]) qL oI (iT K hb hy hobj) (qM (.ref y) rest) hr
 refine oe ?_
 refine yp (id:="object.__init__") (b:=Builtin.«object.__init__») iP.plain oJ ?_
 refine ck _ _ _ ?_
 exact vY K hb hy hq
theorem lT (K:pf G fN fM) (hobj:Looks G.M G.hb (isSubtype (.ref G.cM) (.type "object")) true) {y:Addr} {dd:Option Addr} {ws:List Value} {n:Nat} {rest:List Value} {Q:Option Value→Shared→Prop} (hb:yn G s.heap) (hy:s.heap.get? y=some (dQ G.cM dd ws n)) (hq:Q (some .none) s) :
  wpAny G.M A (callSpecial? (.ref y) "__init__" rest []) Q E s:=by
 have hty:∀ {R:Value→Shared→Prop},R (.ref G.cM) s→wpAny G.M A (typeOf (.ref y)) R E s:=fun {R} hr=>by
  unfold typeOf
  exact ab (wpAny_loadPart hy (af hr))
 have hsp:∀ {R:Option Value→Shared→Prop},R (some (.builtin "object.__init__")) s→wpAny G.M A (specialOf (.ref y) "__init__") R E s:=fun {R} hr=>by
  unfold specialOf
  exact ab (hty (K.init _ _ _ _ hb hr))
 unfold callSpecial?
 refine ab (hsp ?_)
 dsimp only
 refine br ?_
 refine ab (dj (iP.bind (.ref y)) ?_)
 refine ab ?_
 exact vZ K hobj hb hy (af hq)
structure lM (G:Stc) (fN:Addr):Prop where
 fn:∃ p0 p1 p2 p3 p4 p5 p6 p7 p8 p9 p10 doc c0 c1 more,FnAt G fN 4 [] (sy more) (mJ p0 p1 p2 p3 p4 p5 p6 p7 p8 p9 p10 doc c0 c1)∧(p3.endLine==p9.line)=true
 tup:G.gl "tuple"=some (.type "tuple")
 obj:Looks G.M G.hb (isSubtype (.ref G.cM) (.type "object")) true
theorem hO {d:Nat} {x y z:V} {wx wy wz:Value} {Q:V→St→Prop} {P:Fin→Shared→Prop} (Kg:GOk G) (K:pf G fN fM) (Kn:lM G fN) (ao:AOk A (d+1)) (R:Rel G σ s.heap) (vx:VR G s.heap x wx) (vy:VR G s.heap y wy) (vz:VR G s.heap z wz) (h:Q (.mt [x,y,z]) σ)
  (hP:∀ w s',fq G [] σ s Q w s'→P (.done (.ret w)) s'):wpAny G.M A (Builtin.«type.__call__» ⟨[.ref G.cM,wx,wy,wz],[]⟩) P E s:=by
 obtain⟨p0,p1,p2,p3,p4,p5,p6,p7,p8,p9,p10,doc,c0,c1,more,Kf,hline⟩:=Kn.fn
 have hb:yn G s.heap:=R.base
 unfold Builtin.«type.__call__»
 dsimp only
 rw [aw (show ¬ ((Value.ref G.cM==Value.type "type")=true) from jl)]
 refine ab (K.mro _ _ _ _ hb ?_)
 rw [aw (by simp)]
 refine ab (K.made _ _ _ _ hb ?_)
 dsimp only
 refine ab (K.new _ _ _ _ hb ?_)
 refine ab (br ?_)
 refine av (kH (s:={ s with toks:=s.toks+1 }) (Q:=fun v σ'=>v=.mt [x,y,z]∧σ'=σ) Kg K Kf hline Kn.tup ao R vx vy vz ⟨rfl,rfl⟩) (fun w s' l=>?_) fun _ _ e=>e
 obtain⟨v,σ',h',tk,rfl,⟨rfl,hσ⟩,vr,r,x'⟩:=l
 rw [hσ] at r x'
 obtain⟨yy,ws,n,dd,rfl,g,rr⟩:=vr
 have hb':yn G h':=r.base
 refine ab ((iT K hb' g K.self) _ _ _ { s with heap:=h',toks:=tk } (fun _ _ e=>e) ?_)
 simp only [um,cy,je]
 refine ab (br (lT (s:={ s with heap:=h',toks:=tk }) K Kn.obj hb' g ?_))
 simp only [bne_self_eq_false,cy,je]
 exact af (hP _ _ ⟨_,σ,h',tk,rfl,h,.mt g rr,r,x'⟩)
theorem rN {d:Nat} {x y z:V} {wx wy wz:Value} {Q:V→St→Prop} (Kg:GOk G) (K:pf G fN fM) (Kn:lM G fN) (Km:wm G) (ao:AOk A (d+2)) (R:Rel G σ s.heap) (vx:VR G s.heap x wx) (vy:VR G s.heap y wy) (vz:VR G s.heap z wz) (h:Q (.mt [x,y,z]) σ) :
  wpAny G.M A (call (.ref G.cM) [wx,wy,wz]) (fq G [] σ s Q) E s:=by
 obtain⟨N,mN,nm,q,k0,k2,k3,hC,hN,_⟩:=Km.here
 have hC':=R.base _ _ hC
 refine oe (tq ?_)
 show wpAny _ A.in1 (callAny (.ref G.cM) ⟨[wx,wy,wz],[]⟩) _ _ s
 unfold callAny
 refine ab (xk hC' ?_)
 show wpAny _ _ (callAny.viaDunder (.ref G.cM) ⟨[wx,wy,wz],[]⟩) _ _ s
 unfold callAny.viaDunder
 refine ab (K.call _ _ _ _ R.base ?_)
 dsimp only
 refine ab (dj (tc_bind (.ref G.cM)) ?_)
 dsimp only
 refine ab (dj (a:=true) (by rfl) ?_)
 rw [bx rfl]
 refine af ⟨rfl,?_⟩
 refine codeAny_call_builtin_at (eP _ (by decide +kernel)) entry_typeCall ?_
 refine check_slot (M:=G.M) (i:="type.__call__") (owner:="type") (n:="__call__") tc_kind tc_split (K.typ.keeps R.base) (tc_args _ _ _) ?_
 refine hO (d:=d) Kg K Kn (ao.make _ _) R vx vy vz h fun w s' l=>?_
 exact l
end
end MP
end
section
namespace MP
open PySem PyProof.Rows PySem.W
section
variable {G:Stc} {A:Around} {E:Value→Shared→Prop} {s:Shared} {fN fM:Addr} {σ:St}
theorem jL (K:pf G fN fM) (Km:wm G) {pos:Pos} {args:List (Bool × Sem Value)} {Q:Value→Shared→Prop} (hplain:args.any (·.1)=false)
  (h:wpAny G.M A (evalArgs (.ref G.cM) true args []) (fun x s₁=>yn G s₁.heap∧wpAny G.M A (call (.ref G.cM) x.pos x.kw) Q E s₁) E s):wpAny G.M A (callWith pos (.ref G.cM) [] args []) Q E s:=by
 obtain⟨N,mN,nm,q,k0,k2,k3,hC,hN,_⟩:=Km.here
 unfold callWith
 refine ab (br (av h (fun x s₁ h₁=>ab (er ?_)) fun _ _ x=>x))
 obtain⟨hb,hcall⟩:=h₁
 simp only [hplain,List.any_nil,cX]
 refine ab (m:=keeperOf (.ref G.cM)) ?_
 unfold keeperOf
 refine ab (xk (hb _ _ hC) ?_)
 refine ab (K.call _ _ _ _ hb ?_)
 rw [bx (by decide)]
 refine af ?_
 exact ab (av hcall (fun r s₂ hr=>ab (br (wpAny_point (af hr)))) fun _ _ x=>x)
theorem lU {C:Cal} {sc:Scope} {d:Nat} {a b c:Ex} {x:Str} {xa xb xc:Expr} {p pos:Pos} (Kg:GOk G) (K:pf G fN fM) (Kn:lM G fN) (Km:wm G) (hd:2≤d) (ha:ct G C sc d a xa) (hb:ct G C sc d b xb) (hc:ct G C sc d c xc) (hst:noStar [xa,xb,xc]=true)
  (hx:sc.names.lookup x=some .globalImplicit) (hn:gk x=true) (hv:G.gl x=some (.ref G.cM)):ct G C sc d (.newMatch a b c) (.Call (.Name x p) [xa,xb,xc] [] pos):=fun A E env ρ σ Q s ao es eo F R h=>by
 have hes:kg G C sc d (.cons a (.cons b (.cons c .nil))) [xa,xb,xc]:=fx ha (fx hb (fx hc jo (di (di (di hst).2).2).1) (di (di hst).2).1) (di hst).1
 have ao':AOk A (d-2+2):=by rw [aa hd];exact ao
 refine Call_ (my Kg eo R (by rw [es];exact hx) hn hv (jL K Km (ja hst pos env) (nh (ja hst pos env) (k9 (P:=fun vs σ=>on3 vs fun x y z=>Q (.mt [x,y,z]) σ) (hes A E env ρ σ _ s pos ao es eo F R h) fun vs σ₁ h₁ tk ws q vr r x₁=>⟨r.base,?_⟩))))
 obtain⟨u1,u2,u3,rfl,q⟩:=I2 q
 obtain⟨w1,w2,w3,rfl,va,vb,vc⟩:=vr.three
 exact av (rN (s:={ s with heap:=h₁,toks:=tk }) Kg K Kn Km ao' r va vb vc q) (fun _ _ l=>fq.back x₁ l) fun _ _ x=>x
end
section
variable {prog:Program} {w:World} {A:Around} {E:Value→Shared→Prop} {h:Heap} {g:Array GenState} {d:Drawn} {t:Nat} {os:OsState} {C N:Addr} {nm q:Str} {k0 k2 k3:Option Value} {mN:Str→Option Value} {dd:Option Addr}
end
section
variable {G:Stc} {A:Around} {E:Value→Shared→Prop} {s:Shared} {fN fM:Addr} {σ:St}
noncomputable def z8 (p:Fin 20→Pos) (doc:Str) (c0 c1:Nat) (rest:List Stmt):List Stmt :=
 [.Expr (.Constant (.str doc) c0 (p 0)) (p 1),.Assign [.Name "result" (p 2)] (.Call (.Attribute (.Name "tuple" (p 3)) "__new__" (p 4)) [.Name "cls" (p 5),.Name "iterable" (p 6)] [] (p 7)) (p 8),
  .If (.Compare (.Call (.Name "len" (p 9)) [.Name "result" (p 10)] [] (p 11)) [.NotEq] [.Constant (.int 3) c1 (p 12)] (p 13)) rest [] (p 14),.Return (some (.Name "result" (p 15))) (p 16)]
noncomputable def vL (ns:List (Str × NameKind)) (more:List (Str × Const)):Scope :=
 { kind:=.function,names:=("cls",.local)::("iterable",.local)::("result",.local)::ns,isGenerator:=false,isCoroutine:=false,more:=more }
end
end MP
end
section
namespace MP
open PySem PyProof.Rows PySem.W
end MP
end
section
namespace MP
open PySem PyProof.Rows PySem.W
section
variable {prog:Program} {w:World} {A:Around} {E:Value→Shared→Prop} {s:Shared}
end
end MP
end
section
namespace MP
open PySem PyProof.Rows PySem.W
section
variable {G:Stc} {A:Around} {E:Value→Shared→Prop} {s:Shared} {fN fM:Addr} {σ₀ σ:St}
end
section
variable {prog:Program} {w:World} {A:Around} {E:Value→Shared→Prop} {s:Shared}
end
end MP
end
section
namespace MP
open PySem PyProof.Rows PySem.W
section
variable {G:Stc} {fN fM:Addr} {C:Cal} {sc:Scope} {d:Nat}
end
end MP
end
section
namespace MP
open PySem PyProof.Rows
section
variable {prog:Program} {w:World} {A:Around} {E:Value→Shared→Prop}
theorem mR {s:Shared} {y:Value} (hT:s.TypeIs y "tuple") {M:Model} {R:Bool→Shared→Prop} (hr:R true s):wpAny M A (isInstance y (.type "tuple")) R E s :=
 wpAny_isInstance (T:="tuple") (b:=true) hT (by kernel_rfl) hr
noncomputable def fJ (h:Heap) (v:Value) (ns:List Int):Prop:=∃ a ws n,v=.ref a∧IsT h a ws.toArray n∧IntsAre ws ns
theorem FH {s:Shared} {x y:Value} {ns ms:List Int} {Q:Value→Shared→Prop} (hu:A.units<cLine) (hx:fJ s.heap x ns) (hy:fJ s.heap y ms) (hl:ns.length=ms.length) (hq:Q (.bool (jn ns ms)) s):wpAny (model prog w) A (richCompare .Lt x y) Q E s:=by
 obtain⟨a,ws,n,rfl,ta,ia⟩:=hx
 obtain⟨b,us,m,rfl,tb,ib⟩:=hy
 have ha:s.TypeIs (.ref a) "tuple":=⟨_,ta,rfl⟩
 have hb:s.TypeIs (.ref b) "tuple":=⟨_,tb,rfl⟩
 refine wpAny_richCompare_same_room ha hb PySem.F.slot_tuple_lt (gc PySem.F.slot_tuple_lt ha PySem.F.entry_tuple_lt ?_ (PySem.F.args_tuple_lt_2 _ _)) hu
 exact CS (h:=s.heap) ta rfl tb rfl ia ib hl (fun R hr=>mR hb hr) ⟨_,rfl,fun e=>(nomatch e),hq⟩
structure JO (prog:Program) (w:World) (A:Around) (S:Addr) (wr:List Addr) (P:Nat→Value→Prop) (bt:Nat→Nat→Bool) (Good:Heap→Prop):Prop where
 keep:∀ h h',Good h→(∀ b o,b∉wr→b≠S→h.get? b=some o→h'.get? b=some o)→Good h'
 cmp:∀ (i j:Nat) (v u:Value) (s:Shared) (Q E:Value→Shared→Prop),Good s.heap→P i v→P j u→Q (.bool (bt i j)) s→wpAny (model prog w) A (richCompare .Lt v u) Q E s
noncomputable abbrev But (S:Addr) (wr:List Addr) (h h':Heap):Prop:=∀ b o,b∉wr→b≠S→h.get? b=some o→h'.get? b=some o
noncomputable abbrev JB (v:Value) (c:Nat):Obj:={ cls:=.type "list",dict:=none,data:=.seq #[v,v] c,slots:=#[] }
section
variable {R:Result→Shared→Prop} {I S:Addr} {fp wr:List Addr} {n:Nat} {P:Nat→Value→Prop} {St:Nat→Heap→Prop} {bt:Nat→Nat→Bool} {Good:Heap→Prop}
theorem dO:(toString "min" ++ toString ".loop":String)="min.loop":=by decide
theorem yW (W:Walks prog w A.in1 I fp wr n P St) (T:JO prog w A.in1 S wr P bt Good) (hSf:S∉fp):∀ (k j:Nat) (s:Shared) (v:Value) (c:Nat),n-(j+1)=k→j+1≤n→St (j+1) s.heap→Good s.heap→P (argBest bt j) v→s.heap.get? S=some (JB v c) →
  (∀ u h' tk,P (argBest bt (n-1)) u→But S wr s.heap h'→R (.ok (.ret u)) { s with heap:=h',toks:=tk })→codeAny (model prog w) A (.builtin "min.loop" ⟨[.ref I,.none,.ref S],[]⟩) R s:=by
 have hSw:S∉wr:=fun h=>hSf (W.sub _ h)
 intro k
 induction k with
 | zero =>
  intro j s v c hk hj hst hg hP hS hR
  obtain rfl:n=j+1:=by(exact gr .a8 [[1,0,1],[1,1,-1]] .aF (.e (.a .C .L) .A) hk (aa (bh .H .a .H hj)))
  refine qe F.entry_min_loop ?_
  rw [rn F.plain_min_loop _]
  show wpAny _ A.in1 (seqItems? (.ref S)>>=_) _ _ s
  refine ab (rk hS rfl ?_)
  show wpAny _ A.in1 (tryCatch (pyNext (.ref I)) _>>=_) _ _ s
  refine ab (vg (W.done s _ _ hst fun h' tk hk'=>?_))
  show wpAny _ A.in1 (updateSeq S (fun _=>#[])>>=_) _ _ _
  refine ab (wpAny_updateSeq (hk' S _ hSw hS) rfl (ab (wpAny_letGo (af ?_))))
  exact hR v _ tk hP fun b o hb hbS e=>(kz _ _ (xm hbS)).trans (hk' b o hb e)
 | succ k ih =>
  intro j s v c hk hj hst hg hP hS hR
  refine qe F.entry_min_loop ?_
  rw [rn F.plain_min_loop _]
  show wpAny _ A.in1 (seqItems? (.ref S)>>=_) _ _ s
  refine ab (rk hS rfl ?_)
  show wpAny _ A.in1 (tryCatch (pyNext (.ref I)) _>>=_) _ _ s
  refine ab (vg (W.item (j+1) s _ _ (by exact ee (.l .M .B) .o (.e .C .V) .bC hk (aa (bh .H .a .H hj))) hst fun u h' tk hu hst' hk'=>?_))
  have hS':=hk' S _ hSw hS
  have g1:Good h':=T.keep _ _ hg fun b o hb _ e=>hk' b o hb e
  show wpAny _ A.in1 (tryCatch (holding [u,u] (richCompare .Lt u v>>=_)) _>>=_) _ _ _
  refine ab (vg (br (ab (T.cmp (j+1) (argBest bt j) u v { s with heap:=h',toks:=tk } _ _ g1 hu hP ?_))))
  refine ab (br (vi ?_))
  refine ab (wpAny_letGo (af ?_))
  have e0:argBest bt (j+1)=if bt (j+1) (argBest bt j) then j+1 else argBest bt j:=rfl
  cases hb:bt (j+1) (argBest bt j) with
  | true =>
   rw [hb] at e0
   simp only [rp]
   refine ab (wpAny_updateSeq hS' rfl (ab (wpAny_letGo ?_)))
   rw [dO]
   have but:∀ b,b≠S→∀ o,h'.get? b=some o→(h'.update S (Obj.mapSeq fun _=>#[u,u])).get? b=some o:=fun b hbS o e=>(kz _ _ (xm hbS)).trans e
   refine af ⟨gS F.plain_min_loop _,ih (j+1) _ u _ (by exact ky .B .t (.e .C .L) (.e (.a .C .V) .F) (.e (.a .A (.a .V .U)) .F) hk (aa (bh .H .a .H hj)) (aa (ee .c5 .o (.e .C .V) .bC hk (aa (bh .H .a .H hj))))) (by exact ee .c5 .o (.e .C .V) .bC hk (aa (bh .H .a .H hj))) (W.frame _ _ _ hst' fun b hbf o e=>but b (fun q=>hSf (q▸hbf)) o e) (T.keep _ _ g1 fun b o _ hbS e=>but b hbS o e) (by rw [e0];exact hu) (qo _ hS' rfl) fun z h2 tk2 hz hk2=>?_⟩
   exact hR z h2 tk2 hz fun b o hbw hbS e=>hk2 b o hbw hbS (but b hbS o (hk' b o hbw e))
  | false =>
   rw [hb] at e0
   simp only [cy,je]
   refine ab (wpAny_letGo ?_)
   rw [dO]
   refine af ⟨gS F.plain_min_loop _,ih (j+1) _ v c (by exact ky .B .t (.e .C .L) (.e (.a .C .V) .F) (.e (.a .A (.a .V .U)) .F) hk (aa (bh .H .a .H hj)) (aa (ee .c5 .o (.e .C .V) .bC hk (aa (bh .H .a .H hj))))) (by exact ee .c5 .o (.e .C .V) .bC hk (aa (bh .H .a .H hj))) hst' g1 (by rw [e0];exact hP) hS' fun z h2 tk2 hz hk2=>?_⟩
   exact hR z h2 tk2 hz fun b o hbw hbS e=>hk2 b o hbw hbS (hk' b o hbw e)
theorem vH (W:Walks prog w A.in1 I fp wr n P St) (T:JO prog w A.in1 S wr P bt Good) (hSf:S∉fp) (hn:0<n) {s:Shared} {c:Nat} (hst:St 0 s.heap) (hg:Good s.heap) (hS:s.heap.get? S=some { cls:=.type "list",dict:=none,data:=.seq #[] c,slots:=#[] })
  (hR:∀ u h' tk,P (argBest bt (n-1)) u→But S wr s.heap h'→R (.ok (.ret u)) { s with heap:=h',toks:=tk }):codeAny (model prog w) A (.builtin "min.loop" ⟨[.ref I,.none,.ref S],[]⟩) R s:=by
 have hSw:S∉wr:=fun h=>hSf (W.sub _ h)
 refine qe F.entry_min_loop ?_
 rw [rn F.plain_min_loop _]
 show wpAny _ A.in1 (seqItems? (.ref S)>>=_) _ _ s
 refine ab (rk hS rfl ?_)
 show wpAny _ A.in1 (tryCatch (pyNext (.ref I)) _>>=_) _ _ s
 refine ab (vg (W.item 0 s _ _ hn hst fun v h' tk hP hst' hk'=>?_))
 have hS':=hk' S _ hSw hS
 show wpAny _ A.in1 (updateSeq S (fun _=>#[v,v])>>=_) _ _ _
 refine ab (wpAny_updateSeq hS' rfl ?_)
 rw [dO]
 have but:∀ b,b≠S→∀ o,h'.get? b=some o→(h'.update S (Obj.mapSeq fun _=>#[v,v])).get? b=some o:=fun b hbS o e=>(kz _ _ (xm hbS)).trans e
 refine af ⟨gS F.plain_min_loop _,yW W T hSf _ 0 _ v _ rfl hn (W.frame _ _ _ hst' fun b hbf o e=>but b (fun q=>hSf (q▸hbf)) o e) (T.keep _ _ hg fun b o hbw hbS e=>but b hbS o (hk' b o hbw e)) hP (qo _ hS' rfl) fun z h2 tk2 hz hk2=>?_⟩
 exact hR z h2 tk2 hz fun b o hbw hbS e=>hk2 b o hbw hbS (but b hbS o (hk' b o hbw e))
end
theorem fJ.keep {h h':Heap} {v:Value} {ns:List Int} (x:fJ h v ns) (k:∀ a o,v=.ref a→h.get? a=some o→h'.get? a=some o):fJ h' v ns:=by
 obtain⟨a,ws,n,e,t,i⟩:=x
 exact⟨a,ws,n,e,k a _ e t,i⟩
noncomputable abbrev lsT (t:Int × Int × Int):List Int:=[t.1,t.2.1,t.2.2]
end
section
variable {G:Stc} {C:Cal} {sc:Scope} {d:Nat}
theorem fJ.vr {h:Heap} {v:Value} {t:Int × Int × Int} (x:fJ h v (lsT t)):VR G h (tI t) v:=by
 obtain⟨a,ws,n,rfl,g,i⟩:=x
 exact .tup g (VRs.ints i)
theorem fJ.of {h:Heap} {v:Value} {t:Int × Int × Int} (x:VR G h (tI t) v):fJ h v (lsT t):=by
 obtain⟨a,ws,n,rfl,g,r⟩:=x
 exact⟨a,ws,n,rfl,g,nc (ns:=lsT t) r⟩
end
end MP
end
section
namespace MP
open PySem PyProof.Rows
theorem iS (s t:Int × Int × Int):jn (lsT s) (lsT t)=true↔s.1<t.1∨(s.1=t.1∧(s.2.1<t.2.1∨(s.2.1=t.2.1∧s.2.2<t.2.2))):=by
 show jn [s.1,s.2.1,s.2.2] [t.1,t.2.1,t.2.2]=true↔_
 unfold jn
 split
 ·rename_i e1
  unfold jn
  split
  ·rename_i e2
   unfold jn
   split
   ·rename_i e3
    exact⟨fun h=>Bool.noConfusion h,fun h=>by exact False.elim (h.elim (fun q1=>(wu .ff .p .S .D e1 q1)) fun q1=>(q1.2.elim (fun q2=>(wu .ff .p .S .D e2 q2)) fun q2=>(wu .ff .p .S .D e3 q2.2)))⟩
   ·simp only [fw];(rename_i z1;exact⟨fun q1=>(.inr ⟨(kc .S .h .S e1),(.inr ⟨(kc .S .h .S e2),(kc .D .a .D q1)⟩)⟩),fun q1=>((jj z1).elim (fun q2=>(kc .D .a .D q2)) fun q2=>(q1.elim (fun q3=>(lK .D .p (.ie .C .D) (.il .C .D) e1 q3)) fun q3=>(q3.2.elim (fun q4=>(lK .D .p (.ie .C .D) (.il .C .D) e2 q4)) fun q4=>(kc .D .a .D q4.2))))⟩)
  ·simp only [fw];(rename_i z1;exact⟨fun q1=>(.inr ⟨(kc .S .h .S e1),(.inl (kc .D .a .D q1))⟩),fun q1=>((jj z1).elim (fun q2=>(kc .D .a .D q2)) fun q2=>(q1.elim (fun q3=>(lK .D .p (.ie .C .D) (.il .C .D) e1 q3)) fun q3=>(q3.2.elim (fun q4=>(kc .D .a .D q4)) fun q4=>(wu .D .e (.il .B .A) .S q2 q4.1))))⟩)
 ·simp only [fw];(rename_i z1;exact⟨fun q1=>(.inl (kc .D .a .D q1)),fun q1=>((jj z1).elim (fun q2=>(kc .D .a .D q2)) fun q2=>(q1.elim (fun q3=>(kc .D .a .D q3)) fun q3=>(wu .D .e (.il .B .A) .S q2 q3.1)))⟩)
theorem pP (f:Nat→Int × Int × Int):∀ k,argBest (fun i j=>jn (lsT (f i)) (lsT (f j))) k≤k∧∀ j,j≤k→jn (lsT (f j)) (lsT (f (argBest (fun i j=>jn (lsT (f i)) (lsT (f j))) k)))=false
 | 0=>⟨ay _,fun j hj=>by
  obtain rfl:j=0:=by(exact gv .L .B (.k .A .O) hj)
  exact wd _⟩
 | k+1=>by
  obtain⟨h1,h2⟩:=pP f k
  have e:argBest (fun i j=>jn (lsT (f i)) (lsT (f j))) (k+1)=if jn (lsT (f (k+1))) (lsT (f (argBest (fun i j=>jn (lsT (f i)) (lsT (f j))) k)))=true then k+1 else argBest (fun i j=>jn (lsT (f i)) (lsT (f j))) k:=rfl
  rw [e]
  generalize argBest (fun i j=>jn (lsT (f i)) (lsT (f j))) k=b at h1 h2 ⊢
  split
  ·rename_i c
   refine⟨ay _,fun j hj=>pU.mpr fun q=>?_⟩
   rcases kp hj with hj | rfl
   ·have h3:=pU.mp (h2 j (by exact bh .A .a .I hj))
    exact h3 ((iS _ _).mpr (by
     have a:=(iS _ _).mp q
     have b:=(iS _ _).mp c
     omega))
   ·rw [wd] at q;cases q
  ·rename_i c
   refine⟨by exact bh .O .a .A h1,fun j hj=>?_⟩
   rcases kp hj with hj | rfl
   ·exact h2 j (by exact bh .A .a .I hj)
   ·exact pU.mpr c
section
variable {prog:Program} {w:World} {A:Around} {E:Value→Shared→Prop}
theorem wH {s:Shared} (hh:A.handled=none) (hu:A.in1.units<cLine) {l:Addr} {ws:List Value} {ts:List (Int × Int × Int)} {Q:Value→Shared→Prop} (hl:s.heap.IsList l ws.toArray) (hz:ws.length=ts.length) (ht:∀ (i:Nat) v t,ws[i]?=some v→ts[i]?=some t→fJ s.heap v (lsT t)) (hne:ts≠[])
  (h:∀ v h' tk t,fJ s.heap v (lsT t)→t∈ts→(∀ u∈ts,jn (lsT u) (lsT t)=false)→(∀ d o,s.heap.get? d=some o→h'.get? d=some o)→Q v { s with heap:=h',toks:=tk }) :
  wpAny (model prog w) A (call (.builtin "min") [.ref l]) Q E s:=by
 refine call_function_tree F.kind_min F.plain_min F.entry_min (F.args_min1 _) ?_
 show wpAny _ A.in1 (Builtin.Builtins.bindParams "min" ["key","default"] 0 ⟨[],[]⟩>>=_) _ _ s
 refine ab (dj (show Builtin.Builtins.bindParams "min" ["key","default"] 0 ⟨[],[]⟩=pure [none,none] from rfl) ?_)
 refine ab (af ?_)
 refine ab (wpAny_pyIter_list hl ?_)
 refine ab (gx ?_)
 rw [dO]
 have z1:(s.heap.push { cls:=.type "list_iterator",data:=.fields #[.ref l,.int 0 0] }).objs.size=s.heap.objs.size+1:=iz ..
 have hpos:0<ts.length:=List.length_pos_iff.mpr hne
 have hlt:l<s.heap.objs.size:=by obtain⟨o,ho,_⟩:=id hl;exact du ho
 have tup:∀ (i:Nat) (v:Value),ws.toArray[i]?=some v→fJ s.heap v (lsT (ts.getD i (0,0,0))):=fun i v e=>by
  rw [List.getElem?_toArray] at e
  have hi:i<ts.length:=by
   have:=(cj.mp e).1;(exact gr .C .b (.e .C .B) .U hz this)
  exact ht i v _ e (by rw [qf,bc hi];rfl)
 have same:∀ t u:Int × Int × Int,(lsT t).length=(lsT u).length:=fun _ _=>rfl
 refine af ⟨gS F.plain_min_loop _,vH (bt:=fun i j=>jn (lsT (ts.getD i (0,0,0))) (lsT (ts.getD j (0,0,0)))) (Good:=fun h'=>∀ d o,s.heap.get? d=some o→h'.get? d=some o)
  (Walks.list (prog:=prog) (w:=w) (A:=A.in1) hh s.heap.objs.size l (fj hlt) ws.toArray) ⟨fun h h' g k d o e=>k d o (fun hm=>?_) (fun hs=>?_) (g d o e),fun i j v u s' Q E' g hv hu' q=>?_⟩ (fun hm=>?_) (by rw [cv];(exact gn .N .o .B .a4 hz hpos)) ⟨⟨_,ak _ (bq _ rfl),rfl,rfl⟩,(hl.push _).push _⟩ (fun d o e=>ak _ (ak _ e)) (bq _ rfl) fun v h' tk hP hk=>?_⟩
 ·have:=du e
  have hm:=aj.mp hm
  (exact gn .ff [[0,1,-1]] .C .B this hm)
 ·have:=du e
  have hs:d=(s.heap.push { cls:=.type "list_iterator",data:=.fields #[.ref l,.int 0 0] }).objs.size:=hs
  exact absurd (hs.trans z1▸this) (jx.mpr (Nat.le_succ _))
 ·exact FH hu ((tup i v hv).keep fun _ o _ e=>g _ o e) ((tup j u hu').keep fun _ o _ e=>g _ o e) (same _ _) q
 ·have hm:(s.heap.push { cls:=.type "list_iterator",data:=.fields #[.ref l,.int 0 0] }).objs.size∈[s.heap.objs.size,l]:=hm
  rw [z1] at hm
  rcases cu.mp hm with e | hm
  ·(exact gv .ff [[0,1]] (.e .M .A) e)
  ·have:=aj.mp hm;(exact gn .ff .e .C .bT hlt this)
 ·obtain⟨b1,b2⟩:=pP (fun i=>ts.getD i (0,0,0)) (ws.toArray.size-1)
  have hT:=tup _ v hP
  generalize argBest (fun i j=>jn (lsT (ts.getD i (0,0,0))) (lsT (ts.getD j (0,0,0)))) (ws.toArray.size-1)=b at b1 b2 hT
  rw [cv] at b1 b2
  refine h v h' tk _ hT ?_ (fun u hu'=>?_) fun d o e=>hk d o (fun hm=>?_) (fun hs=>?_) (ak _ (ak _ e))
  ·have hb:b<ts.length:=by(exact rz .C .d (.e .C .B) .b3 (.e .V .C) hz b1 (aa (gn .R .o .B .a4 hz hpos)))
   rw [qf,bc hb]
   exact km hb
  ·obtain⟨j,hj,e⟩:=gf.mp hu'
   have:=b2 j (by exact rz .A [[1,-1,1,-1]] .aV .bM (.e .L .C) hz hj (aa (gn .R .o .B .a4 hz hpos)))
   rw [qf,bc hj,Option.getD_some,e] at this
   exact this
  ·have:=du e
   have hm:=aj.mp hm
   (exact gn .ff [[0,1,-1]] .C .B this hm)
  ·have:=du e
   have hs:d=(s.heap.push { cls:=.type "list_iterator",data:=.fields #[.ref l,.int 0 0] }).objs.size:=hs
   exact absurd (hs.trans z1▸this) (jx.mpr (Nat.le_succ _))
end
section
variable {G:Stc} {C:Cal} {sc:Scope} {d:Nat}
theorem lW {k:BF} {id:String} {e:Ex} {x:Str} {y:Expr} {p pos:Pos} {W:Addr→St→(V→St→Prop)→Prop} (K:GOk G) (he:ct G C sc d e y) (hst:noStar [y]=true) (hx:sc.names.lookup x=some .globalImplicit) (hn:gk x=true) (hv:G.gl x=some (.builtin id))
  (hk:∀ vs σ Q,lQ k vs σ Q→on1 vs fun v=>zy v fun a=>W a σ Q)
  (hc:∀ (A:Around) (E:Value→Shared→Prop) (σ:St) (s:Shared) (a:Addr) (Q:V→St→Prop),AOk A d→Rel G σ s.heap→W a σ Q→wpAny G.M A (call (.builtin id) [.ref a]) (fq G [] σ s Q) E s) :
  ct G C sc d (.bf k (.cons e .nil)) (.Call (.Name x p) [y] [] pos):=fun A E env ρ σ Q s ao es eo F R h=>by
 have hes:kg G C sc d (.cons e .nil) [y]:=fx he jo (di hst).1
 refine cC (P:=fun vs σ=>lQ k vs σ Q) K hst hes hx hn hv ao es eo F R h fun vs σ₁ h₁ tk ws q vr r x₁=>?_
 obtain⟨v,rfl,q⟩:=dM (vs:=vs) (hk vs σ₁ Q q)
 obtain⟨a,rfl,q⟩:=vu (v:=v) q
 obtain⟨w,rfl,rfl⟩:=vr.one
 exact av (hc A E σ₁ { s with heap:=h₁,toks:=tk } a Q ao r q) (fun _ _ l=>fq.back x₁ l) fun _ _ x=>x
theorem xI {e:Ex} {x:Str} {y:Expr} {p pos:Pos} (K:GOk G) (he:ct G C sc d e y) (hst:noStar [y]=true) (hx:sc.names.lookup x=some .globalImplicit) (hn:gk x=true) (hv:G.gl x=some (.builtin "min")) :
  ct G C sc d (.bf .minL (.cons e .nil)) (.Call (.Name x p) [y] [] pos):=lW (W:=fun a σ Q=>∃ ts:List (Int × Int × Int),σ.L a=some (ts.map tI)∧ts≠[]∧∀ t∈ts,(∀ u∈ts,jn [u.1,u.2.1,u.2.2] [t.1,t.2.1,t.2.2]=false)→Q (tI t) σ) K he hst hx hn hv (fun _ _ _ q=>q) fun A E σ s a Q ao R q=>by
 obtain⟨ts,e,hne,q⟩:=q
 obtain⟨ws,n,hl,vrs⟩:=R.L _ _ e
 have hlen:ws.length=ts.length:=by have:=vrs.length;simpa using this.symm
 refine wH ao.handled (by have:=ao.units;show A.units+1<cLine;(exact dw (.l .M .B) .a (.l (.a (.a .A (.m 30 .C)) (.n 300)) .B) this)) hl.isList hlen (fun i v t hv ht=>?_) hne fun v h' tk t hT hm hmin hk=>?_
 ·obtain⟨w,hw,vr⟩:=vrs.get (i:=i) (v:=tI t) (by rw [az,ht];rfl)
  rw [hv] at hw;cases hw
  exact fJ.of vr
 ·exact⟨_,σ,h',tk,rfl,q t hm hmin,(hT.keep fun a o _ e=>hk a o e).vr,R.keeps hk,Evo.keeps hk⟩
theorem xM {e:Ex} {x:Str} {y:Expr} {p pos:Pos} (K:GOk G) (he:ct G C sc d e y) (hst:noStar [y]=true) (hx:sc.names.lookup x=some .globalImplicit) (hn:gk x=true) (hv:G.gl x=some (.builtin "max")) :
  ct G C sc d (.bf .maxL (.cons e .nil)) (.Call (.Name x p) [y] [] pos):=lW (W:=fun a σ Q=>∃ ns:List Int,σ.L a=some (ns.map V.int)∧ns≠[]∧∀ m∈ns,(∀ n∈ns,n≤m)→Q (.int m) σ) K he hst hx hn hv (fun _ _ _ q=>q) fun A E σ s a Q ao R q=>by
 obtain⟨ns,e,hne,q⟩:=q
 obtain⟨ws,n,hl,vrs⟩:=R.L _ _ e
 have hi:=nc vrs
 obtain⟨xs,ex⟩:=hi.allInts.items
 have hns:ns=xs.toList.map (·.1):=by
  rw [← hi.numsOf,← nums_intItems,← ex]
 have hsz:0<xs.size:=by
  have h3:=List.length_pos_iff.mpr hne
  rw [hns,au,ef] at h3;exact h3
 have hl':=hl.isList
 rw [ex] at hl'
 refine max_intList ao.handled hl' hsz fun v h' tk hv hk=>?_
 obtain⟨t,rfl⟩:=intItems_at hv
 obtain⟨h1,h2⟩:=argBest_gt (numAt xs) (xs.size-1)
 refine⟨_,σ,h',tk,rfl,q _ ?_ fun a ha=>?_,.int _ _,R.keeps hk,Evo.keeps hk⟩
 ·rw [hns,numAt_eq];exact getD_mem (by rw [au,ef];(exact gr .C .b .G (.e .Q .B) h1 (aa (gv .R .a .N hsz))))
 ·rw [hns] at ha
  obtain⟨j,hj,rfl⟩:=mem_getD ha
  rw [au,ef] at hj
  rw [← numAt_eq];exact h2 j (by exact gr .A .c .U (.e .L .C) hj (aa (gv .R .a .N hsz)))
theorem pY {e:Ex} {x:Str} {y:Expr} {p pos:Pos} (K:GOk G) (he:ct G C sc d e y) (hst:noStar [y]=true) (hx:sc.names.lookup x=some .globalImplicit) (hn:gk x=true) (hv:G.gl x=some (.builtin "sorted")) :
  ct G C sc d (.bf .sorted (.cons e .nil)) (.Call (.Name x p) [y] [] pos):=lW (W:=fun a σ Q=>∃ ns:List Int,σ.L a=some (ns.map V.int)∧ns.length<64∧∀ ns':List Int,ns'.Perm ns→ns'.Pairwise (·≤·)→∀ c,σ.L c=Option.none→Q (.lst c) (σ.fg c (ns'.map V.int))) K he hst hx hn hv (fun _ _ _ q=>q) fun A E σ s a Q ao R q=>by
 obtain⟨ns,e,h64,q⟩:=q
 obtain⟨ws,n,hl,vrs⟩:=R.L _ _ e
 have hlen:ws.length=ns.length:=by have:=vrs.length;simpa using this.symm
 refine sorted_ints hl.isList (nc vrs) (by exact gn .bY .b (.l .B (.n 64)) .B h64 hlen) fun out ns' hi hp ho=>?_
 obtain⟨k,he'⟩:=sortedAll_at s.heap ws out
 have hnone:s.heap.get? (s.heap.objs.size+1)=none:=yw (Nat.le_succ _)
 refine kX (vs:=ns'.map V.int) (ws:=out.toList) (n:=k) R (Evo.refl _ _ _) hnone (fun b o=>sortedAll_old) he' (VRs.ints hi) ?_ (q ns' hp ho)
 rw [au,hp.length_eq]
 unfold aq;(exact gv .bD .a .bY h64)
end
end MP
end
section
namespace MP
open PySem PyProof.Rows
section
variable {G:Stc} {C:Cal} {sc:Scope} {d:Nat}
theorem tG {name:Str} {id:String} {tupled:Bool} {e:Ex} {o:Expr} {apos pos:Pos} {it:It} {W:V→St→(List V→(St→Prop)→St→Prop)→Prop} (K:GOk G) (he:ct G C sc d e o) (hb:lg o=true) (hline:(apos.endLine==pos.line)=true) (slot:Slot "dict" name id) (ty:typeOf (.builtin id)=pure (.type "method_descriptor"))
  (hit:∀ ρ σ P,nW C it ρ σ P→wpE C e ρ σ fun v σ=>W v σ P) (hW:∀ v σ P,W v σ P→∃ a,v=.dct a∧(σ.D a).isSome=true)
  (hc:∀ (A:Around) (E:Value→Shared→Prop) (a:Addr) (σ:St) (s:Shared) (P:List V→(St→Prop)→St→Prop),AOk A d→Rel G σ s.heap→W (.dct a) σ P →
   wpAny G.M A (call (.builtin id) [.ref a]) (fun v s₁=>wpAny G.M A (pyIter v) (pS G σ s tupled P) E s₁) E s):uz G C sc d tupled it (.Call (.Attribute o name apos) [] [] pos):=fun A E env ρ σ P s ao es eo F R h=>by
 refine oz hb rfl (by decide) hline (md (he A E env ρ σ _ s ao es eo F R (hit ρ σ P h)) fun v σ₁ h₁ tk w q vr r x pl=>?_)
 obtain⟨a,rfl,hD⟩:=hW v σ₁ P q
 obtain rfl:=vr
 obtain⟨xs,e1⟩:=ax.mp hD
 obtain⟨ds,hd,_⟩:=r.D _ _ e1
 refine gH (s:={ s with heap:=h₁,toks:=tk }) hd.typeIs eK slot ty hd.mapOf.noDict ?_
 refine ow (C:=C) (s:={ s with heap:=h₁,toks:=tk }) (P:=fun vs σ'=>vs=[]∧σ'=σ₁) rfl jo ao es eo (F.evo x) r ⟨rfl,rfl⟩ fun vs σ₂ h₂ tk₂ ws q₂ vrs r₂ x₂=>?_
 obtain⟨rfl,rfl⟩:=q₂
 obtain rfl:=vrs
 refine av (hc A E a σ₂ { s with heap:=h₂,toks:=tk₂ } P ao r₂ q) (fun v s₁ l=>av l (fun itv s₂ l=>?_) fun _ _ x=>x) fun _ _ x=>x
 obtain⟨I,σ',h',tk',e,e',ht,p,hp,r',x',hn,hd'⟩:=l
 have x3:=x.trans x₂
 exact⟨I,σ',h',tk',e,e',ht,p,hp,r',x3.trans x',fun b hb=>(gh fun hq=>by
  cases hq':s.heap.get? b with
  | none=>exact hq hq'
  | some o=>obtain⟨o',e'⟩:=x3.there _ _ hq';have:=hn b hb;rw [e'] at this;cases this),hd'⟩
theorem tU {σ:St} {h:Heap} {a:Addr} {es:List (Key × V)} (r:Rel G σ h) (e:σ.D a=some es):∃ o ds ep,h.get? a=some o∧DRs G h es ds∧h.DictAt G.kk a ds ep∧∀ h':Heap,h'.get? a=some o→h'.DictAt G.kk a ds ep:=by
 obtain⟨ds,hd,dr⟩:=r.D _ _ e
 obtain⟨ep,o,es',ho,r'⟩:=hd.dictAt
 exact⟨o,ds,ep,ho,dr,⟨o,es',ho,r'⟩,fun h' ho'=>⟨o,es',ho',r'⟩⟩
theorem kW {σ:St} {s:Shared} {h:Heap} {a:Addr} {o:Obj} {tupled:Bool} {P:List V→(St→Prop)→St→Prop} {es:List (Key × V)} (I:Itr G) (hI:I.it=h.objs.size) (hown:I.own=[h.objs.size]) (oi:Obj) (hold:∀ b o,s.heap.get? b=some o→h.get? b=some o) (R:Rel G σ s.heap) (e:σ.D a=some es) (ho:s.heap.get? a=some o) (ht:I.tup=true→tupled=true) (hp:P I.vs I.Gd (σ.zm a o)) (pos:I.pos 0 (h.push oi)) :
  pS G σ s tupled P (.ref h.objs.size) { s with heap:=h.push oi }:=by
 have dm:(σ.D a).isSome∨(σ.S a).isSome:=.inl (by rw [e];rfl)
 have r':Rel G (σ.zm a o) h:=(R.keeps hold).yE (hold _ _ ho) dm
 have hnone:s.heap.get? h.objs.size=none:=by
  cases hq:s.heap.get? h.objs.size with
  | none=>rfl
  | some o=>have:=hold _ _ hq;rw [none_at_size h] at this;cases this
 refine⟨I,σ.zm a o,h.push oi,s.toks,rfl,by rw [hI],ht,hp,pos,r'.push _,((Evo.keeps hold).trans (Evo.yE dm)).trans (Evo.push _ _ _ _),fun b hb=>?_,fun b hb=>?_⟩
 ·rw [hown] at hb;obtain rfl:=aj.mp hb;exact hnone
 ·rw [hown] at hb
  obtain rfl:=aj.mp hb
  intro dz
  obtain⟨o',e'⟩:=r'.nv dz
  rw [none_at_size h] at e';cases e'
theorem D0 {tupled:Bool} {e:Ex} {o:Expr} {apos pos:Pos} (K:GOk G) (he:ct G C sc d e o) (hb:lg o=true) (hline:(apos.endLine==pos.line)=true):uz G C sc d tupled (.keys e) (.Call (.Attribute o "keys" apos) [] [] pos) :=
 tG (W:=wN) K he hb hline PySem.F.slot_dict_keys PySem.F.type_dict_keys (fun ρ σ P h=>h) (fun v σ P q=>by
  obtain⟨a,rfl,es,e,q⟩:=tx (v:=v) q
  exact⟨a,rfl,by rw [e];rfl⟩) fun A E a σ s P ao R q=>by
 obtain⟨es,e,q⟩:=q
 obtain⟨o,ds,ep,ho,dr,hat,hall⟩:=tU R e
 have hsys:=zb K R (.inr (.inl (by rw [e];rfl)):σ.dom a)
 refine call_meetsIn PySem.F.slot_dict_keys hat.dictOf.typeIs PySem.F.entry_dict_keys (PySem.F.args_dict_keys_1 _) (PySem.W.kdl_meets_keys G.kk a hsys) ⟨⟨ds,hat.dictOf⟩,?_⟩
 refine PySem.W.kdl_pyIter_keys ⟨_,bq _ rfl,rfl,rfl⟩ (hat.push _) ?_
 exact kW (CW G _ a o es ds ep (pairs_at dr).1 hall) rfl rfl _ (fun b o e=>ak _ e) R e ho (fun h=>nomatch h) (q o) ⟨_,bq _ rfl,rfl,rfl⟩
theorem zJ {e:Ex} {o:Expr} {apos pos:Pos} (K:GOk G) (he:ct G C sc d e o) (hb:lg o=true) (hline:(apos.endLine==pos.line)=true):uz G C sc d true (.items e) (.Call (.Attribute o "items" apos) [] [] pos) :=
 tG (W:=s6) K he hb hline PySem.F.slot_dict_items PySem.F.type_dict_items (fun ρ σ P h=>h) (fun v σ P q=>by
  obtain⟨a,rfl,es,e,q⟩:=tx (v:=v) q
  exact⟨a,rfl,by rw [e];rfl⟩) fun A E a σ s P ao R q=>by
 obtain⟨es,e,q⟩:=q
 obtain⟨o,ds,ep,ho,dr,hat,hall⟩:=tU R e
 have hsys:=zb K R (.inr (.inl (by rw [e];rfl)):σ.dom a)
 refine call_meetsIn PySem.F.slot_dict_items hat.dictOf.typeIs PySem.F.entry_dict_items (PySem.F.args_dict_items_1 _) (meets_dict_items G.kk a hsys) ⟨⟨ds,hat.dictOf⟩,?_⟩
 refine wpAny_pyIter_items ⟨_,bq _ rfl,rfl,rfl⟩ (hat.push _) ?_
 refine kW (zH G _ a (fj (du (ak _ ho))) o es ds ep hall) rfl rfl _ (fun b o e=>ak _ e) R e ho (fun h=>rfl) (q o) ⟨⟨_,_,bq _ rfl⟩,dr.mono fun b o e _=>ak _ (ak _ e)⟩
end
end MP
end
section
namespace MP
open PySem PyProof.Rows
theorem gM (n:Nat):sliceRange ((n:Int)-1) (-1) (-1)=(List.range n).map fun k=>n-1-k:=by
 unfold sliceRange
 have e:((if (-1:Int)>0 then (if ((n:Int)-1) < -1 then (-1-((n:Int)-1)+-1-1) / -1 else 0) else (if ((n:Int)-1)>-1 then (((n:Int)-1) - -1 - -1-1)/(-(-1)) else 0)):Int).toNat=n:=by
  rw [aw (by decide)]
  by_cases h:((n:Int)-1)>-1
  ·rw [bx h]
   show((((n:Int)-1) - -1 - -1-1)/1).toNat=n
   rw [Int.ediv_one];(exact(Ar.ton _).elim (fun q1=>(bh .B .h (.ie .L (.s (.s (.s (.s .P .U) (.ng 1)) (.ng 1)) .U)) q1.2)) fun q1=>(gn .B .r (.ik (.s (.s (.s (.s .P .U) (.ng 1)) (.ng 1)) .U) .O) .L q1.1 q1.2))
  ·rw [aw h];(exact(Ar.ton _).elim (fun q1=>(gn .B .r (.ig (.ng 1) (.s .P .U)) (.ie .L .O) h q1.2)) fun q1=>(gn .B .r (.ig (.ng 1) (.s .P .U)) .L h q1.2))
 dsimp only
 rw [e]
 refine List.map_congr_left fun k hk=>?_
 have:=nq.mp hk
 omega
theorem zW {α β:Type} {f:α→Option β} {g:α→β}:∀ l:List α,(∀ k∈l,f k=some (g k))→l.filterMap f=l.map g
 | [],_=>rfl
 | x::l,h=>by rw [List.filterMap_cons_some (h x (.head _)),gp,zW l fun k hk=>h k (.tail _ hk)]
theorem yL (ws:List Value):slicePick ws.toArray none none (some (-1))=ws.reverse.toArray:=by
 unfold slicePick
 have e:sliceBounds none none (some (-1)) ws.toArray.size=((ws.length:Int)-1,-1,-1):=by
  unfold sliceBounds
  simp
 rw [e]
 dsimp only
 rw [gM,List.filterMap_map]
 refine bu List.toArray (List.ext_getElem? fun i=>?_)
 have g:∀ k∈List.range ws.length,((fun x=>ws.toArray[x]?) ∘ fun k=>ws.length-1-k) k=some (ws.reverse[k]?.getD .none):=fun k hk=>by
  have hk:=nq.mp hk
  have h2:ws.length-1-k<ws.length:=by(exact Ar.sub _ _ (fun q1 p1=>(Ar.sub _ _ (fun q2 p2=>(ee .C .b (.e .Y .D) (.e .V .B) p1 p2)) fun q2 p2=>(rz .C .d .aG (.e .Y .D) .aB hk p1 p2))) fun q1 p1=>(gr .C .b .aG .L hk p1))
  simp only [Function.comp_apply,List.getElem?_toArray]
  rw [List.getElem?_reverse hk,bc h2];rfl
 have e2:(List.range ws.length).filterMap ((fun x=>ws.toArray[x]?) ∘ fun k=>ws.length-1-k)=(List.range ws.length).map fun k=>ws.reverse[k]?.getD .none:=by
  exact zW _ g
 rw [e2,az]
 rcases Nat.lt_or_ge i ws.length with h | h
 ·rw [List.getElem?_range h]
  have h3:i<ws.reverse.length:=by rw [ir];exact h
  rw [bc h3]
  show some (ws.reverse[i]?.getD Value.none)=_
  rw [bc h3];rfl
 ·rw [kx (by rw [jv];exact h),kx (by rw [ir];exact h)];rfl
section
variable {G:Stc} {C:Cal} {sc:Scope} {d:Nat}
theorem BQ {a:Ex} {x st:Expr} {p pos:Pos} (ha:ct G C sc d a x) (hst:ct G C sc d (.neg (.int 1)) st):ct G C sc d (.rev a) (.Subscript x (.Slice none none (some st) p) pos):=fun A E env ρ σ Q s ao es eo F R h =>
 Subscript_ (md (ha A E env ρ σ _ s ao es eo F R h) fun v σ₁ h₁ tk w q vr r x =>
  wpAny_Slice (eJ (eJ (md (evalPart_some_step (hst A E env ρ σ₁ (fun v σ'=>v=.int (-1)∧σ'=σ₁) { s with heap:=h₁,toks:=tk } ao es eo (F.evo x) r ⟨1,rfl,rfl,rfl⟩)) fun v₂ σ₂ h₂ tk₂ w₂ q₂ vr₂ r₂ x₂=>by
   obtain⟨rfl,rfl⟩:=q₂
   obtain⟨t,rfl⟩:=vr₂
   obtain⟨l,rfl,xs,e,q⟩:=vu (v:=v) q
   obtain rfl:=vr
   obtain⟨ws,n,hl,hv⟩:=r₂.L _ _ e
   have hl':(h₂.push { cls:=.type "slice",data:=.fields #[.none,.none,.int (-1) t] }).IsList l ws.toArray:=(hl.push _).isList
   have hlen:=hv.length
   have hz:=r₂.Ll _ _ e
   refine tail_any (s:={ s with heap:=h₂.push { cls:=.type "slice",data:=.fields #[.none,.none,.int (-1) t] },toks:=tk₂ }) (T:="list") (id:="list.__getitem__") (ops:=[.ref l,.ref h₂.objs.size]) hl'.typeIs gG.lookup (wpAny_getItem_list_slice (s:={ s with heap:=h₂.push { cls:=.type "slice",data:=.fields #[.none,.none,.int (-1) t] },toks:=tk₂ }) hl' (Heap.IsSliceOf.new ..) .none .none (.int _ _) (by decide) ?_ (by simp only [cv];rw [← hlen];exact oh hz)) rfl
   rw [yL]
   exact dR (r₂.push _) ((x.trans x₂).trans (Evo.push _ _ _ _)) (hv.reverse.mono fun _ _ e _=>ak _ e) (by rw [ir];exact hz) q))))
theorem DRs.without {h:Heap} (k:Key):{es:List (Key × V)}→{ds:List (Key × Value)}→DRs G h es ds→DRs G h (delD es k) (PySem.without ds k)
 | [],ds,r=>by obtain rfl:=r;exact .nil
 | (k',v)::es,ds,r=>by
  obtain⟨w,us,rfl,a,r⟩:=r
  have ih:=DRs.without k r
  unfold delD PySem.without at ih ⊢
  rw [eO,eO]
  by_cases c:k'=k
  ·subst c
   rw [aw (by simp),aw (by simp)];exact ih
  ·rw [bx (by simpa using c),bx (by simpa using c)];exact .cons a ih
theorem BY {o i:Ex} {x y:Expr} {p pos:Pos} (ho:ct G C sc d o x) (hi:ct G C sc d i y):tu G C sc d (.delD o i) (.Delete [.Subscript x y p] pos):=fun A E env ρ σ K s ao es eo F R h=>by
 rw [arm_exec_Delete]
 refine ab (er (ab ?_))
 rw [arm_deleteEach_cons]
 refine ab (wpAny_delete_Subscript (md (ho A E env ρ σ _ s ao es eo F R h) fun v σ₁ h₁ tk w q vr r x₁=>md (hi A E env ρ σ₁ _ { s with heap:=h₁,toks:=tk } ao es eo (F.evo x₁) r q) fun v₂ σ₂ h₂ tk₂ w₂ q₂ vr₂ r₂ x₂=>?_))
 obtain⟨a,rfl,ds,kk,e,hkey,hin,q⟩:=tx (v:=v) q₂
 obtain rfl:=vr
 obtain⟨vs,hd,dr⟩:=r₂.D _ _ e
 have hl:=dr.look kk
 have hlen:=dr.length
 unfold delItem
 try with_reducible refine br ?_
 refine ab (wpAny_sequenceKey hd.typeIs (by decide) ?_)
 refine ab (oq (name:=Str.ofString "__delitem__") hd.typeIs PySem.F.slot_dict_delitem
  (call_meetsIn (s:={ s with heap:=h₂,toks:=tk₂ }) PySem.F.slot_dict_delitem hd.typeIs PySem.F.entry_dict_delitem (PySem.F.args_dict_delitem_2 _ _) (meets_dict_delitem_pairs G.kk a (key_is hkey vr₂)) ⟨vs,hd,by rw [← hlen];exact oh (r₂.Dl _ _ e),?_,fun h' hm hs=>?_⟩))
 ·cases hq:valueAt vs kk with
  | some _=>rfl
  | none =>
   obtain⟨u,hu⟩:=ax.mp hin
   rw [hu,hq] at hl;exact hl.elim
 ·have hz:(delD ds kk).length≤aq:=gj (ku _ _) (r₂.Dl _ _ e)
  obtain⟨r',x'⟩:=FE (s:={ s with heap:=h₂,toks:=tk₂ }) r₂ e hs hm (dr.without kk) hz
  refine af ?_
  rw [arm_deleteEach_nil]
  refine af (af ?_)
  have x3:=(x₁.trans x₂).trans x'
  exact⟨.next,ρ,_,h',_,rfl,.next,q,F.evo x3,r',x3.wide env⟩
end
end MP
end
section
namespace MP
open PySem PyProof.Rows PySem.W
section
variable {G:Stc} {C:Cal} {sc:Scope} {d:Nat}
theorem xS {pos:Pos}:ct G C sc d .dct0 (.Dict [] [] pos):=fun A E env ρ σ Q s ao es eo F R h =>
 wpAny_Dict_empty ⟨.dct s.heap.objs.size,_,_,_,rfl,h _ R.freshD,.dct _,R.putD (At.push _) (fun _=>none_at_size _) (fun b f e=>R.yU (none_at_size _) e rfl) (Heap.DictOf.new _) .nil (by simp [aq]),Evo.putD (At.push _) (fun _=>none_at_size _) _⟩
theorem BS {op:BoolOp} {b:Ex} {y:Expr} {pos:Pos} (h:ct G C sc d b y):ct G C sc d b (.BoolOp op [y] pos):=fun A E env ρ σ Q s ao es eo F R q=>BoolOp_one (h A E env ρ σ Q s ao es eo F R q)
theorem uP {b:Ex} {y:Expr} {pos:Pos} (h:pq G C sc d b y):pq G C sc d b (.BoolOp .And [y] pos):=fun A E env ρ σ Q s ao es eo F R q =>
 isTrue_and (kA (h A E env ρ σ _ s ao es eo F R q) fun t σ₁ h₁ tk q r x=>by
  cases t with
  | true=>exact isTrue_and_nil (jd.back (tk:=tk) x (jd.here q r))
  | false=>exact jd.back (tk:=tk) x (jd.here q r))
theorem uO {b:Ex} {y:Expr} {pos:Pos} (h:pq G C sc d b y):pq G C sc d b (.BoolOp .Or [y] pos):=fun A E env ρ σ Q s ao es eo F R q =>
 isTrue_or (kA (h A E env ρ σ _ s ao es eo F R q) fun t σ₁ h₁ tk q r x=>by
  cases t with
  | false=>exact isTrue_or_nil (jd.back (tk:=tk) x (jd.here q r))
  | true=>exact jd.back (tk:=tk) x (jd.here q r))
end
structure Tab where
 cap:Str→Bool
 gl:List (Str × Value)
 attrs:List Str
 meths:List (Nat × Str)
 fns:List (Nat × Addr)
 cM:Addr
 cS:Addr
structure TabOk (G:Stc) (T:Tab) (C:Cal) (d:Nat):Prop where
 g:GOk G
 gl:∀ x v,T.gl.lookup x=some v→G.gl x=some v
 attrs:G.attrs=T.attrs
 cap:G.cap=T.cap
 cal:eH G (fun k=>T.fns.lookup k) C (d-1)
 lam:jS G C (d-1)
 meth:∀ k name,T.meths.lookup k=some name→∃ f,T.fns.lookup k=some f∧MethAt G name f
 init:∃ f,T.fns.lookup 0=some f∧nN G f
 cM:G.cM=T.cM
 cS:G.cS=T.cS
 mt:∃ fN fM,pf G fN fM∧lM G fN
 ma:wm G
 unp:wL G
 d3:3≤d
noncomputable def zf (i:Nat) (x:Expr):Option Expr:=match i with | 0=>(vw x).b.1 | _=>(vw x).b.2
noncomputable def iq (x:Expr):List Comprehension × Scope:=(vw x).g
noncomputable def hdG:List Comprehension→Expr × Expr × List Expr
 | g::_=>(g.target,g.iter,g.ifs)
 | []=>(default,default,[])
noncomputable def GR (x:Expr):Bool:=dX 0 x&&!(kids x).isEmpty
noncomputable def aE (x:Expr):BoolOp × List Expr × Pos:=((vw x).op,kids x,x.pos)
theorem J6 {x:Expr} (h:GR x=true):∃ z r,(aE x).2.1=z::r∧x=.BoolOp (aE x).1 (z::r) (aE x).2.2:=by
 cases x
 case BoolOp =>
  cases values with
  | nil=>cases h
  | cons z r=>exact⟨z,r,rfl,rfl⟩
 all_goals exact Bool.noConfusion (show false=true from h)
noncomputable def many (x:Expr):Bool:=!(kids x).tail.tail.isEmpty
noncomputable def bo (op:BoolOp) (a b:Expr) (p:Pos) (m:Bool):Expr:=.BoolOp op (a::bif m then (aE b).2.1 else [b]) p
noncomputable def yP (op:BoolOp) (b:Expr) (p:Pos) (m:Bool):Bool:=!m||(GR b&&(decide ((aE b).1=op)&&decide ((aE b).2.2=p)))
noncomputable def hint (op:BoolOp) (x:Expr):Expr:=bif many x then .BoolOp op (kids x).tail x.pos else kid 1 x
theorem pM {op:BoolOp} {b:Expr} {p:Pos}:(m:Bool)→yP op b p m=true→m=false∨∃ z r,b=.BoolOp op (z::r) p∧∀ a,bo op a b p m=.BoolOp op (a::z::r) p
 | false,_=>.inl rfl
 | true,h=>by
  obtain⟨h0,h1⟩:=band (show(GR b&&(decide ((aE b).1=op)&&decide ((aE b).2.2=p)))=true from h)
  obtain⟨h1,h2⟩:=band h1
  obtain rfl:=ah h1
  obtain rfl:=ah h2
  obtain⟨z,r,e,e'⟩:=J6 h0
  exact .inr ⟨z,r,e',fun a=>bu (fun l=>Expr.BoolOp (aE b).1 (a::l) (aE b).2.2) e⟩
noncomputable def glob (T:Tab) (sc:Scope) (x:Str) (v:Value):Bool:=decide (sc.names.lookup x=some .globalImplicit)&&(gk x&&decide (T.gl.lookup x=some v))
noncomputable def mF (x:Expr):Bool:=!(dX 7 x)
noncomputable def lY (sc:Scope):Tg→Expr→Expr
 | .var i=>fun x=>.Name (sv sc i) x.pos
 | .tup is=>fun x=>.Tuple (pa sc is (kids x)) (exK x) x.pos
noncomputable def yO (T:Tab) (sc:Scope):Tg→Expr→Bool
 | .var i=>fun _=>ownAt T.cap sc i
 | .tup is=>fun x=>mA T.cap sc is
noncomputable def Exs.isNil:Exs→Bool
 | .nil=>true
 | _=>false
noncomputable def wJ:BF→Nat
 | .len=>1
 | .min=>2
 | .max=>2
 | .set=>0
 | .lrange=>1
 | .minL=>1
 | .maxL=>1
 | .sorted=>1
noncomputable def Exs.len:Exs→Nat
 | .nil=>0
 | .cons _ es=>es.len+1
noncomputable def pN:BF→Value
 | .len=>.builtin "len"
 | .min=>.builtin "min"
 | .max=>.builtin "max"
 | .minL=>.builtin "min"
 | .maxL=>.builtin "max"
 | .sorted=>.builtin "sorted"
 | .set=>.type "set"
 | _=>.type "list"
noncomputable def qb:BF→Bool
 | .lrange=>true
 | _=>false
noncomputable def nm (x:Expr):Expr:=.Name (ll x) x.pos
noncomputable def Ex.isNone (x:Ex):Bool:=Nat.beq x.ctorIdx 0
mutual
noncomputable def reE (T:Tab):Ex→Scope→Expr→Expr
 | .none=>fun _ x=>.Constant .none (exK x) x.pos
 | .bool b=>fun _ x=>.Constant (.bool b) (exK x) x.pos
 | .int i=>fun _ x=>.Constant (.int i) (exK x) x.pos
 | .str t=>fun _ x=>.Constant (.str t) (exK x) x.pos
 | .loc i=>fun sc x=>.Name (sv sc i) x.pos
 | .bin op a b=>fun sc x=>.BinOp (reE T a sc (kid 0 x)) (binOp op) (reE T b sc (kid 1 x)) x.pos
 | .neg a=>fun sc x=>.UnaryOp .USub (reE T a sc (kid 0 x)) x.pos
 | .not a=>fun sc x=>.UnaryOp .Not (reE T a sc (kid 0 x)) x.pos
 | .and a b=>fun sc x=>bo .And (reE T a sc (kid 0 x)) (reE T b sc (hint .And x)) x.pos (many x)
 | .or a b=>fun sc x=>bo .Or (reE T a sc (kid 0 x)) (reE T b sc (hint .Or x)) x.pos (many x)
 | .cmp op a b=>fun sc x=>.Compare (reE T a sc (kid 0 x)) [gB op] [reE T b sc (kid 1 x)] x.pos
 | .ite c a b=>fun sc x=>.IfExp (reE T c sc (kid 0 x)) (reE T a sc (kid 1 x)) (reE T b sc (kid 2 x)) x.pos
 | .lst es=>fun sc x=>.List (qi T es sc (kids x)) x.pos
 | .tup es=>fun sc x=>.Tuple (qi T es sc (kids x)) (exK x) x.pos
 | .dct0=>fun _ x=>.Dict [] [] x.pos
 | .call _ es=>fun sc x=>.Call (nm (kid 0 x)) (qi T es sc (kids x).tail) [] x.pos
 | .meth e m es=>fun sc x=>.Call (.Attribute (reE T e sc (kid 0 (kid 0 x))) ((T.meths.lookup m).getD "") (kid 0 x).pos) (qi T es sc (kids x).tail) [] x.pos
 | .attr e i=>fun sc x=>.Attribute (reE T e sc (kid 0 x)) ((T.attrs[i]?).getD "") x.pos
 | .dgetOf e=>fun sc x=>.Attribute (reE T e sc (kid 0 x)) "get" x.pos
 | .shasOf e=>fun sc x=>.Attribute (reE T e sc (kid 0 x)) "__contains__" x.pos
 | .bm k e es=>fun sc x=>.Call (.Attribute (reE T e sc (kid 0 (kid 0 x))) (nG k) (kid 0 x).pos) (qi T es sc (kids x).tail) [] x.pos
 | .bf k es=>fun sc x=>bif qb k then .Call (nm (kid 0 x)) [.Call (nm (kid 0 (kid 1 x))) (qi T es sc (kids (kid 1 x)).tail) [] (kid 1 x).pos] [] x.pos
  else .Call (nm (kid 0 x)) (qi T es sc (kids x).tail) [] x.pos
 | .callv f es=>fun sc x=>.Call (.Name (sv sc f) (kid 0 x).pos) (qi T es sc (kids x).tail) [] x.pos
 | .sub e i=>fun sc x=>.Subscript (reE T e sc (kid 0 x)) (reE T i sc (kid 1 x)) x.pos
 | .slc e lo hi=>fun sc x=>.Subscript (reE T e sc (kid 0 x)) (.Slice ((zf 0 (kid 1 x)).map (reE T lo sc)) ((zf 1 (kid 1 x)).map (reE T hi sc)) none (kid 1 x).pos) x.pos
 | .rev e=>fun sc x=>.Subscript (reE T e sc (kid 0 x)) (.Slice none none (some (.UnaryOp .USub (.Constant (.int 1) (exK (kid 0 (kid 0 (kid 1 x)))) (kid 0 (kid 0 (kid 1 x))).pos) (kid 0 (kid 1 x)).pos)) (kid 1 x).pos) x.pos
 | .comp _ it t cs more=>fun sc x=>.ListComp (yC T more (oj (iq x).2 sc) (kid 0 x))
   (⟨lY (oj (iq x).2 sc) t (hdG (iq x).1).1,oD T it sc (hdG (iq x).1).2.1,qi T cs (oj (iq x).2 sc) (hdG (iq x).1).2.2,0⟩::yB T more (oj (iq x).2 sc) (iq x).1.tail) (iq x).2 x.pos
 | .newM es=>fun sc x=>.Call (nm (kid 0 x)) (qi T es sc (kids x).tail) [] x.pos
 | .newMatch a b c=>fun sc x=>.Call (nm (kid 0 x)) [reE T a sc (kid 1 x),reE T b sc (kid 2 x),reE T c sc (kid 3 x)] [] x.pos
 | .dead=>fun _ x=>x
noncomputable def qi (T:Tab):Exs→Scope→List Expr→List Expr
 | .nil=>fun _ _=>[]
 | .cons e es=>fun sc l=>reE T e sc (l.headD default)::qi T es sc l.tail
noncomputable def oD (T:Tab):It→Scope→Expr→Expr
 | .rng1 e=>fun sc x=>.Call (nm (kid 0 x)) [reE T e sc (kid 1 x)] [] x.pos
 | .rng2 e f=>fun sc x=>.Call (nm (kid 0 x)) [reE T e sc (kid 1 x),reE T f sc (kid 2 x)] [] x.pos
 | .enum e=>fun sc x=>.Call (nm (kid 0 x)) [reE T e sc (kid 1 x)] [] x.pos
 | .seq e=>fun sc x=>reE T e sc x
 | .keys e=>fun sc x=>.Call (.Attribute (reE T e sc (kid 0 (kid 0 x))) "keys" (kid 0 x).pos) [] [] x.pos
 | .items e=>fun sc x=>.Call (.Attribute (reE T e sc (kid 0 (kid 0 x))) "items" (kid 0 x).pos) [] [] x.pos
noncomputable def yB (T:Tab):Gens→Scope→List Comprehension→List Comprehension
 | .elt _=>fun _ _=>[]
 | .cons it t cs more=>fun sc l=>⟨lY sc t (hdG l).1,oD T it sc (hdG l).2.1,qi T cs sc (hdG l).2.2,0⟩::yB T more sc l.tail
noncomputable def yC (T:Tab):Gens→Scope→Expr→Expr
 | .elt e=>fun sc x=>reE T e sc x
 | .cons _ _ _ more=>fun sc x=>yC T more sc x
end
noncomputable def tOk:Ex→Bool
 | .not a=>tOk a
 | .and a b=>tOk a&&tOk b
 | .or a b=>tOk a&&tOk b
 | .ite _ a b=>tOk a&&tOk b
 | .cmp _ _ _=>true
 | .loc _=>true
 | .attr _ _=>true
 | .callv _ _=>true
 | .sub _ _=>true
 | .bin _ _ _=>true
 | .dead=>true
 | _=>false
mutual
noncomputable def okE (T:Tab):Ex→Scope→Expr→Bool
 | .none=>fun _ _=>true
 | .bool _=>fun _ _=>true
 | .int _=>fun _ _=>true
 | .str _=>fun _ _=>true
 | .loc i=>fun sc _=>kindAt isVar sc i
 | .bin _ a b=>fun sc x=>okE T a sc (kid 0 x)&&okE T b sc (kid 1 x)
 | .neg a=>fun sc x=>okE T a sc (kid 0 x)
 | .not a=>fun sc x=>okE T a sc (kid 0 x)
 | .and a b=>fun sc x=>okE T a sc (kid 0 x)&&(okE T b sc (hint .And x)&&yP .And (reE T b sc (hint .And x)) x.pos (many x))
 | .or a b=>fun sc x=>okE T a sc (kid 0 x)&&(okE T b sc (hint .Or x)&&yP .Or (reE T b sc (hint .Or x)) x.pos (many x))
 | .cmp op a b=>fun sc x=>okE T a sc (kid 0 x)&&(okE T b sc (kid 1 x)&&!(behindInMarks (gB op) (reE T b sc (kid 1 x))))
 | .ite c a b=>fun sc x=>tOk c&&(okE T c sc (kid 0 x)&&(okE T a sc (kid 1 x)&&okE T b sc (kid 2 x)))
 | .lst es=>fun sc x=>noStar (qi T es sc (kids x))&&iO T es sc (kids x)
 | .tup es=>fun sc x=>noStar (qi T es sc (kids x))&&iO T es sc (kids x)
 | .dct0=>fun _ _=>true
 | .call f es=>fun sc x=>(T.fns.lookup f).any (fun a=>glob T sc (ll (kid 0 x)) (.ref a))&&(noStar (qi T es sc (kids x).tail)&&iO T es sc (kids x).tail)
 | .meth e m es=>fun sc x=>(T.meths.lookup m).isSome&&(okE T e sc (kid 0 (kid 0 x))&&(lg (reE T e sc (kid 0 (kid 0 x)))&&(((kid 0 x).pos.endLine==x.pos.line)&&(decide ((qi T es sc (kids x).tail).length<30) &&
   (noStar (qi T es sc (kids x).tail)&&iO T es sc (kids x).tail)))))
 | .attr e i=>fun sc x=>(T.attrs[i]?).isSome&&(lg (reE T e sc (kid 0 x))&&okE T e sc (kid 0 x))
 | .dgetOf e=>fun sc x=>lg (reE T e sc (kid 0 x))&&okE T e sc (kid 0 x)
 | .shasOf e=>fun sc x=>lg (reE T e sc (kid 0 x))&&okE T e sc (kid 0 x)
 | .bm k e es=>fun sc x=>(okE T e sc (kid 0 (kid 0 x))&&(lg (reE T e sc (kid 0 (kid 0 x)))&&(((kid 0 x).pos.endLine==x.pos.line)&&(decide ((qi T es sc (kids x).tail).length<30) &&
   (noStar (qi T es sc (kids x).tail)&&iO T es sc (kids x).tail)))))
 | .bf k es=>fun sc x=>Nat.beq es.len (wJ k)&&(glob T sc (ll (kid 0 x)) (pN k)&&bif qb k then glob T sc (ll (kid 0 (kid 1 x))) (.type "range")&&(noStar (qi T es sc (kids (kid 1 x)).tail)&&iO T es sc (kids (kid 1 x)).tail)
   else noStar (qi T es sc (kids x).tail)&&iO T es sc (kids x).tail)
 | .callv f es=>fun sc x=>kindAt isVar sc f&&(noStar (qi T es sc (kids x).tail)&&iO T es sc (kids x).tail)
 | .sub e i=>fun sc x=>!(isSlice (reE T i sc (kid 1 x)))&&(okE T e sc (kid 0 x)&&okE T i sc (kid 1 x))
 | .slc e lo hi=>fun sc x=>okE T e sc (kid 0 x)&&((match zf 0 (kid 1 x) with | none=>lo.isNone | some l=>okE T lo sc l)&&(match zf 1 (kid 1 x) with | none=>hi.isNone | some l=>okE T hi sc l))
 | .rev e=>fun sc x=>okE T e sc (kid 0 x)
 | .comp fv it t cs more=>fun sc x=>CJ T it sc (isTup (lY (oj (iq x).2 sc) t (hdG (iq x).1).1)) (hdG (iq x).1).2.1&&(yO T (oj (iq x).2 sc) t (hdG (iq x).1).1&&(CK T cs (oj (iq x).2 sc) (hdG (iq x).1).2.2 &&
   (G0 T more (oj (iq x).2 sc) (iq x).1.tail (kid 0 x)&&(mF (oD T it sc (hdG (iq x).1).2.1)&&(decide ((iq x).2.kind=.function)&&(decide (((iq x).2.names.map (·.1)).Nodup) &&
   (mE sc fv 0 (iq x).2.names&&mB (iq x).2 (⟨lY (oj (iq x).2 sc) t (hdG (iq x).1).1,oD T it sc (hdG (iq x).1).2.1,qi T cs (oj (iq x).2 sc) (hdG (iq x).1).2.2,0⟩::yB T more (oj (iq x).2 sc) (iq x).1.tail))))))))
 | .newM es=>fun sc x=>!es.isNil&&(glob T sc (ll (kid 0 x)) (.ref T.cS)&&(noStar (qi T es sc (kids x).tail)&&iO T es sc (kids x).tail))
 | .newMatch a b c=>fun sc x=>glob T sc (ll (kid 0 x)) (.ref T.cM)&&(noStar [reE T a sc (kid 1 x),reE T b sc (kid 2 x),reE T c sc (kid 3 x)]&&(okE T a sc (kid 1 x)&&(okE T b sc (kid 2 x)&&okE T c sc (kid 3 x))))
 | .dead=>fun _ _=>true
noncomputable def iO (T:Tab):Exs→Scope→List Expr→Bool
 | .nil=>fun _ _=>true
 | .cons e es=>fun sc l=>okE T e sc (l.headD default)&&iO T es sc l.tail
noncomputable def CK (T:Tab):Exs→Scope→List Expr→Bool
 | .nil=>fun _ _=>true
 | .cons e es=>fun sc l=>tOk e&&(okE T e sc (l.headD default)&&CK T es sc l.tail)
noncomputable def CJ (T:Tab):It→Scope→Bool→Expr→Bool
 | .rng1 e=>fun sc _ x=>glob T sc (ll (kid 0 x)) (.type "range")&&(noStar [reE T e sc (kid 1 x)]&&okE T e sc (kid 1 x))
 | .rng2 e f=>fun sc _ x=>glob T sc (ll (kid 0 x)) (.type "range")&&(noStar [reE T e sc (kid 1 x),reE T f sc (kid 2 x)]&&(okE T e sc (kid 1 x)&&okE T f sc (kid 2 x)))
 | .enum e=>fun sc tp x=>tp&&(glob T sc (ll (kid 0 x)) (.type "enumerate")&&(noStar [reE T e sc (kid 1 x)]&&okE T e sc (kid 1 x)))
 | .seq e=>fun sc _ x=>okE T e sc x
 | .keys e=>fun sc _ x=>lg (reE T e sc (kid 0 (kid 0 x)))&&(((kid 0 x).pos.endLine==x.pos.line)&&okE T e sc (kid 0 (kid 0 x)))
 | .items e=>fun sc tp x=>tp&&(lg (reE T e sc (kid 0 (kid 0 x)))&&(((kid 0 x).pos.endLine==x.pos.line)&&okE T e sc (kid 0 (kid 0 x))))
noncomputable def G0 (T:Tab):Gens→Scope→List Comprehension→Expr→Bool
 | .elt e=>fun sc _ x=>okE T e sc x
 | .cons it t cs more=>fun sc l x=>CJ T it sc (isTup (lY sc t (hdG l).1)) (hdG l).2.1&&(yO T sc t (hdG l).1&&(CK T cs sc (hdG l).2.2&&(G0 T more sc l.tail x&&mF (oD T it sc (hdG l).2.1))))
end
noncomputable def sS (T:Tab) (sc:Scope):Tgt→Expr→Expr
 | .var i=>fun x=>.Name (sv sc i) x.pos
 | .attr o i=>fun x=>.Attribute (reE T o sc (kid 0 x)) ((T.attrs[i]?).getD "") x.pos
 | .sub o i=>fun x=>.Subscript (reE T o sc (kid 0 x)) (reE T i sc (kid 1 x)) x.pos
 | .tup is=>fun x=>.Tuple (pa sc is (kids x)) (exK x) x.pos
noncomputable def EI (T:Tab) (sc:Scope):Tgt→Expr→Bool
 | .var i=>fun _=>ownAt T.cap sc i
 | .attr o i=>fun x=>okE T o sc (kid 0 x)&&(T.attrs[i]?).isSome
 | .sub o i=>fun x=>okE T o sc (kid 0 x)&&okE T i sc (kid 1 x)
 | .tup is=>fun x=>mA T.cap sc is
noncomputable def ug (T:Tab) (sc:Scope):List Tgt→List Expr→List Expr
 | []=>fun _=>[]
 | t::ts=>fun l=>sS T sc t (l.headD default)::ug T sc ts l.tail
noncomputable def iM (T:Tab) (sc:Scope):List Tgt→List Expr→Bool
 | []=>fun _=>true
 | t::ts=>fun l=>EI T sc t (l.headD default)&&iM T sc ts l.tail
noncomputable def stB (x:Stmt):List Stmt × List Stmt:=((sw x).b,(sw x).c)
noncomputable def qY:List Tgt→Bool
 | [.var _]=>true
 | _=>false
noncomputable def qZ (x:Ex):Bool:=Nat.beq x.ctorIdx (Ex.comp [] (.seq .none) (.var 0) .nil (.elt .none)).ctorIdx
noncomputable def zK:List Tgt→Option (List Nat)
 | [.tup is]=>some is
 | _=>none
noncomputable def EJ (T:Tab) (sc:Scope) (ts:List Tgt) (e:Ex) (xs hs:List Expr) (y:Expr):Option (Option (List Str))→Bool
 | none=>false
 | some none=>iM T sc ts hs&&(wc y||(qY ts&&qZ e))
 | some (some names)=>(zK ts).any fun is=>wc y&&(I3 T.cap sc is names&&decide is.Nodup)
mutual
noncomputable def reS (T:Tab) (sc:Scope):Stm→Stmt→Stmt
 | .assign ts e=>fun x=>.Assign (ug T sc ts (vn x).tail) (reE T e sc (st0 x)) x.pos
 | .aug i op e=>fun x=>.AugAssign (.Name (sv sc i) ((vn x).getD 1 default).pos) (binOp op) (reE T e sc (st0 x)) x.pos
 | .delD o i=>fun x=>.Delete [.Subscript (reE T o sc (kid 0 (st0 x))) (reE T i sc (kid 1 (st0 x))) (st0 x).pos] x.pos
 | .expr e=>fun x=>.Expr (reE T e sc (st0 x)) x.pos
 | .cond c t e=>fun x=>.If (reE T c sc (st0 x)) (dJ T sc t (stB x).1) (dJ T sc e (stB x).2) x.pos
 | .loop c b=>fun x=>.While (reE T c sc (st0 x)) (dJ T sc b (stB x).1) [] x.pos
 | .each t it b=>fun x=>.For (lY sc t ((vn x).getD 1 default)) (oD T it sc (st0 x)) (dJ T sc b (stB x).1) [] x.pos
 | .ret e=>fun x=>.Return ((vn x).head?.map (reE T e sc)) x.pos
 | .brk=>fun x=>.Break x.pos
 | .cont=>fun x=>.Continue x.pos
 | .pass=>fun x=>bif (vn x).isEmpty then .Pass x.pos else .Expr (.Constant (.str (zZ (st0 x))) (exK (st0 x)) (st0 x).pos) x.pos
 | .dead=>fun x=>x
noncomputable def dJ (T:Tab) (sc:Scope):jt→List Stmt→List Stmt
 | .nil=>fun _=>[]
 | .cons s ss=>fun l=>reS T sc s (l.headD default)::dJ T sc ss l.tail
end
mutual
noncomputable def okS (T:Tab) (sc:Scope):Stm→Stmt→Bool
 | .assign ts e=>fun x=>okE T e sc (st0 x)&&EJ T sc ts e (ug T sc ts (vn x).tail) (vn x).tail (reE T e sc (st0 x)) (swp sc (ug T sc ts (vn x).tail) (reE T e sc (st0 x)))
 | .aug i op e=>fun x=>(decide (op=.add)||decide (op=.sub))&&(ownAt T.cap sc i&&okE T e sc (st0 x))
 | .delD o i=>fun x=>okE T o sc (kid 0 (st0 x))&&okE T i sc (kid 1 (st0 x))
 | .expr e=>fun x=>wc (reE T e sc (st0 x))&&okE T e sc (st0 x)
 | .cond c t e=>fun x=>tOk c&&(okE T c sc (st0 x)&&(iN T sc t (stB x).1&&iN T sc e (stB x).2))
 | .loop c b=>fun x=>tOk c&&(okE T c sc (st0 x)&&iN T sc b (stB x).1)
 | .each t it b=>fun x=>yO T sc t ((vn x).getD 1 default)&&(CJ T it sc (isTup (lY sc t ((vn x).getD 1 default))) (st0 x)&&(iN T sc b (stB x).1&&mF (oD T it sc (st0 x))))
 | .ret e=>fun x=>match (vn x).head? with
  | some y=>okE T e sc y
  | none=>e.isNone
 | .brk=>fun _=>true
 | .cont=>fun _=>true
 | .pass=>fun _=>true
 | .dead=>fun _=>true
noncomputable def iN (T:Tab) (sc:Scope):jt→List Stmt→Bool
 | .nil=>fun _=>true
 | .cons s ss=>fun l=>okS T sc s (l.headD default)&&iN T sc ss l.tail
end
end MP
end
section
namespace MP
open PySem PyProof.Rows PySem.W
section
variable {G:Stc} {T:Tab} {C:Cal} {d:Nat}
theorem lj (K:TabOk G T C d) {sc:Scope} {x:Str} {v:Value} (h:glob T sc x v=true):sc.names.lookup x=some .globalImplicit∧gk x=true∧G.gl x=some v :=
 ⟨ah (band h).1,(band (band h).2).1,K.gl _ _ (ah (band (band h).2).2)⟩
theorem zc {x:Expr} (h:mF x=true):∀ env v,foldedSetIterable x env v=pure v:=by
 intro env v
 cases x<;>first | rfl | exact Bool.noConfusion (show false=true from h)
theorem TabOk.own (K:TabOk G T C d) {sc:Scope} {i:Nat} (h:ownAt T.cap sc i=true):∃ k,sc.names[i]?=some (sv sc i,k)∧Own G (sv sc i) k∧gk (sv sc i)=true:=qK (by rw [K.cap];exact h)
theorem lR (K:TabOk G T C d) {sc:Scope}:(t:Tg)→(x:Expr)→yO T sc t x=true→tj G C sc d t (lY sc t x)
 | .var i,x,h=>by obtain⟨k,h1,h2,h3⟩:=K.own h;exact BI h1 h2
 | .tup is,x,h=>BJ K.unp (by rw [K.cap];exact h)
theorem j4 {α:Type} {a:Option α} {d:α} (h:a.isSome=true):a=some (a.getD d):=by
 cases a with
 | none=>cases h
 | some x=>rfl
theorem nH (K:TabOk G T C d) {i:Nat} (h:(T.attrs[i]?).isSome=true):G.attrs[i]?=some ((T.attrs[i]?).getD ""):=by
 rw [K.attrs];exact j4 h
theorem J8 {sc:Scope} {op:BoolOp} {e a b:Ex} {x y:Expr} {p:Pos} {m:Bool} (H:∀ z r,ct G C sc d a x→ct G C sc d b (.BoolOp op (z::r) p)→ct G C sc d e (.BoolOp op (x::z::r) p)) (ha:ct G C sc d a x) (hb:ct G C sc d b y) (h:yP op y p m=true) :
  ct G C sc d e (bo op x y p m):=by
 rcases pM m h with rfl | ⟨z,r,rfl,e1⟩
 ·exact H y [] ha (BS hb)
 ·rw [e1];exact H z r ha hb
theorem J7 {sc:Scope} {op:BoolOp} {e a b:Ex} {x y:Expr} {p:Pos} {m:Bool} (H:∀ z r,pq G C sc d a x→pq G C sc d b (.BoolOp op (z::r) p)→pq G C sc d e (.BoolOp op (x::z::r) p)) (ha:pq G C sc d a x) (hb:pq G C sc d b y) (h:yP op y p m=true) :
  pq G C sc d e (bo op x y p m):=by
 rcases pM m h with rfl | ⟨z,r,rfl,e1⟩
 ·exact H y [] ha (by cases op;exact uP hb;exact uO hb)
 ·rw [e1];exact H z r ha hb
theorem uN (K:TabOk G T C d) {sc:Scope} {f:Nat} {es:Exs} {x:Expr} {args:List Expr} {pos:Pos} (h:((T.fns.lookup f).any fun a=>glob T sc (ll x) (.ref a))=true) (hes:kg G C sc d es args) (hs:noStar args=true):ct G C sc d (.call f es) (.Call (nm x) args [] pos):=by
 obtain⟨a,e,h⟩:=any_some h
 obtain⟨g1,g2,g3⟩:=lj K h
 exact xV K.g (K.cal.more (uj _ _)) e hes hs g1 g2 g3
theorem uJ (K:TabOk G T C d) {sc:Scope} {e:Ex} {m:Nat} {es:Exs} {o:Expr} {args:List Expr} {ap pos:Pos} (h:(T.meths.lookup m).isSome=true) (he:ct G C sc d e o) (h2:lg o=true) (h3:(ap.endLine==pos.line)=true) (h4:decide (args.length<30)=true) (hs:noStar args=true) (hes:kg G C sc d es args) :
  ct G C sc d (.meth e m es) (.Call (.Attribute o ((T.meths.lookup m).getD "") ap) args [] pos):=by
 obtain⟨f,hf,M⟩:=K.meth _ _ (j4 h)
 exact xK (K.cal.more (uj _ _)) hf M he hes h2 hs (ah h4) h3
theorem C2 (K:TabOk G T C d) {sc:Scope} {k:BM} {e:Ex} {es:Exs} {o:Expr} {args:List Expr} {ap pos:Pos} (he:ct G C sc d e o) (h2:lg o=true) (h3:(ap.endLine==pos.line)=true) (h4:decide (args.length<30)=true) (hs:noStar args=true) (hes:kg G C sc d es args) :
  ct G C sc d (.bm k e es) (.Call (.Attribute o (nG k) ap) args [] pos):=by
 exact FP K.g he hes h2 hs (ah h4) h3
theorem CE {sc:Scope} {l:List Expr}:(es:Exs)→(!es.isNil)=true→qi T es sc l≠[]
 | .cons _ _,_=>List.cons_ne_nil _ _
theorem uI (K:TabOk G T C d) {sc:Scope} {es:Exs} {x:Expr} {args:List Expr} {pos:Pos} (hne:args≠[]) (h:glob T sc (ll x) (.ref T.cS)=true) (hs:noStar args=true) (hes:kg G C sc d es args):ct G C sc d (.newM es) (.Call (nm x) args [] pos):=by
 obtain⟨g1,g2,g3⟩:=lj K h
 obtain⟨f,hf,M⟩:=K.init
 exact xH K.g K.cal (gj (by decide) K.d3) hf M hes hs hne g1 g2 (K.cS▸g3)
theorem jZ (K:TabOk G T C d) {sc:Scope} {a b c:Ex} {x u v w:Expr} {pos:Pos} (h:glob T sc (ll x) (.ref T.cM)=true) (hs:noStar [u,v,w]=true) (ha:ct G C sc d a u) (hb:ct G C sc d b v) (hc:ct G C sc d c w):ct G C sc d (.newMatch a b c) (.Call (nm x) [u,v,w] [] pos):=by
 obtain⟨g1,g2,g3⟩:=lj K h
 obtain⟨fN,fM,Mk,Mn⟩:=K.mt
 exact lU K.g Mk Mn K.ma (gj (by decide) K.d3) ha hb hc hs g1 g2 (K.cM▸g3)
theorem fE {e:Ex} (h:e.isNone=true):e=.none:=by
 cases e<;>first | rfl | exact Bool.noConfusion h
theorem DB {α:Type} {l m:List α} {a:α} {n:Nat} (h:l.drop n=a::m):l[n]?=some a:=by
 have:=bu (fun l=>l[0]?) h
 simpa using this
theorem DA {α:Type} {l m:List α} {a:α} {n:Nat} (h:l.drop n=a::m):l.drop (n+1)=m:=by
 have:=bu (fun l=>l.drop 1) h
 simpa using this
theorem yd {sc:Scope}:(gs:Gens)→(l:List Comprehension)→∀ g∈yB T gs sc l,g.is_async=0
 | .elt _,_,_,h=>nomatch h
 | .cons _ _ _ more,l,g,h=>(cu.mp h).elim (fun e=>e▸rfl) (yd more l.tail g)
theorem ft {p:Prop} (h:false=true):p:=Bool.noConfusion h
theorem C5 (K:TabOk G T C d) {sc:Scope} {e:Ex} {x u:Expr} {pos:Pos}:(k:BF)→Nat.beq 1 (wJ k)=true→qb k=false→glob T sc (ll x) (pN k)=true→noStar [u]=true→ct G C sc d e u→ct G C sc d (.bf k (.cons e .nil)) (.Call (nm x) [u] [] pos)
 | .len=>fun _ _ h hs he=>by obtain⟨g1,g2,g3⟩:=lj K h;exact BW K.g he hs g1 g2 g3
 | .minL=>fun _ _ h hs he=>by obtain⟨g1,g2,g3⟩:=lj K h;exact xI K.g he hs g1 g2 g3
 | .maxL=>fun _ _ h hs he=>by obtain⟨g1,g2,g3⟩:=lj K h;exact xM K.g he hs g1 g2 g3
 | .sorted=>fun _ _ h hs he=>by obtain⟨g1,g2,g3⟩:=lj K h;exact pY K.g he hs g1 g2 g3
 | .min=>fun h=>ft h
 | .max=>fun h=>ft h
 | .set=>fun h=>ft h
 | .lrange=>fun _ h=>ft h.symm
theorem C3 (K:TabOk G T C d) {sc:Scope} {e:Ex} {x y u:Expr} {p pos:Pos}:(k:BF)→qb k=true→glob T sc (ll x) (pN k)=true→glob T sc (ll y) (.type "range")=true→noStar [u]=true→ct G C sc d e u→ct G C sc d (.bf k (.cons e .nil)) (.Call (nm x) [.Call (nm y) [u] [] p] [] pos)
 | .lrange=>fun _ h h' hs he=>by obtain⟨g1,g2,g3⟩:=lj K h;exact by obtain⟨k1,k2,k3⟩:=lj K h';exact q8 K.g he hs g1 g2 g3 k1 k2 k3
 | .len=>fun h=>ft h
 | .min=>fun h=>ft h
 | .max=>fun h=>ft h
 | .set=>fun h=>ft h
 | .minL=>fun h=>ft h
 | .maxL=>fun h=>ft h
 | .sorted=>fun h=>ft h
theorem C4 (K:TabOk G T C d) {sc:Scope} {e f:Ex} {x u v:Expr} {pos:Pos}:(k:BF)→Nat.beq 2 (wJ k)=true→glob T sc (ll x) (pN k)=true→noStar [u,v]=true→ct G C sc d e u→ct G C sc d f v→ct G C sc d (.bf k (.cons e (.cons f .nil))) (.Call (nm x) [u,v] [] pos)
 | .min=>fun _ h hs he hf=>by obtain⟨g1,g2,g3⟩:=lj K h;exact xJ K.g he hf hs g1 g2 g3
 | .max=>fun _ h hs he hf=>by obtain⟨g1,g2,g3⟩:=lj K h;exact xN K.g he hf hs g1 g2 g3
 | .len=>fun h=>ft h
 | .set=>fun h=>ft h
 | .lrange=>fun h=>ft h
 | .minL=>fun h=>ft h
 | .maxL=>fun h=>ft h
 | .sorted=>fun h=>ft h
theorem C6 (K:TabOk G T C d) {sc:Scope} {x:Expr} {pos:Pos}:(k:BF)→Nat.beq 0 (wJ k)=true→glob T sc (ll x) (pN k)=true→ct G C sc d (.bf k .nil) (.Call (nm x) [] [] pos)
 | .set=>fun _ h=>by obtain⟨g1,g2,g3⟩:=lj K h;exact xD K.g g1 g2 g3
 | .len=>fun h=>ft h
 | .min=>fun h=>ft h
 | .max=>fun h=>ft h
 | .lrange=>fun h=>ft h
 | .minL=>fun h=>ft h
 | .maxL=>fun h=>ft h
 | .sorted=>fun h=>ft h
theorem sT:(k:BF)→qb k=true→wJ k=1
 | .lrange=>fun _=>rfl
 | .len=>fun h=>ft h
 | .min=>fun h=>ft h
 | .max=>fun h=>ft h
 | .set=>fun h=>ft h
 | .minL=>fun h=>ft h
 | .maxL=>fun h=>ft h
 | .sorted=>fun h=>ft h
theorem bf3 {n:Nat} (k:BF) (h:Nat.beq (n+3) (wJ k)=true):False:=by
 cases k<;>first | exact nomatch (show Nat.beq (n+2) 0=true from h) | exact nomatch (show Nat.beq (n+3) 0=true from h) | exact nomatch (show Nat.beq (n+1) 0=true from h)
mutual
theorem ix (K:TabOk G T C d):(e:Ex)→(sc:Scope)→(x:Expr)→okE T e sc x=true→ct G C sc d e (reE T e sc x)
 | .none=>fun sc x h=>xG
 | .bool b=>fun sc x h=>xW
 | .int i=>fun sc x h=>sI
 | .str t=>fun sc x h=>BO
 | .loc i=>fun sc x h=>by obtain⟨k,h1,h2,h3⟩:=dT h;exact lV h1 h2 h3
 | .bin op a b=>fun sc x h=>sM (ix K a sc _ (band h).1) (ix K b sc _ (band h).2)
 | .neg a=>fun sc x h=>sH (ix K a sc _ h)
 | .not a=>fun sc x h=>BU (ix K a sc _ h)
 | .and a b=>fun sc x h=>let h2:=band (band h).2;J8 (fun _ _=>snd_and) (ix K a sc _ (band h).1) (ix K b sc _ h2.1) h2.2
 | .or a b=>fun sc x h=>let h2:=band (band h).2;J8 (fun _ _=>FK) (ix K a sc _ (band h).1) (ix K b sc _ h2.1) h2.2
 | .cmp op a b=>fun sc x h=>let h2:=band (band h).2;BZ (ix K a sc _ (band h).1) (ix K b sc _ h2.1) ((dp _).mp h2.2)
 | .ite c a b=>fun sc x h=>let h2:=band (band h).2;let h3:=band h2.2;BX (gL K c sc _ (band h).1 h2.1) (ix K a sc _ h3.1) (ix K b sc _ h3.2)
 | .lst es=>fun sc x h=>BV (dD K es sc _ (band h).1 (band h).2)
 | .tup es=>fun sc x h=>sF (dD K es sc _ (band h).1 (band h).2)
 | .dct0=>fun sc x h=>xS
 | .call f es=>fun sc x h=>let h2:=band (band h).2;uN K (band h).1 (dD K es sc _ h2.1 h2.2) h2.1
 | .meth e m es=>fun sc x h=>let h2:=band (band h).2;let h3:=band h2.2;let h4:=band h3.2;let h5:=band h4.2;let h6:=band h5.2
  uJ K (band h).1 (ix K e sc _ h2.1) h3.1 h4.1 h5.1 h6.1 (dD K es sc _ h6.1 h6.2)
 | .attr e i=>fun sc x h=>let h2:=band (band h).2;o7 K.g (ix K e sc _ h2.2) h2.1 (nH K (band h).1)
 | .dgetOf e=>fun sc x h=>q9 (ix K e sc _ (band h).2) (band h).1
 | .shasOf e=>fun sc x h=>pZ (ix K e sc _ (band h).2) (band h).1
 | .bm k e es=>fun sc x h=>let h3:=band (band h).2;let h4:=band h3.2;let h5:=band h4.2;let h6:=band h5.2
  C2 K (ix K e sc _ (band h).1) h3.1 h4.1 h5.1 h6.1 (dD K es sc _ h6.1 h6.2)
 | .bf k .nil=>fun sc x h=>by
  obtain⟨h1,h2⟩:=band h
  have h3:=h1
  cases hr:qb k
  ·show ct G C sc d _ (bif qb k then _ else _)
   rw [hr]
   exact C6 K k h3 (band h2).1
  ·rw [sT k hr] at h3
   exact Bool.noConfusion (show false=true from h3)
 | .bf k (.cons e .nil)=>fun sc x h=>by
  obtain⟨h1,h2⟩:=band h
  obtain⟨h2,h4⟩:=band h2
  have h3:=h1
  show ct G C sc d _ (bif qb k then _ else _)
  cases hr:qb k
  ·rw [hr] at h4
   exact C5 K k h3 hr h2 (band h4).1 (ix K e sc _ (band (band h4).2).1)
  ·rw [hr] at h4
   have h5:=band (band h4).2
   exact C3 K k hr h2 (band h4).1 h5.1 (ix K e sc _ (band h5.2).1)
 | .bf k (.cons e (.cons f .nil))=>fun sc x h=>by
  obtain⟨h1,h2⟩:=band h
  obtain⟨h2,h4⟩:=band h2
  have h3:=h1
  cases hr:qb k
  ·rw [hr] at h4
   show ct G C sc d _ (bif qb k then _ else _)
   rw [hr]
   have h5:=band (band h4).2
   exact C4 K k h3 h2 (band h4).1 (ix K e sc _ h5.1) (ix K f sc _ (band h5.2).1)
  ·rw [sT k hr] at h3
   exact Bool.noConfusion (show false=true from h3)
 | .bf k (.cons e (.cons f (.cons g r)))=>fun sc x h=>(bf3 k (band h).1).elim
 | .callv f es=>fun sc x h=>let h2:=band (band h).2;by obtain⟨k,e1,e2,e3⟩:=dT (band h).1;exact kP K.g (K.lam.more (uj _ _)) e1 e2 e3 (dD K es sc _ h2.1 h2.2) h2.1
 | .sub e i=>fun sc x h=>let h2:=band (band h).2;sG (ix K e sc _ h2.1) (ix K i sc _ h2.2) ((dp _).mp (band h).1)
 | .slc e lo hi=>fun sc x h=>let h2:=band (band h).2;BP (ix K e sc _ (band h).1)
   (by
    cases e0:zf 0 (kid 1 x) with
    | none=>exact .inl ⟨fE (by have:=h2.1;rw [e0] at this;exact this),rfl⟩
    | some y=>exact .inr ⟨_,rfl,ix K lo sc y (by have:=h2.1;rw [e0] at this;exact this)⟩)
   (by
    cases e0:zf 1 (kid 1 x) with
    | none=>exact .inl ⟨fE (by have:=h2.2;rw [e0] at this;exact this),rfl⟩
    | some y=>exact .inr ⟨_,rfl,ix K hi sc y (by have:=h2.2;rw [e0] at this;exact this)⟩)
 | .rev e=>fun sc x h=>BQ (ix K e sc _ h) (sH sI)
 | .comp fv it t cs more=>fun sc x h=>let h2:=band (band h).2;let h3:=band h2.2;let h4:=band h3.2;let h5:=band h4.2;let h6:=band h5.2;let h7:=band h6.2;let h8:=band h7.2
  o6 (sP K it sc _ _ (band h).1) (lR K t _ h2.1) (sQ K cs _ _ h3.1) (y3 K more _ _ _ _ _ _ 0 rfl (fun g hg=>(cu.mp hg).elim (fun e=>e▸rfl) (yd more _ g)) h4.1) (zc h5.1) (ah h6.1) (ah h7.1) h8.1 h8.2 (yd more _)
 | .newM es=>fun sc x h=>let h2:=band (band h).2;let h3:=band h2.2;uI K (CE es (band h).1) h2.1 h3.1 (dD K es sc _ h3.1 h3.2)
 | .newMatch a b c=>fun sc x h=>let h2:=band (band h).2;let h3:=band h2.2;let h4:=band h3.2;jZ K (band h).1 h2.1 (ix K a sc _ h3.1) (ix K b sc _ h4.1) (ix K c sc _ h4.2)
 | .dead=>fun sc x h=>uM
theorem gL (K:TabOk G T C d):(e:Ex)→(sc:Scope)→(x:Expr)→tOk e=true→okE T e sc x=true→pq G C sc d e (reE T e sc x)
 | .not a=>fun sc x t h=>xZ (gL K a sc _ t h)
 | .and a b=>fun sc x t h=>let h2:=band (band h).2;J7 (fun _ _=>y2) (gL K a sc _ (band t).1 (band h).1) (gL K b sc _ (band t).2 h2.1) h2.2
 | .or a b=>fun sc x t h=>let h2:=band (band h).2;J7 (fun _ _=>C8) (gL K a sc _ (band t).1 (band h).1) (gL K b sc _ (band t).2 h2.1) h2.2
 | .cmp op a b=>fun sc x t h=>let h2:=band (band h).2;y1 (ix K a sc _ (band h).1) (ix K b sc _ h2.1) ((dp _).mp h2.2)
 | .ite c a b=>fun sc x t h=>let h2:=band (band h).2;let h3:=band h2.2;y0 (gL K c sc _ (band h).1 h2.1) (gL K a sc _ (band t).1 h3.1) (gL K b sc _ (band t).2 h3.2)
 | .loc i=>fun sc x t h=>by obtain⟨k,h1,h2,h3⟩:=dT h;exact su (lV h1 h2 h3) (fun _ _=>rfl) fun ρ σ Q q=>q
 | .attr e i=>fun sc x t h=>let h2:=band (band h).2;su (o7 K.g (ix K e sc _ h2.2) h2.1 (nH K (band h).1)) (fun _ _=>rfl) fun ρ σ Q q=>q
 | .callv f es=>fun sc x t h=>let h2:=band (band h).2;by obtain⟨k,e1,e2,e3⟩:=dT (band h).1;exact su (kP K.g (K.lam.more (uj _ _)) e1 e2 e3 (dD K es sc _ h2.1 h2.2) h2.1) (fun _ _=>rfl) fun ρ σ Q q=>q
 | .sub e i=>fun sc x t h=>let h2:=band (band h).2;su (sG (ix K e sc _ h2.1) (ix K i sc _ h2.2) ((dp _).mp (band h).1)) (fun _ _=>rfl) fun ρ σ Q q=>q
 | .bin op a b=>fun sc x t h=>su (sM (ix K a sc _ (band h).1) (ix K b sc _ (band h).2)) (fun _ _=>rfl) fun ρ σ Q q=>q
 | .dead=>fun sc x t h=>uL
 | .none=>fun _ _ t _=>ft t
 | .bool _=>fun _ _ t _=>ft t
 | .int _=>fun _ _ t _=>ft t
 | .str _=>fun _ _ t _=>ft t
 | .neg _=>fun _ _ t _=>ft t
 | .lst _=>fun _ _ t _=>ft t
 | .tup _=>fun _ _ t _=>ft t
 | .dct0=>fun _ _ t _=>ft t
 | .call _ _=>fun _ _ t _=>ft t
 | .meth _ _ _=>fun _ _ t _=>ft t
 | .dgetOf _=>fun _ _ t _=>ft t
 | .shasOf _=>fun _ _ t _=>ft t
 | .bm _ _ _=>fun _ _ t _=>ft t
 | .bf _ _=>fun _ _ t _=>ft t
 | .slc _ _ _=>fun _ _ t _=>ft t
 | .rev _=>fun _ _ t _=>ft t
 | .comp _ _ _ _ _=>fun _ _ t _=>ft t
 | .newM _=>fun _ _ t _=>ft t
 | .newMatch _ _ _=>fun _ _ t _=>ft t
theorem dD (K:TabOk G T C d):(es:Exs)→(sc:Scope)→(l:List Expr)→noStar (qi T es sc l)=true→iO T es sc l=true→kg G C sc d es (qi T es sc l)
 | .nil=>fun sc l hs h=>jo
 | .cons e es=>fun sc l hs h=>fx (ix K e sc _ (band h).1) (dD K es sc _ (di hs).2 (band h).2) (di hs).1
theorem sQ (K:TabOk G T C d):(es:Exs)→(sc:Scope)→(l:List Expr)→CK T es sc l=true→oo G C sc d es (qi T es sc l)
 | .nil=>fun sc l h=>wF
 | .cons e es=>fun sc l h=>let h2:=band (band h).2;rK (gL K e sc _ (band h).1 h2.1) (sQ K es sc _ h2.2)
theorem sP (K:TabOk G T C d):(it:It)→(sc:Scope)→(tp:Bool)→(x:Expr)→CJ T it sc tp x=true→uz G C sc d tp it (oD T it sc x)
 | .rng1 e,sc,tp,x,h=>let h2:=band (band h).2;by obtain⟨g1,g2,g3⟩:=lj K (band h).1;exact CZ K.g (ix K e sc _ h2.2) h2.1 g1 g2 g3
 | .rng2 e f,sc,tp,x,h=>let h2:=band (band h).2;let h3:=band h2.2;by obtain⟨g1,g2,g3⟩:=lj K (band h).1;exact CY K.g (ix K e sc _ h3.1) (ix K f sc _ h3.2) h2.1 g1 g2 g3
 | .enum e,sc,true,x,h=>let h2:=band h;let h3:=band h2.2;by obtain⟨g1,g2,g3⟩:=lj K h2.1;exact D2 K.g (ix K e sc _ h3.2) h3.1 g1 g2 g3
 | .enum e,sc,false,x,h=>nomatch h
 | .seq e,sc,tp,x,h=>GQ (ix K e sc _ h)
 | .keys e,sc,tp,x,h=>let h2:=band (band h).2;D0 K.g (ix K e sc _ h2.2) (band h).1 h2.1
 | .items e,sc,true,x,h=>let h1:=band h;let h2:=band h1.2;zJ K.g (ix K e sc _ h2.2) h1.1 h2.1
 | .items e,sc,false,x,h=>nomatch h
theorem y3 (K:TabOk G T C d):(gs:Gens)→(sc:Scope)→(x:Expr)→(l:List Comprehension)→(gens:List Comprehension)→(scope:Scope)→(pos:Pos)→(depth:Nat)→gens.drop (depth+1)=yB T gs sc l→(∀ g∈gens,g.is_async=0)→G0 T gs sc l x=true→qd G C sc d gs (yC T gs sc x) gens scope pos depth
 | .elt e=>fun sc x l gens scope pos depth hd ha h=>wK (ix K e sc _ h) (jg.mpr (List.drop_eq_nil_iff.mp hd))
 | .cons it t cs more=>fun sc x l gens scope pos depth hd ha h =>
  let h2:=band (band h).2;let h3:=band h2.2;let h4:=band h3.2
  rV (sP K it sc _ _ (band h).1) (lR K t _ h2.1) (sQ K cs _ _ h3.1) (y3 K more sc x _ gens scope pos (depth+1) (DA hd) ha h4.1) (DB hd) (fun g' hg=>ha g' (cq hg)) (zc h4.2)
end
end
end MP
end
section
namespace MP
open PySem PyProof.Rows PySem.W
section
variable {G:Stc} {T:Tab} {C:Cal} {d:Nat} {sc:Scope}
theorem FQ (K:TabOk G T C d):(t:Tgt)→(x:Expr)→EI T sc t x=true→fK G C sc d t (sS T sc t x)
 | .var i,x,h=>by obtain⟨k,h1,h2,h3⟩:=K.own h;exact sD h1 h2
 | .attr o i,x,h=>x6 K.g (ix K o sc _ (band h).1) (nH K (band h).2)
 | .sub o i,x,h=>BH (ix K o sc _ (band h).1) (ix K i sc _ (band h).2)
 | .tup is,x,h=>BG K.unp (by rw [K.cap];exact h)
theorem A5 (t:Tgt) (x:Expr) (xs:List Expr) (env:Env):assignEach (sS T sc t x::xs) env=(false,assign (sS T sc t x) env)::assignEach xs env:=by
 cases t<;>rfl
theorem sO (K:TabOk G T C d):(ts:List Tgt)→(l:List Expr)→iM T sc ts l=true→zk G C sc d ts (ug T sc ts l)
 | [],_,_=>.nil
 | t::ts,l,h=>.cons (FQ K t _ (band h).1) (A5 t _ _) (sO K ts _ (band h).2)
theorem wZ:(ts:List Tgt)→(l:List Expr)→qY ts=true→iM T sc ts l=true→∃ i x p,ts=[.var i]∧ug T sc ts l=[.Name x p]∧x=sv sc i∧ownAt T.cap sc i=true
 | []=>fun l q h=>ft q
 | t::r=>fun l q h=>by
  cases t<;>cases r<;>first | exact⟨_,_,_,rfl,rfl,rfl,(band h).1⟩ | exact ft q
theorem K2:(ts:List Tgt)→(is:List Nat)→zK ts=some is→ts=[.tup is]
 | []=>fun is h=>gb h
 | t::r=>fun is h=>by
  cases t<;>cases r<;>first | exact gb h | (obtain rfl:=ae h;rfl)
theorem HO (K:TabOk G T C d) (t:Tg) (x:Expr) (h:yO T sc t x=true):u5 G C sc d t (lY sc t x):=(lR K t x h).plain
theorem DH {e:Ex} (h:qZ e=true):∃ fv it t cs more,e=.comp fv it t cs more:=by
 cases e<;>first | exact⟨_,_,_,_,_,rfl⟩ | exact Bool.noConfusion h
theorem C9 (K:TabOk G T C d) {ts:List Tgt} {pos:Pos} {l:List Expr} {y:Expr} {e:Ex} (hc:qZ e=true) (hv:qY ts=true) (ht:iM T sc ts l=true) (h:okE T e sc y=true):tu G C sc d (.assign ts e) (.Assign (ug T sc ts l) (reE T e sc y) pos):=by
  obtain⟨fv,it,t,cs,more,rfl⟩:=DH hc
  obtain⟨i,x',p',rfl,e2,rfl,hk⟩:=wZ ts l hv ht
  obtain⟨kd,o1,o2,o3⟩:=K.own hk
  rw [e2]
  have h2:=band (band h).2
  have h3:=band h2.2
  have h4:=band h3.2
  have h5:=band h4.2
  have h6:=band h5.2
  have h7:=band h6.2
  have h8:=band h7.2
  exact iC o1 o2 (sP K it sc _ _ (band h).1) (lR K t _ h2.1) (sQ K cs _ _ h3.1) (y3 K more _ _ _ _ _ _ 0 rfl (fun g hg=>(cu.mp hg).elim (fun e=>e▸rfl) (yd more _ g)) h4.1) (zc h5.1) (ah h6.1) (ah h7.1) h8.1 h8.2 (yd more _)
theorem uR (K:TabOk G T C d) {ts:List Tgt} {e:Ex} {pos:Pos} {l:List Expr} {y:Expr} (h:okE T e sc y=true):(o:Option (Option (List Str)))→swp sc (ug T sc ts l) (reE T e sc y)=o→EJ T sc ts e (ug T sc ts l) l (reE T e sc y) o=true→tu G C sc d (.assign ts e) (.Assign (ug T sc ts l) (reE T e sc y) pos)
 | none,_,h2=>nomatch h2
 | some none,hw,h2=>(Classical.em (wc (reE T e sc y)=true)).elim (fun hc=>qB (sO K ts l (band h2).1) (ix K e sc y h) hc hw) fun hc =>
  ((lz ..).mp (band h2).2).elim (fun h3=>absurd h3 hc) fun h3=>C9 K (band h3).2 (band h3).1 (band h2).1 h
 | some (some names),hw,h2=>by
  obtain⟨is,e1,h3⟩:=any_some h2
  obtain rfl:=K2 ts is e1
  exact snd_swap K.unp (ix K e sc y h) (band h3).1 hw (by rw [K.cap];exact(band (band h3).2).1) (ah (band (band h3).2).2)
mutual
theorem K4 (K:TabOk G T C d):(s:Stm)→(x:Stmt)→okS T sc s x=true→tu G C sc d s (reS T sc s x)
 | .assign ts e=>fun x h=>uR K (band h).1 _ rfl (band h).2
 | .aug i op e=>fun x h=>by
  obtain⟨k,o1,o2,o3⟩:=K.own (band (band h).2).1
  exact C7 (((lz ..).mp (band h).1).imp ah ah) (ix K e sc _ (band (band h).2).2) o1 o2 o3
 | .delD o i=>fun x h=>BY (ix K o sc _ (band h).1) (ix K i sc _ (band h).2)
 | .expr e=>fun x h=>xP (ix K e sc _ (band h).2) (band h).1
 | .cond c t e=>fun x h=>let h2:=band (band h).2;let h3:=band h2.2;xU (gL K c sc _ (band h).1 h2.1) (fU K t _ h3.1) (fU K e _ h3.2)
 | .loop c b=>fun x h=>let h2:=band (band h).2;xO (gL K c sc _ (band h).1 h2.1) (fU K b _ h2.2)
 | .each t it b=>fun x h=>let h2:=band (band h).2;let h3:=band h2.2;xQ (HO K t _ (band h).1) (sP K it sc _ _ h2.1) (fU K b _ h3.1) (zc h3.2)
 | .ret e=>fun x h=>by
  show tu G C sc d _ (.Return ((vn x).head?.map (reE T e sc)) x.pos)
  have h:(match (vn x).head? with | some y=>okE T e sc y | none=>e.isNone)=true:=h
  cases q:(vn x).head? with
  | some y=>rw [q] at h;exact BR (ix K e sc y h)
  | none=>rw [q] at h;obtain rfl:=fE h;exact xE
 | .brk=>fun x h=>C1
 | .cont=>fun x h=>xT
 | .pass=>fun x h=>by
  show tu G C sc d _ (bif (vn x).isEmpty then _ else _)
  cases (vn x).isEmpty
  ·exact sL
  ·exact xF
 | .dead=>fun x h=>xR
theorem fU (K:TabOk G T C d):(b:jt)→(l:List Stmt)→iN T sc b l=true→c7 G C sc d b (dJ T sc b l)
 | .nil=>fun l h=>uQ
 | .cons s ss=>fun l h=>qC (K4 K s _ (band h).1) (fU K ss _ (band h).2)
end
end
end MP
end
section
namespace MP
open PySem PyProof.Rows PySem.W
structure nQ (G:Stc) (T:Tab):Prop where
 g:GOk G
 gl:∀ x v,T.gl.lookup x=some v→G.gl x=some v
 attrs:G.attrs=T.attrs
 cap:G.cap=T.cap
 meth:∀ k name,T.meths.lookup k=some name→∃ f,T.fns.lookup k=some f∧MethAt G name f
 init:∃ f,T.fns.lookup 0=some f∧nN G f
 cM:G.cM=T.cM
 cS:G.cS=T.cS
 mt:∃ fN fM,pf G fN fM∧lM G fN
 ma:wm G
structure rY (G:Stc) (T:Tab) (P:Nat→Option Fn):Prop where
 base:nQ G T
 lam:∀ k cs a,G.clo k cs a→∃ n sc e b,P (1000+k)=some ⟨n+cs.length,[],.cons (.ret b) .nil⟩∧pT G a n cs sc e∧okE T b sc e=true∧reE T b sc e=e
 fn:∀ k a,T.fns.lookup k=some a→∃ fn sc body,P k=some fn∧FnAt G a fn.n fn.dflt sc body∧iN T sc fn.body body=true∧dJ T sc fn.body body=body
section
variable {G:Stc} {T:Tab} {P:Nat→Option Fn}
theorem nQ.tab (B:nQ G T) {C:Cal} {d:Nat} (hc:eH G (fun k=>T.fns.lookup k) C (d-1)) (hl:jS G C (d-1)) (hd:3≤d):TabOk G T C d :=
 ⟨B.g,B.gl,B.attrs,B.cap,hc,hl,B.meth,B.init,B.cM,B.cS,B.mt,B.ma,K1 B.ma,hd⟩
theorem tX (K:rY G T P):∀ n,eH G (fun k=>T.fns.lookup k) (gy P n) (2*n+2)∧jS G (gy P n) (2*n+2)
 | 0=>⟨fun k a hk=>by
  obtain⟨fn,sc,body,hp,hf,hc⟩:=K.fn k a hk
  obtain⟨o,fd,h1,h2,_⟩:=hf.here
  exact⟨⟨o,fd,h1,h2⟩,fun A E vs ws σ Q s ao R vr h=>h.elim⟩,fun k cs a hk=>by
  obtain⟨m,sc,e,b,hp,hf,hc⟩:=K.lam k cs a hk
  obtain⟨o,fd,h1,h2,_⟩:=hf.here
  exact⟨⟨o,fd,h1,h2⟩,fun A E vs ws σ Q s ao R vr h=>h.elim⟩⟩
 | n+1=>by
  obtain⟨hc0,hl0⟩:=tX K n
  have tb:TabOk G T (gy P n) (2*n+3):=K.base.tab hc0 hl0 (by exact ic (.k (.n 3) (.a (.m 2 .A) (.n 3))) .i)
  refine⟨fun k a hk=>?_,fun k cs a hk=>?_⟩
  ·obtain⟨fn,sc,body,hp,hf,hc⟩:=K.fn k a hk
   obtain⟨o,fd,h1,h2,_⟩:=hf.here
   refine⟨⟨o,fd,h1,h2⟩,fun A E vs ws σ Q s ao R vr h=>?_⟩
   obtain⟨fn',hp',l1,l2,h⟩:=h
   obtain rfl:=ae (hp.symm.trans hp')
   exact DK (b:=fn.body) (d:=2*n+3) hf (hc.2▸fU tb fn.body body hc.1) ao R vr l1 l2 h
  ·obtain⟨m,sc,e,b,hp,hf,hk1,hk2⟩:=K.lam k cs a hk
   obtain⟨o,fd,h1,h2,_⟩:=hf.here
   refine⟨⟨o,fd,h1,h2⟩,fun A E vs ws σ Q s ao R vr h=>?_⟩
   obtain⟨fn',hp',l1,l2,h⟩:=h
   obtain rfl:=ae (hp.symm.trans hp')
   have hfr:frameOf ⟨m+cs.length,[],.cons (.ret b) .nil⟩ (vs++cs)=fun i=>(vs++cs)[i]?:=by
    funext i
    unfold frameOf cR
    dsimp only
    rw [List.drop_nil,fc]
   rw [hfr] at h
   have hl:vs.length=m:=by
    rw [bz] at l1 l2
    dsimp only [List.length_nil] at l1 l2
    (exact gr .B .l (.k .Y .R) (.k .R (.a .Y .O)) l1 l2)
   exact AI (d:=2*n+3) hf (hk2▸ix tb b sc e hk1) ao R vr hl h
end
end MP
end
section
namespace MP
open PySem PyProof.Rows PySem.W
noncomputable def uC:Value→Tok
 | .int _ t=>t
 | .str _ t=>t
 | _=>0
noncomputable def sC:Value→Addr
 | .ref a=>a
 | _=>0
noncomputable def rJ:V→Value→Bool
 | .none=>fun w=>decide (w=.none)
 | .bool a=>fun w=>decide (w=.bool a)
 | .int a=>fun w=>decide (w=.int a (uC w))
 | .str a=>fun w=>decide (w=.str a (uC w))
 | _=>fun _=>false
noncomputable def gY:List V→List Value→Bool
 | []=>fun ws=>ws.isEmpty
 | v::vs=>fun ws=>!ws.isEmpty&&(rJ v (ws.headD .none)&&gY vs ws.tail)
theorem wD {G:Stc} {h:Heap} {v:V} {w:Value} (e:rJ v w=true):VR G h v w:=by
 cases v<;>first | exact ah e▸.none | exact ah e▸.bool _ | exact ah e▸.int _ _ | exact ah e▸.str _ _ | exact Bool.noConfusion e
theorem jH {G:Stc} {h:Heap}:(vs:List V)→(ws:List Value)→gY vs ws=true→VRs G h vs ws
 | []=>fun ws e=>by
  cases ws with
  | nil=>exact .nil
  | cons w ws=>exact Bool.noConfusion (show false=true from e)
 | v::vs=>fun ws e=>by
  cases ws with
  | nil=>exact Bool.noConfusion (show false=true from e)
  | cons w ws =>
   have e:=band (show(rJ v w&&gY vs ws)=true from e)
   exact .cons (wD e.1) (jH vs ws e.2)
noncomputable def nA:Data→Option FuncData
 | .func f=>some f
 | _=>none
noncomputable def cP:Data→Option (Array Value)
 | .fields vs=>some vs
 | _=>none
noncomputable def tV:Data→Option (Array Value × Nat)
 | .seq vs n=>some (vs,n)
 | _=>none
theorem lF {d:Data} {f:FuncData} (h:nA d=some f):d=.func f:=by
 cases d<;>first | exact bu _ (ae h) | exact gb h
theorem bO {d:Data} {f:Array Value} (h:cP d=some f):d=.fields f:=by
 cases d<;>first | exact bu _ (ae h) | exact gb h
theorem rI {d:Data} {f:Array Value × Nat} (h:tV d=some f):d=.seq f.1 f.2:=by
 cases d<;>first | exact ae h▸rfl | exact gb h
noncomputable def AM:FuncBody→Option (List Stmt)
 | .stmts b=>some b
 | .expr _=>none
theorem AL {d:FuncBody} {f:List Stmt} (h:AM d=some f):d=.stmts f:=by
 cases d
 ·exact bu _ (ae h)
 ·exact gb h
noncomputable def told {α:Type} (f:Data→Option α) (h:Heap) (a:Addr):Option α:=(h.get? a).bind fun o=>f o.data
theorem gV {α:Type} {f:Data→Option α} {h:Heap} {a:Addr} {x:α} (e:told f h a=some x):∃ o,h.get? a=some o∧f o.data=some x:=cw.mp e
noncomputable def tW (h:Heap) (cd:Value) (q:Str):Bool:=decide (cd=.ref (sC cd))&&(told cP h (sC cd)).any fun vs=>(vs[1]?:Option Value).any fun w=>decide (w=.str q (uC w))
noncomputable def DE (h:Heap) (dflt:List V) (v:Value):Bool:=(decide (v=.none)&&dflt.isEmpty)||(decide (v=.ref (sC v))&&(told tV h (sC v)).any fun ds=>gY dflt ds.1.toList)
noncomputable def IG (T:Tab) (h:Heap) (fn:Fn) (fd:FuncData) (body:List Stmt):Bool :=
 decide (fd.scope.kind=.function)&&(!fd.scope.isCoroutine&&(!fd.scope.isGenerator&&(decide ((fd.scope.names.map (·.1)).Nodup)&&(fd.scope.names.all (fun p=>p.2 != .free)&&(fd.closure.isEmpty&&(decide (fd.globals=mainGlobals)&&(decide (fd.builtins=builtinsNs) &&
 (tW h fd.code fd.qualname&&(pg fd.params&&(kn (fd.params.args.map (·.arg)) fd.scope.names&&(decide (fd.params.args.length=fn.n)&&(DE h fn.dflt fd.defaults&&(decide (fn.dflt.length≤fn.n)&&iN T fd.scope fn.body body)))))))))))))
noncomputable def GV (fd:FuncData):Option (Scope × List Stmt):=(AM fd.body).map fun b=>(fd.scope,b)
noncomputable def bodyOf (h:Heap) (a:Addr):Option (Scope × List Stmt):=(told nA h a).bind GV
noncomputable def j7 (T:Tab) (h:Heap) (fn:Fn) (a:Addr):Bool:=(told nA h a).any fun fd=>(AM fd.body).any fun b=>IG T h fn fd b
theorem rL {h:Heap} {cd:Value} {q:Str} (e:tW h cd q=true):h.CodeRec cd q:=by
 obtain⟨vs,hv,e2⟩:=any_some (band e).2
 obtain⟨o,ho,hd⟩:=gV hv
 obtain⟨w,hw,e3⟩:=any_some e2
 exact⟨_,o,vs,_,ah (band e).1,ho,bO hd,hw.trans (bu some (ah e3))⟩
theorem mG {l:List (Str × NameKind)} (h:l.all (fun p=>p.2 != .free)=true) (i:Nat) (x:Str):l[i]?≠some (x,.free):=fun e =>
 absurd (iy.mp h _ (cq e)) (by simp)
theorem zT {G:Stc} {T:Tab} {fn:Fn} {a:Addr} {h₀:Heap} (hk:∀ b o,h₀.get? b=some o→G.hb.get? b=some o) (lim:G.hb.NoLimit) (e:j7 T h₀ fn a=true):∃ x,bodyOf h₀ a=some x∧FnAt G a fn.n fn.dflt x.1 x.2∧iN T x.1 fn.body x.2=true:=by
 obtain⟨fd,h1,e⟩:=any_some e
 obtain⟨b,h2,e⟩:=any_some e
 obtain⟨o,ho,hd⟩:=gV h1
 have g1:=band e
 have g2:=band g1.2
 have g3:=band g2.2
 have g4:=band g3.2
 have g5:=band g4.2
 have g6:=band g5.2
 have g7:=band g6.2
 have g8:=band g7.2
 have g9:=band g8.2
 have g10:=band g9.2
 have g11:=band g10.2
 have g12:=band g11.2
 have g13:=band g12.2
 have g14:=band g13.2
 refine⟨(fd.scope,b),(cw.mpr ⟨fd,h1,bu (Option.map fun b=>(fd.scope,b)) h2⟩),⟨lim,ah g1.1,(dp _).mp g2.1,(dp _).mp g3.1,ah g4.1,mG g5.1,o,fd,hk _ _ ho,lF hd,rfl,AL h2,eN.mp g6.1,ah g7.1,ah g8.1,(rL g9.1).keeps hk,g10.1,g11.1,ah g12.1,?_,ah g14.1⟩,g14.2⟩
 refine((lz ..).mp g13.1).imp (fun q=>⟨ah (band q).1,eN.mp (band q).2⟩) fun q=>?_
 obtain⟨ds,h3,q2⟩:=any_some (band q).2
 obtain⟨ot,hot,hds⟩:=gV h3
 exact⟨_,ot,ds.1.toList,ds.2,ah (band q).1,hk _ _ hot,rI hds,jH _ _ q2⟩
noncomputable def FV (T:Tab) (fn:Fn) (x:Scope × List Stmt):Scope × List Stmt:=(x.1,dJ T x.1 fn.body x.2)
theorem IF {G:Stc} {T:Tab} {fn:Fn} {a:Addr} {h₀:Heap} (hk:∀ b o,h₀.get? b=some o→G.hb.get? b=some o) (lim:G.hb.NoLimit) (e:j7 T h₀ fn a=true) (e':bodyOf h₀ a=(bodyOf h₀ a).map (FV T fn)) :
  ∃ sc body,FnAt G a fn.n fn.dflt sc body∧iN T sc fn.body body=true∧dJ T sc fn.body body=body:=by
 obtain⟨x,hx,h1,h2⟩:=zT hk lim e
 rw [hx] at e'
 exact⟨x.1,x.2,h1,h2,(bu Prod.snd (ae e')).symm⟩
theorem D6 {G:Stc} {T:Tab} {fn:Fn} {a:Addr} {h₀:Heap} (hk:∀ b o,h₀.get? b=some o→G.hb.get? b=some o) (lim:G.hb.NoLimit) (e:j7 T h₀ fn a=true) {f:Scope × List Stmt→Scope × List Stmt} (e':bodyOf h₀ a=(bodyOf h₀ a).map f):∃ x,bodyOf h₀ a=some x∧FnAt G a fn.n fn.dflt (f x).1 (f x).2:=by
 obtain⟨x,hx,h1,_⟩:=zT hk lim e
 rw [hx] at e'
 exact⟨x,hx,ae e'▸h1⟩
end MP
end
section
namespace MP
namespace SM
noncomputable def fn0:Fn:=⟨5,[.none,.str "",.str "",.bool true],(.cons .pass
 (.cons (.assign [(.attr (.loc 0) 0)] (.loc 1))
 (.cons (.assign [(.attr (.loc 0) 1),(.attr (.loc 0) 2)] .none)
 (.cons (.assign [(.attr (.loc 0) 3)] (.loc 4))
 (.cons (.expr (.meth (.loc 0) 1 (.cons (.loc 2) (.cons (.loc 3) .nil))))
 .nil)))))⟩
noncomputable def fn1:Fn:=⟨3,[],(.cons .pass
 (.cons (.expr (.meth (.loc 0) 2 (.cons (.loc 1) .nil)))
 (.cons (.expr (.meth (.loc 0) 3 (.cons (.loc 2) .nil)))
 .nil)))⟩
noncomputable def fn2:Fn:=⟨2,[],(.cons .pass
 (.cons (.cond (.cmp .is (.loc 1) (.attr (.loc 0) 1)) (.cons (.ret .none)
 .nil) .nil)
 (.cons (.assign [(.attr (.loc 0) 1)] (.loc 1))
 (.cons (.assign [(.attr (.loc 0) 4),(.attr (.loc 0) 5)] .none)
 .nil))))⟩
noncomputable def fn3:Fn:=⟨2,[],(.cons .pass
 (.cons (.cond (.cmp .is (.loc 1) (.attr (.loc 0) 2)) (.cons (.ret .none)
 .nil) .nil)
 (.cons (.assign [(.attr (.loc 0) 2)] (.loc 1))
 (.cons (.assign [(.attr (.loc 0) 4),(.attr (.loc 0) 5)] .none)
 (.cons (.assign [(.attr (.loc 0) 6)] .none)
 (.cons (.expr (.meth (.loc 0) 4 .nil))
 .nil))))))⟩
noncomputable def fn5:Fn:=⟨5,[.int 0,.none,.int 0,.none],(.cons .pass
 (.cons (.assign [(.tup [5,6,7,8])] (.tup (.cons (.attr (.loc 0) 1) (.cons (.attr (.loc 0) 2) (.cons (.attr (.loc 0) 7) (.cons (.shasOf (.attr (.loc 0) 8)) .nil))))))
 (.cons (.cond (.cmp .is (.loc 2) .none) (.cons (.assign [(.var 2)] (.bf .len (.cons (.loc 5) .nil)))
 .nil) .nil)
 (.cons (.cond (.cmp .is (.loc 4) .none) (.cons (.assign [(.var 4)] (.bf .len (.cons (.loc 6) .nil)))
 .nil) .nil)
 (.cons (.assign [.tup [9,10,11]] (.tup (.cons (.loc 1) (.cons (.loc 3) (.cons (.int 0) .nil)))))
 (.cons (.assign [(.var 12)] .dct0)
 (.cons (.assign [(.var 13)] (.lst .nil))
 (.cons (.each (.var 14) (.rng2 (.loc 1) (.loc 2)) (.cons (.assign [(.var 15)] (.dgetOf (.loc 12)))
 (.cons (.assign [(.var 16)] .dct0)
 (.cons (.each (.var 17) (.seq (.bm .get (.loc 7) (.cons (.sub (.loc 5) (.loc 14)) (.cons (.loc 13) .nil)))) (.cons (.cond (.cmp .lt (.loc 17) (.loc 3)) (.cons .cont
 .nil) .nil)
 (.cons (.cond (.cmp .ge (.loc 17) (.loc 4)) (.cons .brk
 .nil) .nil)
 (.cons (.assign [(.var 18),(.sub (.loc 16) (.loc 17))] (.bin .add (.callv 15 (.cons (.bin .sub (.loc 17) (.int 1)) (.cons (.int 0) .nil))) (.int 1)))
 (.cons (.cond (.cmp .gt (.loc 18) (.loc 11)) (.cons (.assign [.tup [9,10,11]] (.tup (.cons (.bin .add (.bin .sub (.loc 14) (.loc 18)) (.int 1)) (.cons (.bin .add (.bin .sub (.loc 17) (.loc 18)) (.int 1)) (.cons (.loc 18) .nil)))))
 .nil) .nil)
 .nil)))))
 (.cons (.assign [(.var 12)] (.loc 16))
 .nil)))))
 (.cons (.loop (.and (.cmp .gt (.loc 9) (.loc 1)) (.and (.cmp .gt (.loc 10) (.loc 3)) (.and (.not (.callv 8 (.cons (.sub (.loc 6) (.bin .sub (.loc 10) (.int 1))) .nil))) (.cmp .eq (.sub (.loc 5) (.bin .sub (.loc 9) (.int 1))) (.sub (.loc 6) (.bin .sub (.loc 10) (.int 1))))))) (.cons (.assign [.tup [9,10,11]] (.tup (.cons (.bin .sub (.loc 9) (.int 1)) (.cons (.bin .sub (.loc 10) (.int 1)) (.cons (.bin .add (.loc 11) (.int 1)) .nil)))))
 .nil))
 (.cons (.loop (.and (.cmp .lt (.bin .add (.loc 9) (.loc 11)) (.loc 2)) (.and (.cmp .lt (.bin .add (.loc 10) (.loc 11)) (.loc 4)) (.and (.not (.callv 8 (.cons (.sub (.loc 6) (.bin .add (.loc 10) (.loc 11))) .nil))) (.cmp .eq (.sub (.loc 5) (.bin .add (.loc 9) (.loc 11))) (.sub (.loc 6) (.bin .add (.loc 10) (.loc 11))))))) (.cons (.aug 11 .add (.int 1))
 .nil))
 (.cons (.loop (.and (.cmp .gt (.loc 9) (.loc 1)) (.and (.cmp .gt (.loc 10) (.loc 3)) (.and (.callv 8 (.cons (.sub (.loc 6) (.bin .sub (.loc 10) (.int 1))) .nil)) (.cmp .eq (.sub (.loc 5) (.bin .sub (.loc 9) (.int 1))) (.sub (.loc 6) (.bin .sub (.loc 10) (.int 1))))))) (.cons (.assign [.tup [9,10,11]] (.tup (.cons (.bin .sub (.loc 9) (.int 1)) (.cons (.bin .sub (.loc 10) (.int 1)) (.cons (.bin .add (.loc 11) (.int 1)) .nil)))))
 .nil))
 (.cons (.loop (.and (.cmp .lt (.bin .add (.loc 9) (.loc 11)) (.loc 2)) (.and (.cmp .lt (.bin .add (.loc 10) (.loc 11)) (.loc 4)) (.and (.callv 8 (.cons (.sub (.loc 6) (.bin .add (.loc 10) (.loc 11))) .nil)) (.cmp .eq (.sub (.loc 5) (.bin .add (.loc 9) (.loc 11))) (.sub (.loc 6) (.bin .add (.loc 10) (.loc 11))))))) (.cons (.assign [(.var 11)] (.bin .add (.loc 11) (.int 1)))
 .nil))
 (.cons (.ret (.newMatch (.loc 9) (.loc 10) (.loc 11)))
 .nil)))))))))))))⟩
end SM
end MP
end
section
namespace MP
namespace R2
open SM
noncomputable def fn4:Fn:=⟨1,[],(.cons (.assign [(.var 1)] (.attr (.loc 0) 2))
 (.cons (.assign [(.attr (.loc 0) 7),(.var 2)] .dct0)
 (.cons (.each (.tup [3,4]) (.enum (.loc 1)) (.cons (.assign [(.var 5)] (.bm .setdefault (.loc 2) (.cons (.loc 4) (.cons (.lst .nil) .nil))))
 (.cons (.expr (.bm .append (.loc 5) (.cons (.loc 3) .nil)))
 .nil)))
 (.cons (.assign [(.attr (.loc 0) 8),(.var 6)] (.bf .set .nil))
 (.cons (.assign [(.var 7)] (.attr (.loc 0) 0))
 (.cons (.cond (.loc 7) (.cons (.each (.var 4) (.keys (.loc 2)) (.cons (.cond (.callv 7 (.cons (.loc 4) .nil)) (.cons (.expr (.bm .add (.loc 6) (.cons (.loc 4) .nil)))
 .nil) .nil)
 .nil))
 (.cons (.each (.var 4) (.seq (.loc 6)) (.cons (.delD (.loc 2) (.loc 4))
 .nil))
 .nil)) .nil)
 (.cons (.assign [(.attr (.loc 0) 9),(.var 8)] (.bf .set .nil))
 (.cons (.assign [(.var 9)] (.bf .len (.cons (.loc 1) .nil)))
 (.cons (.cond (.and (.attr (.loc 0) 3) (.cmp .ge (.loc 9) (.int 200))) (.cons (.assign [(.var 10)] (.bin .add (.bin .fdiv (.loc 9) (.int 100)) (.int 1)))
 (.cons (.each (.tup [4,11]) (.items (.loc 2)) (.cons (.cond (.cmp .gt (.bf .len (.cons (.loc 11) .nil)) (.loc 10)) (.cons (.expr (.bm .add (.loc 8) (.cons (.loc 4) .nil)))
 .nil) .nil)
 .nil))
 (.cons (.each (.var 4) (.seq (.loc 8)) (.cons (.delD (.loc 2) (.loc 4))
 .nil))
 .nil))) .nil)
 .nil)))))))))⟩
noncomputable def mY:Fn:=⟨7,[],(.cons (.assign [(.var 7)] (.lst (.cons (.tup (.cons (.int 0) (.cons (.loc 2) (.cons (.loc 4) .nil)))) .nil)))
 (.cons (.each (.var 8) (.rng2 (.loc 2) (.loc 3)) (.cons (.each (.var 9) (.rng2 (.loc 4) (.loc 5)) (.cons (.assign [(.var 10)] (.int 0))
 (.cons (.loop (.and (.cmp .lt (.bin .add (.loc 8) (.loc 10)) (.loc 3)) (.and (.cmp .lt (.bin .add (.loc 9) (.loc 10)) (.loc 5)) (.and (.sub (.loc 6) (.bin .add (.loc 8) (.loc 10))) (.cmp .eq (.sub (.loc 0) (.bin .add (.loc 8) (.loc 10))) (.sub (.loc 1) (.bin .add (.loc 9) (.loc 10))))))) (.cons (.aug 10 .add (.int 1))
 .nil))
 (.cons (.expr (.bm .append (.loc 7) (.cons (.tup (.cons (.neg (.loc 10)) (.cons (.loc 8) (.cons (.loc 9) .nil)))) .nil)))
 .nil))))
 .nil))
 (.cons (.assign [(.tup [10,8,9])] (.bf .minL (.cons (.loc 7) .nil)))
 (.cons (.ret (.tup (.cons (.loc 8) (.cons (.loc 9) (.cons (.neg (.loc 10)) .nil)))))
 .nil))))⟩
noncomputable def fC:Fn:=⟨3,[],(.cons (.assign [(.var 3)] (.lst .nil))
 (.cons (.each (.var 4) (.rng1 (.bin .add (.bf .min (.cons (.bf .len (.cons (.loc 0) .nil)) (.cons (.bf .len (.cons (.loc 1) .nil)) .nil))) (.int 1))) (.cons (.assign [(.var 5)] (.comp [(2,2)] (.seq (.slc (.loc 0) .none (.loc 4))) (.var 1) .nil (.elt (.callv 2 (.cons (.loc 1) .nil)))))
 (.cons (.cond (.and (.cmp .eq (.slc (.loc 0) .none (.loc 4)) (.slc (.loc 1) .none (.loc 4))) (.cmp .eq (.loc 5) (.bf .sorted (.cons (.loc 5) .nil)))) (.cons (.expr (.bm .append (.loc 3) (.cons (.loc 4) .nil)))
 .nil) .nil)
 .nil)))
 (.cons (.ret (.bf .maxL (.cons (.loc 3) .nil)))
 .nil)))⟩
noncomputable def oF:jt:=(.cons (.assign [(.var 0)] (.slc (.loc 0) .none (.int 63)))
 (.cons (.assign [(.tup [28,1,2,3,4,5,6])] (.slc (.bin .add (.loc 0) (.bin .mul (.lst (.cons (.int 0) .nil)) (.int 7))) .none (.int 7)))
 (.cons (.assign [(.var 7)] (.slc (.loc 0) (.int 7) .none))
 (.cons (.assign [(.var 8)] (.sub (.lst (.cons (.int 0) (.cons (.int 3) (.cons (.int 5) (.cons (.int 8) .nil))))) (.bin .mod (.loc 1) (.int 4))))
 (.cons (.cond (.cmp .gt (.loc 8) (.int 0)) (.cons (.assign [(.var 7)] (.comp [(2,8)] (.seq (.loc 7)) (.var 1) .nil (.elt (.bin .mod (.loc 1) (.loc 2)))))
 .nil) .nil)
 (.cons (.assign [(.var 6)] (.bin .mod (.loc 6) (.bin .add (.bf .len (.cons (.loc 7) .nil)) (.int 1))))
 (.cons (.assign [(.var 9)] (.bin .mul (.lst (.cons (.int 0) .nil)) (.bin .mul (.int 25) (.bin .mod (.loc 1) (.int 9)))))
 (.cons (.assign [(.var 10)] (.slc (.loc 7) .none (.loc 6)))
 (.cons (.assign [(.var 11)] (.bin .add (.bin .add (.loc 9) (.slc (.loc 7) (.loc 6) .none)) (.loc 9)))
 (.cons (.assign [(.var 2)] (.bin .mod (.loc 2) (.bin .add (.bf .len (.cons (.loc 10) .nil)) (.int 2))))
 (.cons (.assign [(.var 4)] (.bin .mod (.loc 4) (.bin .add (.bf .len (.cons (.loc 11) .nil)) (.int 2))))
 (.cons (.assign [(.var 12)] (.bin .sub (.bin .add (.bf .len (.cons (.loc 10) .nil)) (.int 1)) (.bf .max (.cons (.loc 2) (.cons (.int 1) .nil)))))
 (.cons (.assign [(.var 13)] (.bin .sub (.bin .add (.bf .len (.cons (.loc 11) .nil)) (.int 1)) (.bf .max (.cons (.loc 4) (.cons (.int 1) .nil)))))
 (.cons (.assign [(.var 14)] (.bin .mod (.loc 3) (.bin .add (.loc 12) (.int 1))))
 (.cons (.assign [(.var 15)] (.bin .mod (.loc 5) (.bin .add (.loc 13) (.int 1))))
 .nil)))))))))))))))
noncomputable def fW:jt:=(.cons (.assign [(.var 17)] (.ite (.cmp .ge (.bf .len (.cons (.loc 11) .nil)) (.int 200)) (.bin .add (.bin .fdiv (.bf .len (.cons (.loc 11) .nil)) (.int 100)) (.int 1)) (.bf .len (.cons (.loc 11) .nil))))
 (.cons (.assign [(.var 18)] (.comp [(3,11),(4,16),(5,17)] (.seq (.loc 10)) (.var 1) .nil (.elt (.and (.cmp .eq (.callv 4 (.cons (.loc 1) .nil)) (.int 0)) (.cmp .le (.bf .len (.cons (.comp [(2,1)] (.seq (.loc 3)) (.var 1) (.cons (.cmp .eq (.loc 1) (.loc 2)) .nil) (.elt (.loc 1))) .nil)) (.loc 5))))))
 (.cons (.assign [(.var 19)] (.newM (.cons (.ite (.cmp .eq (.bin .mod (.loc 28) (.int 256)) (.int 0)) .none (.loc 16)) (.cons (.loc 10) (.cons (.loc 11) .nil)))))
 (.cons (.assign [(.tup [20,21,22])] (.meth (.loc 19) 5 (.cons (.loc 14) (.cons (.ite (.cmp .eq (.loc 2) (.int 0)) .none (.loc 12)) (.cons (.loc 15) (.cons (.ite (.cmp .eq (.loc 4) (.int 0)) .none (.loc 13)) .nil))))))
 (.cons (.assign [(.tup [23,24,25])] (.call 10 (.cons (.loc 10) (.cons (.loc 11) (.cons (.loc 14) (.cons (.loc 12) (.cons (.loc 15) (.cons (.loc 13) (.cons (.loc 18) .nil)))))))))
 (.cons (.assign [(.var 26)] (.call 11 (.cons (.rev (.slc (.loc 10) (.loc 14) (.loc 23))) (.cons (.rev (.slc (.loc 11) (.loc 15) (.loc 24))) (.cons (.loc 16) .nil)))))
 (.cons (.assign [(.var 27)] (.call 11 (.cons (.slc (.loc 10) (.bin .add (.loc 23) (.loc 25)) (.loc 12)) (.cons (.slc (.loc 11) (.bin .add (.loc 24) (.loc 25)) (.loc 13)) (.cons (.loc 16) .nil)))))
 (.cons (.ret (.cmp .eq (.tup (.cons (.loc 20) (.cons (.loc 21) (.cons (.loc 22) .nil)))) (.tup (.cons (.bin .sub (.loc 23) (.loc 26)) (.cons (.bin .sub (.loc 24) (.loc 26)) (.cons (.bin .add (.bin .add (.loc 26) (.loc 25)) (.loc 27)) .nil))))))
 .nil))))))))
noncomputable def zD:Ex:=(.bin .mod (.bin .fdiv (.loc 1) (.bin .pow (.int 2) (.bin .mod (.loc 0) (.int 8)))) (.int 2))
noncomputable def fnL:Fn:=⟨2,[],.cons (.ret zD) .nil⟩
noncomputable def P (k:Nat):Option Fn:=match k with
 | 0=>some SM.fn0 | 1=>some SM.fn1 | 2=>some SM.fn2 | 3=>some SM.fn3 | 4=>some fn4 | 5=>some SM.fn5 | 10=>some mY | 11=>some fC | 1000=>some fnL | _=>none
noncomputable def BL (cap:PySem.Str→Bool):Tab where
 cap:=cap
 gl:=[("len",.builtin "len"),("sorted",.builtin "sorted"),("min",.builtin "min"),("max",.builtin "max"),("divmod",.builtin "divmod"),("set",.type "set"),("list",.type "list"),("range",.type "range"),("map",.type "map"),("enumerate",.type "enumerate"),("tuple",.type "tuple"),("Match",.ref 135),("SequenceMatcher",.ref 242),("_law_core",.ref 253),("_law_growth",.ref 258),("law",.ref 263)]
 attrs:=["isjunk","a","b","autojunk","matching_blocks","opcodes","fullbcount","b2j","bjunk","bpopular"]
 meths:=[(0,"__init__"),(1,"set_seqs"),(2,"set_seq1"),(3,"set_seq2"),(4,"_SequenceMatcher__chain_b"),(5,"find_longest_match")]
 fns:=[(0,160),(1,167),(2,174),(3,181),(4,188),(5,196),(10,253),(11,258)]
 cM:=135
 cS:=242
noncomputable def cap (x:PySem.Str):Bool:=decide (x=PySem.Str.ofString "bits")
noncomputable abbrev tab:Tab:=BL cap
noncomputable abbrev BN:Tab:=BL fun _=>false
end R2
end MP
end
section
namespace MP
open PySem PyProof.Rows PySem.W
noncomputable def newOf (b:List Stmt):List Stmt :=
 let s0:=b.getD 0 default;let s1:=b.getD 1 default;let d:=st0 s0;let c:=st0 s1;let f:=kid 0 c;let t:=kid 2 c
 mJ d.pos s0.pos (kid 0 f).pos f.pos (kid 1 c).pos (kid 0 t).pos (kid 1 t).pos (kid 2 t).pos t.pos c.pos s1.pos (zZ d) (exK d) (exK t)
noncomputable def CL (b:List Stmt):Bool:=(kid 0 (st0 (b.getD 1 default))).pos.endLine==(st0 (b.getD 1 default)).pos.line
noncomputable def mO (b:List Stmt):List Pos :=
 let s0:=b.getD 0 default;let s1:=b.getD 1 default;let s2:=b.getD 2 default;let s3:=b.getD 3 default;let c:=st0 s1;let q:=st0 s2;let l:=kid 0 q
 [(st0 s0).pos,s0.pos,((vn s1).getD 1 default).pos,(kid 0 (kid 0 c)).pos,(kid 0 c).pos,(kid 1 c).pos,(kid 2 c).pos,c.pos,s1.pos,(kid 0 l).pos,(kid 1 l).pos,l.pos,(kid 1 q).pos,q.pos,s2.pos,(st0 s3).pos,s3.pos]
noncomputable def yJ (l:List Pos):Fin 20→Pos:=fun i=>l.getD i.1 ⟨0,0,0,0⟩
noncomputable def GC (b:List Stmt):List Stmt:=z8 (yJ (mO b)) (zZ (st0 (b.getD 0 default))) (exK (st0 (b.getD 0 default))) (exK (kid 1 (st0 (b.getD 2 default)))) (sw (b.getD 2 default)).b
noncomputable def z7 (b:List Stmt):Bool:=(yJ (mO b) 4).endLine==(yJ (mO b) 7).line
end MP
end
section
open PySem PySem.W PyProof.Rows
set_option maxHeartbeats 0
namespace Mine
open MP
noncomputable def tB (w:World) (os:OsState):Thread:=⟨G4 (cR (tA w os)),(tA w os).code,(tA w os).pos,(tA w os).stack⟩
noncomputable def XB (w:World) (os:OsState):Option (Flow × SharedT × Code × Pos):=HT TB pw w 11 an 1 300 (sA w os) (tB w os)
noncomputable def s3 (w:World) (os:OsState):SharedT:=(XB w os).elim (S4 w os) (·.2.1)
noncomputable def F (w:World) (os:OsState):Shared:=(s3 w os).abs
noncomputable def viewOf (p:Program):Program:={ p with main:={ p.main with body:=[0,2,3,4,5,7,8,9].filterMap fun i=>p.main.body[i]? } }
noncomputable def qv:Program:=viewOf pw
noncomputable abbrev loose:List Str:=[Str.ofString "_tuplegetter",Str.ofString "Match",Str.ofString "SequenceMatcher"]
abbrev rw2:=PySem.Challenge.rw_dm0056_02
noncomputable abbrev Xt:Shared→Bool:=fun s=>xlAt qv [] s&&recOk (RowW.records rw2.row.toRowW) s
noncomputable def tE (w:World) (s:Shared):Bool:=staticsOk (importedModules pw.main.body) (boot_heap w.params) s.heap&&namesBound pw s.heap&&gensDone s&&laidKept (boot_heap w.params) s.heap
noncomputable def D4 (h:Heap) (x:Str):Option Value:=(h.nsMap mainGlobals x).or (h.nsMap builtinsNs x)
noncomputable def eY (h:Heap) (a:Addr) (xs:List Str):Bool:=xs.all fun x=>(h.nsMap a x).isNone
noncomputable def isFn (h:Heap) (a:Addr):Bool:=match h.get? a with
 | some o=>decide (o.cls=.type "function")&&(match o.data with | .func _=>true | _=>false)
 | none=>false
noncomputable def fragOf (h:Heap) (as:List Addr):Frag:=as.filterMap fun a=>(h.get? a).map fun o=>(a,o)
noncomputable abbrev K8 (h:Heap):Frag:=fragOf h [135,134,136,91,2,82,89]
noncomputable def J3:jt:=.cons .dead (.cons .dead .nil)
noncomputable def J2:jt:=.cons .dead (.cons .dead (.cons .dead (.cons .dead .nil)))
noncomputable def GD:List (Str × NameKind):=[("tuple",.globalImplicit),("len",.globalImplicit),("TypeError",.globalImplicit)]
noncomputable def yQ (h:Heap):Bool:=h.isNs mainGlobals&&h.isNs builtinsNs&&h.isNs 241&&h.isNs 134&&h.isNs cStatics&&(h.nsMap cStatics "sys.recursionlimit").isNone&&(h.get? sysModules).isSome
noncomputable def zS (h:Heap):Bool:=R2.tab.gl.all fun p=>decide (D4 h p.1=some p.2)
noncomputable def mM (h:Heap):Bool:=R2.tab.meths.all fun p=>decide ((h.nsMap 241 p.2)=(R2.tab.fns.lookup p.1).map Value.ref)
noncomputable def tM (h:Heap):Bool:=R2.tab.fns.all fun p=>isFn h p.2&&match R2.P p.1 with | some fn=>j7 R2.tab h fn p.2 | none=>false
noncomputable def newOk (h:Heap):Bool:=j7 R2.tab h ⟨4,[],J3⟩ 82&&(bodyOf h 82).any fun x=>CL x.2
noncomputable def yZ (h:Heap):Bool:=j7 R2.tab h ⟨2,[],J2⟩ 89&&(bodyOf h 89).any fun x=>z7 x.2
noncomputable def I4 (x:Scope × List Stmt):Scope × List Stmt:=(sy [],newOf x.2)
noncomputable def EL (x:Scope × List Stmt):Scope × List Stmt:=(vL GD [],GC x.2)
noncomputable def FU (k:Nat) (x:Scope × List Stmt):Scope × List Stmt:=match R2.P k with
 | some fn=>FV R2.tab fn x
 | none=>x
noncomputable def nF (h:Heap):List (Option (Scope × List Stmt)):=R2.tab.fns.map fun p=>bodyOf h p.2
noncomputable def tZ (h:Heap):List (Option (Scope × List Stmt)):=R2.tab.fns.map fun p=>(bodyOf h p.2).map (FU p.1)
noncomputable def frees (h:Heap):Heap:=h.update 260 fun _=>{ cls:=.none,data:=.freed }
noncomputable def KH:Expr→Option (Arguments × Expr × Scope × Pos)
 | .Lambda a e s p=>some (a,e,s,p)
 | _=>none
noncomputable def zz (st:Stmt):Arguments × Expr × Scope × Pos:=(KH (st0 st)).getD (⟨[],[],none,[],[],none,[]⟩,default,default,default)
noncomputable def KI (st:Stmt):Expr:=.Lambda (zz st).1 (reE R2.tab R2.zD (zz st).2.2.1 (zz st).2.1) (zz st).2.2.1 (zz st).2.2.2
noncomputable def EN (st:Stmt):Stmt:=.Assign [.Name "isjunk" ((vn st).getD 1 default).pos] (KI st) st.pos
noncomputable def I9 (x:Scope × List Stmt):Scope × List Stmt:=(x.1,dJ R2.BN x.1 R2.oF x.2++EN (x.2.getD 15 default)::dJ R2.tab x.1 R2.fW (x.2.drop 16))
noncomputable def vS:Value→Str
 | .str s _=>s
 | _=>""
noncomputable def vI:Value→Int
 | .int i _=>i
 | _=>0
noncomputable def vB:Value→Bool
 | .bool b=>b
 | _=>false
noncomputable def IB:List (Str × NameKind):=[("x",.«local»),("bits",.free)]
noncomputable def IA:List Str:=["x"]
noncomputable def J5:Str × NameKind:=("bits",.cell)
noncomputable def HK:Str × NameKind:=("isjunk",.cell)
noncomputable def IC (l:Arguments × Expr × Scope × Pos):Bool:=decide (l.2.2.1.kind=.function)&&(!l.2.2.1.isCoroutine&&(!l.2.2.1.isGenerator&&(decide (l.2.2.1.names=IB)&&(pg l.1&&(decide (l.1.args.map (·.arg)=IA)&&(l.1.defaults.isEmpty&&(l.1.kw_defaults.isEmpty&&okE R2.tab R2.zD l.2.2.1 l.2.1)))))))
noncomputable def GK (x:Scope × List Stmt):Bool:=iN R2.tab x.1 R2.fW (x.2.drop 16)&&(decide (x.1.names[28]?=some J5)&&(decide (x.1.names[16]?=some HK)&&IC (zz (x.2.getD 15 default))))
noncomputable def ET (vs:Array Value):Bool:=decide (vs[11]?=some (.ref 260))&&(decide (vs.getD 11 .none=.ref 260)&&(decide (vs.getD 18 .none=.str (vS (vs.getD 18 .none)) (uC (vs.getD 18 .none)))&&(decide (vs.getD 7 .none=.int (vI (vs.getD 7 .none)) (uC (vs.getD 7 .none)))&&(decide (vs.getD 9 .none=.bool (vB (vs.getD 9 .none)))&&decide (vs.getD 10 .none=.int (vI (vs.getD 10 .none)) (uC (vs.getD 10 .none)))))))
noncomputable def codeOk (h:Heap):Bool:=(told nA h 263).any (fun fd=>decide (fd.code=.ref 262))&&(h.get? 262).any fun o=>decide (o.cls=.type "code")&&(cP o.data).any ET
noncomputable def isPlain:Data→Bool
 | .plain=>true
 | _=>false
noncomputable def tY (h:Heap):Bool:=decide (h.nsMap mainGlobals "__builtins__"=some (.ref 4))&&(h.get? 4).any fun o=>decide (o.cls=.type "module")&&(decide (o.dict=some builtinsNs)&&isPlain o.data)
noncomputable def zC (h:Heap):Bool:=j7 R2.BN h ⟨1,[],R2.oF⟩ 263&&((bodyOf h 263).any GK&&(codeOk h&&tY h))
structure Obs (P:Params) (h:Heap):Prop where
 nss:yQ h=true
 no241:eY h 241 ("__getattribute__" :: "__getattr__" :: "__setattr__" :: R2.tab.attrs)=true
 no134:eY h 134 ["__iter__","__lt__","__len__","__init__"]=true
 gls:zS h=true
 meths:mM h=true
 fns:tM h=true
 new:newOk h=true
 make:yZ h=true
 nF:nF h=tZ h
 newB:bodyOf h 82=(bodyOf h 82).map I4
 makeB:bodyOf h 89=(bodyOf h 89).map EL
 law:zC h=true
 lawB:bodyOf h 263=(bodyOf h 263).map I9
 g242:h.get? 242=some (excClassObj "SequenceMatcher" "SequenceMatcher" 242 241 [.type "object"] [.type "object"] true [] [] false none none none none (some (.str "SequenceMatcher" 389)) (some (.str "SequenceMatcher" 397)) (some (.bool true)) "object.__new__")
 g135:h.get? 135=some (gN 135 134 "Match" "Match" (some (.ref 65)) (some (.str "Match" 253)) (some (.str "Match" 261)))
 l1:peek (K8 h) ⟨pw,P⟩ (mroOf (.ref 135))=some [.ref 135,.type "tuple",.type "object"]
 l2:peek (K8 h) ⟨pw,P⟩ (isType (.ref 135))=some true
 l3:peek (K8 h) ⟨pw,P⟩ (isSubtype (.ref 135) (.ref 135))=some true
 l4:peek (K8 h) ⟨pw,P⟩ (isSubtype (.ref 135) (.type "tuple"))=some true
 l5:peek (K8 h) ⟨pw,P⟩ (isSubtype (.ref 135) (.type "object"))=some true
 l6:peek (K8 h) ⟨pw,P⟩ (classHasDel 135)=some false
 l7:peek (K8 h) ⟨pw,P⟩ (typeLookup (.ref 135) "__init__")=some (some (.builtin "object.__init__"))
 l8:peek (K8 h) ⟨pw,P⟩ (specialOf (.ref 135) "__call__")=some (some (.builtin "type.__call__"))
 l9:peek (K8 h) ⟨pw,P⟩ (isInstance (.ref 135) (.type "type"))=some true
 l10:peek (K8 h) ⟨pw,P⟩ (Bind.madeBy (.ref 135))=some none
 l11:peek (K8 h) ⟨pw,P⟩ (Bind.madeHere "tuple.__new__" (.ref 135))=some ()
 l12:(fun x:Value=>peek (K8 h) ⟨pw,P⟩ (checkBuiltinCall "tuple.__new__" ⟨[.ref 135,x],[]⟩))=fun x=>some ()
 m1:readsIn (K8 h) 135 (.type "type")=true
 m2:findCls (K8 h) (.ref 135) (.type "type") "__new__"=some (.get (.builtin "staticmethod.__get__") (.ref 136) .none (.ref 135))
 m3:findCls (K8 h) (.ref 135) (.type "type") "_make"=some (.get (.builtin "classmethod.__get__") (.ref 91) .none (.ref 135))
 m4:recIn (K8 h) 136 "staticmethod"=some [.ref 82]
 m5:recIn (K8 h) 91 "classmethod"=some [.ref 89,.bool false]
noncomputable def asked (w:World) (s:Shared) (h:Heap) (P:Params) :=
 ((tE w s,openSeen qv loose (importedModules pw.main.body) Xt true s),
  (yQ h&&eY h 241 ("__getattribute__" :: "__getattr__" :: "__setattr__" :: R2.tab.attrs)&&eY h 134 ["__iter__","__lt__","__len__","__init__"]&&zS h&&mM h&&tM h&&newOk h&&yZ h&&zC h),
  (nF h,bodyOf h 82,bodyOf h 89,h.get? 242,h.get? 135,bodyOf h 263,s.heap.get? 260),
  (peek (K8 h) ⟨pw,P⟩ (mroOf (.ref 135)),peek (K8 h) ⟨pw,P⟩ (isType (.ref 135)),peek (K8 h) ⟨pw,P⟩ (isSubtype (.ref 135) (.ref 135)),peek (K8 h) ⟨pw,P⟩ (isSubtype (.ref 135) (.type "tuple")),peek (K8 h) ⟨pw,P⟩ (isSubtype (.ref 135) (.type "object")),
  peek (K8 h) ⟨pw,P⟩ (classHasDel 135),peek (K8 h) ⟨pw,P⟩ (typeLookup (.ref 135) "__init__"),peek (K8 h) ⟨pw,P⟩ (specialOf (.ref 135) "__call__"),peek (K8 h) ⟨pw,P⟩ (isInstance (.ref 135) (.type "type")),peek (K8 h) ⟨pw,P⟩ (Bind.madeBy (.ref 135)),
  peek (K8 h) ⟨pw,P⟩ (Bind.madeHere "tuple.__new__" (.ref 135)),fun x:Value=>peek (K8 h) ⟨pw,P⟩ (checkBuiltinCall "tuple.__new__" ⟨[.ref 135,x],[]⟩)),
  (readsIn (K8 h) 135 (.type "type"),findCls (K8 h) (.ref 135) (.type "type") "__new__",findCls (K8 h) (.ref 135) (.type "type") "_make",recIn (K8 h) 136 "staticmethod",recIn (K8 h) 91 "classmethod"))
theorem atB:(fun w os=>((XB w os).map fun r=>(r.1,r.2.2.1),asked w (F w os) (frees (F w os).heap) w.params))=fun w os=>(some (.next,cE),((true,openGood qv loose),true,
  (tZ (frees (F w os).heap),(bodyOf (frees (F w os).heap) 82).map I4,(bodyOf (frees (F w os).heap) 89).map EL,some (excClassObj "SequenceMatcher" "SequenceMatcher" 242 241 [.type "object"] [.type "object"] true [] [] false none none none none (some (.str "SequenceMatcher" 389)) (some (.str "SequenceMatcher" 397)) (some (.bool true)) "object.__new__"),
   some (gN 135 134 "Match" "Match" (some (.ref 65)) (some (.str "Match" 253)) (some (.str "Match" 261))),(bodyOf (frees (F w os).heap) 263).map I9,some (tabObj #[])),
  (some [.ref 135,.type "tuple",.type "object"],some true,some true,some true,some true,some false,some (some (.builtin "object.__init__")),some (some (.builtin "type.__call__")),some true,some none,some (),fun _=>some ()),
  (true,some (.get (.builtin "staticmethod.__get__") (.ref 136) .none (.ref 135)),some (.get (.builtin "classmethod.__get__") (.ref 91) .none (.ref 135)),some [.ref 82],some [.ref 89,.bool false]))):=by
 delta F s3 XB tB G4 PySem.W.Fast.tw4202317264376624991
 rw [rC]
 kernel_rfl
end Mine
end
section
open PySem PySem.W PyProof.Rows
set_option maxHeartbeats 0
namespace Mine
open MP
theorem vQ {p q:Program} {loose:List Str} {Xt:Shared→Bool} {N:Nat} {g0:Bool} {H₀:Params→Heap} {gs₀:Array GenState} {d₀:Drawn} {k₀ m₀:Nat} {ann:Option Value} {M:Nat} {F:World→OsState→Shared}
  (open_:∀ w:World,(fencedOpening treeTable p w N).map (fun s=>(s.heap,s.gens,s.drawn,s.toks))=some (H₀ w.params,gs₀,d₀,k₀))
  (size:∀ w:World,((H₀ w.params).isNs mainGlobals&&gs₀.size==0,(H₀ w.params).objs.size,(H₀ w.params).nsMap mainGlobals "__annotations__")=(true,m₀,ann))
  (run:∀ (w:World) (os:OsState),topRun treeTable p w m₀ ann M ⟨H₀ w.params,gs₀,d₀,k₀,os⟩ (topStub p)=some (F w os)) (le:Nat.ble M N=true)
  (tE:∀ (w:World) (os:OsState),(staticsOk (importedModules p.main.body) (H₀ w.params) (F w os).heap&&namesBound p (F w os).heap&&gensDone (F w os)&&laidKept (H₀ w.params) (F w os).heap)=true)
  (seen:∀ (w:World) (os:OsState),openSeen q loose (importedModules p.main.body) Xt g0 (F w os)=openGood q loose) :
  LeftO p q loose Xt (fun s=>s.heap) (fun w=>(F w ((fencedOpening treeTable p w N).elim {} (·.os))).heap) N g0:=fun w=>by
 obtain⟨⟨h,gs,d,k,os⟩,e,e'⟩:=eh.mp (open_ w)
 obtain⟨rfl,rfl,rfl,rfl⟩:h=H₀ w.params∧gs=gs₀∧d=d₀∧k=k₀:=by simpa using e'
 obtain⟨z1,z2,z3⟩:_∧_∧_:=by simpa only [pd] using size w
 have r:=topRun_mono (N-M) _ _ _ _ (run w os)
 rw [show M+(N-M)=N by have:=dk le;(exact dw .a3 .h (.e (.a .B .A) .C) (aa (bh .A .a .A this)))] at r
 have t:topFrom treeTable p w N ⟨H₀ w.params,gs,d,k,os⟩=some (F w os):=by
  unfold topFrom
  dsimp only
  rw [z1,z2,z3,r]
  show(match staticsOk (importedModules p.main.body) (H₀ w.params) (F w os).heap&&namesBound p (F w os).heap&&gensDone (F w os)&&laidKept (H₀ w.params) (F w os).heap with | true=>_ | false=>_)=_
  rw [tE w os]
 unfold openEnds
 rw [e]
 show(topFrom treeTable p w N _).map _=_
 rw [t]
 refine bu some (Prod.ext (seen w os) ?_)
 show(F w os).heap=_
 dsimp only
 rw [e];rfl
theorem ip {α β:Type} {a c:α} {b d:β} (h:(a,b)=(c,d)):a=c:=bu (·.1) h
theorem fe {α β:Type} {a c:α} {b d:β} (h:(a,b)=(c,d)):b=d:=bu (·.2) h
theorem I8 {w:World} {os:OsState}:tE w (F w os)=true:=ip (ip (fe (ew (ew atB w) os)))
theorem KA (w:World) (os:OsState):Obs w.params (frees (F w os).heap)∧(F w os).heap.get? 260=some (tabObj #[]):=by
 have v:=fe (fe (ew (ew atB w) os))
 generalize frees (F w os).heap=h at v ⊢
 generalize w.params=P at v ⊢
 have e1:=ip v
 have e2:=ip (fe v)
 have e3:=ip (fe (fe v))
 have e4:=fe (fe (fe v))
 simp only [cg] at e1
 obtain⟨⟨⟨⟨⟨⟨⟨⟨a1,a2⟩,a3⟩,a4⟩,a5⟩,a6⟩,a7⟩,a8⟩,a9⟩:=e1
 have z:=fe (fe (fe (fe e2)))
 have b:=fe e3
 have c:=fe b
 have d:=fe c
 have e:=fe d
 have f:=fe e
 have g:=fe f
 have i:=fe g
 have j:=fe i
 have k:=fe j
 have l:=fe k
 have m:=fe e4
 have n:=fe m
 have o:=fe n
 refine⟨⟨a1,a2,a3,a4,a5,a6,a7,a8,ip e2,ip (fe e2),ip (fe (fe e2)),a9,ip (fe z),ip (fe (fe (fe e2))),ip z,ip e3,ip b,ip c,ip d,ip e,ip f,ip g,ip i,ip j,ip k,ip l,fe l,ip e4,ip m,ip n,ip o,fe o⟩,fe (fe z)⟩
theorem FT (w:World) (os:OsState):topRun treeTable pw w 11 an 2273 (S0 w os) (topStub pw)=some (F w os):=by
 have hp:=ew (ew pre w) os
 have hb:=ew (ew blk w) os
 have hA:=ew (ew atA w) os
 have hv:=ip (ew (ew atB w) os)
 have hf:=fun c q s=>ew (ew (ew (ew fin w) c) q) s
 obtain⟨⟨fl,s3',c3,q3⟩,hx,e⟩:=eh.mp hv
 have hfl:fl=.next:=ip e
 have hc3:c3=cE:=fe e
 subst hfl
 subst hc3
 have hF:F w os=s3'.abs:=by
  unfold F s3
  rw [hx];rfl
 have hgo:XA w os=some (sA w os,tA w os):=by
  have hA1:=ip hA
  unfold sA tA
  cases q:XA w os with
  | none=>rw [q] at hA1;cases hA1
  | some x=>rfl
 have htB:tB w os=tA w os:=by
  unfold tB
  rw [← fe hA]
 unfold XB at hx
 rw [htB] at hx
 rw [hF]
 generalize sA w os=sa at hgo hx
 generalize tA w os=ta at hgo hx
 unfold XA at hgo
 unfold th0 at hgo
 rw [JC] at hgo
 have e3:TB=treeTable:=PySem.W.Fast.te14364793385576792824.symm
 have e1:goT=@segGoT:=PySem.W.Fast.te10295753902157049106.symm
 have e2:HT=@segRunT:=PySem.W.Fast.te10110043849684766642.symm
 rw [e1,e3] at hgo
 rw [e2,e3] at hx
 rw [e3] at hp hb hf
 have hs:=seg_go (n:=1958) (N:=300) (segGo_of hgo) (segRun_of hx)
 refine go_top (n:=12) (N:=2261) hp (piece_block (n:=1) (N:=2260) hb ?_)
 have:=piece_app (n:=2258) (N:=2) (l:=bE) (rest:=[]) (env:=D8) hs (piece_nil (hf _ _ _))
 rw [fc] at this
 exact this
end Mine
end
section
open PySem PySem.W PyProof.Rows
set_option maxHeartbeats 0
namespace Mine
open MP
theorem I7:∀ w:World,((boot_heap w.params).isNs mainGlobals&&(⟨[]⟩:Array GenState).size==0,(boot_heap w.params).objs.size,(boot_heap w.params).nsMap mainGlobals "__annotations__")=(true,11,an):=by
 have h:(fun w:World=>((boot_heap w.params).isNs mainGlobals&&(⟨[]⟩:Array GenState).size==0,(boot_heap w.params).objs.size,(boot_heap w.params).nsMap mainGlobals "__annotations__"))=fun w=>(true,11,an):=by kernel_rfl
 exact fun w=>ew h w
noncomputable def H1 (w:World):Heap:=(F w ((fencedOpening treeTable pw w 4418).elim {} (·.os))).heap
noncomputable def hook:Hook where
 α:=Heap
 obs:=fun s=>s.heap
 val:=H1
 says:=fun w h=>∀ a o,(H1 w).get? a=some o→h.get? a=some o
 of:=fun w s e a o h=>by rw [e];exact h
 keeps:=fun w h h' x k a o e=>k a o (x a o e)
theorem left:LeftO pw qv loose Xt (fun s=>s.heap) H1 4418 true:=vQ (boot_open (by kernel_rfl) (by decide +kernel) (fun s=>by kernel_rfl)) I7 FT (by decide +kernel) (fun w os=>I8) fun w os=>fe (ip (fe (ew (ew atB w) os)))
theorem head (hc:∀ (d:DefRec) (kwd:List (Str × Expr)),defOf qv rw2.row.name=some (d,kwd)→WalkO qv loose (XL qv []) hook.says rw2.row.toRowW d kwd fun f vs=>PySem.call f vs):rw2.Holds:=by
 w_on
 refine holds_law (by decide +kernel) fun said=>?_
 refine holds_open (q:=qv) (loose:=loose) (Xt:=Xt) (XP:=XL qv []) (Yf:=hook.obs) (Ya:=hook.val) (YP:=hook.says) (N:=4418) left hook.of hook.keeps (fun s e=>xl_of s (qh.mp e).1) XL.keeps (by rfl) (by rfl) (by rfl) (fun s e=>recFacts_of (qh.mp e).2) (by first | rfl | fail "no head") (by first | assumption | decide +kernel) (by decide +kernel) ⟨rfl,rfl,rfl,rfl,rfl,by decide +kernel⟩ ?hw ?hc
 case hw=>w_witness2
 case hc=>exact hc _ _ (by rfl)
theorem KC (w:World):Obs w.params (frees (H1 w))∧(H1 w).get? 260=some (tabObj #[]):=KA w _
end Mine
end
section
set_option tactic.hygienic true
open PySem PySem.W PyProof.Rows
set_option maxHeartbeats 0
namespace Mine
open MP
theorem wY (x:Str) (hx:x∈R2.tab.attrs):typeLookup (.type "object") x=pure none:=by
 simp only [R2.tab,R2.BL,cu,List.not_mem_nil,or_false] at hx
 rcases hx with rfl | rfl | rfl | rfl | rfl | rfl | rfl | rfl | rfl | rfl<;>(rw [fm,dg];kernel_rfl)
noncomputable def GG (w:World) (h0 hb:Heap) (cp:Str→Bool) (clo:Nat→List V→Addr→Prop):Stc:={ prog:=pw,w:=w,hb:=hb,cM:=135,cS:=242,attrs:=R2.tab.attrs,gl:=D4 h0,cap:=cp,clo:=clo }
section
variable {w:World} {h0 hb:Heap} {cp:Str→Bool} {clo:Nat→List V→Addr→Prop} (ob:Obs w.params h0)
include ob
theorem oK:h0.isNs mainGlobals=true∧h0.isNs builtinsNs=true∧h0.isNs 241=true∧h0.isNs 134=true∧h0.isNs cStatics=true∧h0.nsMap cStatics "sys.recursionlimit"=none∧∃ o,h0.get? sysModules=some o:=by
 have h:=ob.nss
 unfold yQ at h
 simp only [cg,qp] at h
 obtain⟨⟨⟨⟨⟨⟨h1,h2⟩,h3⟩,h4⟩,h5⟩,h6⟩,h7⟩:=h
 exact⟨h1,h2,h3,h4,h5,h6,ax.mp h7⟩
omit ob in
theorem mr {h:Heap} {a:Addr} {xs:List Str} (e:eY h a xs=true) {x:Str} (hx:x∈xs):h.nsMap a x=none:=by
 unfold eY at e
 rw [iy] at e
 exact qp.mp (e x hx)
variable (hk:∀ a o,h0.get? a=some o→hb.get? a=some o)
include hk
theorem GI:hb.NoLimit:=by
 obtain⟨h1,h2,h3,h4,h5,h6,h7⟩:=oK ob
 exact⟨_,(qg h5).keeps hk,h6⟩
theorem J4:ClsAt hb 242 241 (h0.nsMap 241):=by
 obtain⟨h1,h2,h3,h4,h5,h6,h7⟩:=oK ob
 exact⟨⟨_,_,_,_,_,_,_,_,_,_,_,_,hk _ _ (ob.g242)⟩,(qg h3).keeps hk⟩
theorem KJ:GOk (GG w h0 hb cp clo):=by
 obtain⟨h1,h2,h3,h4,h5,h6,o,h7⟩:=oK ob
 have no:=ob.no241
 refine⟨⟨241,_,J4 ob hk,mr no (.head _),mr no (.tail _ (.head _)),mr no (.tail _ (.tail _ (.head _))),fun x hx=>⟨mr no (.tail _ (.tail _ (.tail _ hx))),wY x hx⟩⟩,by show R2.tab.attrs.length≤100;decide,by show R2.tab.attrs.Nodup;decide +kernel,⟨o,hk _ _ h7⟩,⟨_,_,(qg h1).keeps hk,(qg h2).keeps hk,fun x=>rfl⟩⟩
omit hk in
theorem gl8 (x:Str) (v:Value) (e:R2.tab.gl.lookup x=some v):D4 h0 x=some v:=by
 have h:=ob.gls
 unfold zS at h
 rw [iy] at h
 exact ah (h (x,v) (MP.mem_of_lookup e))
theorem zU {k:Nat} {a:Addr} (e:R2.tab.fns.lookup k=some a):∃ o fd,hb.get? a=some o∧o.cls=.type "function"∧o.data=.func fd:=by
 have h:=ob.fns
 unfold tM at h
 rw [iy] at h
 have:=h (k,a) (MP.mem_of_lookup e)
 rw [cg] at this
 have:=this.1
 unfold isFn at this
 split at this
 ·rename_i o ho
  rw [cg] at this
  obtain⟨h1,h2⟩:=this
  split at h2
  ·rename_i fd hd
   exact⟨o,fd,hk _ _ ho,ah h1,hd⟩
  ·cases h2
 ·cases this
omit hk in
theorem GA {k:Nat} {name:Str} (e:R2.tab.meths.lookup k=some name):h0.nsMap 241 name=(R2.tab.fns.lookup k).map Value.ref:=by
 have h:=ob.meths
 unfold mM at h
 rw [iy] at h
 exact ah (h (k,name) (MP.mem_of_lookup e))
theorem EK (k:Nat) (name:Str) (e:R2.tab.meths.lookup k=some name):∃ f,R2.tab.fns.lookup k=some f∧MethAt (GG w h0 hb cp clo) name f:=by
 have no:=ob.no241
 have hin:∃ f,R2.tab.fns.lookup k=some f:=by
  have h:R2.tab.meths.all (fun p=>(R2.tab.fns.lookup p.1).isSome)=true:=by decide +kernel
  exact ax.mp (iy.mp h _ (MP.mem_of_lookup e))
 have hout:name∉R2.tab.attrs:=by
  have h:R2.tab.meths.all (fun p=>decide (p.2∉R2.tab.attrs))=true:=by decide +kernel
  exact ah (iy.mp h _ (MP.mem_of_lookup e))
 obtain⟨f,hf⟩:=hin
 obtain⟨o,fd,ho,hc,hd⟩:=zU ob hk hf
 refine⟨f,hf,⟨⟨241,_,o,fd,J4 ob hk,mr no (.head _),mr no (.tail _ (.head _)),?_,ho,hc,hd⟩,hout,⟨_,fm _ _⟩⟩⟩
 have:=GA ob e
 rw [hf] at this
 exact this
theorem ID:∃ f,R2.tab.fns.lookup 0=some f∧nN (GG w h0 hb cp clo) f:=by
 obtain⟨f,hf,M⟩:=EK ob hk 0 "__init__" rfl
 obtain⟨N,mN,of,fd,h1,h2,h3,h4,h5,h6,h7⟩:=M.here
 exact⟨f,hf,⟨N,mN,of,h1,h4,h5,h6⟩⟩
theorem GB:wm (GG w h0 hb cp clo):=by
 obtain⟨h1,h2,h3,h4,h5,h6,h7⟩:=oK ob
 have no:=ob.no134
 exact⟨⟨134,_,_,_,_,_,_,hk _ _ (ob.g135),(qg h4).keeps hk,mr no (.head _),mr no (.tail _ (.head _)),mr no (.tail _ (.tail _ (.head _))),mr no (.tail _ (.tail _ (.tail _ (.head _))))⟩⟩
omit ob hk in
theorem mW (h:Heap):∀ l:List Addr,Frag.In (fragOf h l) h
 | [],a,o,e=>by cases e
 | b::l,a,o,e=>by
  unfold fragOf at e
  simp only [eu] at e
  cases hq:h.get? b with
  | none=>rw [hq] at e;exact mW h l a o e
  | some ob =>
   rw [hq] at e
   simp only [Option.map_some,List.lookup] at e
   split at e
   ·rename_i q;cases e;rw [jw.mp q];exact hq
   ·exact mW h l a o e
omit ob hk in
theorem m6:findCls [] (.type "tuple") (.type "type") "__new__"=some (.val (.builtin "tuple.__new__")):=by kernel_rfl
omit ob hk in
theorem m7:findIn [] (.type "type") "__getattribute__"=some (some (.builtin "type.__getattribute__")):=by kernel_rfl
omit ob hk in
theorem m8:subIn [] (.type "type") (.type "type")=some true:=by kernel_rfl
omit ob hk in
theorem m9:opaqueClassAbove (.type "tuple")=pure none:=by kernel_rfl
omit ob hk in
theorem m10:hookBefore (.type "type")=pure none:=by kernel_rfl
omit ob hk in
theorem m11:typeOf (.type "tuple")=pure (.type "type"):=by kernel_rfl
theorem zE:(K8 h0).In hb:=(mW h0 _).keeps hk
theorem wt {α:Type} {t:Sem α} {r:α} (e:peek (K8 h0) ⟨pw,w.params⟩ t=some r):Looks (GG w h0 hb cp clo).M (GG w h0 hb cp clo).hb t r:=Looks.of_peek (K:=K8 h0) (zE ob hk) e
theorem CP:pf (GG w h0 hb cp clo) 82 89 where
 made:=wt ob hk (ob.l10)
 here:=wt ob hk (ob.l11)
 chk:=fun x=>wt ob hk (ew ob.l12 x)
 mro:=wt ob hk (ob.l1)
 self:=wt ob hk (ob.l3)
 tup:=wt ob hk (ob.l4)
 init:=wt ob hk (ob.l7)
 call:=wt ob hk (ob.l8)
 typ:=wt ob hk (ob.l9)
 isT:=wt ob hk (ob.l2)
 del:=wt ob hk (ob.l6)
 new:=fun A E s Q k h=>cls_bind (K:=K8 h0) (mc:=.type "type") ((zE ob hk).keeps k) (ob.m1) (ob.m2) (oe (sm_get (s:={ s with toks:=s.toks+1 }) (K:=K8 h0) ((zE ob hk).keeps k) (ob.m4) (handed_on rfl h)))
 make:=fun A E s expr Q k h=>cls_bind (K:=K8 h0) (mc:=.type "type") ((zE ob hk).keeps k) (ob.m1) (ob.m3) (oe (cm_get (s:={ s with toks:=s.toks+1 }) (K:=K8 h0) ((zE ob hk).keeps k) (ob.m5) (handed_on rfl h)))
 typNew:=fun A E s expr Q h=>cls_open (K:=[]) (fun _ _ e=>nomatch e) (Looks.of_pure m9) (Looks.of_pure m11) m7 (Looks.of_pure m10) m8 m6 (af (handed_on rfl h))
theorem KD:lM (GG w h0 hb cp clo) 82:=by
 refine⟨?_,gl8 ob "tuple" _ (by decide +kernel),wt ob hk ob.l5⟩
 have h:=ob.new
 unfold newOk at h
 rw [cg] at h
 obtain⟨x,hx,hf⟩:=D6 (G:=GG w h0 hb cp clo) hk (GI ob hk) h.1 ob.newB
 have hl:=h.2
 rw [hx] at hl
 exact⟨_,_,_,_,_,_,_,_,_,_,_,_,_,_,[],hf,hl⟩
theorem EU:nQ (GG w h0 hb cp clo) (R2.BL cp) :=
 ⟨KJ ob hk,gl8 ob,rfl,rfl,EK ob hk,ID ob hk,rfl,rfl,⟨82,89,CP ob hk,KD ob hk⟩,GB ob hk⟩
theorem HV (hl:∀ k cs a,clo k cs a→∃ n sc e b,R2.P (1000+k)=some ⟨n+cs.length,[],.cons (.ret b) .nil⟩∧pT (GG w h0 hb R2.cap clo) a n cs sc e∧okE R2.tab b sc e=true∧reE R2.tab b sc e=e):rY (GG w h0 hb R2.cap clo) R2.tab R2.P:=by
 refine⟨EU ob hk,hl,fun k a e=>?_⟩
 have h:=ob.fns
 unfold tM at h
 rw [iy] at h
 have:=h (k,a) (MP.mem_of_lookup e)
 rw [cg] at this
 have h2:=this.2
 split at h2
 ·rename_i fn hf
  obtain⟨sc,body,x,y⟩:=IF (G:=GG w h0 hb R2.cap clo) hk (GI ob hk) h2 (by
   have h3:=List.map_inj_left.mp ob.nF (k,a) (MP.mem_of_lookup e)
   have h4:FU k=FV R2.tab fn:=by funext x;unfold FU;rw [hf]
   rw [← h4];exact h3)
  exact⟨fn,sc,body,hf,x,y⟩
 ·cases h2
end
end Mine
end
section
namespace MP
open PySem PyProof.Rows PySem.W
noncomputable def cH (h:Heap) (p:Addr→Bool):Heap:=⟨h.objs.mapIdx fun i o=>bif p i then o else { cls:=.none,data:=.freed },h.life⟩
theorem vt (h:Heap) (p:Addr→Bool) (a:Addr):(cH h p).get? a=bif p a then h.get? a else none:=by
 unfold cH Heap.get?
 dsimp only
 rw [Array.getElem?_mapIdx]
 cases p a
 ·cases h.objs[a]?<;>rfl
 ·cases h.objs[a]?<;>rfl
noncomputable def zq (G:Stc) (h:Heap) (f c d:Addr) (cap:Str→Bool) (v:V):Stc :=
 { G with hb:=cH h fun a=>(G.hb.get? a).isSome||(decide (a=f)||(decide (a=c)||decide (a=d))),cap:=cap,clo:=fun k cs a=>k=0∧cs=[v]∧a=f }
mutual
theorem VR.turn {G G2:Stc} {h:Heap} (e:G2.cM=G.cM) (hb:∀ a o,G.hb.get? a=some o→G2.hb.get? a=some o) (hc:∀ k cs a,¬ G.clo k cs a):{v:V}→{w:Value}→VR G h v w→VR G2 h v w
 | .none=>fun x=>x
 | .bool _=>fun x=>x
 | .int _=>fun x=>x
 | .str _=>fun x=>x
 | .lst _=>fun x=>x
 | .dct _=>fun x=>x
 | .set _=>fun x=>x
 | .obj _=>fun x=>x
 | .tup _=>fun z0=>by obtain⟨a,ws,n,e1,g,r⟩:=z0;exact⟨a,ws,n,e1,g,VRs.turn e hb hc r⟩
 | .mt _=>fun z0=>by obtain⟨a,ws,n,dd,e1,g,r⟩:=z0;exact⟨a,ws,n,dd,e1,by rw [e];exact g,VRs.turn e hb hc r⟩
 | .zt _=>fun x=>x
 | .cD _=>fun x=>x
 | .clo _ _=>fun z0=>by obtain⟨a,o,_,q,_⟩:=z0;exact absurd q (hc _ _ _)
 | .ro _=>fun z0=>by obtain⟨a,ws,n,e1,g,r⟩:=z0;exact⟨a,ws,n,e1,hb _ _ g,r⟩
theorem VRs.turn {G G2:Stc} {h:Heap} (e:G2.cM=G.cM) (hb:∀ a o,G.hb.get? a=some o→G2.hb.get? a=some o) (hc:∀ k cs a,¬ G.clo k cs a):{vs:List V}→{ws:List Value}→VRs G h vs ws→VRs G2 h vs ws
 | []=>fun x=>x
 | _::_=>fun z0=>by obtain⟨w,us,e1,a,r⟩:=z0;exact⟨w,us,e1,VR.turn e hb hc a,VRs.turn e hb hc r⟩
end
theorem DRs.turn {G G2:Stc} {h:Heap} (e:G2.cM=G.cM) (hb:∀ a o,G.hb.get? a=some o→G2.hb.get? a=some o) (hc:∀ k cs a,¬ G.clo k cs a):{es:List (Key × V)}→{ds:List (Key × Value)}→DRs G h es ds→DRs G2 h es ds
 | []=>fun x=>x
 | _::_=>fun z0=>by obtain⟨w,us,e1,a,r⟩:=z0;exact⟨w,us,e1,a.turn e hb hc,DRs.turn e hb hc r⟩
theorem OV.turn {G G2:Stc} {h:Heap} (e:G2.cM=G.cM) (hb:∀ a o,G.hb.get? a=some o→G2.hb.get? a=some o) (hc:∀ k cs a,¬ G.clo k cs a) {v:Option V} {w:Option Value} (x:OV G h v w):OV G2 h v w:=by
 cases v<;>cases w<;>first | exact x | exact VR.turn e hb hc x
section
variable {G:Stc} {σ:St} {env:Env} {ρ:Fr} {h₀ h:Heap} {f c d:Addr} {cap:Str→Bool} {v:V}
structure Turn (G:Stc) (σ:St) (env:Env) (h₀ h:Heap) (f c d:Addr) (cap:Str→Bool) (icap:Nat) (cnm:Str):Prop where
 clo:∀ k cs a,¬ G.clo k cs a
 cap0:∀ x,G.cap x=false
 cap1:∀ x,cap x=true↔x=cnm
 fnew:h₀.objs.size≤f
 cnew:h₀.objs.size≤c
 name:env.scope.names[icap]?=some (cnm,.cell)
 cell:env.cells.lookup cnm=some d
theorem Turn.base {icap:Nat} {cnm:Str} (t:Turn G σ env h₀ h f c d cap icap cnm) (R:Rel G σ h) (a:Addr) (o:Obj) (e:G.hb.get? a=some o):(zq G h f c d cap v).hb.get? a=some o:=by
 show(cH h _).get? a=_
 rw [vt,e]
 exact R.base a o e
theorem Turn.out {icap:Nat} {cnm:Str} (t:Turn G σ env h₀ h f c d cap icap cnm) {a:Addr} (h1:G.hb.get? a=none) (h2:(h₀.get? a).isSome=true) (h3:a≠d):(zq G h f c d cap v).hb.get? a=none:=by
 have hlt:a<h₀.objs.size:=by obtain⟨o,e⟩:=ax.mp h2;exact du e
 have e1:a≠f:=fj (cx hlt t.fnew)
 have e2:a≠c:=fj (cx hlt t.cnew)
 show(cH h _).get? a=_
 rw [vt,h1,cn e1,cn e2,cn h3];rfl
theorem Turn.rel {icap:Nat} {cnm:Str} (t:Turn G σ env h₀ h f c d cap icap cnm) (F:FR G σ env ρ h₀) (R₀:Rel G σ h₀) (R:Rel G σ h):Rel (zq G h f c d cap v) σ h:=by
 have hb:=t.base (v:=v) R
 have hno:=t.clo
 obtain⟨cc,w,hcc,hcell,_,hnd,hloc,hbn⟩:=F.cells icap cnm _ t.name (.inl rfl)
 obtain rfl:=ae (t.cell.symm.trans hcc)
 refine⟨fun a xs e=>?_,fun a es e=>?_,R.S,fun a dd g e=>?_,R.Z,R.Ll,R.Dl,R.inj,R.apart,R.sep,fun b dm=>?_,fun b o e=>?_⟩
 ·obtain⟨ws,n,hl,vs⟩:=R.L a xs e
  exact⟨ws,n,hl,VRs.turn (G:=G) (G2:=zq G h f c d cap v) rfl hb hno vs⟩
 ·obtain⟨ds,hd,dr⟩:=R.D a es e
  exact⟨ds,hd,DRs.turn (G:=G) (G2:=zq G h f c d cap v) rfl hb hno dr⟩
 ·obtain⟨x,⟨m,hm,h1,h2⟩,y⟩:=R.I a dd g e
  exact⟨x,⟨m,hm,fun i x q=>OV.turn (G:=G) (G2:=zq G h f c d cap v) rfl hb hno (h1 i x q),h2⟩,y⟩
 ·obtain⟨o,ho⟩:=R₀.nv dm
  exact t.out (R.new b dm) (by rw [ho];rfl) fun q=>hnd (q▸dm)
 ·have e:(cH h _).get? b=some o:=e
  rw [vt] at e
  cases q:((G.hb.get? b).isSome||(decide (b=f)||(decide (b=c)||decide (b=d)))) with
  | true=>rw [q] at e;exact e
  | false=>rw [q] at e;cases e
theorem Turn.fr {icap:Nat} {cnm:Str} (t:Turn G σ env h₀ h f c d cap icap cnm) (F₀:FR G σ env ρ h₀) (R:Rel G σ h) (F:FR G σ env ρ h):FR (zq G h f c d cap v) σ env ρ h:=by
 have hb:=t.base (v:=v) R
 have hno:=t.clo
 obtain⟨m,hm,hv⟩:=F.ns
 refine⟨⟨m,hm,fun i x e=>OV.turn (G:=G) (G2:=zq G h f c d cap v) rfl hb hno (hv i x e)⟩,fun i x k e hk=>?_,F.inj,F.loc,F.notfrz,?_,F.allc⟩
 ·obtain⟨cc,w,h1,h2,h3,h4,h5,h6⟩:=F.cells i x k e hk
  refine⟨cc,w,h1,h2,OV.turn (G:=G) (G2:=zq G h f c d cap v) rfl hb hno h3,h4,h5,fun q=>?_⟩
  obtain⟨cc',w',g1,⟨o,g2,_⟩,_⟩:=F₀.cells i x k e hk
  obtain rfl:=ae (h1.symm.trans g1)
  refine t.out (h6 (t.cap0 x)) (by rw [g2];rfl) fun r=>?_
  have hi:=F.inj i icap x cnm k _ cc e t.name hk (.inl rfl) h1 (r▸t.cell)
  subst hi
  rw [t.name] at e
  cases e
  have:=(t.cap1 cnm).mpr rfl
  rw [show(zq G h f c d cap v).cap cnm=cap cnm from rfl,this] at q
  cases q
 ·obtain⟨cc,w,h1,h2,h3,h4,h5,h6⟩:=F₀.cells icap cnm _ t.name (.inl rfl)
  obtain rfl:=ae (t.cell.symm.trans h1)
  obtain⟨m,⟨o,es,ep,ho,_⟩,_⟩:=F₀.ns
  exact t.out F.new (by rw [ho];rfl) fun q=>h5 q.symm
end
noncomputable def xNm:Str:="x"
structure F5 (ps:Arguments) (lsc:Scope) (cnm:Str):Prop where
 kind:lsc.kind=.function
 co:lsc.isCoroutine=false
 gen:lsc.isGenerator=false
 names:lsc.names=[(xNm,NameKind.«local»),(cnm,NameKind.free)]
 plain:pg ps=true
 args:ps.args.map (·.arg)=[xNm]
 dflt:ps.defaults=[]
 kwd:ps.kw_defaults=[]
theorem wC {ps:Arguments} {env:Env} (h1:ps.defaults=[]) (h2:ps.kw_defaults=[]):defaultsOf ps env=([],[]):=by
 obtain⟨a,b,c,d,e,f,g⟩:=ps
 subst h1 h2
 rfl
section
variable {G:Stc} {A:Around} {E:Value→Shared→Prop} {s:Shared} {env:Env} {ρ:Fr} {σ:St}
theorem zY {ps:Arguments} {e:Expr} {lsc:Scope} {nm cnm:Str} {p1 p2 p3:Pos} {icap ivar:Nat} {c P:Addr} {b:Int} {mg:Str→Option Value} {cap:Str→Bool} {Q:Flow→Shared→Prop} (L:F5 ps lsc cnm) (hx:cnm≠xNm) (eo:iv env) (F:FR G σ env ρ s.heap) (R:Rel G σ s.heap) (hlim:G.hb.NoLimit)
  (hclo:∀ k cs a,¬ G.clo k cs a) (cap0:∀ x,G.cap x=false) (cap1:∀ x,cap x=true↔x=cnm) (hne:nm≠cnm) (ncap:env.scope.names[icap]?=some (cnm,.cell)) (nvar:env.scope.names[ivar]?=some (nm,.cell)) (hv:ρ icap=some (.int b))
  (hg:s.heap.Ns mainGlobals mg) (hcode:env.code=.ref c) (C:CodeHd s.heap c P) (hP:s.heap.get? P=some (tabObj #[])) (hgP:mainGlobals≠P) (hB:s.heap.BuiltinsAt mg P) (hPb:G.hb.get? P=none) (hPd:¬ σ.dom P) (hPX:P∉envX env)
  (k:∀ G2 f h' tk,G2.prog=G.prog→G2.w=G.w→G2.cM=G.cM→G2.cS=G.cS→G2.attrs=G.attrs→G2.gl=G.gl→G2.cap=cap→(∀ kk cs a,G2.clo kk cs a↔kk=0∧cs=[.int b]∧a=f)→(∀ a o,G.hb.get? a=some o→G2.hb.get? a=some o)→pT G2 f 1 [.int b] lsc e→FR G2 σ env (upd ρ ivar (.clo 0 [.int b])) h'→Rel G2 σ h'→(∃ ps,h'.get? P=some (tabObj ps))→(∀ a o,a≠P→s.heap.get? a=some o→¬ σ.dom a→a∉envX env→h'.get? a=some o)→Q .next { s with heap:=h',toks:=tk }) :
  wpAny G.M A (exec (.Assign [.Name nm p1] (.Lambda ps e lsc p2) p3) env) Q E s:=by
 obtain⟨d,w,hcc,hcell,hov,hnd,hloc,hbn⟩:=F.cells icap cnm _ ncap (.inl rfl)
 rw [hv] at hov
 obtain⟨w,rfl,t,rfl⟩:∃ w',w=some w'∧VR G s.heap (.int b) w':=by
  cases w with
  | none=>exact hov.elim
  | some w=>exact⟨w,rfl,hov⟩
 rw [exec_Assign]
 refine ab (er ?_)
 rw [rt (value:=.Lambda ps e lsc p2) rfl]
 refine ab (af ?_)
 rw [aw (by decide)]
 have hcl:closureFor lsc env=pure [(cnm,d)]:=by
  have hall:∀ n,(n,NameKind.free)∈lsc.names→(env.cells.lookup n).isSome=true:=fun n hn=>by
   rw [L.names] at hn
   rcases cu.mp hn with q | hn
   ·cases q
   ·obtain rfl:=(og (aj.mp hn)).1
    rw [hcc];rfl
  rw [c6 hall,L.names]
  have e1:ki env.cells [(xNm,NameKind.«local»),(cnm,NameKind.free)] []=[(cnm,(env.cells.lookup cnm).getD 0)]:=rfl
  rw [e1,hcc];rfl
 refine ab (kla_eval (wC L.dflt L.kwd) (kla_makeFunction (clos:=[(cnm,d)]) hcl eo.globals hg hcode C hP trivial rfl hgP hB fun c' ctv h' tk hext hge hlt hrec htab=>?_))
 generalize hfo:kla_obj "<lambda>" (env.qual ++ "<lambda>") ps e lsc [(cnm,d)] ((mg "__name__").getD .none) c' ctv=fo
 have hcls:fo.cls=.type "function":=by rw [← hfo]
 have hfd:fo.data=.func (kla_fn "<lambda>" (env.qual ++ "<lambda>") ps e lsc [(cnm,d)] ((mg "__name__").getD .none) (.ref c') ctv):=by rw [← hfo]
 have hkP:∀ a o,a∉[P]→s.heap.get? a=some o→(h'.push fo).get? a=some o:=fun a o hn e=>ak _ (hext a o (fun q=>hn (q▸.head _)) e)
 have hPf:¬ Frz (tabObj #[]):=by
  rintro (⟨_,_,_,h⟩ | ⟨h | h,_⟩ | ⟨_,h⟩)<;>cases h
 have hfrz:gu s.heap (h'.push fo):=fun a o e f=>hkP a o (fun hm=>by
  obtain rfl:=aj.mp hm
  obtain rfl:=ae (hP.symm.trans e)
  exact hPf f) e
 have F1:FR G σ env ρ (h'.push fo):=F.but hkP hfrz fun a ha=>by obtain rfl:=aj.mp ha;exact hPX
 have R1:Rel G σ (h'.push fo):=R.same (fun a o e dm=>hkP a o (fun hm=>hPd (aj.mp hm▸dm)) e) (fun a o e f=>hfrz a o e f) fun a o e=>hkP a o (fun hm=>by
  obtain rfl:=aj.mp hm
  rw [hPb] at e;cases e) (R.base a o e)
 have T:Turn G σ env s.heap (h'.push fo) h'.objs.size c' d cap icap cnm:=⟨hclo,cap0,cap1,gj hge (xp hlt),hge,ncap,hcc⟩
 have R2:=T.rel (v:=.int b) F R R1
 have F2:=T.fr (v:=.int b) F R1 F1
 have hb2:=T.base (v:=.int b) R1
 have at2:∀ a o,(a=h'.objs.size∨a=c'∨a=d)→(h'.push fo).get? a=some o→(zq G (h'.push fo) h'.objs.size c' d cap (.int b)).hb.get? a=some o:=fun a o hq e=>by
  show(cH _ _).get? a=_
  rw [vt,e]
  rcases hq with rfl | rfl | rfl<;>simp
 have hff:(zq G (h'.push fo) h'.objs.size c' d cap (.int b)).hb.get? h'.objs.size=some fo:=at2 _ _ (.inl rfl) (bq _ (by rw [← hfo];rfl))
 have hcell2:(zq G (h'.push fo) h'.objs.size c' d cap (.int b)).hb.IsCell d (some (.int b t)):=by
  obtain⟨o,ho,hd⟩:=hcell
  exact⟨o,at2 _ _ (.inr (.inr rfl)) (hkP _ _ (fun hm=>hPX (.tail _ (bw.mpr ⟨(cnm,d),mem_of_lookup hcc,aj.mp hm⟩))) ho),hd⟩
 have LA:pT (zq G (h'.push fo) h'.objs.size c' d cap (.int b)) h'.objs.size 1 [.int b] lsc e:=by
  refine⟨hlim.keeps hb2,L.kind,L.co,L.gen,?_,fo,_,hff,hfd,rfl,rfl,rfl,rfl,?_,L.plain,?_,?_,rfl,fun i x q=>?_,fun i j x y cc q1 q2 _ _=>?_,fun p hp=>?_,fun i x kk q hk=>?_⟩
  ·rw [L.names]
   simpa using hx.symm
  ·obtain⟨c₂,oc,vs,tt,e2,hoc,hd,hvv⟩:=hrec
   cases e2
   exact⟨c',oc,vs,tt,rfl,at2 _ _ (.inr (.inl rfl)) (ak _ hoc),hd,hvv⟩
  ·rw [L.args,L.names];simp [kn,iY]
  ·have:=bu List.length L.args
   simpa using this
  ·rw [L.names] at q
   match i with
   | 0=>cases q
   | 1 =>
    cases q
    exact⟨ay 1,(cap1 _).mpr rfl,d,.int b t,.int b,by simp [kla_fn],hcell2,rfl,.int _ _⟩
   | i+2=>cases q
  ·rw [L.names] at q1 q2
   match i,j with
   | 0,_=>cases q1
   | _,0=>cases q2
   | 1,1=>rfl
   | i+2,_=>cases q1
   | _,j+2=>cases q2
  ·obtain rfl:=aj.mp hp
   obtain⟨o,ho,_⟩:=hcell2
   exact⟨o,ho⟩
  ·rw [L.names] at q
   match i with
   | 0=>exact Nat.zero_lt_one
   | 1=>cases q;exact absurd rfl hk
   | i+2=>cases q
 have hw:swp env.scope [.Name nm p1] (.Lambda ps e lsc p2)=some none:=rfl
 rw [lS hw rfl (by unfold Env.blockKind;rw [eo.kind];rfl)]
 refine ab (af ?_)
 show wpAny G.M A (do (assign (.Name nm p1) env (.ref h'.objs.size));pure Flow.next) _ _ _
 refine ab (assign_Name (uq (G:=zq G (h'.push fo) h'.objs.size c' d cap (.int b)) (s:={ s with heap:=h'.push fo,toks:=tk }) (v:=.clo 0 [.int b]) eo F2 R2 nvar ⟨rfl,?_⟩ ⟨h'.objs.size,fo,rfl,⟨rfl,rfl,rfl⟩,hff,hcls⟩ fun h3 tk3 F3 R3 x3=>af ?_))
 ·show cap nm=false
  cases q:cap nm with
  | false=>rfl
  | true=>exact absurd ((cap1 nm).mp q) hne
 ·exact k (zq G (h'.push fo) h'.objs.size c' d cap (.int b)) h'.objs.size h3 tk3 rfl rfl rfl rfl rfl rfl rfl (fun _ _ _=>Iff.rfl) hb2 LA F3 R3 ⟨_,x3.keep _ _ (ak _ htab) hPd hPX⟩ fun a o hn e hd hX=>x3.keep _ _ (hkP a o (fun hm=>hn (aj.mp hm)) e) hd hX
end
end MP
end
section
open PySem PySem.W PyProof.Rows
set_option maxHeartbeats 0
namespace Mine
open MP
noncomputable def st0:MP.St:=⟨fun _=>none,fun _=>none,fun _=>none,fun _=>none,fun _=>none⟩
theorem K5 (G:Stc):Rel G st0 G.hb:=by
 refine⟨fun _ _ e=>?_,fun _ _ e=>?_,fun _ _ e=>?_,fun _ _ _ e=>?_,fun _ _ e=>?_,fun _ _ e=>?_,fun _ _ e=>?_,fun _ _ _ _ _ e=>?_,fun _ _ _ e=>?_,fun _ _ _ _ _ _ e=>?_,fun b d=>?_,fun _ _ e=>e⟩
 all_goals first | cases e | skip
 unfold MP.St.dom at d
 simp [st0] at d
theorem HU (G:Stc) {h:Heap} (hk:∀ b o,G.hb.get? b=some o→h.get? b=some o):Rel G st0 h:=by
 have R:=K5 G
 exact⟨fun _ _ e=>(by cases e),fun _ _ e=>(by cases e),fun _ _ e=>(by cases e),fun _ _ _ e=>(by cases e),fun _ _ e=>(by cases e),R.Ll,R.Dl,R.inj,R.apart,R.sep,R.new,hk⟩
theorem ao0:AOk callerA 16:=⟨rfl,by decide,by decide⟩
theorem ints_of {P:Params} {h:Heap}:∀ {vs:List Value} {xs:List WData},WellAll P h vs xs→WShape.hasItems [] xs .int=true→∃ ns:List Int,xs=ns.map WData.int∧IntsAre vs ns
 | _,_,.nil,_=>⟨[],rfl,.nil⟩
 | _,_,.cons W Ws,hs=>by
  obtain⟨h1,h2⟩:=MP.band (show(WShape.has [] _ .int&&WShape.hasItems [] _ .int)=true from hs)
  obtain⟨ns,e,I⟩:=ints_of Ws h2
  cases W with
  | int i t=>exact⟨i::ns,by rw [e];rfl,.cons i t I⟩
  | _=>exact Bool.noConfusion (show false=true from h1)
theorem DL {P:Params} {h:Heap} {args:List WData} {vals:List Value} (W:WellAll P h vals args) (hs:WShape.hasAll [] args [.list .int]=true):∃ (l:Addr) (vs:List Value) (ns:List Int),vals=[.ref l]∧args=[.list (ns.map WData.int)]∧h.get? l=some { cls:=.type "list",data:=.seq vs.toArray }∧IntsAre vs ns:=by
 cases W with
 | nil=>cases hs
 | cons W Ws =>
  cases Ws with
  | cons _ _=>exact Bool.noConfusion (show false=true from(MP.band (show(WShape.has [] _ (.list .int)&&WShape.hasAll [] _ [])=true from hs)).2)
  | nil =>
   have h1:=(MP.band (show(WShape.has [] _ (.list .int)&&WShape.hasAll [] _ [])=true from hs)).1
   cases W with
   | @list a vs xs e Wi =>
    obtain⟨ns,rfl,I⟩:=ints_of Wi ((cX _).symm.trans (show(WShape.hasItems [] xs .int||false)=true from h1))
    exact⟨_,_,ns,rfl,rfl,e,I⟩
   | _=>exact Bool.noConfusion (show false=true from h1)
theorem HY (xs:List WData) (h:rw2.pre.holds [] { args:=[.list xs] }=true):xs.length≤63:=by
 have e:rw2.pre=.and (.not (.lt (.lit (.int 63)) (.len (.arg 0)))) (.lit (.bool true)):=by rfl
 rw [e] at h
 have hl:WTm.value [] (.lt (.lit (.int 63)) (.len (.arg 0))) { args:=[.list xs] }=(less? (.int 63) (.int xs.length)).map WData.bool:=by rfl
 have h3:less? (.int 63) (.int xs.length)=some (decide ((63:Int)<xs.length)):=by first | rfl | simp [less?]
 rw [h3] at hl
 by_cases hx:(63:Int)<xs.length
 ·have hn:WTm.value [] (.not (.lt (.lit (.int 63)) (.len (.arg 0)))) { args:=[.list xs] }=some (.bool false):=by
   show(match WTm.value [] (.lt (.lit (.int 63)) (.len (.arg 0))) { args:=[.list xs] } with | some (.bool b)=>some (WData.bool (!b)) | _=>none)=_
   rw [hl];simp [hx]
  have ha:WTm.value [] (.and (.not (.lt (.lit (.int 63)) (.len (.arg 0)))) (.lit (.bool true))) { args:=[.list xs] }=some (.bool false):=by
   show(match WTm.value [] (.not (.lt (.lit (.int 63)) (.len (.arg 0)))) { args:=[.list xs] } with
    | some (.bool false)=>some (WData.bool false)
    | some (.bool true)=>some (.bool true)
    | _=>none)=_
   rw [hn]
  unfold WTm.holds at h
  rw [ha] at h
  cases h
 ·(exact gv (.k .A (.n 63)) .a (.ig (.n 63) .L) hx)
theorem FY:(fun(x y:List WData)=>rw2.row.claim.post x (WData.bool true) y)=fun x y=>true:=by kernel_rfl
theorem uv {h:Heap} {a:Addr} {o:Obj} (e:(frees h).get? a=some o):a≠260∧h.get? a=some o:=by
 unfold frees at e
 by_cases c:a=260
 ·subst c
  cases hq:h.get? 260 with
  | none =>
   have e2:(h.update 260 fun _=>{ cls:=.none,data:=.freed }).get? 260=none:=by
    unfold Heap.update Heap.get?
    dsimp only
    rw [Array.getElem?_modify]
    cases h.objs[(260:Nat)]?<;>rfl
   rw [e2] at e;cases e
  | some o' =>
   have e2:(h.update 260 fun _=>{ cls:=.none,data:=.freed }).get? 260=none:=by
    unfold Heap.update Heap.get?
    dsimp only
    rw [Array.getElem?_modify]
    cases h.objs[(260:Nat)]?<;>rfl
   rw [e2] at e;cases e
 ·exact⟨c,(kz _ _ (xm c)).symm.trans e⟩
theorem j5 {h:Heap} {a:Addr} {o:Obj} (c:a≠260) (e:h.get? a=some o):(frees h).get? a=some o:=(kz _ _ (xm c)).trans e
theorem lC {env:Env}:(xs ys:List Stmt)→execs (xs++ys) env=(execs xs env>>=fun f=>match f with | .next=>execs ys env | f=>pure f)
 | [],ys=>by
  rw [wo]
  exact(pure_bind (m:=Sem) Flow.next (fun f=>match f with | .next=>execs ys env | f=>pure f)).symm
 | x::xs,ys=>by
  rw [List.cons_append,execs_cons,execs_cons,bind_assoc]
  refine bu _ (funext fun f=>?_)
  cases f with
  | next=>exact lC xs ys
  | _=>exact(pure_bind _ _).symm
theorem w8 {M:Model} {A:Around} {E:Value→Shared→Prop} {env:Env} (xs ys:List Stmt) {s:Shared} {Q:Flow→Shared→Prop} (h:wpAny M A (execs xs env) (fun f s'=>f=.next∧wpAny M A (execs ys env) Q E s') E s):wpAny M A (execs (xs++ys) env) Q E s:=by
 rw [lC]
 refine ab (av h (fun f s' q=>?_) fun _ _ x=>x)
 obtain⟨rfl,q⟩:=q
 exact q
noncomputable def no:Cal:=fun _ _ _ _=>False
noncomputable abbrev noc:Nat→List V→Addr→Prop:=fun _ _ _=>False
theorem KO (hlaw:∀ ns:List Int,ns.length≤63→fy no R2.oF (frameOf ⟨1,[],R2.oF⟩ [.ro ns]) st0 fun fl ρ σ=>fl=.next∧∃ b,ρ 28=some (.int b)∧fy (gy R2.P 6) R2.fW (upd ρ 16 (.clo 0 [.int b])) σ (dH fun v _=>v=.bool true)):rw2.Holds:=by
 refine head fun d kwd hd w s₀ s₁ mg mb Gr says a o pm cd doc dV kV ho hdat hcd hdf hmg hgens args vals as hpre hlay hreads hwell hsys=>?_
 obtain⟨ob,hP1⟩:=KC w
 have hks:∀ b o,(H1 w).get? b=some o→s₁.heap.get? b=some o:=says
 have hpre':(WShape.hasAll [] args [.list .int]&&rw2.pre.holds [] { args:=args })=true:=hpre
 rw [cg] at hpre'
 obtain⟨l,vs,ns,rfl,rfl,hl,I⟩:=DL hwell hpre'.1
 have hlen:ns.length≤63:=by
  simpa using HY _ hpre'.2
 have hP:s₁.heap.get? 260=some (tabObj #[]):=hks _ _ hP1
 have hk:∀ b o,(frees (H1 w)).get? b=some o→(frees s₁.heap).get? b=some o:=fun b o e=>j5 (uv e).1 (hks _ _ (uv e).2)
 generalize frees (H1 w)=h0 at ob hk
 have hk0:∀ b o,h0.get? b=some o→s₁.heap.get? b=some o:=fun b o e=>(uv (hk b o e)).2
 have e0:=(oK ob).1
 have ha:a=263:=by
  have e1:=Gr.T.g.eq_nsMap
  have e4:=gl8 ob "law" (.ref 263) (by decide +kernel)
  have e2:=((qg e0).keeps hk0).eq_nsMap
  have e3:d.name=("law":Str):=by
   have:(defOf qv rw2.row.name).map (fun p=>p.1.name)=some ("law":Str):=by kernel_rfl
   rw [hd] at this
   exact ae this
  rw [e1,← e2,e3] at hmg
  unfold D4 at e4
  rw [hmg] at e4
  cases e4
  rfl
 subst ha
 have hno:∀ k cs a,¬ noc k cs a:=fun _ _ _ q=>q
 have lim:=GI (hb:=frees s₁.heap) ob hk
 have e1:=ob.law
 unfold zC at e1
 obtain⟨l1,e1⟩:=MP.band e1
 obtain⟨l2,e1⟩:=MP.band e1
 obtain⟨l3,l4⟩:=MP.band e1
 obtain⟨x,hx,FA,hok⟩:=zT (G:=GG w h0 (frees s₁.heap) (fun _=>false) noc) hk lim l1
 have hB:=ob.lawB
 rw [hx] at hB l2
 have hx2:x.2=dJ R2.BN x.1 R2.oF x.2++EN (x.2.getD 15 default)::dJ R2.tab x.1 R2.fW (x.2.drop 16):=bu Prod.snd (ae hB)
 have l2:GK x=true:=l2
 unfold GK at l2
 obtain⟨c1,l2⟩:=MP.band l2
 obtain⟨c2,l2⟩:=MP.band l2
 obtain⟨c3,l2⟩:=MP.band l2
 unfold IC at l2
 obtain⟨d1,l2⟩:=MP.band l2
 obtain⟨d2,l2⟩:=MP.band l2
 obtain⟨d3,l2⟩:=MP.band l2
 obtain⟨d4,l2⟩:=MP.band l2
 obtain⟨d5,l2⟩:=MP.band l2
 obtain⟨d6,l2⟩:=MP.band l2
 obtain⟨d7,l2⟩:=MP.band l2
 obtain⟨d8,d9⟩:=MP.band l2
 have LO:F5 (zz (x.2.getD 15 default)).1 (zz (x.2.getD 15 default)).2.2.1 "bits":=⟨ah d1,(dp _).mp d2,(dp _).mp d3,ah d4,d5,ah d6,eN.mp d7,eN.mp d8⟩
 unfold codeOk at l3
 obtain⟨m1,m2⟩:=MP.band l3
 obtain⟨fdl,hfd,m1⟩:=MP.any_some m1
 obtain⟨ofd,hofd,hfd2⟩:=gV hfd
 have hofd2:ofd.data=.func fdl:=lF hfd2
 have m1:fdl.code=.ref 262:=ah m1
 obtain⟨oc,hoc,m2⟩:=MP.any_some m2
 obtain⟨m3,m2⟩:=MP.band m2
 obtain⟨cvs,hcvs,m2⟩:=MP.any_some m2
 unfold ET at m2
 obtain⟨v1,m2⟩:=MP.band m2
 obtain⟨v2,m2⟩:=MP.band m2
 obtain⟨v3,m2⟩:=MP.band m2
 obtain⟨v4,m2⟩:=MP.band m2
 obtain⟨v5,v6⟩:=MP.band m2
 have hcd:oc.data=.fields cvs:=bO hcvs
 have CH:CodeHd s₁.heap 262 260:=⟨oc,cvs,_,_,_,_,_,_,_,hk0 _ _ hoc,ah m3,hcd,ah v1,ah v2,ah v3,ah v4,ah v5,ah v6,by decide⟩
 unfold tY at l4
 obtain⟨n1,n2⟩:=MP.band l4
 obtain⟨om,hom,n2⟩:=MP.any_some n2
 obtain⟨n3,n2⟩:=MP.band n2
 obtain⟨n4,n5⟩:=MP.band n2
 have hpl:om.data=.plain:=by
  cases hq:om.data<;>first | exact rfl | (rw [hq] at n5;exact Bool.noConfusion (show false=true from n5))
 have BT:s₁.heap.BuiltinsAt (h0.nsMap mainGlobals) 260:=⟨4,om,ah n1,by decide,by decide,by decide,hk0 _ _ hom,ah n3,ah n4,hpl⟩
 have hg:s₁.heap.Ns mainGlobals (h0.nsMap mainGlobals):=(qg e0).keeps hk0
 have base:Rel (GG w h0 (frees s₁.heap) (fun _=>false) noc) st0 s₁.heap:=HU _ fun b o e=>(uv e).2
 have tb:TabOk (GG w h0 (frees s₁.heap) (fun _=>false) noc) R2.BN no 15:=(EU (cp:=fun _=>false) (clo:=noc) ob hk).tab (fun k a e=>by
  obtain⟨o,fd,h1,_,h2⟩:=zU (hb:=frees s₁.heap) ob hk e
  exact⟨⟨o,fd,h1,h2⟩,fun _ _ _ _ _ _ _ _ _ _ q=>q.elim⟩) (fun k cs a q=>q.elim) (by decide)
 have hl2:(frees s₁.heap).get? l=some { cls:=.type "list",data:=.seq vs.toArray }:=j5 (fun q=>by
  subst q;rw [hP] at hl;cases hl) hl
 refine oe (pJ (G:=GG w h0 (frees s₁.heap) (fun _=>false) noc) (b:=R2.oF) (σ:=st0) (vs:=[.ro ns]) (d:=15) FA (fun A' E' env h' tk ao' es hcode eo F' R' x' hX=>?_) ao0 base (.cons (.ro hl2 I) .nil) (ay 1) (ay 1))
 have hcode':env.code=.ref 262:=by
  rw [hcode ofd fdl (hk _ _ hofd) hofd2];exact m1
 have hPX:260∉envX env:=fun q=>by
  have:=hX _ q
  rw [hP] at this;cases this
 rw [hx2]
 refine w8 _ _ (av (fU tb R2.oF x.2 hok A' E' env _ st0 _ { s₁ with heap:=h',toks:=tk } ao' es eo F' R' (hlaw ns hlen)) (fun f s' lf=>?_) fun _ _ q=>q)
 obtain⟨fl,ρ,σ,h2,tk2,rfl,fr,q,Fb,Rb,x2⟩:=lf
 obtain⟨rfl,b,hb,q⟩:=q
 cases fr
 refine⟨rfl,?_⟩
 have nd0:∀ b,¬ st0.dom b:=fun b dm=>by
  unfold MP.St.dom at dm
  simp [st0] at dm
 have xx:=x'.trans x2
 have keep:∀ b o,s₁.heap.get? b=some o→h2.get? b=some o:=fun b o e=>xx.keep b o e (nd0 b) fun q=>by
  have:=hX b q
  rw [e] at this;cases this
 have oldX:∀ b o,s₁.heap.get? b=some o→¬ σ.dom b:=fun b o e dm=>(xx.dom b dm).elim (nd0 b) fun q=>by rw [e] at q;cases q
 refine jX ?_
 refine zY (G:=GG w h0 (frees s₁.heap) (fun _=>false) noc) (s:={ s₁ with heap:=h2,toks:=tk2 }) (cap:=R2.cap) (mg:=h0.nsMap mainGlobals) (c:=262) (P:=260) LO (by decide +kernel) eo Fb Rb lim hno (fun _=>rfl) (fun x=>by show decide _=true↔_;rw [fw]) (show("isjunk":Str) ≠ "bits" by decide +kernel) (by rw [es];exact ah c2) (by rw [es];exact ah c3) hb
  (hg.keeps keep) hcode' (CH.keeps keep) (keep _ _ hP) (by decide) ?_ ?_ (oldX _ _ hP) hPX ?_
 ·obtain⟨bm,ob',b1,b2,b3,b4,b5,b6⟩:=BT
  exact⟨bm,ob',b1,b2,b3,b4,keep _ _ b5,b6⟩
 ·cases hq:(frees s₁.heap).get? 260 with
  | none=>exact hq
  | some o=>exact absurd rfl (uv hq).1
 ·intro G2 f h3 tk3 g1 g2 g3 g4 g5 g6 g7 g8 hsub LA F3 R3 hT hk3
  obtain⟨pr,w2,hb2,cM2,cS2,at2,gl2,cp2,clo2⟩:=G2
  dsimp only at g1 g2 g3 g4 g5 g6 g7 g8 hsub
  subst g1 g2 g3 g4 g5 g6 g7
  have hk2:∀ b o,h0.get? b=some o→hb2.get? b=some o:=fun b o e=>hsub _ _ (hk b o e)
  have PO:rY (GG w2 h0 hb2 R2.cap clo2) R2.tab R2.P:=HV (hb:=hb2) ob hk2 fun k cs a hc=>by
   obtain⟨rfl,rfl,rfl⟩:=(g8 k cs a).mp hc
   exact⟨1,_,reE R2.tab R2.zD (zz (x.2.getD 15 default)).2.2.1 (zz (x.2.getD 15 default)).2.1,R2.zD,rfl,LA,d9,rfl⟩
  obtain⟨hc0,hl0⟩:=tX PO 6
  have tb2:TabOk (GG w2 h0 hb2 R2.cap clo2) R2.tab (gy R2.P 6) 15:=PO.base.tab hc0 hl0 (by decide)
  show wpAny _ A' (execs (dJ R2.tab x.1 R2.fW (x.2.drop 16)) env) _ _ _
  refine av (fU tb2 R2.fW _ c1 A' E' env _ σ _ { s₁ with heap:=h3,toks:=tk3 } ao' es eo F3 R3 q) (fun f s' lf=>?_) fun _ _ q=>q
  obtain⟨fl,ρ4,σ4,h4,tk4,rfl,fr,q4,F4,R4,x4⟩:=lf
  have hv:f=.ret (.bool true):=by
   cases fr with
   | ret vr=>obtain rfl:_=V.bool true:=q4;exact bu Flow.ret vr
   | next=>exact V.noConfusion (show V.none=V.bool true from q4)
   | brk=>exact q4.elim
   | cont=>exact q4.elim
  subst hv
  have kept:∀ b o,b≠260→s₁.heap.get? b=some o→h4.get? b=some o:=fun b o hn e=>R4.base b o (hsub _ _ (j5 hn e))
  obtain⟨ps,hT⟩:=hT
  have hT4:=x4.keep _ _ hT (oldX _ _ hP) hPX
  refine⟨.inl ⟨.bool true,.bool true,[],rfl,fun cls=>rfl,.bool true,?_,fun _=>⟨List.nodup_nil,fun a h=>nomatch h⟩⟩,⟨fun b o e=>?_,fun b o e=>?_⟩,rfl,.of_eq hgens⟩
  ·exact ew (ew FY _) _
  ·by_cases c:b=260
   ·subst c
    obtain rfl:=ae (hP.symm.trans e)
    refine .inr (.inl ⟨⟨262,oc,cvs,hk0 _ _ hoc,ah m3,hcd,ah v1⟩,rfl,#[],ps,rfl,?_⟩)
    rw [hT4,Array.empty_append]
   ·exact .inl (kept b o c e)
  ·by_cases c:b=260
   ·subst c;exact⟨_,hT4⟩
   ·exact⟨o,kept b o c e⟩
end Mine
end
section
namespace MP
open PySem
theorem oa {σ:St} {a d:Addr} {f:Nat→Option V}:(σ.ju a d f).I a=some (d,f):=bg _ _ _
theorem eQ {σ:St} {a d d':Addr} {f g:Nat→Option V}:(σ.ju a d f).ju a d' g=σ.ju a d' g:=by
 unfold St.ju
 congr 1
 funext j
 simp only [upd]
 split<;>rfl
section
variable {C:Cal} {ρ:Fr} {σ:St} {e a b:Ex} {es:Exs}
theorem s8 {Q:V→St→Prop}:wpE C (.lst es) ρ σ Q=so C es ρ σ fun vs σ=>vs.length≤aq∧∀ c,σ.L c=Option.none→Q (.lst c) (σ.fg c vs):=rfl
theorem B8 {op:Bop} {Q:V→St→Prop}:wpE C (.bin op a b) ρ σ Q=wpE C a ρ σ fun va σ=>wpE C b ρ σ fun vb σ=>xv op va vb σ Q:=rfl
theorem wR {Q:V→St→Prop}:wpE C (.newM es) ρ σ Q=so C es ρ σ fun vs σ=>∀ a d,σ.I a=Option.none→C 0 (.obj a::vs) (σ.ju a d fun _=>Option.none) fun v σ=>v=.none∧Q (.obj a) σ:=rfl
theorem wU {m:Nat} {Q:V→St→Prop}:wpE C (.meth e m es) ρ σ Q=wpE C e ρ σ fun v σ=>∃ a,v=.obj a∧(σ.I a).isSome∧so C es ρ σ fun vs σ=>C m (v::vs) σ Q:=rfl
theorem wV {fv:List (Nat × Nat)} {it:It} {t:Tg} {cs:Exs} {more:Gens} {Q:V→St→Prop}:wpE C (.comp fv it t cs more) ρ σ Q=nW C it ρ σ fun vs G σ =>
   gQ vs G (fun v ρ' acc σ K=>lq t v σ ρ' fun ρ'=>vm C cs ρ' σ fun ok σ=>if ok then xu C more ρ' acc σ K else K ρ' acc σ) (yg fv ρ) [] σ
    fun _ acc σ=>∀ c,σ.L c=Option.none→Q (.lst c) (σ.fg c acc):=rfl
theorem wO {K:List V→(St→Prop)→St→Prop}:nW C (.seq e) ρ σ K=wpE C e ρ σ fun v σ=>DX v σ K:=rfl
theorem uo {Q:List V→St→Prop}:so C (.cons e es) ρ σ Q=wpE C e ρ σ fun v σ=>so C es ρ σ fun vs σ=>Q (v::vs) σ:=rfl
theorem mw {ts:List Tgt} {ss:jt} {K:Fl→Fr→St→Prop}:fy C (.cons (.assign ts e) ss) ρ σ K=wpE C e ρ σ fun v σ=>cA C ts v ρ σ fun ρ σ=>fy C ss ρ σ K:=rfl
end
theorem fA {p q:Prop} (h:q):if false=true then p else q:=h
theorem gO {p q:Prop} (h:p):if true=true then p else q:=h
theorem oS (k:Key):k.v.iW=some k:=by cases k<;>rfl
theorem rj {vs:List V} {G:St→Prop} {T:V→Fr→St→(Fr→St→Prop)→Prop} {K:Fr→St→Prop} (Inv:Nat→Fr→St→Prop)
  (step:∀ i v ρ σ,vs[i]?=some v→Inv i ρ σ→G σ∧∀ k:Fr→St→Prop,(∀ ρ' σ',Inv (i+1) ρ' σ'→k ρ' σ')→T v ρ σ k) (fin:∀ ρ σ,Inv vs.length ρ σ→G σ∧K ρ σ) {ρ:Fr} {σ:St} (h0:Inv 0 ρ σ):mX vs G T ρ σ K:=by
 have go:∀ (ws:List V) (i:Nat) (ρ:Fr) (σ:St),vs.drop i=ws→Inv i ρ σ→i≤vs.length→mX ws G T ρ σ K:=by
  intro ws
  induction ws with
  | nil =>
   intro i ρ σ e h hi
   have:i=vs.length:=by have:=List.drop_eq_nil_iff.mp e;(exact gn .B .l .A .a1 hi this)
   subst this
   exact fin ρ σ h
  | cons v ws ih =>
   intro i ρ σ e h hi
   have e1:vs[i]?=some v:=by
    have:=bu (fun l=>l[0]?) e
    simpa using this
   have e2:vs.drop (i+1)=ws:=by
    have:=bu (fun l=>l.drop 1) e
    simpa using this
   have hlt:=(cj.mp e1).1
   obtain⟨g,t⟩:=step i v ρ σ e1 h
   exact⟨g,t _ fun ρ' σ' h'=>ih (i+1) ρ' σ' e2 h' hlt⟩
 exact go vs 0 ρ σ rfl h0 (cf _)
theorem zd {T:(Fr→St→Prop)→Fr→St→Prop} (Inv:Nat→Fr→St→Prop) (step:∀ n ρ σ,Inv n ρ σ→∀ again:Fr→St→Prop,(∀ m ρ' σ',m<n→Inv m ρ' σ'→again ρ' σ')→T again ρ σ) :
  ∀ (N n:Nat) {ρ:Fr} {σ:St},n<N→Inv n ρ σ→tD T N ρ σ
 | 0,n,ρ,σ,h,_=>absurd h (fu _)
 | N+1,n,ρ,σ,h,hi=>step n ρ σ hi _ fun m ρ' σ' hm h'=>zd Inv step N m (by exact gr .C .b (.l .C .L) .U h hm) h'
noncomputable def posOf (k:Key) (bs:List Key):List Nat:=(List.range bs.length).filter fun j=>decide (bs[j]?=some k)
theorem vp (k:Key) (bs:List Key) (b:Key):posOf k (bs++[b])=posOf k bs++if b=k then [bs.length] else []:=by
 unfold posOf
 rw [bz,ue,List.range_succ,List.filter_append]
 congr 1
 ·refine List.filter_congr fun j hj=>?_
  rw [zv (nq.mp hj)]
 ·simp [eO]
structure B2J (σ₀ σ:St) (db:Addr) (bs:List Key):Prop where
 tab:∃ es,σ.D db=some es∧es.length≤bs.length∧(∀ k,es.lookup k=none→posOf k bs=[]) ∧
  (∀ k w,es.lookup k=some w→∃ c,w=.lst c∧σ.L c=some ((posOf k bs).map fun j:Nat=>V.int j)∧σ₀.L c=none) ∧
  ∀ k k' c,es.lookup k=some (.lst c)→es.lookup k'=some (.lst c)→k=k'
 old:∀ a xs,σ₀.L a=some xs→σ.L a=some xs
 I:σ.I=σ₀.I
 S:σ.S=σ₀.S
 D:∀ a,a≠db→σ.D a=σ₀.D a
 keys:∀ es,σ.D db=some es→(es.map (·.1)).Nodup∧∀ k∈es.map (·.1),k∈bs
theorem B2J.start {σ₀:St} {db:Addr}:B2J σ₀ (σ₀.mx db []) db [] :=
 ⟨⟨[],bg _ _ _,ay _,fun k _=>rfl,fun k w e=>(by cases e),fun k k' c e=>(by cases e)⟩,fun a xs e=>e,rfl,rfl,fun a h=>dq h,fun es e=>by
  obtain rfl:=ae ((bg σ₀.D db []).symm.trans e)
  exact⟨List.nodup_nil,fun k h=>nomatch h⟩⟩
theorem ua {es:List (Key × V)} {k k':Key} {v:V}:(es++[(k,v)]).lookup k'=(es.lookup k').or (if k'=k then some v else none):=by
 induction es with
 | nil=>simp [List.lookup];split<;>simp_all
 | cons e r ih =>
  obtain⟨a,b⟩:=e
  simp only [List.cons_append,List.lookup]
  split
  ·rfl
  ·exact ih
noncomputable abbrev zo (k:Key) (bs:List Key):List V:=(posOf k bs).map fun j:Nat=>V.int j
theorem eT (k:Key) (bs:List Key) (b:Key):zo k (bs++[b])=zo k bs++if b=k then [.int bs.length] else []:=by
 unfold zo
 rw [vp,jy]
 congr 1
 split<;>rfl
theorem B2J.step {σ₀ σ:St} {db c:Addr} {bs:List Key} (h:B2J σ₀ σ db bs) (hc:σ.L c=none) (b:Key):∃ es,σ.D db=some es∧es.length≤bs.length ∧
  ∃ c',(es.lookup b).getD (.lst c)=.lst c'∧((σ.fg c []).mx db (if (es.lookup b).isSome then es else es++[(b,.lst c)])).L c'=some (zo b bs) ∧
   B2J σ₀ (((σ.fg c []).mx db (if (es.lookup b).isSome then es else es++[(b,.lst c)])).fg c' (zo b bs++[.int bs.length])) db (bs++[b]):=by
 obtain⟨es,hD,hlen,hno,hyes,hinj⟩:=h.tab
 refine⟨es,hD,hlen,?_⟩
 have hc0:σ₀.L c=none:=by
  cases hq:σ₀.L c with
  | none=>rfl
  | some xs=>rw [h.old c xs hq] at hc;cases hc
 cases hb:es.lookup b with
 | some w =>
  obtain⟨c1,rfl,hL1,h01⟩:=hyes b w hb
  have hne:c1≠c:=fun e=>by rw [e,hc] at hL1;cases hL1
  refine⟨c1,rfl,?_,?_⟩
  ·show upd σ.L c [] c1=_
   rw [dq hne];exact hL1
  ·simp only [Option.isSome_some,rp]
   refine⟨⟨es,bg _ _ _,by simp;(exact bh .O .a .A hlen),fun k e=>?_,fun k w e=>?_,hinj⟩,fun a xs e=>?_,h.I,h.S,fun a ha=>?_,fun es' e'=>?_⟩
   ·have hk:b≠k:=fun q=>by rw [← q,hb] at e;cases e
    rw [vp,hno k e,aw hk];rfl
   ·obtain⟨c2,rfl,hL2,h02⟩:=hyes k w e
    refine⟨c2,rfl,?_,h02⟩
    show upd (upd σ.L c []) c1 _ c2=some (zo k (bs++[b]))
    rw [eT]
    by_cases hk:b=k
    ·subst hk
     rw [hb] at e
     cases e
     rw [bg,bx rfl]
    ·have h12:c2≠c1:=fun q=>hk (hinj b k c1 hb (q▸e))
     have h2c:c2≠c:=fun q=>by rw [q,hc] at hL2;cases hL2
     rw [dq h12,dq h2c,aw hk,fc];exact hL2
   ·show upd (upd σ.L c []) c1 _ a=some xs
    have h1:a≠c1:=fun q=>by rw [q,h01] at e;cases e
    have h2:a≠c:=fun q=>by rw [q,hc0] at e;cases e
    rw [dq h1,dq h2];exact h.old a xs e
   ·show upd σ.D db es a=_
    rw [dq ha];exact h.D a ha
   ·obtain rfl:=ae ((bg σ.D db es).symm.trans e')
    obtain⟨k1,k2⟩:=h.keys _ hD
    exact⟨k1,fun k hk=>ek _ (k2 k hk)⟩
 | none =>
  have hp:posOf b bs=[]:=hno b hb
  have hpv:zo b bs=[]:=by unfold zo;rw [hp];rfl
  refine⟨c,rfl,?_,?_⟩
  ·show upd σ.L c [] c=_
   rw [bg,hpv]
  ·simp only [sd,cy,je]
   refine⟨⟨es++[(b,V.lst c)],(show upd σ.D db (es++[(b,V.lst c)]) db=_ from bg _ _ _),by simp;(exact bh .A .a .A hlen),fun k e=>?_,fun k w e=>?_,fun k k' c2 e e'=>?_⟩,fun a xs e=>?_,h.I,h.S,fun a ha=>?_,fun es' e'=>?_⟩
   ·rw [ua] at e
    cases hk:es.lookup k with
    | some w=>rw [hk] at e;cases e
    | none =>
     rw [hk,yq] at e
     have hbk:b≠k:=fun q=>by rw [bx q.symm] at e;cases e
     rw [vp,hno k hk,aw hbk];rfl
   ·rw [ua] at e
    cases hk:es.lookup k with
    | some w' =>
     rw [hk,Option.some_or] at e
     cases e
     obtain⟨c2,rfl,hL2,h02⟩:=hyes k _ hk
     refine⟨c2,rfl,?_,h02⟩
     show upd (upd σ.L c []) c _ c2=some (zo k (bs++[b]))
     have h2c:c2≠c:=fun q=>by rw [q,hc] at hL2;cases hL2
     have hbk:b≠k:=fun q=>by rw [← q,hb] at hk;cases hk
     rw [dq h2c,dq h2c,eT,aw hbk,fc];exact hL2
    | none =>
     rw [hk,yq] at e
     split at e
     ·rename_i q
      cases e
      subst q
      refine⟨c,rfl,?_,hc0⟩
      show upd (upd σ.L c []) c _ c=some (zo k (bs++[k]))
      rw [bg,eT,bx rfl]
     ·cases e
   ·rw [ua] at e e'
    have fresh:∀ k2,es.lookup k2≠some (.lst c):=fun k2 e2=>by
     obtain⟨c3,e3,hL3,_⟩:=hyes k2 _ e2
     cases e3
     rw [hc] at hL3;cases hL3
    cases hk:es.lookup k with
    | some w =>
     rw [hk,Option.some_or] at e
     cases e
     cases hk':es.lookup k' with
     | some w'=>rw [hk',Option.some_or] at e';cases e';exact hinj k k' c2 hk hk'
     | none =>
      rw [hk',yq] at e'
      split at e'
      ·cases e';exact absurd hk (fresh k)
      ·cases e'
    | none =>
     rw [hk,yq] at e
     split at e
     ·rename_i q
      cases e
      cases hk':es.lookup k' with
      | some w'=>rw [hk',Option.some_or] at e';cases e';exact absurd hk' (fresh k')
      | none =>
       rw [hk',yq] at e'
       split at e'
       ·rename_i q';rw [q,q']
       ·cases e'
     ·cases e
   ·show upd (upd σ.L c []) c _ a=some xs
    have h2:a≠c:=fun q=>by rw [q,hc0] at e;cases e
    rw [dq h2,dq h2];exact h.old a xs e
   ·show upd σ.D db _ a=_
    rw [dq ha];exact h.D a ha
   ·obtain rfl:=ae ((bg σ.D db (es++[(b,V.lst c)])).symm.trans e')
    obtain⟨k1,k2⟩:=h.keys _ hD
    rw [jy]
    refine⟨List.nodup_append.mpr ⟨k1,by simp,fun x hx y hy=>?_⟩,fun k hk=>?_⟩
    ·obtain rfl:=aj.mp hy
     rintro rfl
     obtain⟨p,hpm,rfl⟩:=bw.mp hx
     rw [nr] at hb
     have:=hb p hpm
     simp at this
    ·rcases gm.mp hk with hk | hk
     ·exact ek _ (k2 k hk)
     ·exact jh _ hk
end MP
end
section
set_option tactic.hygienic true
namespace MP
noncomputable def hit (as bs:List Key) (rm:Key→Bool) (i j:Nat):Bool:=match as[i]?,bs[j]? with
 | some a,some b=>decide (a=b)&&!rm a
 | _,_=>false
theorem uc {as bs:List Key} {rm:Key→Bool} {i j:Nat}:hit as bs rm i j=true↔∃ c,as[i]?=some c∧bs[j]?=some c∧rm c=false:=by
 cases ha:as[i]? with
 | none=>rw [show hit as bs rm i j=false by unfold hit;rw [ha]];exact⟨(fun h=>nomatch h),fun h=>by obtain⟨c,h1,_⟩:=h;cases h1⟩
 | some a =>
  cases hb:bs[j]? with
  | none=>rw [show hit as bs rm i j=false by unfold hit;rw [ha,hb]];exact⟨(fun h=>nomatch h),fun h=>by obtain⟨c,_,h1,_⟩:=h;cases h1⟩
  | some b =>
   rw [show hit as bs rm i j=(decide (a=b)&&!rm a) by unfold hit;rw [ha,hb],cg,fw,dp]
   refine⟨fun h=>?_,fun h=>?_⟩
   ·obtain⟨rfl,h⟩:=h;exact⟨_,rfl,rfl,h⟩
   ·obtain⟨c,h1,h2,h⟩:=h
    obtain rfl:=ae h1
    obtain rfl:=ae h2
    exact⟨rfl,h⟩
structure Run (as bs:List Key) (rm:Key→Bool) (alo ahi blo bhi i j k:Nat):Prop where
 ai:alo≤i
 ia:i+k≤ahi
 bj:blo≤j
 jb:j+k≤bhi
 eq:∀ t,t<k→hit as bs rm (i+t) (j+t)=true
structure kJ (as bs:List Key) (rm:Key→Bool) (alo ahi blo bhi i j k:Nat):Prop where
 run:Run as bs rm alo ahi blo bhi i j k
 zero:k=0→i=alo∧j=blo
 max:∀ i' j' k',0<k'→Run as bs rm alo ahi blo bhi i' j' k'→k'<k∨(k'=k∧(i<i'∨(i=i'∧j≤j')))
theorem kJ.uniq {as bs:List Key} {rm:Key→Bool} {alo ahi blo bhi i j k i' j' k':Nat} (h:kJ as bs rm alo ahi blo bhi i j k) (h':kJ as bs rm alo ahi blo bhi i' j' k'):i=i'∧j=j'∧k=k':=by
 by_cases hk:k=0
 ·by_cases hk':k'=0
  ·have a:=h.zero hk
   have b:=h'.zero hk'
   (exact⟨(gr .B .n (.e .A .C) (.e .B .C) a.1 b.1),⟨(gr .B .n (.e .A .C) (.e .B .C) a.2 b.2),(gn .B .l .L .a5 hk hk')⟩⟩)
  ·have:=h.max _ _ _ (by exact(bp hk').elim (fun q1=>(gv .N [[0,1]] (.l .A .O) q1)) fun q1=>(gv .N .a .N q1)) h'.run
   (exact⟨((bp hk').elim (fun q1=>(dw .B .u .bX q1)) fun q1=>(this.elim (fun q2=>(ee .B .f .aF .aN hk q2)) fun q2=>(rz .B .v .aF .bI .bW hk q1 q2.1))),⟨((bp hk').elim (fun q1=>(dw .B .u .bX q1)) fun q1=>(this.elim (fun q2=>(ee .B .f .aF .aN hk q2)) fun q2=>(rz .B .v .aF .bI .bW hk q1 q2.1))),((bp hk').elim (fun q1=>(gn .B .l .L (.l .B .O) hk q1)) fun q1=>(this.elim (fun q2=>(gn .B .l .L .a7 hk q2)) fun q2=>(bh .B .g (.e .B .A) q2.1)))⟩⟩)
 ·by_cases hk':k'=0
  ·have:=h'.max _ _ _ (by exact(bp hk).elim (fun q1=>(gv .N [[0,1]] (.l .A .O) q1)) fun q1=>(gv .N .a .N q1)) h.run
   (exact⟨((bp hk).elim (fun q1=>(dw .B .u .bX q1)) fun q1=>(this.elim (fun q2=>(ee .B .f .aF .aN hk' q2)) fun q2=>(rz .B .v .aF .bI .bW hk' q1 q2.1))),⟨((bp hk).elim (fun q1=>(dw .B .u .bX q1)) fun q1=>(this.elim (fun q2=>(ee .B .f .aF .aN hk' q2)) fun q2=>(rz .B .v .aF .bI .bW hk' q1 q2.1))),((bp hk).elim (fun q1=>(gn .B .r .a5 (.l .A .O) hk' q1)) fun q1=>(this.elim (fun q2=>(gn .B .r .a5 .C hk' q2)) fun q2=>(bh .B .h .B q2.1)))⟩⟩)
  ·have a:=h.max _ _ _ (by exact(bp hk).elim (fun q1=>(bh .N [[0,1]] (.l .B .O) q1)) fun q1=>((bp hk').elim (fun q2=>(gv .N [[0,1]] (.l .A .O) q2)) fun q2=>(gv .N .a .N q2))) h'.run
   have b:=h'.max _ _ _ (by exact(bp hk).elim (fun q1=>(gv .N [[0,1]] (.l .A .O) q1)) fun q1=>(gv .N .a .N q1)) h.run
   (exact⟨((bp hk).elim (fun q1=>(dw .B .u .bX q1)) fun q1=>((bp hk').elim (fun q2=>(dw .B .u .bX q2)) fun q2=>(a.elim (fun q3=>(b.elim (fun q4=>(ee .B .f .aC .aN q3 q4)) fun q4=>(ee .B .f .aC .bW q3 q4.1))) fun q3=>(b.elim (fun q4=>(ee .B .f .aV .aN q3.1 q4)) fun q4=>(q3.2.elim (fun q5=>(q4.2.elim (fun q6=>(gn .B .l .C .a7 q5 q6)) fun q6=>(bh .B .g (.e .B .A) q6.1))) fun q5=>(bh .B .h .B q5.1)))))),⟨((bp hk).elim (fun q1=>(dw .B .u .bX q1)) fun q1=>((bp hk').elim (fun q2=>(dw .B .u .bX q2)) fun q2=>(a.elim (fun q3=>(b.elim (fun q4=>(ee .B .f .aC .aN q3 q4)) fun q4=>(ee .B .f .aC .bW q3 q4.1))) fun q3=>(b.elim (fun q4=>(ee .B .f .aV .aN q3.1 q4)) fun q4=>(q3.2.elim (fun q5=>(q4.2.elim (fun q6=>(ee .B .f .aC .aN q5 q6)) fun q6=>(ee .B .f .aC .bW q5 q6.1))) fun q5=>(q4.2.elim (fun q6=>(ee .B .f .aV .aN q5.1 q6)) fun q6=>(gn .B .l .A .a1 q5.2 q6.2))))))),((bp hk).elim (fun q1=>(bh .B [[0,1],[1,1]] (.l .A .O) q1)) fun q1=>((bp hk').elim (fun q2=>(bh .B [[1,1],[0,1]] (.l .B .O) q2)) fun q2=>(a.elim (fun q3=>(b.elim (fun q4=>(gn .B .r .a7 .C q3 q4)) fun q4=>(bh .B .h .B q4.1))) fun q3=>(bh .B .g (.e .B .A) q3.1))))⟩⟩)
noncomputable def el (as bs:List Key) (rm:Key→Bool) (alo blo:Nat):Nat→Nat→Nat
 | i+1,j+1=>if alo≤i∧blo≤j∧hit as bs rm i j=true then el as bs rm alo blo i j+1 else 0
 | _,_=>0
section
variable {as bs:List Key} {rm:Key→Bool} {alo ahi blo bhi:Nat}
theorem n8 {i j:Nat}:el as bs rm alo blo (i+1) (j+1)=if alo≤i∧blo≤j∧hit as bs rm i j=true then el as bs rm alo blo i j+1 else 0:=rfl
theorem A3 {j:Nat}:el as bs rm alo blo alo j=0:=by
 cases alo with
 | zero=>cases j<;>rfl
 | succ n =>
  cases j with
  | zero=>rfl
  | succ j =>
   rw [n8]
   rw [aw]
   (exact fun q1=>(gv .ff [[0,1]] (.k .M .A) q1.1))
theorem n9:∀ {i j:Nat},el as bs rm alo blo i j≤i∧el as bs rm alo blo i j≤j∧(0<el as bs rm alo blo i j→Run as bs rm alo i blo j (i-el as bs rm alo blo i j) (j-el as bs rm alo blo i j) (el as bs rm alo blo i j))
 | 0,j=>⟨cf _,cf _,fun h=>absurd h (jc 0)⟩
 | i+1,0=>⟨cf _,cf _,fun h=>absurd h (jc 0)⟩
 | i+1,j+1=>by
  rw [n8]
  split
  ·rename_i c
   obtain⟨h1,h2,R⟩:=n9 (i:=i) (j:=j)
   refine⟨by exact bh .aD .a .A h1,by exact bh .aD .a .A h2,fun _=>?_⟩
   by_cases h0:0<el as bs rm alo blo i j
   ·have R:=R h0
    generalize el as bs rm alo blo i j=m at *
    refine⟨?_,by exact dw (.k .Z .Q) .a (.e .Z .Q) (aa (bh .aD .a .A h1)),?_,by exact dw (.k .Z .Q) .a (.e .Z .Q) (aa (bh .aD .a .A h2)),fun t ht=>?_⟩
    ·have:=R.ai;(exact ky .A .k .G .bQ (.e (.a .B .V) .X) this (aa (bh .A .a .A h1)) (aa (bh .aD .a .A h1)))
    ·have:=R.bj;(exact ky .A .k .G .bQ (.e (.a .B .V) .X) this (aa (bh .A .a .A h2)) (aa (bh .aD .a .A h2)))
    ·by_cases hm:t<m
     ·have:=R.eq t hm
      have e1:i+1-(m+1)+t=i-m+t:=by(exact jP (.e .P .a5) .n (.e (.a .A .V) .X) .bQ (aa (bh .aD .a .A h1)) (aa (bh .A .a .A h1)))
      have e2:j+1-(m+1)+t=j-m+t:=by(exact jP (.e .P .a5) .n (.e (.a .A .V) .X) .bQ (aa (bh .aD .a .A h2)) (aa (bh .A .a .A h2)))
      rw [e1,e2];exact this
     ·have e1:i+1-(m+1)+t=i:=by(exact rz .a3 [[1,0,1,-1],[1,1,0,1]] (.l .B .V) (.g .B .D) (.e (.a .A .V) .Q) ht hm (aa (bh .aD .a .A h1)))
      have e2:j+1-(m+1)+t=j:=by(exact eF .a3 .t (.e (.a .D .B) .F) (.e (.a .D .a4) .X) (.e (.a .A .a4) .Q) e1 (aa (bh .aD .a .A h1)) (aa (bh .aD .a .A h2)))
      rw [e1,e2];exact c.2.2
   ·have h0':el as bs rm alo blo i j=0:=by(exact gv .L .B (.g .O .A) h0)
    rw [h0']
    refine⟨by exact gr .A .c .G (.e (.a .B .a7) .Q) c.1 (aa (ic (.k .a7 .M) .i)),by exact bh (.k (.a .A .a7) .L) .a (.e (.a .A .a7) .L) (aa (ic (.k .a7 .M) .i)),by exact gr .A .c .G (.e (.a .B .a7) .Q) c.2.1 (aa (ic (.k .a7 .M) .i)),by exact bh (.k (.a .A .a7) .L) .a (.e (.a .A .a7) .L) (aa (ic (.k .a7 .M) .i)),fun t ht=>?_⟩
    have:t=0:=by(exact gv .L .B (.l .A .a7) ht)
    subst this
    exact c.2.2
  ·exact⟨cf _,cf _,fun h=>absurd h (jc 0)⟩
theorem A4:∀ {i j i' j' k':Nat},i'+k'=i→j'+k'=j→Run as bs rm alo ahi blo bhi i' j' k'→k'≤el as bs rm alo blo i j
 | i,j,i',j',0,_,_,_=>cf _
 | i,j,i',j',k'+1,e1,e2,R=>by
  subst e1;subst e2
  show _≤el as bs rm alo blo (i'+k'+1) (j'+k'+1)
  have:=R.ai;have:=R.bj
  rw [n8]
  rw [bx ⟨by(rename_i z1;exact dw (.k .A .R) .a .A z1),by exact dw (.k .A .R) .a .A this,R.eq k' (by exact ic (.l .A .M) .i)⟩]
  have:=A4 (i:=i'+k') (j:=j'+k') (i':=i') (j':=j') (k':=k') rfl rfl ⟨R.ai,by have:=R.ia;(exact dw .Q .a .aS this),R.bj,by have:=R.jb;(exact dw .Q .a .aS this),fun t ht=>R.eq t (by exact bh .I .a .C ht)⟩
  (exact bh .aD .a .A this)
structure Scan (as bs:List Key) (rm:Key→Bool) (alo ahi blo bhi:Nat) (seen:Nat→Nat→Prop) (i j k:Nat):Prop where
 run:Run as bs rm alo ahi blo bhi i j k
 zero:k=0→i=alo∧j=blo
 at_:0<k→seen (i+k-1) (j+k-1)
 max:∀ i' j',seen i' j'→0<el as bs rm alo blo (i'+1) (j'+1)→el as bs rm alo blo (i'+1) (j'+1)<k∨(el as bs rm alo blo (i'+1) (j'+1)=k∧(i<i'+1-k∨(i=i'+1-k∧j≤j'+1-k)))
theorem Scan.start (ha:alo≤ahi) (hb:blo≤bhi):Scan as bs rm alo ahi blo bhi (fun _ _=>False) alo blo 0 :=
 ⟨⟨ay _,ha,ay _,hb,fun t ht=>absurd ht (fu _)⟩,fun _=>⟨rfl,rfl⟩,fun h=>absurd h (jc 0),fun _ _ h=>h.elim⟩
theorem Scan.skip {seen seen':Nat→Nat→Prop} {i j k:Nat} (h:Scan as bs rm alo ahi blo bhi seen i j k) (hm:∀ i' j',seen i' j'→seen' i' j') (hs:∀ i' j',seen' i' j'→seen i' j'∨el as bs rm alo blo (i'+1) (j'+1)=0∨el as bs rm alo blo (i'+1) (j'+1)<k∨(el as bs rm alo blo (i'+1) (j'+1)=k∧(i<i'+1-k∨(i=i'+1-k∧j≤j'+1-k)))):Scan as bs rm alo ahi blo bhi seen' i j k :=
 ⟨h.run,h.zero,fun h0=>hm _ _ (h.at_ h0),fun i' j' hs' h0=>by
  rcases hs i' j' hs' with q | q | q | q
  ·exact h.max i' j' q h0
  ·(exact .inl (gn .C .e .N .L h0 q))
  ·exact .inl q
  ·exact .inr q⟩
theorem Scan.take {seen seen':Nat→Nat→Prop} {i j k i0 j0:Nat} (h:Scan as bs rm alo ahi blo bhi seen i j k) (hi:i0<ahi) (hj:j0<bhi) (hk:k<el as bs rm alo blo (i0+1) (j0+1)) (h0:seen' i0 j0)
  (hs:∀ i' j',seen' i' j'→seen i' j'∨(i'=i0∧j'=j0)∨el as bs rm alo blo (i'+1) (j'+1)=0):Scan as bs rm alo ahi blo bhi seen' (i0+1-el as bs rm alo blo (i0+1) (j0+1)) (j0+1-el as bs rm alo blo (i0+1) (j0+1)) (el as bs rm alo blo (i0+1) (j0+1)):=by
 obtain⟨h1,h2,R⟩:=n9 (as:=as) (bs:=bs) (rm:=rm) (alo:=alo) (blo:=blo) (i:=i0+1) (j:=j0+1)
 have R:=R (by exact bh .N .a .a7 hk)
 refine⟨⟨R.ai,by exact ee .Q .b .aN (.e .P .V) hi (aa (bh .O .a .O h1)),R.bj,by exact ee .Q .b .aN (.e .P .V) hj (aa (bh .O .a .O h2)),R.eq⟩,fun h0=>by exact⟨(ee .B .f .aC .aB hk h0),(ee .B .f .aC .aB hk h0)⟩,fun _=>?_,fun i' j' hs' h0=>?_⟩
 ·have e1:i0+1-el as bs rm alo blo (i0+1) (j0+1)+el as bs rm alo blo (i0+1) (j0+1)-1=i0:=by(rename_i z1;exact Ar.sub _ _ (fun q1 p1=>(ee .B .x (.e .M .T) (.e .T .L) (aa (bh .bA .a .a4 z1)) p1)) fun q1 p1=>(gR .B [[1,0,-1,1,0],[1,1,1,0,1]] .b8 (.e .M (.a .D .C)) (.k .L .C) .aB h1 (aa (bh .bA .a .a4 z1)) q1 p1))
  have e2:j0+1-el as bs rm alo blo (i0+1) (j0+1)+el as bs rm alo blo (i0+1) (j0+1)-1=j0:=by(rename_i z1;exact Ar.sub _ _ (fun q1 p1=>(ee .B .x (.e .M .T) (.e .T .L) (aa (bh .bA .a .a4 z1)) p1)) fun q1 p1=>(gR .B [[1,0,-1,1,0],[1,1,1,0,1]] .b8 (.e .M (.a .D .C)) (.k .L .C) .aB h2 (aa (bh .bA .a .a4 z1)) q1 p1))
  rw [e1,e2];exact h0
 ·rcases hs i' j' hs' with q | ⟨rfl,rfl⟩ | q
  ·have:=h.max i' j' q h0
   (rename_i z1;exact .inl ((Ar.imp z1).elim (fun q1=>(gr .C .e .aG (.g .O .B) hk q1)) fun q1=>(this.elim (fun q2=>(gr .C .b .aG .U hk q2)) fun q2=>(gr .C .b .aG (.e .A .C) hk q2.1))))
  ·exact .inr ⟨rfl,.inr ⟨rfl,ay _⟩⟩
  ·(exact .inl (gn .C .e .N .L h0 q))
theorem Scan.best {seen:Nat→Nat→Prop} {i j k:Nat} (h:Scan as bs rm alo ahi blo bhi seen i j k) (hs:∀ i' j',alo≤i'→i'<ahi→blo≤j'→j'<bhi→0<el as bs rm alo blo (i'+1) (j'+1)→seen i' j'):kJ as bs rm alo ahi blo bhi i j k:=by
 refine⟨h.run,h.zero,fun i' j' k' h0 R=>?_⟩
 have hm:=A4 (i:=i'+k'-1+1) (j:=j'+k'-1+1) (by exact dw (.e .P .Q) .g (.e .Q .P) (aa (bh .bA .a .a4 h0))) (by exact dw (.e .P .Q) .g (.e .Q .P) (aa (bh .bA .a .a4 h0))) R
 have:=h.max (i'+k'-1) (j'+k'-1) (hs _ _ (by have:=R.ai;(exact rz .A .k .aT .b3 (.e .L (.a .D .C)) h0 this (aa (bh .bA .a .a4 h0)))) (by have:=R.ia;(exact ee .C .b (.k .T .B) (.e .M .T) this (aa (bh .bA .a .a4 h0)))) (by have:=R.bj;(exact rz .A .k .aT .b3 (.e .L (.a .D .C)) h0 this (aa (bh .bA .a .a4 h0)))) (by have:=R.jb;(exact ee .C .b (.k .T .B) (.e .M .T) this (aa (bh .bA .a .a4 h0)))) (by exact gn .N .b .a4 .a1 h0 hm)) (by exact gn .N .b .a4 .a1 h0 hm)
 generalize el as bs rm alo blo (i'+k'-1+1) (j'+k'-1+1)=e at *
 rcases Nat.lt_or_ge k' k with c | c
 ·exact .inl c
 ·rcases this with q | ⟨q,q'⟩
  ·exact absurd (cx q c) (jx.mpr hm)
  ·have e2:k'=k:=Nat.le_antisymm (q▸hm) c
   have s1:i'+k'-1+1-k=i':=by(exact Ar.sub _ _ (fun q1 p1=>(Ar.sub _ _ (fun q2 p2=>(ky .B [[1,-1,-1,-1],[1,1,1,1]] .aV (.e .a1 .X) (.e .X .R) e2 p1 p2)) fun q2 p2=>(DM .B [[1,0,-1,-1,1,0],[1,1,1,1,0,1]] .aT .aV (.e .a1 .X) (.k .R .U) .aY h0 e2 p1 q2 p2))) fun q1 p1=>(Ar.sub _ _ (fun q2 p2=>(DN .B [[1,-1,1,0,-1],[1,0,0,1,0]] .aV (.k .X .D) .L (.e .X .R) e2 q1 p1 p2)) fun q2 p2=>(qc .B .m .aT .L (.k .R .U) h0 p1 q2)))
   have s2:j'+k'-1+1-k=j':=by(exact Ar.sub _ _ (fun q1 p1=>(Ar.sub _ _ (fun q2 p2=>(ky .B [[1,-1,-1,-1],[1,1,1,1]] .aV (.e .a1 .X) (.e .X .R) e2 p1 p2)) fun q2 p2=>(DM .B [[1,0,-1,-1,1,0],[1,1,1,1,0,1]] .aT .aV (.e .a1 .X) (.k .R .U) .aY h0 e2 p1 q2 p2))) fun q1 p1=>(Ar.sub _ _ (fun q2 p2=>(DN .B [[1,-1,1,0,-1],[1,0,0,1,0]] .aV (.k .X .D) .L (.e .X .R) e2 q1 p1 p2)) fun q2 p2=>(qc .B .m .aT .L (.k .R .U) h0 p1 q2)))
   rw [s1,s2] at q'
   exact .inr ⟨e2,q'⟩
noncomputable def wi (as bs:List Key) (ok:Key→Bool) (alo blo:Nat):Nat→Nat→Nat→Nat × Nat × Nat
 | i+1,j+1,k=>if alo<i+1∧blo<j+1∧hit as bs (fun c=>!ok c) i j=true then wi as bs ok alo blo i j (k+1) else (i+1,j+1,k)
 | i,j,k=>(i,j,k)
noncomputable def dW (as bs:List Key) (ok:Key→Bool) (ahi bhi:Nat):Nat→Nat→Nat→Nat→Nat
 | 0,_,_,k=>k
 | n+1,i,j,k=>if i+k<ahi∧j+k<bhi∧hit as bs (fun c=>!ok c) (i+k) (j+k)=true then dW as bs ok ahi bhi n i j (k+1) else k
theorem cL {ok:Key→Bool} {i j k:Nat}:wi as bs ok alo blo (i+1) (j+1) k=if alo<i+1∧blo<j+1∧hit as bs (fun c=>!ok c) i j=true then wi as bs ok alo blo i j (k+1) else (i+1,j+1,k):=rfl
theorem wh {ok:Key→Bool} {n i j k:Nat}:dW as bs ok ahi bhi (n+1) i j k=if i+k<ahi∧j+k<bhi∧hit as bs (fun c=>!ok c) (i+k) (j+k)=true then dW as bs ok ahi bhi n i j (k+1) else k:=rfl
noncomputable def grow (as bs:List Key) (js:Key→Bool) (alo ahi blo bhi i j k:Nat):Nat × Nat × Nat :=
 let p:=wi as bs (fun c=>!js c) alo blo i j k
 let q:=dW as bs (fun c=>!js c) ahi bhi (ahi-p.1) p.1 p.2.1 p.2.2
 let r:=wi as bs js alo blo p.1 p.2.1 q
 (r.1,r.2.1,dW as bs js ahi bhi (ahi-r.1) r.1 r.2.1 r.2.2)
end
end MP
end
section
namespace MP
open PySem
structure Kp (σ σ':St):Prop where
 L:∀ a xs,σ.L a=some xs→σ'.L a=some xs
 D:∀ a es,σ.D a=some es→σ'.D a=some es
 S:σ'.S=σ.S
 I:σ'.I=σ.I
theorem Kp.refl (σ:St):Kp σ σ:=⟨fun _ _ e=>e,fun _ _ e=>e,rfl,rfl⟩
theorem Kp.trans {σ σ₁ σ₂:St} (h:Kp σ σ₁) (h':Kp σ₁ σ₂):Kp σ σ₂:=⟨fun a xs e=>h'.L a xs (h.L a xs e),fun a xs e=>h'.D a xs (h.D a xs e),h'.S.trans h.S,h'.I.trans h.I⟩
theorem Kp.noD {σ σ₁:St} (h:Kp σ σ₁) {c:Addr} (hc:σ₁.D c=none):σ.D c=none:=by
 cases q:σ.D c with
 | none=>rfl
 | some xs=>rw [h.D _ _ q] at hc;cases hc
theorem Kp.fg {σ σ₁:St} (h:Kp σ σ₁) {c:Addr} {xs:List V} (hc:σ.L c=none):Kp σ (σ₁.fg c xs):=⟨fun a ys e=>by
 have:a≠c:=fun q=>by rw [q,hc] at e;cases e
 show upd σ₁.L c xs a=_
 rw [dq this];exact h.L a ys e,h.D,h.S,h.I⟩
theorem Kp.mx {σ σ₁:St} (h:Kp σ σ₁) {c:Addr} {xs:List (Key × V)} (hc:σ.D c=none):Kp σ (σ₁.mx c xs):=⟨h.L,fun a ys e=>by
 have:a≠c:=fun q=>by rw [q,hc] at e;cases e
 show upd σ₁.D c xs a=_
 rw [dq this];exact h.D a ys e,h.S,h.I⟩
noncomputable def yl:Key→Prop
 | .int _=>True
 | .str s=>PyData.strOk s=true
theorem wQ {k k':Key} {σ:St} {K:Bool→Prop} (h:yl k) (h':yl k') (q:K (decide (k=k'))):pV k.v k'.v σ K:=by
 cases k with
 | int a =>
  cases k' with
  | int b =>
   show K (a==b)
   have:(a==b)=decide (Key.int a=Key.int b):=by
    by_cases e:a=b
    ·simp [e]
    ·simp [e]
   rw [this];exact q
  | str b =>
   refine⟨.int a,.str b,rfl,?_,?_⟩
   ·show(if PyData.strOk b then some (PyData.str b) else none)=_
    rw [bx (show PyData.strOk b=true from h')]
   ·have:PyData.eqv (.int a) (.str b)=decide (Key.int a=Key.str b):=by simp [PyData.eqv]
    rw [this];exact q
 | str a =>
  cases k' with
  | int b =>
   refine⟨.str a,.int b,?_,rfl,?_⟩
   ·show(if PyData.strOk a then some (PyData.str a) else none)=_
    rw [bx (show PyData.strOk a=true from h)]
   ·have:PyData.eqv (.str a) (.int b)=decide (Key.str a=Key.int b):=by simp [PyData.eqv]
    rw [this];exact q
  | str b =>
   show K (a==b)
   have:(a==b)=decide (Key.str a=Key.str b):=by
    by_cases e:a=b
    ·simp [e]
    ·simp [e]
   rw [this];exact q
theorem kL {k k':Key} {σ:St} {K:Bool→Prop} (h:yl k) (h':yl k') (q:K (decide (k=k'))):cY .eq k.v k'.v σ K:=wQ h h' q
theorem kT {k:Key} {bs:List Key} {j:Nat}:j∈posOf k bs↔bs[j]?=some k:=by
 unfold posOf
 rw [gI,nq,fw]
 refine⟨fun h=>h.2,fun h=>⟨(cj.mp h).1,h⟩⟩
theorem yI {k:Key} {bs:List Key}:(posOf k bs).Pairwise (·<·):=List.Pairwise.filter _ List.pairwise_lt_range
theorem vC {k:Key} {bs:List Key}:(posOf k bs).length≤bs.length:=by
 have:=ku (fun j=>decide (bs[j]?=some k)) (List.range bs.length)
 rwa [jv] at this
noncomputable def TabAt (σ:St) (db:Addr) (bs:List Key) (rm:Key→Bool):Prop:=∃ es,σ.D db=some es ∧
 (∀ k,rm k=true→es.lookup k=none)∧∀ k,rm k=false→(es.lookup k=none∧posOf k bs=[])∨∃ c,es.lookup k=some (.lst c)∧σ.L c=some (zo k bs)
theorem TabAt.keep {σ σ':St} {db:Addr} {bs:List Key} {rm:Key→Bool} (h:TabAt σ db bs rm) (k:Kp σ σ'):TabAt σ' db bs rm:=by
 obtain⟨es,h1,h2,h3⟩:=h
 exact⟨es,k.D _ _ h1,h2,fun q hq=>(h3 q hq).imp_right fun zz0=>by obtain⟨c,e1,e2⟩:=zz0;exact⟨c,e1,k.L _ _ e2⟩⟩
theorem TabAt.get {σ:St} {db nl:Addr} {bs:List Key} {rm:Key→Bool} (h:TabAt σ db bs rm) (hn:σ.L nl=some []) (k:Key) :
  ∃ es c,σ.D db=some es∧(es.lookup k).getD (.lst nl)=.lst c∧σ.L c=some ((if rm k then [] else posOf k bs).map fun j:Nat=>V.int j):=by
 obtain⟨es,h1,h2,h3⟩:=h
 cases hr:rm k with
 | true=>exact⟨es,nl,h1,by rw [h2 k hr];rfl,hn⟩
 | false =>
  rcases h3 k hr with ⟨e1,e2⟩ | ⟨c,e1,e2⟩
  ·exact⟨es,nl,h1,by rw [e1];rfl,by rw [e2];exact hn⟩
  ·exact⟨es,c,h1,by rw [e1];rfl,e2⟩
theorem cT {es:List (Key × V)} {k:Key}:es.any (fun e=>e.1==k)=(es.lookup k).isSome:=by
 induction es with
 | nil=>rfl
 | cons e r ih =>
  obtain⟨a,b⟩:=e
  simp only [List.any_cons,List.lookup,ih]
  by_cases h:k=a
  ·subst h;simp
  ·rw [lr (xm h),lr h];rfl
theorem yH {es:List (Key × V)} {k:Key} {v:V}:(putD es k v).length≤es.length+1:=by
 unfold putD
 split<;>simp
theorem qS {es:List (Key × V)} {k k':Key} {v:V}:(putD es k v).lookup k'=if k'=k then some v else es.lookup k':=by
 unfold putD
 split
 ·rename_i h
  rw [cT] at h
  induction es with
  | nil=>cases h
  | cons e r ih =>
   obtain⟨a,b⟩:=e
   simp only [gp,List.lookup] at h ⊢
   by_cases hk:a=k
   ·subst hk
    rw [bx rfl]
    by_cases h2:k'=a
    ·subst h2;simp
    ·rw [aw h2]
     have e1:(k'==a)=false:=lr h2
     simp only [List.lookup,e1]
     clear ih h
     induction r with
     | nil=>rfl
     | cons e r ih =>
      obtain⟨a',b'⟩:=e
      simp only [gp,List.lookup]
      by_cases h3:a'=a
      ·subst h3
       rw [bx rfl]
       simp only [List.lookup,e1]
       exact ih
      ·rw [aw h3]
       simp only [List.lookup]
       cases k'==a' with
       | true=>rfl
       | false=>exact ih
   ·rw [aw hk]
    have e0:(k==a)=false:=lr (xm hk)
    rw [e0] at h
    simp only [List.lookup]
    by_cases h2:k'=a
    ·subst h2
     rw [aw hk];simp
    ·rw [lr h2]
     exact ih h
 ·rename_i h
  rw [cT] at h
  rw [ua]
  by_cases h2:k'=k
  ·subst h2
   cases q:es.lookup k' with
   | none=>simp
   | some w=>rw [q] at h;exact absurd rfl h
  ·simp [h2]
end MP
end
section
namespace MP
namespace SM
open PySem
structure MAt (σ:St) (x:Addr) (la lb db sj:Addr) (as bs:List Key) (rm:Key→Bool) (js:List Key):Prop where
 I:∃ d f,σ.I x=some (d,f)∧f 1=some (.lst la)∧f 2=some (.lst lb)∧f 7=some (.dct db)∧f 8=some (.set sj)
 La:σ.L la=some (as.map Key.v)
 Lb:σ.L lb=some (bs.map Key.v)
 D:TabAt σ db bs rm
 S:σ.S sj=some js
theorem MAt.keep {σ σ':St} {x la lb db sj:Addr} {as bs:List Key} {rm:Key→Bool} {js:List Key} (h:MAt σ x la lb db sj as bs rm js) (k:Kp σ σ'):MAt σ' x la lb db sj as bs rm js :=
 ⟨by rw [k.I];exact h.I,k.L _ _ h.La,k.L _ _ h.Lb,h.D.keep k,by rw [k.S];exact h.S⟩
noncomputable def Row (as bs:List Key) (rm:Key→Bool) (alo blo bhi i:Nat) (es:List (Key × V)):Prop:=∀ j:Nat,j<bhi→(es.lookup (.int ((j:Int)-1))).getD (.int 0)=.int (el as bs rm alo blo i j:Nat)
structure FF (ρ:Fr) (la lb db sj:Addr) (alo ahi blo bhi:Nat):Prop where
 r1:ρ 1=some (.int alo)
 r2:ρ 2=some (.int ahi)
 r3:ρ 3=some (.int blo)
 r4:ρ 4=some (.int bhi)
 r5:ρ 5=some (.lst la)
 r6:ρ 6=some (.lst lb)
 r7:ρ 7=some (.dct db)
 r8:ρ 8=some (.cD sj)
theorem FF.up {ρ:Fr} {la lb db sj:Addr} {alo ahi blo bhi n:Nat} {v:V} (h:FF ρ la lb db sj alo ahi blo bhi) (hn:9≤n):FF (upd ρ n v) la lb db sj alo ahi blo bhi :=
 have k:∀ m,Nat.blt m 9=true→upd ρ n v m=ρ m:=fun m hm=>dq (fj (cx (dk hm) hn))
 ⟨(k 1 rfl).trans h.r1,(k 2 rfl).trans h.r2,(k 3 rfl).trans h.r3,(k 4 rfl).trans h.r4,(k 5 rfl).trans h.r5,(k 6 rfl).trans h.r6,(k 7 rfl).trans h.r7,(k 8 rfl).trans h.r8⟩
structure FB (ρ:Fr) (i j k:Nat):Prop where
 r9:ρ 9=some (.int i)
 r10:ρ 10=some (.int j)
 r11:ρ 11=some (.int k)
theorem FB.up {ρ:Fr} {i j k n:Nat} {v:V} (h:FB ρ i j k) (hn:12≤n):FB (upd ρ n v) i j k :=
 have k:∀ m,Nat.blt m 12=true→upd ρ n v m=ρ m:=fun m hm=>dq (fj (cx (dk hm) hn))
 ⟨(k 9 rfl).trans h.r9,(k 10 rfl).trans h.r10,(k 11 rfl).trans h.r11⟩
theorem ze {a b:Nat} {i:Nat} {v:V} (h:(qr a b)[i]?=some v):a+i<b∧v=.int ((a+i:Nat):Int):=by
 unfold qr at h
 rw [az] at h
 by_cases hi:i<((b:Int)-a).toNat
 ·rw [List.getElem?_range hi] at h
  simp at h
  exact⟨by exact(Ar.ton _).elim (fun q1=>(ee .F .b .aA (.ie (.t .D) (.s .Q .L)) hi q1.2)) fun q1=>(ee .F .e .aA .aB hi q1.2),by rw [← h];rfl⟩
 ·rw [kx (by simpa using hi)] at h
  cases h
theorem we {a b:Nat}:(qr a b).length=b-a:=by simp [qr]
theorem mv {n i:Nat}:fb n (i:Int)=i:=by unfold fb;rw [aw (by exact ic (.ig .L .O) .i)]
theorem EP {C:Cal} {σ:St} {la lb db sj:Addr} {as bs js:List Key} {alo ahi blo bhi:Nat} {K:Fl→Fr→St→Prop} {c:Ex} {ok:Key→Bool}
  (hLa:σ.L la=some (as.map Key.v)) (hLb:σ.L lb=some (bs.map Key.v)) (ha:∀ k∈as,yl k) (hb:∀ k∈bs,yl k) (hal:as.length<2^40) (hbl:bs.length<2^40)
  (hc:∀ (ρ:Fr) (j:Nat) (b:Key) (Q:Bool→St→Prop),FF ρ la lb db sj alo ahi blo bhi→ρ 10=some (.int ((j+1:Nat):Int))→bs[j]?=some b→Q (ok b) σ→wpT C c ρ σ Q)
  {i j k:Nat} (hi:i≤as.length) (hj:j≤bs.length)
  (h:∀ ρ,FF ρ la lb db sj alo ahi blo bhi→FB ρ (wi as bs ok alo blo i j k).1 (wi as bs ok alo blo i j k).2.1 (wi as bs ok alo blo i j k).2.2→K .next ρ σ) {ρ:Fr} (F:FF ρ la lb db sj alo ahi blo bhi) (B:FB ρ i j k) :
  wpS C (.loop (.and (.cmp .gt (.loc 9) (.loc 1)) (.and (.cmp .gt (.loc 10) (.loc 3)) (.and c (.cmp .eq (.sub (.loc 5) (.bin .sub (.loc 9) (.int 1))) (.sub (.loc 6) (.bin .sub (.loc 10) (.int 1))))))) (.cons (.assign [.tup [9,10,11]] (.tup (.cons (.bin .sub (.loc 9) (.int 1)) (.cons (.bin .sub (.loc 10) (.int 1)) (.cons (.bin .add (.loc 11) (.int 1)) .nil))))) .nil)) ρ σ K:=by
 refine⟨i+1,zd (fun n ρ' σ'=>σ'=σ∧FF ρ' la lb db sj alo ahi blo bhi∧∃ i' j' k',n=i'∧FB ρ' i' j' k'∧i'≤as.length∧j'≤bs.length∧wi as bs ok alo blo i' j' k'=wi as bs ok alo blo i j k) ?_ (i+1) i (by exact ic (.l .A .M) .i) ⟨rfl,F,i,j,k,rfl,B,hi,hj,rfl⟩⟩
 rintro n ρ' σ' ⟨rfl,F',i',j',k',rfl,B',hi',hj',e⟩ again hag
 refine⟨_,B'.r9,_,F'.r1,?_⟩
 show(if decide ((alo:Int)<n)=true then _ else _)
 by_cases c1:alo<n
 ·rw [bx (by simpa using c1)]
  refine⟨_,B'.r10,_,F'.r3,?_⟩
  show(if decide ((blo:Int)<j')=true then _ else _)
  by_cases c2:blo<j'
  ·rw [bx (by simpa using c2)]
   obtain⟨i0,rfl⟩:∃ i0,n=i0+1:=⟨n-1,by exact bh .a8 .g .bT (aa (bh .R .a .a7 c1))⟩
   obtain⟨j0,rfl⟩:∃ j0,j'=j0+1:=⟨j'-1,by exact bh .a8 .g .bT (aa (bh .R .a .a7 c2))⟩
   have ea:as[i0]?=some as[i0]:=bc (by exact bh .C .a .H hi')
   have eb:bs[j0]?=some bs[j0]:=bc (by exact bh .C .a .H hj')
   refine hc _ j0 bs[j0] _ F' B'.r10 eb ?_
   cases hok:ok bs[j0] with
   | false =>
    show K .next ρ' σ'
    have:wi as bs ok alo blo (i0+1) (j0+1) k'=(i0+1,j0+1,k'):=by
     rw [cL]
     rw [aw]
     rintro ⟨_,_,h3⟩
     obtain⟨c,_,h4,h5⟩:=uc.mp h3
     rw [eb] at h4
     cases h4
     rw [hok] at h5;cases h5
    rw [this] at e
    exact h _ F' (by rw [← e];exact B')
   | true =>
    rw [bx rfl]
    refine⟨_,F'.r5,_,B'.r9,as.map Key.v,as[i0].v,hLa,?_,?_,_,F'.r6,_,B'.r10,bs.map Key.v,bs[j0].v,hLb,?_,?_,?_⟩
    ·have e1:((i0+1:Nat):Int)-1=(i0:Int):=by(exact ic .Z .j)
     rw [e1,mv];(exact ic (.ik .O .L) .i)
    ·have e1:((i0+1:Nat):Int)-1=(i0:Int):=by(exact ic .Z .j)
     rw [e1,mv,fk,az,ea];rfl
    ·have e1:((j0+1:Nat):Int)-1=(j0:Int):=by(exact ic .Z .j)
     rw [e1,mv];(exact ic (.ik .O .L) .i)
    ·have e1:((j0+1:Nat):Int)-1=(j0:Int):=by(exact ic .Z .j)
     rw [e1,mv,fk,az,eb];rfl
    refine kL (ha _ (km _)) (hb _ (km _)) ?_
    by_cases q:as[i0]=bs[j0]
    ·rw [cm q]
     refine gO ?_
     refine⟨_,B'.r9,_,B'.r10,_,B'.r11,by simp [aq],_,rfl,rfl,?_⟩
     refine hag i0 _ _ (by exact ic (.l .A .M) .i) ⟨rfl,?_,i0,j0,k'+1,rfl,?_,by exact bh .A .a .H hi',by exact bh .A .a .H hj',?_⟩
     ·exact((F'.up (by exact zu (.k .a9 .a9) .i)).up (by exact zu (.k .a9 (.n 10)) .i)).up (by exact zu (.k .a9 (.n 11)) .i)
     ·refine⟨?_,?_,?_⟩
      ·show some (V.int (((i0+1:Nat):Int)-1))=_
       congr 2;(exact ic .Z .j)
      ·show some (V.int (((j0+1:Nat):Int)-1))=_
       congr 2;(exact ic .Z .j)
      ·rfl
     ·rw [← e]
      conv=>rhs;rw [cL]
      rw [bx ⟨c1,c2,uc.mpr ⟨as[i0],ea,by rw [q];exact eb,by rw [q];simp [hok]⟩⟩]
    ·rw [cn q]
     show K .next ρ' σ'
     have:wi as bs ok alo blo (i0+1) (j0+1) k'=(i0+1,j0+1,k'):=by
      rw [cL]
      rw [aw]
      rintro ⟨_,_,h3⟩
      obtain⟨c,h4,h5,_⟩:=uc.mp h3
      rw [ea] at h4;rw [eb] at h5
      cases h4
      exact q (ae h5).symm
     rw [this] at e
     exact h _ F' (by rw [← e];exact B')
  ·rw [aw (by simpa using c2)]
   show K .next ρ' σ'
   have:wi as bs ok alo blo n j' k'=(n,j',k'):=by
    cases n with
    | zero=>rfl
    | succ n =>
     cases j' with
     | zero=>rfl
     | succ j'=>rw [cL];rw [aw (fun h=>c2 h.2.1)]
   rw [this] at e
   exact h _ F' (by rw [← e];exact B')
 ·rw [aw (by simpa using c1)]
  show K .next ρ' σ'
  have:wi as bs ok alo blo n j' k'=(n,j',k'):=by
   cases n with
   | zero=>rfl
   | succ n =>
    cases j' with
    | zero=>rfl
    | succ j'=>rw [cL];rw [aw (fun h=>c1 h.1)]
  rw [this] at e
  exact h _ F' (by rw [← e];exact B')
theorem EO {C:Cal} {σ:St} {la lb db sj:Addr} {as bs js:List Key} {alo ahi blo bhi:Nat} {K:Fl→Fr→St→Prop} {c:Ex} {ok:Key→Bool} {body:Stm}
  (hbody:body=.aug 11 .add (.int 1)∨body=.assign [(.var 11)] (.bin .add (.loc 11) (.int 1)))
  (hLa:σ.L la=some (as.map Key.v)) (hLb:σ.L lb=some (bs.map Key.v)) (ha:∀ k∈as,yl k) (hb:∀ k∈bs,yl k) (hal:ahi≤as.length) (hbl:bhi≤bs.length)
  (hc:∀ (ρ:Fr) (j k:Nat) (b:Key) (Q:Bool→St→Prop),FF ρ la lb db sj alo ahi blo bhi→ρ 10=some (.int j)→ρ 11=some (.int k)→bs[j+k]?=some b→Q (ok b) σ→wpT C c ρ σ Q)
  {i j k:Nat}
  (h:∀ ρ,FF ρ la lb db sj alo ahi blo bhi→FB ρ i j (dW as bs ok ahi bhi (ahi-i) i j k)→K .next ρ σ) {ρ:Fr} (F:FF ρ la lb db sj alo ahi blo bhi) (B:FB ρ i j k) :
  wpS C (.loop (.and (.cmp .lt (.bin .add (.loc 9) (.loc 11)) (.loc 2)) (.and (.cmp .lt (.bin .add (.loc 10) (.loc 11)) (.loc 4)) (.and c (.cmp .eq (.sub (.loc 5) (.bin .add (.loc 9) (.loc 11))) (.sub (.loc 6) (.bin .add (.loc 10) (.loc 11))))))) (.cons body .nil)) ρ σ K:=by
 have more:∀ n m k,ahi-(i+k)≤n→n≤m→dW as bs ok ahi bhi n i j k=dW as bs ok ahi bhi m i j k:=by
  intro n
  induction n with
  | zero =>
   intro m k h1 h2
   cases m with
   | zero=>rfl
   | succ m =>
    show k=_
    rw [wh]
    rw [aw (by exact fun q1=>(rz .ff [[0,1,1,-1]] (.k .A .O) (.l .R .D) (.e (.a .A .R) .D) h1 q1.1 (aa (dw .Q .a .F q1.1))))]
  | succ n ih =>
   intro m k h1 h2
   obtain⟨m,rfl⟩:∃ m',m=m'+1:=⟨m-1,by exact bh .a8 .g .bT (aa (bh .R .a (.k .L .A) h2))⟩
   rw [wh,wh]
   split
   ·exact ih _ _ (by(rename_i z1;exact eF .A .q .b8 (.e (.a .C .a0) .G) (.e (.a .A (.a .D .X)) .G) h1 (aa (dw .Q .a .F z1.1)) (aa (dw .aS .a .F z1.1)))) (by exact bh .A .a .aD h2)
   ·rfl
 refine⟨ahi+1,zd (fun n ρ' σ'=>σ'=σ∧FF ρ' la lb db sj alo ahi blo bhi∧∃ k',n=ahi-(i+k')∧FB ρ' i j k'∧dW as bs ok ahi bhi (ahi-i) i j k'=dW as bs ok ahi bhi (ahi-i) i j k) ?_ (ahi+1) (ahi-(i+k)) (by exact bh .I .a .A (uj _ _)) ⟨rfl,F,k,rfl,B,rfl⟩⟩
 rintro n ρ' σ' ⟨rfl,F',k',rfl,B',e⟩ again hag
 have stop:dW as bs ok ahi bhi (ahi-i) i j k'=k'→K .next ρ' σ':=fun q=>by
  rw [q] at e
  exact h _ F' (by rw [← e];exact B')
 refine⟨_,B'.r9,_,B'.r11,_,F'.r2,?_⟩
 show(if decide (((i:Int)+k')<ahi)=true then _ else _)
 by_cases c1:i+k'<ahi
 ·rw [bx (by simp;(exact dw (.il .T .Q) .a .F c1))]
  refine⟨_,B'.r10,_,B'.r11,_,F'.r4,?_⟩
  show(if decide (((j:Int)+k')<bhi)=true then _ else _)
  by_cases c2:j+k'<bhi
  ·rw [bx (by simp;(exact dw (.il .T .Q) .a .F c2))]
   have ea:as[i+k']?=some as[i+k']:=bc (by exact ee .F .b .bS (.l .P .D) hal c1)
   have eb:bs[j+k']?=some bs[j+k']:=bc (by exact ee .F .b .bS (.l .P .D) hbl c2)
   refine hc _ j k' bs[j+k'] _ F' B'.r10 B'.r11 eb ?_
   cases hok:ok bs[j+k'] with
   | false =>
    refine stop ?_
    obtain⟨m,hm⟩:∃ m,ahi-i=m+1:=⟨ahi-i-1,by exact bh .a8 .g .bT (aa (ee .R .c (.l .R .D) (.e .P .D) c1 (aa (dw .A .a .bF c1))))⟩
    rw [hm]
    rw [wh]
    rw [aw]
    rintro ⟨_,_,h3⟩
    obtain⟨c,_,h4,h5⟩:=uc.mp h3
    rw [eb] at h4
    cases h4
    rw [hok] at h5;cases h5
   | true =>
    rw [bx rfl]
    refine⟨_,F'.r5,_,B'.r9,_,B'.r11,as.map Key.v,as[i+k'].v,hLa,?_,?_,_,F'.r6,_,B'.r10,_,B'.r11,bs.map Key.v,bs[j+k'].v,hLb,?_,?_,?_⟩
    ·have e1:(i:Int)+k'=((i+k':Nat):Int):=by(exact xi (.ie .T (.t .P)) .j)
     rw [e1,mv];(exact xi (.ik .O (.t .P)) .i)
    ·have e1:(i:Int)+k'=((i+k':Nat):Int):=by(exact xi (.ie .T (.t .P)) .j)
     rw [e1,mv,fk,az,ea];rfl
    ·have e1:(j:Int)+k'=((j+k':Nat):Int):=by(exact xi (.ie .T (.t .P)) .j)
     rw [e1,mv];(exact xi (.ik .O (.t .P)) .i)
    ·have e1:(j:Int)+k'=((j+k':Nat):Int):=by(exact xi (.ie .T (.t .P)) .j)
     rw [e1,mv,fk,az,eb];rfl
    refine kL (ha _ (km _)) (hb _ (km _)) ?_
    by_cases q:as[i+k']=bs[j+k']
    ·rw [cm q]
     refine gO ?_
     have go:again (upd ρ' 11 (.int ((k':Int)+1))) σ':=by
      refine hag (ahi-(i+(k'+1))) _ _ (by exact jP .C .c (.e (.a .A (.a .C .V)) .F) (.e (.a .B .T) .F) (aa (dw .aS .a .F c1)) (aa (dw .Q .a .F c1))) ⟨rfl,F'.up (by exact zu (.k .a9 (.n 11)) .i),k'+1,rfl,⟨B'.r9,B'.r10,rfl⟩,?_⟩
      rw [← e]
      obtain⟨m,hm⟩:∃ m,ahi-i=m+1:=⟨ahi-i-1,by exact bh .a8 .g .bT (aa (ee .R .c (.l .R .D) (.e .P .D) c1 (aa (dw .A .a .bF c1))))⟩
      rw [hm]
      conv=>rhs;rw [wh]
      rw [bx ⟨c1,c2,uc.mpr ⟨as[i+k'],ea,by rw [q];exact eb,by rw [q];simp [hok]⟩⟩]
      exact(more _ _ _ (by exact eF .A .q (.e .C .L) .bQ (.e (.a .A (.a .D .a4)) .F) hm (aa (dw .A .a .bF c1)) (aa (dw .aS .a .F c1))) (by exact ic (.k .A .M) .i)).symm
     rcases hbody with rfl | rfl
     ·exact⟨_,B'.r11,go⟩
     ·exact⟨_,B'.r11,go⟩
    ·rw [cn q]
     refine stop ?_
     obtain⟨m,hm⟩:∃ m,ahi-i=m+1:=⟨ahi-i-1,by exact bh .a8 .g .bT (aa (ee .R .c (.l .R .D) (.e .P .D) c1 (aa (dw .A .a .bF c1))))⟩
     rw [hm]
     rw [wh]
     rw [aw]
     rintro ⟨_,_,h3⟩
     obtain⟨c,h4,h5,_⟩:=uc.mp h3
     rw [ea] at h4;rw [eb] at h5
     cases h4
     exact q (ae h5).symm
  ·rw [aw (by simp;(exact dw (.ik .L (.a .P .Q)) .a (.g .R .A) c2))]
   refine stop ?_
   cases ahi-i with
   | zero=>rfl
   | succ n=>rw [wh];rw [aw (fun h=>c2 h.2.1)]
 ·rw [aw (by simp;(exact dw (.ik .L (.a .P .Q)) .a (.g .R .A) c1))]
  refine stop ?_
  cases ahi-i with
  | zero=>rfl
  | succ n=>rw [wh];rw [aw (fun h=>c1 h.1)]
end SM
end MP
end
section
namespace MP
namespace SM
set_option genInjectivity false
set_option genSizeOf false
open PySem
noncomputable def c8 (as bs:List Key) (rm:Key→Bool) (alo blo bhi i:Nat) (ps:List Nat) (es:List (Key × V)):Prop:=∀ j:Nat,j<bhi→(es.lookup (.int ((j:Int)-1))).getD (.int 0)=.int (if 0<j∧j-1∈ps then el as bs rm alo blo (i+1) j else 0:Nat)
theorem c8.row {as bs:List Key} {rm:Key→Bool} {alo blo bhi i:Nat} {ps:List Nat} {es:List (Key × V)} (h:c8 as bs rm alo blo bhi i ps es) (hp:∀ j,j<bhi→hit as bs rm i j=true→j∈ps):Row as bs rm alo blo bhi (i+1) es:=by
 intro j hj
 rw [h j hj]
 split
 ·rfl
 ·rename_i c
  congr 2
  cases j with
  | zero=>rfl
  | succ j =>
   rw [n8]
   rw [aw]
   rintro ⟨_,_,q⟩
   exact c ⟨by exact ic (.l .O .M) .i,hp j (by exact bh .C .a (.l .M .B) hj) q⟩
theorem c8.put {as bs:List Key} {rm:Key→Bool} {alo blo bhi i:Nat} {ps:List Nat} {es:List (Key × V)} (h:c8 as bs rm alo blo bhi i ps es) (j:Nat):c8 as bs rm alo blo bhi i (ps++[j]) (putD es (.int j) (.int (el as bs rm alo blo (i+1) (j+1):Nat))):=by
 intro j' hj'
 rw [qS]
 by_cases c:j'=j+1
 ·subst c
  rw [bx (by congr 1;(exact ic .Z .j)),bx ⟨by exact ic (.l .O .M) .i,by simp⟩]
  rfl
 ·rw [aw (fun q=>c (by injection q;(exact bh .a8 .h (.ie (.s .L .U) .P) i_eq))),h j' hj']
  congr 2
  by_cases c1:0<j'∧j'-1∈ps
  ·rw [bx c1,bx ⟨c1.1,ek _ c1.2⟩]
  ·rw [aw c1,aw]
   rintro ⟨c2,c3⟩
   rcases gm.mp c3 with c3 | c3
   ·exact c1 ⟨c2,c3⟩
   ·simp at c3;(exact(bp c).elim (fun q1=>(qc .ff [[0,-1,1,1]] .B (.e .M .C) (.l .C .L) c3 (aa (gv .R .a .N c2)) q1)) fun q1=>(qc .ff [[0,1,-1,1]] .B (.e .M .C) (.l .L .C) c3 (aa (gv .R .a .N c2)) q1))
theorem c8.skip {as bs:List Key} {rm:Key→Bool} {alo blo bhi i:Nat} {ps:List Nat} {es:List (Key × V)} (h:c8 as bs rm alo blo bhi i ps es) (j:Nat) (hj:j<blo):c8 as bs rm alo blo bhi i (ps++[j]) es:=by
 intro j' hj'
 rw [h j' hj']
 congr 2
 by_cases c1:0<j'∧j'-1∈ps
 ·rw [bx c1,bx ⟨c1.1,ek _ c1.2⟩]
 ·rw [aw c1]
  by_cases c2:0<j'∧j'-1∈ps++[j]
  ·rw [bx c2]
   obtain⟨c3,c4⟩:=c2
   rcases gm.mp c4 with c4 | c4
   ·exact absurd ⟨c3,c4⟩ c1
   ·obtain⟨j1,rfl⟩:∃ j1,j'=j1+1:=⟨j'-1,by exact bh .a8 .g .bT (aa (gv .R .a .N c3))⟩
    simp at c4
    rw [n8]
    rw [aw (by exact fun q1=>(qc .ff .y .C .bU .aP hj c4 q1.2.1))]
  ·rw [aw c2]
noncomputable def lA:jt:=(.cons (.cond (.cmp .lt (.loc 17) (.loc 3)) (.cons .cont
 .nil) .nil)
 (.cons (.cond (.cmp .ge (.loc 17) (.loc 4)) (.cons .brk
 .nil) .nil)
 (.cons (.assign [(.var 18),(.sub (.loc 16) (.loc 17))] (.bin .add (.callv 15 (.cons (.bin .sub (.loc 17) (.int 1)) (.cons (.int 0) .nil))) (.int 1)))
 (.cons (.cond (.cmp .gt (.loc 18) (.loc 11)) (.cons (.assign [.tup [9,10,11]] (.tup (.cons (.bin .add (.bin .sub (.loc 14) (.loc 18)) (.int 1)) (.cons (.bin .add (.bin .sub (.loc 17) (.loc 18)) (.int 1)) (.cons (.loc 18) .nil)))))
 .nil) .nil)
 .nil))))
noncomputable def kR:Stm:=.each (.var 17) (.seq (.bm .get (.loc 7) (.cons (.sub (.loc 5) (.loc 14)) (.cons (.loc 13) .nil)))) lA
structure Fc where
 σ₀:St
 la:Addr
 lb:Addr
 db:Addr
 sj:Addr
 nl:Addr
 as:List Key
 bs:List Key
 rm:Key→Bool
 alo:Nat
 ahi:Nat
 blo:Nat
 bhi:Nat
noncomputable abbrev Fc.F (c:Fc) (ρ:Fr):Prop:=FF ρ c.la c.lb c.db c.sj c.alo c.ahi c.blo c.bhi
noncomputable abbrev Fc.S (c:Fc) (seen:Nat→Nat→Prop) (i j k:Nat):Prop:=Scan c.as c.bs c.rm c.alo c.ahi c.blo c.bhi seen i j k
noncomputable abbrev Fc.e (c:Fc) (i j:Nat):Nat:=el c.as c.bs c.rm c.alo c.blo i j
noncomputable abbrev Fc.R (c:Fc) (i:Nat) (es:List (Key × V)):Prop:=Row c.as c.bs c.rm c.alo c.blo c.bhi i es
noncomputable abbrev Fc.h (c:Fc) (i j:Nat):Bool:=hit c.as c.bs c.rm i j
structure Fk (c:Fc):Prop where
 La:c.σ₀.L c.la=some (c.as.map Key.v)
 T:TabAt c.σ₀ c.db c.bs c.rm
 n:c.σ₀.L c.nl=some []
 s:c.bs.length<aq
 bl:c.bhi≤c.bs.length
 al:c.ahi≤c.as.length
structure Sc where
 c:Fc
 i:Nat
 cd:Addr
 nd:Addr
 es:List (Key × V)
 ps:List Nat
structure Sk (s:Sc):Prop where
 ai:s.c.alo≤s.i
 ia:s.i<s.c.ahi
 row:s.c.R s.i s.es
 ne:s.cd≠s.nd
 no:s.c.σ₀.D s.nd=none
 mem:∀ j,j∈s.ps↔s.c.h s.i j=true
 lt:s.ps.Pairwise (·<·)
 pl:s.ps.length≤s.c.bs.length
noncomputable def Sc.seen (s:Sc) (t:Nat):Nat→Nat→Prop:=fun i' j'=>(i'<s.i∧j'<s.c.bhi)∨(i'=s.i∧j'∈s.ps.take t)
inductive InI (s:Sc) (t:Nat) (ρ:Fr) (σ:St):Prop
 | mk (bi bj bk:Nat) (es:List (Key × V)) (lim:∀ j,j∈s.ps.take t→j<s.c.bhi) (len:es.length≤t) (k:Kp s.c.σ₀ σ) (F:s.c.F ρ) (B:FB ρ bi bj bk) (cd:σ.D s.cd=some s.es) (nd:σ.D s.nd=some es)
  (r13:ρ 13=some (.lst s.c.nl)) (r14:ρ 14=some (.int s.i)) (r15:ρ 15=some (.zt s.cd)) (r16:ρ 16=some (.dct s.nd)) (row:c8 s.c.as s.c.bs s.c.rm s.c.alo s.c.blo s.c.bhi s.i (s.ps.take t) es) (sc:s.c.S (s.seen t) bi bj bk):InI s t ρ σ
inductive nJ (s:Sc) (ρ:Fr) (σ:St):Prop
 | mk (bi bj bk:Nat) (es:List (Key × V)) (k:Kp s.c.σ₀ σ) (F:s.c.F ρ) (B:FB ρ bi bj bk) (r13:ρ 13=some (.lst s.c.nl)) (r16:ρ 16=some (.dct s.nd)) (nd:σ.D s.nd=some es) (row:s.c.R (s.i+1) es)
  (sc:s.c.S (fun i' j'=>(i'<s.i∧j'<s.c.bhi)∨(i'=s.i∧j'<s.c.bhi∧s.c.h s.i j'=true)) bi bj bk):nJ s ρ σ
structure yj (ps:List Nat) (t j:Nat):Prop where
 th:ps.take (t+1)=ps.take t++[j]
 lt:∀ m,m∈ps.take t→m<j
 of:∀ m,m∈ps→m<j→m∈ps.take t
 mem:j∈ps
theorem BK {ps:List Nat} (lt:ps.Pairwise (·<·)) {t j:Nat} (e:ps[t]?=some j):yj ps t j:=by
 obtain⟨ht,rfl⟩:=cj.mp e
 refine⟨mn ht,fun m hm=>?_,fun m hm hl=>?_,km _⟩
 ·obtain⟨a,ha,rfl⟩:=List.getElem_of_mem hm
  have hb:a<t:=by
   have:=ha
   rw [dt] at this
   (exact gr .C .b .U .M this (Ar.iw _ _).1)
  rw [pn]
  exact(qq.mp lt) a t (by exact gr .C .b .aG .U ht hb) ht hb
 ·obtain⟨a,ha,rfl⟩:=List.getElem_of_mem hm
  have:a<t:=by
   refine Nat.lt_of_not_le fun q=>?_
   rcases Nat.eq_or_lt_of_le q with q | q
   ·subst q;exact absurd hl (jc _)
   ·have:=(qq.mp lt) t a ht ha q
    (exact gn .ff .e .C .a7 hl this)
  exact List.mem_take_iff_getElem.mpr ⟨a,by exact(Ar.iw _ _).2.2.elim (fun q1=>(gr .C .b .U .M this q1)) fun q1=>(rz .C .d .aC .U .aH ht this q1),rfl⟩
theorem InI.fin {s:Sc} {t:Nat} {ρ:Fr} {σ:St} (k:Sk s) (I:InI s t ρ σ) (hall:∀ j,j<s.c.bhi→j∈s.ps→j∈s.ps.take t):nJ s ρ σ:=by
 cases I
 refine .mk bi bj bk es k_1 F B r13 r16 nd (row.row fun j hj hh=>hall j hj ((k.mem j).mpr hh)) (sc.skip ?_ ?_)
 ·rintro i' j' (q | ⟨q,q'⟩)
  ·exact .inl q
  ·exact .inr ⟨q,lim _ q',(k.mem _).mp (List.mem_of_mem_take q')⟩
 ·rintro i' j' (q | ⟨q,q',q''⟩)
  ·exact .inl (.inl q)
  ·exact .inl (.inr ⟨q,hall _ q' ((k.mem _).mpr q'')⟩)
section
variable {s:Sc} {t j bi bj bk:Nat}
theorem eR (T:yj s.ps t j) {i' j':Nat} (q:s.seen (t+1) i' j'):s.seen t i' j'∨(i'=s.i∧j'=j):=by
 rcases q with q | ⟨q,q'⟩
 ·exact .inl (.inl q)
 ·rw [T.th] at q'
  rcases gm.mp q' with q' | q'
  ·exact .inl (.inr ⟨q,q'⟩)
  ·exact .inr ⟨q,aj.mp q'⟩
theorem kQ (T:yj s.ps t j) {i' j':Nat} (q:s.seen t i' j'):s.seen (t+1) i' j':=q.imp_right fun q=>⟨q.1,by rw [T.th];exact ek _ q.2⟩
theorem oO (T:yj s.ps t j) (lim:∀ j,j∈s.ps.take t→j<s.c.bhi) (hj:j<s.c.bhi):∀ j,j∈s.ps.take (t+1)→j<s.c.bhi:=by
 rw [T.th];intro j' hj'
 rcases gm.mp hj' with q | q
 ·exact lim _ q
 ·rw [aj.mp q];exact hj
theorem CC (T:yj s.ps t j) (hj:j<s.c.blo) (sc:s.c.S (s.seen t) bi bj bk):s.c.S (s.seen (t+1)) bi bj bk:=by
 refine sc.skip (fun i' j'=>kQ T) fun i' j' q=>?_
 rcases eR T q with q | ⟨rfl,rfl⟩
 ·exact .inl q
 ·refine .inr (.inl ?_)
  rw [n8]
  rw [aw (by exact fun q1=>(gn .ff .e .C .a1 hj q1.2.1))]
theorem CD (k:Sk s) (T:yj s.ps t j) (sc:s.c.S (s.seen t) bi bj bk) (h:s.c.e (s.i+1) (j+1)≤bk):s.c.S (s.seen (t+1)) bi bj bk:=by
 refine sc.skip (fun i' j'=>kQ T) fun i' j' q=>?_
 rcases eR T q with q | ⟨rfl,rfl⟩
 ·exact .inl q
 ·refine .inr ?_
  obtain⟨h1,h2,hr⟩:=n9 (as:=s.c.as) (bs:=s.c.bs) (rm:=s.c.rm) (alo:=s.c.alo) (blo:=s.c.blo) (i:=s.i+1) (j:=j'+1)
  rcases Nat.lt_or_ge (s.c.e (s.i+1) (j'+1)) bk with c4 | c4
  ·exact .inr (.inl c4)
  ·have hEk:s.c.e (s.i+1) (j'+1)=bk:=Nat.le_antisymm h c4
   by_cases h0:s.c.e (s.i+1) (j'+1)=0
   ·exact .inl h0
   ·refine .inr (.inr ⟨hEk,?_⟩)
    have h1:s.c.e (s.i+1) (j'+1)≤s.i+1:=h1
    have h2:s.c.e (s.i+1) (j'+1)≤j'+1:=h2
    have R':=sc.run
    have e1:=R'.ia;have e2:=R'.jb
    rcases sc.at_ (by exact(bp h0).elim (fun q1=>(bh .N [[0,1]] (.l .B .O) q1)) fun q1=>(gn .N .b (.e .B .A) .a4 hEk q1)) with q | ⟨q,q'⟩
    ·left;(rename_i z2 z1;exact ky .C .q .aC (.e (.a .B .F) .V) (.k (.a .A .F) .Q) q.1 (aa (gr .O .c .b8 .bU z2 hEk)) (Ar.HQ _ _))
    ·right
     have:=T.lt _ q'
     (rename_i z2 z1;exact⟨(Ar.sub _ _ (fun q1 p1=>(ky .B [[1,-1,1,1],[1,1,-1,-1]] .aV (.e (.a .B .F) .V) (.e .Q (.a .A .F)) q (aa (gr .O .c .b8 .bU z2 hEk)) p1)) fun q1 p1=>((bp h0).elim (fun q2=>(ky .B [[0,0,0,1],[1,-1,1,0]] (.e .R .V) (.k .Y .U) (.l .F .O) (aa (gr .O .c .b8 .bU z2 hEk)) q1 q2)) fun q2=>(H4 .B [[1,1,-1,1,0,1,1],[1,0,0,-1,1,0,0]] .aV (.e .F .G) (.e .a6 .a4) (.k .a1 .U) .aY .aT hEk q (aa (gr .O .c .b8 .bU z2 hEk)) q1 p1 q2))),(ky .A .q .aC (.e (.a .B .F) .V) (.k (.a .A .F) .Q) this (aa (gr .O .c .b8 .bU z1 hEk)) (Ar.HQ _ _))⟩)
theorem CB (k:Sk s) (T:yj s.ps t j) (hj:j<s.c.bhi) (sc:s.c.S (s.seen t) bi bj bk) (h:bk<s.c.e (s.i+1) (j+1)):s.c.S (s.seen (t+1)) (s.i+1-s.c.e (s.i+1) (j+1)) (j+1-s.c.e (s.i+1) (j+1)) (s.c.e (s.i+1) (j+1)) :=
 sc.take k.ia hj h (.inr ⟨rfl,by rw [T.th];exact jh _ (.head _)⟩) fun i' j' q=>(eR T q).imp_right .inl
theorem InI.skip {ρ:Fr} {σ:St} (T:yj s.ps t j) (hj:j<s.c.blo) (hb:s.c.blo≤s.c.bhi) (I:InI s t ρ σ):InI s (t+1) (upd ρ 17 (.int j)) σ:=by
 cases I
 exact .mk bi bj bk es (oO T lim (cx hj hb)) (Nat.le_succ_of_le len) k (F.up (by decide)) (B.up (by decide)) cd nd r13 r14 r15 r16 (by rw [T.th];exact row.skip j hj) (CC T hj sc)
end
theorem D3 {C:Cal} {s:Sc} (ok:Fk s.c) (k:Sk s) {t j:Nat} {ρ:Fr} {σ:St} (e:s.ps[t]?=some j) (hb:s.c.blo≤s.c.bhi) (I:InI s t ρ σ) {kk:Fr→St→Prop} {K:Fl→Fr→St→Prop} (hk:∀ ρ' σ',InI s (t+1) ρ' σ'→kk ρ' σ') (hf:∀ ρ' σ',nJ s ρ' σ'→K .next ρ' σ') :
  fy C lA (upd ρ 17 (.int j)) σ (sq kk K):=by
 have T:=BK k.lt e
 have ht:t<s.ps.length:=(cj.mp e).1
 have I0:=I
 cases I
 have F1:s.c.F (upd ρ 17 (.int (j:Int))):=F.up (by decide)
 have B1:FB (upd ρ 17 (.int (j:Int))) bi bj bk:=B.up (by decide)
 refine⟨.int j,rfl,.int s.c.blo,F1.r3,?_⟩
 show(if decide ((j:Int)<s.c.blo)=true then _ else _)
 by_cases c1:j<s.c.blo
 ·rw [bx (by simpa using c1)]
  exact hk _ _ (I0.skip T c1 hb)
 rw [aw (by simpa using c1)]
 refine⟨.int j,rfl,.int s.c.bhi,F1.r4,?_⟩
 show(if decide ((s.c.bhi:Int)≤j)=true then _ else _)
 by_cases c2:s.c.bhi≤j
 ·rw [bx (by simpa using c2)]
  exact hf _ _ (InI.fin k (t:=t) (.mk bi bj bk es lim len k_1 F1 B1 cd nd r13 r14 r15 r16 row sc) fun j' h1 h2=>T.of j' h2 (cx h1 c2))
 rw [aw (by simpa using c2)]
 have c2:=Nat.lt_of_not_le c2
 refine⟨.zt s.cd,r15,.int j,rfl,s.es,.int ((j:Int)-1),cd,rfl,?_⟩
 rw [k.row j c2]
 have pl:=k.pl
 have sl:=ok.s
 refine⟨.dct s.nd,r16,.int j,rfl,es,.int j,nd,rfl,by exact DN .C .s .aC .G .aU (.l .F .B) ht len pl sl,?_⟩
 have hel1:s.c.e (s.i+1) (j+1)=s.c.e s.i j+1:=by
  rw [show s.c.e (s.i+1) (j+1)=_ from n8,bx ⟨k.ai,kj c1,(k.mem j).mp T.mem⟩]
 have hv2:(V.int (((s.c.e s.i j:Nat):Int)+1))=.int ((s.c.e (s.i+1) (j+1):Nat):Int):=by
  rw [hel1];rfl
 show fy C _ (upd (upd ρ 17 (.int (j:Int))) 18 (V.int (((s.c.e s.i j:Nat):Int)+1))) (σ.mx s.nd (putD es (.int j) (V.int (((s.c.e s.i j:Nat):Int)+1)))) _
 rw [hv2]
 have hr2:c8 s.c.as s.c.bs s.c.rm s.c.alo s.c.blo s.c.bhi s.i (s.ps.take (t+1)) (putD es (.int j) (.int (s.c.e (s.i+1) (j+1):Nat))):=by
  rw [T.th];exact row.put j
 have hlen2:(putD es (.int j) (.int (s.c.e (s.i+1) (j+1):Nat))).length≤t+1:=gj yH (Nat.succ_le_succ len)
 obtain⟨hE1,hE2,_⟩:=n9 (as:=s.c.as) (bs:=s.c.bs) (rm:=s.c.rm) (alo:=s.c.alo) (blo:=s.c.blo) (i:=s.i+1) (j:=j+1)
 have tk:=fun h=>CB k T c2 sc h
 have sm:=fun h=>CD k T sc h
 have hE1:s.c.e (s.i+1) (j+1)≤s.i+1:=hE1
 have hE2:s.c.e (s.i+1) (j+1)≤j+1:=hE2
 generalize s.c.e (s.i+1) (j+1)=E at hr2 hlen2 tk sm hE1 hE2
 have F2:s.c.F (upd (upd ρ 17 (.int (j:Int))) 18 (.int (E:Int))):=F1.up (by decide)
 have B2:FB (upd (upd ρ 17 (.int (j:Int))) 18 (.int (E:Int))) bi bj bk:=B1.up (by decide)
 have k2:Kp s.c.σ₀ (σ.mx s.nd (putD es (.int j) (.int (E:Int)))):=k_1.mx k.no
 have cd2:(σ.mx s.nd (putD es (.int j) (.int (E:Int)))).D s.cd=some s.es:=(dq k.ne).trans cd
 have nd2:(σ.mx s.nd (putD es (.int j) (.int (E:Int)))).D s.nd=some (putD es (.int j) (.int (E:Int))):=bg _ _ _
 have r14:upd (upd ρ 17 (.int (j:Int))) 18 (.int (E:Int)) 14=some (.int s.i):=r14
 have r16:upd (upd ρ 17 (.int (j:Int))) 18 (.int (E:Int)) 16=some (.dct s.nd):=r16
 have r15:upd (upd ρ 17 (.int (j:Int))) 18 (.int (E:Int)) 15=some (.zt s.cd):=r15
 have r13:upd (upd ρ 17 (.int (j:Int))) 18 (.int (E:Int)) 13=some (.lst s.c.nl):=r13
 have r17:upd (upd ρ 17 (.int (j:Int))) 18 (.int (E:Int)) 17=some (.int j):=rfl
 have r18:upd (upd ρ 17 (.int (j:Int))) 18 (.int (E:Int)) 18=some (.int E):=rfl
 generalize upd (upd ρ 17 (.int (j:Int))) 18 (.int (E:Int))=ρ2 at F2 B2 r13 r14 r15 r16 r17 r18
 generalize σ.mx s.nd (putD es (.int j) (.int (E:Int)))=σ2 at k2 cd2 nd2
 refine⟨.int E,r18,.int bk,B2.r11,?_⟩
 show(if decide ((bk:Int)<E)=true then _ else _)
 have lim2:=oO T lim c2
 by_cases c3:bk<E
 ·rw [bx (by simpa using c3)]
  refine⟨.int s.i,r14,.int E,r18,.int j,r17,.int E,r18,.int E,r18,by simp [aq],_,rfl,rfl,?_⟩
  refine hk _ _ (.mk (s.i+1-E) (j+1-E) E _ lim2 hlen2 k2 (((F2.up (by decide)).up (by decide)).up (by decide)) ⟨?_,?_,rfl⟩ cd2 nd2 r13 r14 r15 r16 hr2 (tk c3))
  ·show some (V.int ((s.i:Int)-E+1))=_
   congr 2;(exact dw (.ie (.a .V .U) .Q) .g (.e .a5 .M) (aa (bh .O .a .O hE1)))
  ·show some (V.int ((j:Int)-E+1))=_
   congr 2;(exact dw (.ie (.a .V .U) .Q) .g (.e .a5 .M) (aa (bh .O .a .O hE2)))
 ·rw [aw (by simpa using c3)]
  exact hk _ _ (.mk bi bj bk _ lim2 hlen2 k2 F2 B2 cd2 nd2 r13 r14 r15 r16 hr2 (sm (kj c3)))
theorem qE {C:Cal} {c:Fc} (ok:Fk c) {i bi bj bk:Nat} {cd nd:Addr} {es:List (Key × V)} {σ:St} {ρ:Fr} {K:Fl→Fr→St→Prop} (hai:c.alo≤i) (hia:i<c.ahi) (hb:c.blo≤c.bhi) (k0:Kp c.σ₀ σ) (F:c.F ρ) (B:FB ρ bi bj bk)
  (h13:ρ 13=some (.lst c.nl)) (h14:ρ 14=some (.int i)) (h15:ρ 15=some (.zt cd)) (h16:ρ 16=some (.dct nd)) (hcd:σ.D cd=some es) (hrow:c.R i es) (hnd:σ.D nd=some []) (hne:cd≠nd) (h0d:c.σ₀.D nd=none)
  (sc:c.S (fun i' j'=>i'<i∧j'<c.bhi) bi bj bk) (h:∀ ρ' σ' ps,nJ ⟨c,i,cd,nd,es,ps⟩ ρ' σ'→K .next ρ' σ'):wpS C kR ρ σ K:=by
 have al:=ok.al
 have ea:c.as[i]?=some c.as[i]:=bc (by exact gr .C .b .U .M hia al)
 obtain⟨tb,l,hD,hg,hc⟩:=ok.T.get ok.n c.as[i]
 generalize hps:(if c.rm c.as[i] then [] else posOf c.as[i] c.bs)=ps at hc
 have sk:Sk ⟨c,i,cd,nd,es,ps⟩:=by
  refine⟨hai,hia,hrow,hne,h0d,fun j=>?_,?_,?_⟩
  ·show j∈ps↔hit c.as c.bs c.rm i j=true
   rw [uc,← hps]
   cases hr:c.rm c.as[i] with
   | true =>
    rw [bx rfl]
    refine⟨(fun q=>nomatch q),?_⟩
    rintro ⟨a,e1,_,e3⟩
    obtain rfl:=ae (ea.symm.trans e1)
    rw [hr] at e3;cases e3
   | false =>
    rw [aw (by decide),kT]
    refine⟨fun q=>⟨_,ea,q,hr⟩,?_⟩
    rintro ⟨a,e1,e2,e3⟩
    obtain rfl:=ae (ea.symm.trans e1)
    exact e2
  ·show ps.Pairwise (·<·)
   rw [← hps];split
   ·exact .nil
   ·exact yI
  ·show ps.length≤c.bs.length
   rw [← hps];split
   ·exact cf _
   ·exact vC
 refine⟨.dct c.db,F.r7,?_,.lst c.la,F.r5,.int i,h14,c.as.map Key.v,c.as[i].v,k0.L _ _ ok.La,by rw [mv];(exact ic (.ik .O .L) .i),by rw [mv,fk,az,ea];rfl,.lst c.nl,h13,tb,c.as[i],k0.D _ _ hD,oS _,?_⟩
 ·show(σ.D c.db).isSome=true
  rw [k0.D _ _ hD];rfl
 rw [hg]
 refine⟨_,k0.L _ _ hc,?_⟩
 refine rj (InI ⟨c,i,cd,nd,es,ps⟩) ?_ ?_ ?_
 ·intro t v ρ' σ' hv I
  rw [az] at hv
  obtain⟨j,e,rfl⟩:=eh.mp hv
  cases I
  exact⟨k.L _ _ hc,fun kk hk=>D3 ok sk e hb (.mk bi_1 bj_1 bk_1 es_1 lim len k F_1 B_1 cd_1 nd_1 r13 r14 r15 r16 row sc_1) hk fun ρ' σ'=>h ρ' σ' ps⟩
 ·intro ρ' σ' I
  rw [au] at I
  have I0:=I
  cases I
  exact⟨k.L _ _ hc,h _ _ _ (I0.fin sk fun j _ q=>by show j∈ps.take ps.length;rw [uk];exact q)⟩
 ·refine .mk bi bj bk [] (fun j hj=>nomatch hj) (ay _) k0 F B hcd hnd h13 h14 h15 h16 ?_ (sc.skip (fun i' j' q=>.inl q) fun i' j' q=>?_)
  ·intro j hj
   rw [aw (by simp)]
   rfl
  ·rcases q with q | ⟨_,q⟩
   ·exact .inl q
   ·exact nomatch q
theorem n0 {as bs:List Key} {ok:Key→Bool} {alo blo:Nat}:∀ {i j k:Nat},(wi as bs ok alo blo i j k).1≤i∧(wi as bs ok alo blo i j k).2.1≤j
 | 0,j,k=>⟨ay _,ay _⟩
 | i+1,0,k=>⟨ay _,ay _⟩
 | i+1,j+1,k=>by
  rw [cL]
  split
  ·have:=n0 (as:=as) (bs:=bs) (ok:=ok) (alo:=alo) (blo:=blo) (i:=i) (j:=j) (k:=k+1)
   (exact⟨(bh .O .a .A this.1),(bh .O .a .A this.2)⟩)
  ·exact⟨ay _,ay _⟩
noncomputable def CI:jt:=(.cons (.assign [(.var 15)] (.dgetOf (.loc 12)))
 (.cons (.assign [(.var 16)] .dct0)
 (.cons kR
 (.cons (.assign [(.var 12)] (.loc 16))
 .nil))))
inductive DQ (c:Fc) (t:Nat) (ρ:Fr) (σ:St):Prop
 | mk (bi bj bk:Nat) (cd:Addr) (es:List (Key × V)) (k:Kp c.σ₀ σ) (F:c.F ρ) (r13:ρ 13=some (.lst c.nl)) (B:FB ρ bi bj bk) (r12:ρ 12=some (.dct cd)) (hcd:σ.D cd=some es) (row:c.R (c.alo+t) es) (sc:c.S (fun i' j'=>i'<c.alo+t∧j'<c.bhi) bi bj bk):DQ c t ρ σ
theorem yN {C:Cal} {c:Fc} (ok:Fk c) {t:Nat} {ρ:Fr} {σ:St} {kk:Fr→St→Prop} {K:Fl→Fr→St→Prop} (ht:c.alo+t<c.ahi) (hb:c.blo≤c.bhi) (I:DQ c t ρ σ) (hk:∀ ρ' σ',DQ c (t+1) ρ' σ'→kk ρ' σ') :
  fy C CI (upd ρ 14 (.int ((c.alo+t:Nat):Int))) σ (sq kk K):=by
 cases I
 refine⟨_,r12,cd,rfl,by rw [hcd];rfl,fun nd hnd=>?_⟩
 have hne:cd≠nd:=fun q=>by rw [q,hnd] at hcd;cases hcd
 refine qE ok (cd:=cd) (nd:=nd) (eM _ _) ht hb (k.mx (k.noD hnd)) (((F.up (by decide)).up (by decide)).up (by decide)) (((B.up (by decide)).up (by decide)).up (by decide)) r13 rfl rfl rfl ((dq hne).trans hcd) row (bg _ _ _) hne (k.noD hnd) sc fun ρ2 σ2 ps E=>?_
 cases E
 refine⟨_,r16,?_⟩
 refine hk _ _ (.mk bi_1 bj_1 bk_1 nd es_1 k_1 (F_1.up (by decide)) r13_1 (B_1.up (by decide)) rfl nd_1 row_1 (sc_1.skip (fun i' j' q=>?_) fun i' j' q=>?_))
 ·rcases q with q | q
  ·exact⟨Nat.lt_succ_of_lt q.1,q.2⟩
  ·exact⟨Nat.lt_succ_of_le (Nat.le_of_eq q.1),q.2.1⟩
 ·by_cases e:i'<c.alo+t
  ·exact .inl (.inl ⟨e,q.2⟩)
  ·have:i'=c.alo+t:=by have:=q.1;(exact gr .bG .l (.l .A (.a .B .Q)) (.g .A .R) q.1 e)
   subst this
   by_cases hh:c.h (c.alo+t) j'=true
   ·exact .inl (.inr ⟨rfl,q.2,hh⟩)
   ·refine .inr (.inl ?_)
    rw [n8]
    rw [aw (fun q=>hh q.2.2)]
theorem flm {P:Nat→Option Fn} (hP:P 5=some fn5) {n:Nat} {σ:St} {x la lb db sj:Addr} {as bs:List Key} {rm:Key→Bool} {js:List Key} {Q:V→St→Prop} {alo ahi blo bhi:Nat} {vah vbh:V}
  (hM:MAt σ x la lb db sj as bs rm js) (ha:∀ k∈as,yl k) (hb:∀ k∈bs,yl k) (hs:bs.length<aq) (hsa:as.length<aq)
  (hvah:vah=.int ahi∨(vah=.none∧ahi=as.length)) (hvbh:vbh=.int bhi∨(vbh=.none∧bhi=bs.length))
  (hla:alo≤ahi) (hlb:blo≤bhi) (hal:ahi≤as.length) (hbl:bhi≤bs.length)
  (h:∀ σ' i j k,Kp σ σ'→kJ as bs rm alo ahi blo bhi i j k→(let g:=grow as bs (fun c=>decide (c∈js)) alo ahi blo bhi i j k;Q (mtV (g.1,g.2.1,g.2.2)) σ')):gy P (n+1) 5 [.obj x,.int alo,vah,.int blo,vbh] σ Q:=by
 refine⟨fn5,hP,by simp [fn5],by simp [fn5],?_⟩
 obtain⟨d,f,hI,f1,f2,f7,f8⟩:=hM.I
 have h0:frameOf fn5 [.obj x,.int alo,vah,.int blo,vbh] 0=some (.obj x):=rfl
 have h1:frameOf fn5 [.obj x,.int alo,vah,.int blo,vbh] 1=some (.int alo):=rfl
 have h2:frameOf fn5 [.obj x,.int alo,vah,.int blo,vbh] 2=some vah:=rfl
 have h3:frameOf fn5 [.obj x,.int alo,vah,.int blo,vbh] 3=some (.int blo):=rfl
 have h4:frameOf fn5 [.obj x,.int alo,vah,.int blo,vbh] 4=some vbh:=rfl
 generalize frameOf fn5 [.obj x,.int alo,vah,.int blo,vbh]=ρ at h0 h1 h2 h3 h4
 refine⟨.obj x,h0,x,d,f,_,rfl,hI,f1,.obj x,h0,x,d,f,_,rfl,hI,f2,.obj x,h0,x,d,f,_,rfl,hI,f7,.obj x,h0,x,d,f,_,rfl,hI,f8,sj,rfl,by rw [hM.S];rfl,by simp [aq],?_⟩
 refine⟨_,rfl,rfl,?_⟩
 have goA:∀ (ρ:Fr) (K:Fl→Fr→St→Prop),ρ 2=some vah→ρ 5=some (.lst la)→(∀ ρ',(∀ m,m≠2→ρ' m=ρ m)→ρ' 2=some (.int ahi)→K .next ρ' σ) →
   wpS (gy P n) (.cond (.cmp .is (.loc 2) .none) (.cons (.assign [(.var 2)] (.bf .len (.cons (.loc 5) .nil))) .nil) .nil) ρ σ K:=by
  intro ρ K e2 e5 hk
  refine⟨_,e2,?_⟩
  rcases hvah with rfl | ⟨rfl,rfl⟩
  ·exact hk ρ (fun _ _=>rfl) e2
  ·refine⟨_,e5,_,hM.La,?_⟩
   refine hk _ (fun m hm=>dq hm) ?_
   rw [bg,au]
 have goB:∀ (ρ:Fr) (K:Fl→Fr→St→Prop),ρ 4=some vbh→ρ 6=some (.lst lb)→(∀ ρ',(∀ m,m≠4→ρ' m=ρ m)→ρ' 4=some (.int bhi)→K .next ρ' σ) →
   wpS (gy P n) (.cond (.cmp .is (.loc 4) .none) (.cons (.assign [(.var 4)] (.bf .len (.cons (.loc 6) .nil))) .nil) .nil) ρ σ K:=by
  intro ρ K e2 e5 hk
  refine⟨_,e2,?_⟩
  rcases hvbh with rfl | ⟨rfl,rfl⟩
  ·exact hk ρ (fun _ _=>rfl) e2
  ·refine⟨_,e5,_,hM.Lb,?_⟩
   refine hk _ (fun m hm=>dq hm) ?_
   rw [bg,au]
 refine goA _ _ h2 rfl fun ρ1 s1 e12=>?_
 refine goB _ _ (by rw [s1 4 (by decide)];exact h4) (by rw [s1 6 (by decide)];rfl) fun ρ2 s2 e24=>?_
 have F0:FF ρ2 la lb db sj alo ahi blo bhi:=by
  refine⟨?_,?_,?_,e24,?_,?_,?_,?_⟩<;>rw [s2 _ (by decide)]
  ·rw [s1 _ (by decide)];exact h1
  ·exact e12
  ·rw [s1 _ (by decide)];exact h3
  ·rw [s1 _ (by decide)];rfl
  ·rw [s1 _ (by decide)];rfl
  ·rw [s1 _ (by decide)];rfl
  ·rw [s1 _ (by decide)];rfl
 refine⟨_,F0.r1,_,F0.r3,by simp [aq],_,rfl,rfl,?_⟩
 refine fun d0 hd0=>?_
 refine⟨by simp [aq],fun nl hnl=>?_⟩
 refine⟨_,F0.r1,_,F0.r2,(alo:Int),(ahi:Int),rfl,rfl,by simp [aq] at *;(exact qc .a9 .d (.l .B .S) .G .M hsa hla hal),by simp [aq] at *;(exact gn .a9 .b (.l .B .S) .A hsa hal),?_⟩
 generalize hσ₀:((σ.mx d0 []).fg nl [])=σ₀
 have k0:Kp σ σ₀:=by
  rw [← hσ₀]
  exact((Kp.refl σ).mx hd0).fg (by exact hnl)
 have hM0:=hM.keep k0
 have hn0:σ₀.L nl=some []:=by rw [← hσ₀];exact bg _ _ _
 have hd00:σ₀.D d0=some []:=by rw [← hσ₀];exact bg _ _ _
 have ok:Fk ⟨σ₀,la,lb,db,sj,nl,as,bs,rm,alo,ahi,blo,bhi⟩:=⟨hM0.La,hM0.D,hn0,hs,hbl,hal⟩
 refine rj (DQ ⟨σ₀,la,lb,db,sj,nl,as,bs,rm,alo,ahi,blo,bhi⟩) ?_ ?_ ?_
 ·intro t v ρ' σ' hv I
  obtain⟨ht,rfl⟩:=ze hv
  exact⟨trivial,fun k hk=>yN ok ht hlb I hk⟩
 ·intro ρ' σ' I
  obtain⟨bi,bj,bk,cd,es,kk,F,r13,B,r12,hcd,hrow,hsc⟩:=I
  rw [we] at hrow hsc
  have best:kJ as bs rm alo ahi blo bhi bi bj bk:=hsc.best fun i' j' h1 h2 h3 h4 h5=>⟨by exact ee (.l .A .R) .c .bM (.e .a5 .D) h2 (aa (gr .A .b .G .aG h1 h2)),h4⟩
  refine⟨trivial,?_⟩
  have hLa:=kk.L _ _ hM0.La
  have hLb:=kk.L _ _ hM0.Lb
  have hS:σ'.S sj=some js:=by rw [kk.S];exact hM0.S
  have notJ:∀ (ρ:Fr) (e:Ex) (j:Nat) (b:Key) (Q:Bool→St→Prop),ρ 8=some (.cD sj)→bs[j]?=some b→(∀ Q:V→St→Prop,Q (.int j) σ'→wpE (gy P n) e ρ σ' Q)→ρ 6=some (.lst lb)→Q (!decide (b∈js)) σ'→wpT (gy P n) (.not (.callv 8 (.cons (.sub (.loc 6) e) .nil))) ρ σ' Q:=fun ρ e j b Q r8 eb he r6 q=>by
   refine⟨_,r8,_,r6,he _ ?_⟩
   refine⟨_,b.v,hLb,by rw [mv];(first | exact ic (.ik .O .L) .i Ar.y | omega),by rw [mv,fk,az,eb];rfl,js,b,hS,oS _,q⟩
  have isJ:∀ (ρ:Fr) (e:Ex) (j:Nat) (b:Key) (Q:Bool→St→Prop),ρ 8=some (.cD sj)→bs[j]?=some b→(∀ Q:V→St→Prop,Q (.int j) σ'→wpE (gy P n) e ρ σ' Q)→ρ 6=some (.lst lb)→Q (decide (b∈js)) σ'→wpT (gy P n) (.callv 8 (.cons (.sub (.loc 6) e) .nil)) ρ σ' Q:=fun ρ e j b Q r8 eb he r6 q=>by
   refine⟨_,r8,_,r6,he _ ?_⟩
   refine⟨_,b.v,hLb,by rw [mv];(first | exact ic (.ik .O .L) .i Ar.y | omega),by rw [mv,fk,az,eb];rfl,js,b,hS,oS _,q⟩
  have left:∀ (ρ:Fr) (j:Nat),ρ 10=some (.int ((j+1:Nat):Int))→∀ Q:V→St→Prop,Q (.int j) σ'→wpE (gy P n) (.bin .sub (.loc 10) (.int 1)) ρ σ' Q:=fun ρ j r Q q=>by
   refine⟨_,r,?_⟩
   have e:((j+1:Nat):Int)-1=(j:Int):=by(exact ic .Z .j)
   show Q (.int _) σ'
   rw [e];exact q
  have right:∀ (ρ:Fr) (j k:Nat),ρ 10=some (.int (j:Int))→ρ 11=some (.int (k:Int))→∀ Q:V→St→Prop,Q (.int ((j+k:Nat):Int)) σ'→wpE (gy P n) (.bin .add (.loc 10) (.loc 11)) ρ σ' Q:=fun ρ j k r r' Q q=>⟨_,r,_,r',q⟩
  have R:=best.run
  have:=R.ia;have:=R.jb
  refine EP (σ:=σ') (js:=js) (ok:=fun c=>!decide (c∈js)) hLa hLb ha hb (by simp [aq] at *;(exact gv .a9 .a .a2 hsa)) (by simp [aq] at *;(exact gv .a9 .a .a2 hs)) (fun ρ j b Q F r10 eb q=>notJ ρ _ j b Q F.r8 eb (left ρ j r10) F.r6 q) (i:=bi) (j:=bj) (k:=bk) (by(rename_i z1;exact ee .A .b .M (.k .a1 .C) hal z1)) (by exact ee .A .b .M (.k .a1 .C) hbl this) (fun ρ F B=>?_) F B
  refine EO (σ:=σ') (js:=js) (ok:=fun c=>!decide (c∈js)) (.inl rfl) hLa hLb ha hb hal hbl (fun ρ j k b Q F r10 r11 eb q=>notJ ρ _ (j+k) b Q F.r8 eb (right ρ j k r10 r11) F.r6 q) (fun ρ F B=>?_) F B
  refine EP (σ:=σ') (js:=js) (ok:=fun c=>decide (c∈js)) hLa hLb ha hb (by simp [aq] at *;(exact gv .a9 .a .a2 hsa)) (by simp [aq] at *;(exact gv .a9 .a .a2 hs)) (fun ρ j b Q F r10 eb q=>isJ ρ _ j b Q F.r8 eb (left ρ j r10) F.r6 q) ?_ ?_ (fun ρ F B=>?_) F B
  ·have:=n0 (as:=as) (bs:=bs) (ok:=fun c=>!decide (c∈js)) (alo:=alo) (blo:=blo) (i:=bi) (j:=bj) (k:=bk)
   (rename_i z5 z4 z3 z2 z1;exact ky .A .d .M (.k .a0 .C) .b3 hal z5 this.1)
  ·have:=n0 (as:=as) (bs:=bs) (ok:=fun c=>!decide (c∈js)) (alo:=alo) (blo:=blo) (i:=bi) (j:=bj) (k:=bk)
   (rename_i z4 z3 z2 z1;exact ky .A .d .M (.k .a0 .C) .b3 hbl z4 this.2)
  refine EO (σ:=σ') (js:=js) (ok:=fun c=>decide (c∈js)) (.inr rfl) hLa hLb ha hb hal hbl (fun ρ j k b Q F r10 r11 eb q=>isJ ρ _ (j+k) b Q F.r8 eb (right ρ j k r10 r11) F.r6 q) (fun ρ F B=>?_) F B
  refine⟨_,B.r9,_,B.r10,_,B.r11,?_⟩
  exact h σ' bi bj bk (k0.trans kk) best
 ·refine .mk alo blo 0 d0 [] (Kp.refl _) (((F0.up (by exact zu (.k .a9 .a9) .i)).up (by exact zu (.k .a9 (.n 10)) .i)).up (by exact zu (.k .a9 (.n 11)) .i) |>.up (by exact zu (.k .a9 (.n 12)) .i) |>.up (by exact zu (.k .a9 (.n 13)) .i)) rfl ⟨rfl,rfl,rfl⟩ rfl hd00 ?_ ?_
  ·intro j hj
   rw [Nat.add_zero,A3];rfl
  ·refine(Scan.start hla hlb).skip (fun _ _ q=>q.elim) fun i' j' q=>.inr (.inl ?_)
   rw [n8]
   rw [aw (by exact fun q1=>(gn .ff .e (.l .A (.a .B .O)) .a1 q.1 q1.1))]
end SM
end MP
end
section
namespace MP
noncomputable def Within (alo ahi blo bhi:Nat) (t:Nat × Nat × Nat):Prop:=alo≤t.1∧t.1+t.2.2≤ahi∧blo≤t.2.1∧t.2.1+t.2.2≤bhi
section
variable {as bs:List Key} {ok rm js:Key→Bool} {alo ahi blo bhi:Nat}
end
end MP
end
section
namespace MP
open PySem
theorem l0 {v:V} (h:isNone v=true):v=.none:=by
 cases v<;>first | rfl | exact Bool.noConfusion h
theorem nO {α:Type} {P:Prop} {x:α} (h:none=some x):P:=nomatch h
theorem jm {α β:Type} {o:Option α} {f:α→Option β} {b:β} (h:o.bind f=some b):∃ a,o=some a∧f a=some b:=cw.mp h
theorem omap {α β:Type} {o:Option α} {f:α→β} {b:β} (h:o.map f=some b):∃ a,o=some a∧f a=b:=eh.mp h
noncomputable def kE (a b:V):Option (Int × Int):=(vInt a).bind fun i=>(vInt b).map fun j=>(i,j)
theorem wg {a b:V} {p:Int × Int} (h:kE a b=some p):a=.int p.1∧b=.int p.2:=by
 obtain⟨i,e,h⟩:=jm h
 obtain⟨j,e',rfl⟩:=omap h
 exact⟨nu e,nu e'⟩
noncomputable def lh {α:Type} (c:Prop) [Decidable c] (x:α):Option α:=if c then some x else none
theorem qt {α:Type} {c:Prop} [Decidable c] {x y:α} (h:lh c x=some y):c∧x=y:=by
 unfold lh at h
 by_cases q:c
 ·rw [bx q] at h;exact⟨q,ae h⟩
 ·rw [aw q] at h;cases h
noncomputable def aO (op:Bop) (a b:V):Option V:=(kE a b).bind fun p=>match op with
 | .add=>some (.int (p.1+p.2))
 | .sub=>some (.int (p.1-p.2))
 | .mul=>lh (p.1.natAbs<2^60∨p.2.natAbs<2^60) (.int (p.1*p.2))
 | .fdiv=>lh (0<p.2∧p.2.natAbs<2^60) (.int (p.1/p.2))
 | .mod=>lh (0<p.2) (.int (p.1%p.2))
 | .pow=>lh (0≤p.2∧p.2≤1000∧p.1.natAbs<2^64) (.int (p.1^p.2.toNat))
theorem oZ {op:Bop} {a b v:V} {σ:St} {Q:V→St→Prop} (h:aO op a b=some v) (q:Q v σ):xv op a b σ Q:=by
 obtain⟨⟨i,j⟩,e,h⟩:=jm h
 obtain⟨rfl,rfl⟩:=wg e
 clear e
 cases op with
 | add=>cases h;exact q
 | sub=>cases h;exact q
 | mul=>obtain⟨c,rfl⟩:=qt h;exact⟨c,q⟩
 | fdiv =>
  obtain⟨c,rfl⟩:=qt h
  have c:0<j∧j.natAbs<2^60:=c
  refine⟨(by(rename_i z2 z1;exact ke (.iu .A .O) .a .b6 z2.1):j≠0),c.2,?_⟩
  rw [yv _ (by show 0≤j;(rename_i z2 z1;exact ke .T .a .b6 z2.1))];exact q
 | mod =>
  obtain⟨c,rfl⟩:=qt h
  have c:0<j:=c
  refine⟨(by(rename_i z2 z1;exact ke (.iu .A .O) .a .b6 z2):j≠0),?_⟩
  rw [yu _ (by show 0≤j;(rename_i z2 z1;exact ke .T .a .b6 z2))];exact q
 | pow=>obtain⟨c,rfl⟩:=qt h;exact⟨c.1,c.2.1,c.2.2,q⟩
noncomputable def rE (σ:St):V→Option Bool
 | .none=>some false
 | .bool b=>some b
 | .int i=>some (i != 0)
 | .lst a=>(σ.L a).map fun xs=>!xs.isEmpty
 | .clo _ _=>some true
 | _=>none
theorem dY {σ:St}:∀ (v:V) {b:Bool} {K:Bool→Prop},rE σ v=some b→K b→pz v σ K:=by
 intro v b K h q
 cases v
 case none=>obtain rfl:=ae h;exact q
 case bool=>obtain rfl:=ae h;exact q
 case int=>obtain rfl:=ae h;exact q
 case lst=>obtain⟨xs,e,rfl⟩:=omap h;exact⟨xs,e,q⟩
 case clo=>obtain rfl:=ae h;exact q
 all_goals exact nO h
noncomputable def sg (σ:St) (op:Cop) (a b:V):Option Bool:=match op with
 | .eq=>(vInt a).elim ((vStr a).bind fun x=>(vStr b).map fun y=>x==y) fun i=>(vInt b).map fun j=>decide (i=j)
 | .ne=>(vInt a).elim ((vStr a).bind fun x=>(vStr b).map fun y=>!(x==y)) fun i=>(vInt b).map fun j=>decide (i≠j)
 | .lt=>(kE a b).map fun p=>decide (p.1<p.2)
 | .le=>(kE a b).map fun p=>decide (p.1≤p.2)
 | .gt=>(kE a b).map fun p=>decide (p.2<p.1)
 | .ge=>(kE a b).map fun p=>decide (p.2≤p.1)
 | .is=>lh (isNone b=true) (isNone a)
 | .isNot=>lh (isNone b=true) (!(isNone a))
 | _=>none
theorem deq (x y:Int):(x==y)=decide (x=y):=by
 by_cases e:x=y
 ·simp [e]
 ·simp [e]
theorem dne (x y:Int):(!(x==y))=decide (x≠y):=by rw [deq];by_cases e:x=y<;>simp [e]
theorem oY {σ:St} {op:Cop} {a b:V} {r:Bool} {K:Bool→Prop} (h:sg σ op a b=some r) (q:K r):cY op a b σ K:=by
 have is_:∀ {a:V} {K:Bool→Prop},K (isNone a)→B4 a .none σ K:=fun {a K} q=>q
 cases op with
 | eq =>
  cases e:vInt a with
  | some i =>
   obtain rfl:=nu e
   obtain⟨j,e',rfl⟩:=omap h
   obtain rfl:=nu e'
   show K (i==j)
   rw [deq];exact q
  | none =>
   unfold sg at h
   rw [e] at h
   obtain⟨x,e1,h⟩:=jm h
   obtain⟨y,e2,rfl⟩:=omap h
   obtain rfl:=yx e1
   obtain rfl:=yx e2
   exact q
 | ne =>
  cases e:vInt a with
  | some i =>
   obtain rfl:=nu e
   obtain⟨j,e',rfl⟩:=omap h
   obtain rfl:=nu e'
   show K (!(i==j))
   rw [dne];exact q
  | none =>
   unfold sg at h
   rw [e] at h
   obtain⟨x,e1,h⟩:=jm h
   obtain⟨y,e2,rfl⟩:=omap h
   obtain rfl:=yx e1
   obtain rfl:=yx e2
   exact q
 | lt=>obtain⟨p,e,rfl⟩:=omap h;obtain⟨rfl,rfl⟩:=wg e;exact q
 | le=>obtain⟨p,e,rfl⟩:=omap h;obtain⟨rfl,rfl⟩:=wg e;exact q
 | gt=>obtain⟨p,e,rfl⟩:=omap h;obtain⟨rfl,rfl⟩:=wg e;exact q
 | ge=>obtain⟨p,e,rfl⟩:=omap h;obtain⟨rfl,rfl⟩:=wg e;exact q
 | is=>obtain⟨c,rfl⟩:=qt h;obtain rfl:=l0 c;exact is_ q
 | isNot=>obtain⟨c,rfl⟩:=qt h;obtain rfl:=l0 c;exact is_ (K:=fun r=>K (!r)) q
 | isIn=>cases h
 | notIn=>cases h
theorem ifO {α:Type} {c:Prop} [Decidable c] {x:Option α} {y:α} (h:(if c then x else none)=some y):c∧x=some y:=by
 by_cases q:c
 ·rw [bx q] at h;exact⟨q,h⟩
 ·rw [aw q] at h;cases h
noncomputable def A1 (xs:List V) (i:Int):Option V:=if 0≤fb xs.length i then xs[(fb xs.length i).toNat]? else none
noncomputable def tS (σ:St) (a i:V):Option V:=(vInt i).bind fun i=>match gJ a with
 | some a=>(σ.L a).bind fun xs=>A1 xs i
 | none=>(F9 a).bind fun xs=>if i.natAbs<2^60 then A1 xs i else none
theorem oX {σ:St} {a i v:V} {K:V→Prop} (h0:tS σ a i=some v) (q:K v):nU a i σ K:=by
 obtain⟨j,e,h⟩:=jm h0
 clear h0
 have e:=nu e
 subst e
 cases e:gJ a with
 | some b =>
  rw [e] at h
  have e:=cZ e
  subst e
  obtain⟨xs,e,h⟩:=jm (o:=σ.L b) h
  obtain⟨c,h⟩:=ifO h
  exact⟨xs,v,e,c,h,q⟩
 | none =>
  rw [e] at h
  obtain⟨xs,e,h⟩:=jm (o:=F9 a) h
  have e:=BC e
  subst e
  obtain⟨c,h⟩:=ifO h
  obtain⟨c2,h⟩:=ifO h
  exact⟨v,c,c2,h,q⟩
noncomputable def pA (σ:St) (k:BF) (vs:List V):Option V:=match k with
 | .len=>match vs with
  | [v]=>(gJ v).elim ((BE v).bind fun a=>(σ.D a).map fun xs=>.int xs.length) fun a=>(σ.L a).map fun xs=>.int xs.length
  | _=>none
 | .min=>match vs with
  | [a,b]=>(kE a b).map fun p=>.int (min p.1 p.2)
  | _=>none
 | .max=>match vs with
  | [a,b]=>(kE a b).map fun p=>.int (max p.1 p.2)
  | _=>none
 | _=>none
theorem D7 {σ:St} (k:BF) (vs:List V) {v:V} {Q:V→St→Prop} (h:pA σ k vs=some v) (q:Q v σ):lQ k vs σ Q:=by
 cases vs with
 | nil=>cases k<;>exact nO h
 | cons u r =>
  cases k
  case len =>
   cases r with
   | cons=>exact nO h
   | nil =>
    cases e:gJ u with
    | some a =>
     obtain rfl:=cZ e
     obtain⟨xs,e,rfl⟩:=omap h
     exact⟨xs,e,q⟩
    | none =>
     have h:(gJ u).elim ((BE u).bind fun a=>(σ.D a).map fun xs=>V.int xs.length) (fun a=>(σ.L a).map fun xs=>.int xs.length)=some v:=h
     rw [e] at h
     obtain⟨a,e1,h⟩:=jm (o:=BE u) h
     obtain rfl:=BD e1
     obtain⟨xs,e,rfl⟩:=omap h
     exact⟨xs,e,q⟩
  case lrange=>exact nO h
  case set=>exact nO h
  case minL=>exact nO h
  case maxL=>exact nO h
  case sorted=>exact nO h
  all_goals cases r with
  | nil=>exact nO h
  | cons w r =>
   cases r with
   | cons=>exact nO h
   | nil =>
    first
    | (obtain⟨p,e,rfl⟩:=omap (o:=kE u w) h;obtain⟨rfl,rfl⟩:=wg e;exact q)
    | (obtain⟨⟨i,j⟩,e,h⟩:=jm (o:=kE u w) h;obtain⟨rfl,rfl⟩:=wg e;obtain⟨c,rfl⟩:=qt h;have c:0<j∧j.natAbs<2^60:=c;refine⟨(by(rename_i z2 z1;exact ke (.iu .A .O) .a .b6 z2.1):j≠0),c.2,?_⟩;rw [yv _ (by show 0≤j;(rename_i z2 z1;exact ke .T .a .b6 z2.1)),yu _ (by show 0≤j;(rename_i z2 z1;exact ke .T .a .b6 z2.1))];exact q)
mutual
noncomputable def evV (σ:St) (ρ:Fr):Ex→Option V
 | .none=>some .none
 | .bool b=>some (.bool b)
 | .int i=>some (.int i)
 | .str s=>some (.str s)
 | .loc x=>ρ x
 | .bin op a b=>(evV σ ρ a).bind fun va=>(evV σ ρ b).bind fun vb=>aO op va vb
 | .neg a=>(evV σ ρ a).bind fun v=>(vInt v).map fun i=>.int (-i)
 | .not a=>(evV σ ρ a).bind fun v=>(rE σ v).map fun b=>.bool !b
 | .cmp op a b=>(evV σ ρ a).bind fun va=>(evV σ ρ b).bind fun vb=>(sg σ op va vb).map .bool
 | .ite c a b=>(evT σ ρ c).bind fun t=>if t then evV σ ρ a else evV σ ρ b
 | .tup es=>(cN σ ρ es).bind fun vs=>if vs.length≤aq then some (.tup vs) else none
 | .attr e x=>(evV σ ρ e).bind fun v=>(FD v).bind fun a=>(σ.I a).bind fun p=>p.2 x
 | .sub e i=>(evV σ ρ e).bind fun v=>(evV σ ρ i).bind fun j=>tS σ v j
 | .bf k es=>(cN σ ρ es).bind fun vs=>pA σ k vs
 | _=>none
noncomputable def cN (σ:St) (ρ:Fr):Exs→Option (List V)
 | .nil=>some []
 | .cons e es=>(evV σ ρ e).bind fun v=>(cN σ ρ es).map fun vs=>v::vs
noncomputable def evT (σ:St) (ρ:Fr):Ex→Option Bool
 | .not a=>(evT σ ρ a).map fun b=>!b
 | .and a b=>(evT σ ρ a).bind fun t=>if t then evT σ ρ b else some false
 | .or a b=>(evT σ ρ a).bind fun t=>if t then some true else evT σ ρ b
 | .cmp op a b=>(evV σ ρ a).bind fun va=>(evV σ ρ b).bind fun vb=>sg σ op va vb
 | .ite c a b=>(evT σ ρ c).bind fun t=>if t then evT σ ρ a else evT σ ρ b
 | .loc x=>(ρ x).bind fun v=>rE σ v
 | .int i=>some (i != 0)
 | .bool b=>some b
 | .attr e x=>(evV σ ρ e).bind fun v=>(FD v).bind fun a=>(σ.I a).bind fun p=>(p.2 x).bind fun u=>rE σ u
 | .sub e i=>(evV σ ρ e).bind fun v=>(evV σ ρ i).bind fun j=>(tS σ v j).bind fun r=>rE σ r
 | .bin op a b=>(evV σ ρ a).bind fun va=>(evV σ ρ b).bind fun vb=>(aO op va vb).bind fun r=>rE σ r
 | _=>none
end
section
variable {σ:St} {ρ:Fr} {e a b c:Ex} {es:Exs}
@[simp] theorem II:evV σ ρ .none=some .none:=rfl
@[simp] theorem IJ {x:Bool}:evV σ ρ (.bool x)=some (.bool x):=rfl
@[simp] theorem JU {i:Int}:evV σ ρ (.int i)=some (.int i):=rfl
@[simp] theorem JT {x:Nat}:evV σ ρ (.loc x)=ρ x:=rfl
@[simp] theorem tR {op:Bop}:evV σ ρ (.bin op a b)=(evV σ ρ a).bind fun va=>(evV σ ρ b).bind fun vb=>aO op va vb:=rfl
@[simp] theorem JS:evV σ ρ (.neg a)=(evV σ ρ a).bind fun v=>(vInt v).map fun i=>.int (-i):=rfl
@[simp] theorem JV {op:Cop}:evV σ ρ (.cmp op a b)=(evV σ ρ a).bind fun va=>(evV σ ρ b).bind fun vb=>(sg σ op va vb).map .bool:=rfl
@[simp] theorem gX:evV σ ρ (.tup es)=(cN σ ρ es).bind fun vs=>if vs.length≤aq then some (.tup vs) else none:=rfl
@[simp] theorem JR {i:Ex}:evV σ ρ (.sub e i)=(evV σ ρ e).bind fun v=>(evV σ ρ i).bind fun j=>tS σ v j:=rfl
@[simp] theorem KL {k:BF}:evV σ ρ (.bf k es)=(cN σ ρ es).bind fun vs=>pA σ k vs:=rfl
@[simp] theorem IH:cN σ ρ .nil=some []:=rfl
@[simp] theorem cz:cN σ ρ (.cons e es)=(evV σ ρ e).bind fun v=>(cN σ ρ es).map fun vs=>v::vs:=rfl
@[simp] theorem JW:evT σ ρ (.not a)=(evT σ ρ a).map fun b=>!b:=rfl
@[simp] theorem JZ:evT σ ρ (.and a b)=(evT σ ρ a).bind fun t=>if t then evT σ ρ b else some false:=rfl
@[simp] theorem KN:evT σ ρ (.or a b)=(evT σ ρ a).bind fun t=>if t then some true else evT σ ρ b:=rfl
@[simp] theorem JY {op:Cop}:evT σ ρ (.cmp op a b)=(evV σ ρ a).bind fun va=>(evV σ ρ b).bind fun vb=>sg σ op va vb:=rfl
@[simp] theorem JX {x:Nat}:evT σ ρ (.loc x)=(ρ x).bind fun v=>rE σ v:=rfl
@[simp] theorem HL {i:Int}:vInt (.int i)=some i:=rfl
@[simp] theorem HG {i j:Int}:aO .add (.int i) (.int j)=some (.int (i+j)):=rfl
@[simp] theorem HD {i j:Int}:aO .sub (.int i) (.int j)=some (.int (i-j)):=rfl
@[simp] theorem HE {i j:Int}:aO .mul (.int i) (.int j)=lh (i.natAbs<2^60∨j.natAbs<2^60) (.int (i*j)):=rfl
@[simp] theorem GZ {i j:Int}:aO .fdiv (.int i) (.int j)=lh (0<j∧j.natAbs<2^60) (.int (i/j)):=rfl
@[simp] theorem HF {i j:Int}:aO .mod (.int i) (.int j)=lh (0<j) (.int (i%j)):=rfl
@[simp] theorem IU {l:Addr}:pA σ .len [.lst l]=(σ.L l).map fun xs=>.int xs.length:=rfl
@[simp] theorem IS {i j:Int}:pA σ .min [.int i,.int j]=some (.int (min i j)):=rfl
@[simp] theorem IT {i j:Int}:pA σ .max [.int i,.int j]=some (.int (max i j)):=rfl
@[simp] theorem IK {i j:Int}:sg σ .lt (.int i) (.int j)=some (decide (i<j)):=rfl
@[simp] theorem IL {i j:Int}:sg σ .le (.int i) (.int j)=some (decide (i≤j)):=rfl
@[simp] theorem IM {i j:Int}:sg σ .gt (.int i) (.int j)=some (decide (j<i)):=rfl
@[simp] theorem IP {i j:Int}:sg σ .ge (.int i) (.int j)=some (decide (j≤i)):=rfl
@[simp] theorem IQ {i j:Int}:sg σ .eq (.int i) (.int j)=some (decide (i=j)):=rfl
end
section
variable {C:Cal} {σ:St} {ρ:Fr}
mutual
theorem gw:∀ (e:Ex) {v:V} {Q:V→St→Prop},evV σ ρ e=some v→Q v σ→wpE C e ρ σ Q
 | .none=>fun h q=>by cases (h:some _=some _);exact q
 | .bool b=>fun h q=>by cases (h:some _=some _);exact q
 | .int b=>fun h q=>by cases (h:some _=some _);exact q
 | .str b=>fun h q=>by cases (h:some _=some _);exact q
 | .loc x=>fun h q=>⟨_,h,q⟩
 | .bin op a b=>fun h q=>by
  obtain⟨va,e1,h⟩:=jm h
  obtain⟨vb,e2,h⟩:=cw.mp h
  exact gw a e1 (gw b e2 (oZ h q))
 | .neg a=>fun h q=>by
  obtain⟨va,e1,h⟩:=jm h
  refine gw a e1 ?_
  obtain⟨i,e2,rfl⟩:=omap h
  exact⟨i,nu e2,q⟩
 | .not a=>fun h q=>by
  obtain⟨va,e1,h⟩:=jm h
  obtain⟨b,e2,rfl⟩:=eh.mp h
  exact gw a e1 (dY _ e2 q)
 | .cmp op a b=>fun h q=>by
  obtain⟨va,e1,h⟩:=jm h
  obtain⟨vb,e2,h⟩:=cw.mp h
  obtain⟨r,e3,rfl⟩:=eh.mp h
  exact gw a e1 (gw b e2 (oY e3 q))
 | .ite c a b=>fun h q=>by
  obtain⟨t,e1,h⟩:=jm h
  refine tf c e1 ?_
  cases t with
  | true=>exact gO (gw a h q)
  | false=>exact fA (gw b h q)
 | .tup es=>fun h q=>by
  obtain⟨vs,e1,h⟩:=jm h
  obtain⟨c,h⟩:=ifO h
  cases h
  exact rf es e1 ⟨c,q⟩
 | .attr e x=>fun h q=>by
  obtain⟨va,e1,h⟩:=jm h
  refine gw e e1 ?_
  obtain⟨a,e0,h⟩:=jm h
  obtain⟨⟨d,f⟩,e2,h⟩:=jm h
  exact⟨a,d,f,_,s9 e0,e2,h,q⟩
 | .sub e i=>fun h q=>by
  obtain⟨va,e1,h⟩:=jm h
  obtain⟨vb,e2,h⟩:=cw.mp h
  exact gw e e1 (gw i e2 (oX h q))
 | .bf k es=>fun h q=>by
  obtain⟨vs,e1,h⟩:=jm h
  exact rf es e1 (D7 _ _ h q)
 | .and ..=>fun h q=>nO h
 | .or ..=>fun h q=>nO h
 | .lst ..=>fun h q=>nO h
 | .dct0=>fun h q=>nO h
 | .call ..=>fun h q=>nO h
 | .meth ..=>fun h q=>nO h
 | .dgetOf ..=>fun h q=>nO h
 | .shasOf ..=>fun h q=>nO h
 | .bm ..=>fun h q=>nO h
 | .callv ..=>fun h q=>nO h
 | .slc ..=>fun h q=>nO h
 | .rev ..=>fun h q=>nO h
 | .comp ..=>fun h q=>nO h
 | .newM ..=>fun h q=>nO h
 | .newMatch ..=>fun h q=>nO h
 | .dead=>fun h q=>nO h
theorem rf:∀ (es:Exs) {vs:List V} {Q:List V→St→Prop},cN σ ρ es=some vs→Q vs σ→so C es ρ σ Q
 | .nil,vs,Q,h,q=>by cases (h:some _=some vs);exact q
 | .cons e es,vs,Q,h,q=>by
  obtain⟨v,e1,h⟩:=jm h
  obtain⟨us,e2,rfl⟩:=eh.mp h
  exact gw e e1 (rf es e2 q)
theorem tf:∀ (e:Ex) {b:Bool} {Q:Bool→St→Prop},evT σ ρ e=some b→Q b σ→wpT C e ρ σ Q
 | .not a=>fun h q=>by
  obtain⟨b,e2,rfl⟩:=omap h
  exact tf a e2 q
 | .and a b=>fun h q=>by
  obtain⟨t,e1,h⟩:=jm h
  refine tf a e1 ?_
  cases t with
  | true=>exact gO (tf b h q)
  | false=>cases h;exact fA q
 | .or a b=>fun h q=>by
  obtain⟨t,e1,h⟩:=jm h
  refine tf a e1 ?_
  cases t with
  | true=>cases h;exact gO q
  | false=>exact fA (tf b h q)
 | .cmp op a b=>fun h q=>by
  obtain⟨va,e1,h⟩:=jm h
  obtain⟨vb,e2,h⟩:=cw.mp h
  exact gw a e1 (gw b e2 (oY h q))
 | .ite c a b=>fun h q=>by
  obtain⟨t,e1,h⟩:=jm h
  refine tf c e1 ?_
  cases t with
  | true=>exact gO (tf a h q)
  | false=>exact fA (tf b h q)
 | .loc x=>fun h q=>by
  obtain⟨u,e1,h⟩:=jm h
  exact⟨u,e1,dY _ h q⟩
 | .int i=>fun h q=>by cases (h:some _=some _);exact q
 | .bool i=>fun h q=>by cases (h:some _=some _);exact q
 | .attr e x=>fun h q=>by
  obtain⟨va,e1,h⟩:=jm h
  refine gw e e1 ?_
  obtain⟨a,e0,h⟩:=jm h
  obtain⟨⟨d,f⟩,e2,h⟩:=jm h
  obtain⟨u,e3,h⟩:=jm h
  exact⟨a,d,f,u,s9 e0,e2,e3,dY _ h q⟩
 | .sub e i=>fun h q=>by
  obtain⟨va,e1,h⟩:=jm h
  obtain⟨vb,e2,h⟩:=cw.mp h
  obtain⟨u,e3,h⟩:=cw.mp h
  exact gw e e1 (gw i e2 (oX e3 (dY _ h q)))
 | .bin op a b=>fun h q=>by
  obtain⟨va,e1,h⟩:=jm h
  obtain⟨vb,e2,h⟩:=cw.mp h
  obtain⟨u,e3,h⟩:=cw.mp h
  exact gw a e1 (gw b e2 (oZ e3 (dY _ h q)))
 | .none=>fun h q=>nO h
 | .str ..=>fun h q=>nO h
 | .neg ..=>fun h q=>nO h
 | .tup ..=>fun h q=>nO h
 | .bf ..=>fun h q=>nO h
 | .lst ..=>fun h q=>nO h
 | .dct0=>fun h q=>nO h
 | .call ..=>fun h q=>nO h
 | .meth ..=>fun h q=>nO h
 | .dgetOf ..=>fun h q=>nO h
 | .shasOf ..=>fun h q=>nO h
 | .bm ..=>fun h q=>nO h
 | .callv ..=>fun h q=>nO h
 | .slc ..=>fun h q=>nO h
 | .rev ..=>fun h q=>nO h
 | .comp ..=>fun h q=>nO h
 | .newM ..=>fun h q=>nO h
 | .newMatch ..=>fun h q=>nO h
 | .dead=>fun h q=>nO h
end
variable {K:Fl→Fr→St→Prop} {ss:jt}
theorem eG {x:Nat} {e:Ex} (v:V) (h:evV σ ρ e=some v) (k:fy C ss (upd ρ x v) σ K):fy C (.cons (.assign [.var x] e) ss) ρ σ K:=gw e h k
theorem F6 {x:Nat} {es:Exs} (vs:List V) (h:cN σ ρ es=some vs) (l:vs.length≤aq) (k:∀ c,σ.L c=none→fy C ss (upd ρ x (.lst c)) (σ.fg c vs) K):fy C (.cons (.assign [.var x] (.lst es)) ss) ρ σ K :=
 rf (Q:=fun vs σ=>vs.length≤aq∧∀ c,σ.L c=none→fy C ss (upd ρ x (.lst c)) (σ.fg c vs) K) es h ⟨l,k⟩
theorem AZ {c:Ex} {t e:jt} (b:Bool) (h:evT σ ρ c=some b) (k:if b then fy C t ρ σ (fun fl ρ σ=>match fl with | .next=>fy C ss ρ σ K | fl=>K fl ρ σ) else fy C e ρ σ (fun fl ρ σ=>match fl with | .next=>fy C ss ρ σ K | fl=>K fl ρ σ)):fy C (.cons (.cond c t e) ss) ρ σ K:=tf c h k
theorem F7 {x:Nat} {e:Ex} {a:Addr} {xs:List V} (v:V) (hx:ρ x=some (.lst a)) (ha:σ.L a=some xs) (h:evV σ ρ e=some v) (l:xs.length<aq) (k:fy C ss ρ (σ.fg a (xs++[v])) K):fy C (.cons (.expr (.bm .append (.loc x) (.cons e .nil))) ss) ρ σ K:=by
 refine⟨_,hx,(show(σ.L a).isSome=true by rw [ha];rfl),?_⟩
 rw [uo]
 refine gw e h ?_
 exact⟨xs,ha,l,rfl,k⟩
theorem JP {e:Ex} (v:V) (h:evV σ ρ e=some v) (k:K (.ret v) ρ σ):fy C (.cons (.ret e) ss) ρ σ K:=gw (Q:=fun v σ=>K (.ret v) ρ σ) e h k
theorem yk (k:K .next ρ σ):fy C .nil ρ σ K:=k
theorem nK (k:fy C ss ρ σ K):fy C (.cons .pass ss) ρ σ K:=k
end
end MP
end
section
namespace MP
namespace SM
open PySem
noncomputable abbrev T3:=Nat × Nat × Nat
noncomputable abbrev T4:=Nat × Nat × Nat × Nat
section
variable {σ:St} {ρ:Fr} {a b c e:Ex} {m n k l:Nat}
variable {C:Cal} {K:Fl→Fr→St→Prop} {ss:jt}
end
section
variable {as bs:List Key} {F:Nat→Nat→Nat→Nat→T3→Prop} {q:List T4} {r:T4} {mb:List T3} {p:Prop} [Decidable p]
variable {na nb alo ahi blo bhi i j k:Nat}
end
section
variable {σ σ':St} {ql ml:Addr} {q:List T4} {mb:List T3}
end
end SM
end MP
end
section
namespace MP
namespace SM
open PySem
section
variable {C:Cal} {σ:St} {ρ:Fr} {K:Fl→Fr→St→Prop} {ss:jt} {x d:Addr} {f:Nat→Option V} {i a b:Nat} {e:Ex}
theorem nM (v:V) (h:evV σ ρ e=some v) (hx:ρ i=some (.obj x)) (hI:σ.I x=some (d,f)) (k:fy C ss ρ (σ.ju x d (upd f a v)) K):fy C (.cons (.assign [.attr (.loc i) a] e) ss) ρ σ K :=
 gw e h ⟨.obj x,hx,x,d,f,rfl,hI,k⟩
theorem u9 (v:V) (h:evV (σ.ju x d f) ρ e=some v) (hx:ρ i=some (.obj x)) (k:fy C ss ρ (σ.ju x d (upd f a v)) K):fy C (.cons (.assign [.attr (.loc i) a] e) ss) ρ (σ.ju x d f) K :=
 nM v h hx oa (by rw [eQ];exact k)
theorem DS (v:V) (h:evV σ ρ e=some v) (hx:ρ i=some (.obj x)) (hI:σ.I x=some (d,f)) (k:fy C ss ρ (σ.ju x d (upd (upd f a v) b v)) K):fy C (.cons (.assign [.attr (.loc i) a,.attr (.loc i) b] e) ss) ρ σ K :=
 gw e h ⟨.obj x,hx,x,d,f,rfl,hI,.obj x,hx,x,d,_,rfl,oa,by rw [eQ];exact k⟩
theorem jT (v:V) (h:evV (σ.ju x d f) ρ e=some v) (hx:ρ i=some (.obj x)) (k:fy C ss ρ (σ.ju x d (upd (upd f a v) b v)) K):fy C (.cons (.assign [.attr (.loc i) a,.attr (.loc i) b] e) ss) ρ (σ.ju x d f) K :=
 DS v h hx oa (by rw [eQ];exact k)
theorem nL {es:Exs} {m:Nat} (vs:List V) (hx:ρ i=some (.obj x)) (hI:(σ.I x).isSome=true) (h:cN σ ρ es=some vs) (k:C m (.obj x::vs) σ fun v σ=>v=.none∧fy C ss ρ σ K):fy C (.cons (.expr (.meth (.loc i) m es)) ss) ρ σ K :=
 ⟨.obj x,hx,x,rfl,hI,rf (Q:=fun vs σ=>C m (.obj x::vs) σ fun v σ=>v=.none∧fy C ss ρ σ K) es h k⟩
end
theorem y6 {P:Nat→Option Fn} (hP:P 2=some fn2) {n:Nat} {x d la:Addr} {f:Nat→Option V} {σ:St} {Q:V→St→Prop} (hI:σ.I x=some (d,f)) (hf:f 1=some .none) (h:Q .none (σ.ju x d (upd (upd (upd f 1 (.lst la)) 4 .none) 5 .none))):gy P (n+1) 2 [.obj x,.lst la] σ Q :=
 ⟨fn2,hP,ay 2,ay 2,nK (AZ false (by
   show((σ.I x).bind fun p=>p.2 1).bind _=_
   rw [hI];show(f 1).bind _=_;rw [hf];rfl) (fA (yk (nM (.lst la) rfl rfl hI (jT .none rfl rfl (yk h))))))⟩
theorem y4 {P:Nat→Option Fn} (hP:P 1=some fn1) {n:Nat} {x:Addr} {va vb:V} {σ:St} {Q:V→St→Prop} (hI:(σ.I x).isSome=true) (h:gy P n 2 [.obj x,va] σ fun v σ=>v=.none∧(σ.I x).isSome=true∧gy P n 3 [.obj x,vb] σ fun v σ=>v=.none∧Q .none σ):gy P (n+1) 1 [.obj x,va,vb] σ Q :=
 ⟨fn1,hP,ay 3,ay 3,nK (nL [va] rfl hI rfl (Eq.mp (bu (gy P n 2 [.obj x,va] σ) (funext fun v=>funext fun σ'=>propext ⟨fun q=>⟨q.1,nL [vb] rfl q.2.1 rfl q.2.2⟩,fun q=>⟨q.1,by
  obtain⟨_,_,e,y,e',h1,_,e2,h2⟩:=q
  cases e;cases e';cases e2
  exact⟨h1,h2⟩⟩⟩)) h))⟩
theorem y5 {P:Nat→Option Fn} (hP:P 3=some fn3) {n:Nat} {x d lb:Addr} {f:Nat→Option V} {σ:St} {Q:V→St→Prop} (hI:σ.I x=some (d,f)) (hf:f 2=some .none)
  (h:gy P n 4 [.obj x] (σ.ju x d (upd (upd (upd (upd f 2 (.lst lb)) 4 .none) 5 .none) 6 .none)) fun v σ=>v=.none∧Q .none σ):gy P (n+1) 3 [.obj x,.lst lb] σ Q :=
 ⟨fn3,hP,ay 2,ay 2,nK (AZ false (by
   show((σ.I x).bind fun p=>p.2 2).bind _=_
   rw [hI];show(f 2).bind _=_;rw [hf];rfl) (fA (yk (nM (.lst lb) rfl rfl hI (jT .none rfl rfl (u9 .none rfl rfl (nL [] rfl (by rw [oa];rfl) rfl h)))))))⟩
end SM
end MP
end
section
namespace MP
open PySem
structure Ext (σ σ':St):Prop where
 L:∀ a xs,σ.L a=some xs→σ'.L a=some xs
 D:∀ a es,σ.D a=some es→σ'.D a=some es
 S:∀ a es,σ.S a=some es→σ'.S a=some es
 I:∀ a es,σ.I a=some es→σ'.I a=some es
theorem Ext.refl (σ:St):Ext σ σ:=⟨fun _ _ e=>e,fun _ _ e=>e,fun _ _ e=>e,fun _ _ e=>e⟩
theorem Ext.trans {σ σ₁ σ₂:St} (h:Ext σ σ₁) (h':Ext σ₁ σ₂):Ext σ σ₂:=⟨fun _ _ e=>h'.L _ _ (h.L _ _ e),fun _ _ e=>h'.D _ _ (h.D _ _ e),fun _ _ e=>h'.S _ _ (h.S _ _ e),fun _ _ e=>h'.I _ _ (h.I _ _ e)⟩
theorem Kp.ext {σ σ':St} (h:Kp σ σ'):Ext σ σ':=⟨h.L,h.D,fun _ _ e=>by rw [h.S];exact e,fun _ _ e=>by rw [h.I];exact e⟩
theorem Ext.noL {σ σ₁:St} (h:Ext σ σ₁) {c:Addr} (hc:σ₁.L c=none):σ.L c=none:=by
 cases q:σ.L c with
 | none=>rfl
 | some xs=>rw [h.L _ _ q] at hc;cases hc
theorem wW {α:Type} {f g:Nat→Option α} (h:∀ a x,f a=some x→g a=some x) {c:Nat} {x:α} (hc:f c=none):∀ a y,f a=some y→upd g c x a=some y:=fun a y e=>by
 have:a≠c:=fun q=>by rw [q,hc] at e;cases e
 rw [dq this];exact h a y e
theorem Ext.fg {σ σ₁:St} (h:Ext σ σ₁) {c:Addr} {xs:List V} (hc:σ.L c=none):Ext σ (σ₁.fg c xs):=⟨wW h.L hc,h.D,h.S,h.I⟩
namespace SM
end SM
end MP
end
section
namespace MP
open PySem SM
noncomputable def Gv (C:Cal) (ρ:Fr) (σb:St) (e:Ex) (xs:List V):Prop:=∀ (σ:St) (Q:V→St→Prop),Ext σb σ→(∀ c σ',Ext σ σ'→σ'.L c=some xs→Q (.lst c) σ')→wpE C e ρ σ Q
noncomputable def Fv (C:Cal) (ρ:Fr) (σb:St) (e:Ex) (xs:List V):Prop:=∀ (σ:St) (Q:V→St→Prop),Ext σb σ→(∀ c σ',Ext σ σ'→σ.L c=none→σ'.L c=some xs→Q (.lst c) σ')→wpE C e ρ σ Q
section
variable {C:Cal} {ρ:Fr} {σb:St} {e f:Ex} {xs ys:List V}
theorem Gv.loc {x:Nat} {l:Addr} (hx:ρ x=some (.lst l)) (hl:σb.L l=some xs):Gv C ρ σb (.loc x) xs:=fun σ Q E k=>⟨_,hx,k l σ (Ext.refl σ) (E.L _ _ hl)⟩
theorem w7 {α:Type} {us:List α} {G:St→Prop} {T:V→Fr→List V→St→(Fr→List V→St→Prop)→Prop} {K:Fr→List V→St→Prop} (f:α→V) (g:α→List V) (hg:∀ v∈us,(g v).length≤1) (Inv:Fr→Prop) {σ:St} (hG:G σ)
  (hT:∀ v∈us,∀ ρ acc K',Inv ρ→acc.length<us.length→(∀ ρ',Inv ρ'→K' ρ' (acc++g v) σ)→T (f v) ρ acc σ K') {ρ:Fr} (hi:Inv ρ) (hK:∀ ρ,K ρ (us.flatMap g) σ):gQ (us.map f) G T ρ [] σ K:=by
 have go:∀ (ws vs:List α) (ρ:Fr) (acc:List V),vs++ws=us→acc=vs.flatMap g→acc.length≤vs.length→Inv ρ→gQ (ws.map f) G T ρ acc σ K:=by
  intro ws
  induction ws with
  | nil =>
   intro vs ρ acc e ha _ _
   rw [fc] at e
   subst e;subst ha
   exact⟨hG,hK ρ⟩
  | cons w ws ih =>
   intro vs ρ acc e ha hl hi
   have hw:w∈us:=by rw [← e];exact jh _ (.head _)
   have hn:us.length=vs.length+(ws.length+1):=by rw [← e,bz,gz]
   have:=hg w hw
   refine⟨hG,hT w hw ρ acc _ hi (by exact ee .C .c .G (.e .B (.a .C .V)) hl hn) fun ρ' hi'=>ih (vs++[w]) ρ' _ (by rw [List.append_assoc];exact e) (by rw [ha,List.flatMap_append,List.flatMap_cons,List.flatMap_nil,fc]) (by rw [bz,bz,ue];(exact gr (.k .P .Q) .b .G (.k .B .U) hl this)) hi'⟩
 exact go us [] ρ [] rfl rfl (ay _) hi
noncomputable def Gives (C:Cal) (σ:St) (ρ:Fr) (cs:Exs) (el:Ex) (r:List V):Prop:=∃ ok:Bool,(∀ Q:Bool→St→Prop,Q ok σ→vm C cs ρ σ Q)∧if ok then ∃ w,evV σ ρ el=some w∧r=[w] else r=[]
theorem Gives.test {σ:St} {c el:Ex} {r:List V} {b:Bool} (hc:evT σ ρ c=some b) (h:if b then ∃ w,evV σ ρ el=some w∧r=[w] else r=[]):Gives C σ ρ (.cons c .nil) el r:=⟨b,fun Q q=>tf c hc (by cases b with
 | true=>exact gO q
 | false=>exact fA q),h⟩
theorem Fv.comp {α:Type} {us:List α} {fv:List (Nat × Nat)} {t:Tg} {cs:Exs} {el:Ex} {u:α→V} (g:α→List V) (Inv:Fr→Prop) (hsrc:Gv C ρ σb e (us.map u)) (hi:Inv (yg fv ρ)) (hlen:us.length≤aq)
  (hb:∀ σ,Ext σb σ→∀ v∈us,∀ ρ',Inv ρ'→∀ K:Fr→Prop,(∀ ρ'',Inv ρ''→Gives C σ ρ'' cs el (g v)→K ρ'')→lq t (u v) σ ρ' K):Fv C ρ σb (.comp fv (.seq e) t cs (.elt el)) (us.flatMap g):=fun σ Q E k=>by
 rw [wV,wO]
 refine hsrc σ _ E fun a σ1 E1 ha=>⟨_,ha,?_⟩
 have hg:∀ v∈us,(g v).length≤1:=fun v hv=>by
  have:=hb σ1 (E.trans E1) v hv _ hi (fun _=>(g v).length≤1) fun ρ'' _ G=>by
   obtain⟨ok,_,h⟩:=G
   cases ok with
   | true=>obtain⟨w,_,e⟩:=h;rw [e];exact ay _
   | false=>rw [show g v=[] from h];exact cf _
  cases t with
  | var x=>exact this
  | tup ys=>obtain⟨_,_,_,this⟩:=this;exact this
 refine w7 u g hg Inv ha (fun v hv ρ' acc K' hi' hacc hK=>?_) hi fun ρ' c hc=>k c _ (E1.fg (E1.noL hc)) (E1.noL hc) (bg _ _ _)
 refine hb σ1 (E.trans E1) v hv ρ' hi' _ fun ρ'' hi'' G=>?_
 obtain⟨ok,h1,h2⟩:=G
 refine h1 _ ?_
 cases ok with
 | true =>
  obtain⟨w,hw,e⟩:=h2
  refine gO (gw el hw ⟨by exact gr .C .b .M .U hlen hacc,?_⟩)
  rw [← e]
  exact hK _ hi''
 | false =>
  refine fA ?_
  have:=hK _ hi''
  rw [show g v=[] from h2,fc] at this
  exact this
end
theorem cQ (n:Nat):dh n 0=0:=by unfold dh fb;rw [aw (by exact zu (.ig .O .O) .i)];exact Nat.min_zero n
theorem zi {n i:Nat} (h:i≤n):dh n (i:Int)=i:=by unfold dh fb;rw [aw (by exact ic (.ig .L .O) .i),fk];exact Nat.min_eq_right h
end MP
end
section
set_option tactic.hygienic true
namespace MP
noncomputable def Alike (as bs:List Key) (ok:Key→Bool) (i j:Nat):Prop:=∃ c,as[i]?=some c∧bs[j]?=some c∧ok c=true
theorem ux {as bs:List Key} {ok:Key→Bool} {i j:Nat}:hit as bs (fun c=>!ok c) i j=true↔Alike as bs ok i j:=by
 rw [uc]
 refine⟨fun h=>?_,fun h=>?_⟩
 ·obtain⟨c,h1,h2,h3⟩:=h
  exact⟨c,h1,h2,(Bool.not_eq_false' _).mp h3⟩
 ·obtain⟨c,h1,h2,h3⟩:=h
  exact⟨c,h1,h2,by rw [h3];rfl⟩
structure sh (P:Nat→Prop) (l1 l2 p:Nat):Prop where
 le1:p≤l1
 le2:p≤l2
 all:∀ t,t<p→P t
 stop:p<l1→p<l2→¬ P p
theorem n6 {as bs:List Key} {ok:Key→Bool} {alo blo:Nat}:∀ {i j k:Nat},alo≤i→blo≤j→∃ p,wi as bs ok alo blo i j k=(i-p,j-p,k+p)∧sh (fun t=>Alike as bs ok (i-1-t) (j-1-t)) (i-alo) (j-blo) p
 | 0,j,k,h1,h2=>⟨0,by unfold wi;rfl,cf _,cf _,fun t h=>absurd h (fu _),fun h h'=>by exact fun q1=>(gn .ff .e .N (.e .P .O) h (aa (gv (.k .A .O) .a (.k .A .O) h1)))⟩
 | i+1,0,k,h1,h2=>⟨0,by unfold wi;rfl,cf _,cf _,fun t h=>absurd h (fu _),fun h h'=>by exact fun q1=>(gn .ff .e .N (.e .P .O) h' (aa (gv (.k .A .O) .a (.k .A .O) h2)))⟩
 | i+1,j+1,k,h1,h2=>by
  rw [cL]
  by_cases c:alo<i+1∧blo<j+1∧hit as bs (fun c=>!ok c) i j=true
  ·rw [bx c]
   obtain⟨c1,c2,c3⟩:=c
   obtain⟨p,e,P⟩:=n6 (as:=as) (bs:=bs) (ok:=ok) (alo:=alo) (blo:=blo) (i:=i) (j:=j) (k:=k+1) (by exact bh .A .a .I c1) (by exact bh .A .a .I c2)
   have hp:=P.le1
   have hp':=P.le2
   refine⟨p+1,?_,?_,?_,fun t ht=>?_,fun h h'=>?_⟩
   ·rw [e]
    have e1:i+1-(p+1)=i-p:=by(exact ee .B .n (.e .a3 .V) .b1 (aa (ee .aD .b .G (.e .T .B) hp (aa (bh .A .a .I c1)))) (aa (dw .A .a (.e (.a .C .M) .L) (aa (ee .aD .b .G (.e .T .B) hp (aa (bh .A .a .I c1)))))))
    have e2:j+1-(p+1)=j-p:=by(exact ee .B .n (.e .a3 .V) .b1 (aa (ee .aD .b .G (.e .T .B) hp' (aa (bh .A .a .I c2)))) (aa (dw .A .a (.e (.a .C .M) .L) (aa (ee .aD .b .G (.e .T .B) hp' (aa (bh .A .a .I c2)))))))
    have e3:k+(p+1)=k+1+p:=by(exact xi (.e .Z .a2) .j)
    rw [e1,e2,e3]
   ·(exact ky .H .k .G .bQ (.e .a6 .X) hp (aa (bh .A .a .I c1)) (aa (dw .O .a .V (aa (bh .A .a .I c1)))))
   ·(exact ky .H .k .G .bQ (.e .a6 .X) hp' (aa (bh .A .a .I c2)) (aa (dw .O .a .V (aa (bh .A .a .I c2)))))
   ·cases t with
    | zero=>exact ux.mp c3
    | succ t =>
     have e1:i+1-1-(t+1)=i-1-t:=by(exact Ar.sub _ _ (fun q1 p1=>(Ar.sub _ _ (fun q2 p2=>(Ar.sub _ _ (fun q3 p3=>(Ar.sub _ _ (fun q4 p4=>(jO .B [[1,-1,-1,1,1],[1,1,1,-1,-1]] .b2 .c1 .a6 (.e .a4 .D) p1 p2 p3 p4)) fun q4 p4=>(jN .B [[1,0,0,1,0,1],[1,1,1,0,1,0]] .b2 .c1 .a6 (.k .D .U) .bH p1 p2 p3 q4 p4))) fun q3 p3=>(Ar.sub _ _ (fun q4 p4=>(jN .B [[1,0,0,0,1,0],[1,1,1,1,0,-1]] .b2 .c1 (.k .G .F) .a5 (.e .a4 .D) p1 p2 q3 p3 p4)) fun q4 p4=>(DN .B [[1,0,0,1,0],[1,1,1,0,1]] .b2 .c1 .a5 (.k .D .U) p1 p2 p3 q4)))) fun q2 p2=>(Ar.sub _ _ (fun q3 p3=>(Ar.sub _ _ (fun q4 p4=>(jN .B [[1,-1,1,0,1,1],[1,0,0,1,0,0]] .b2 (.k .C .X) .L .a6 (.e .a4 .D) p1 q2 p2 p3 p4)) fun q4 p4=>(rz .B [[1,0,1,1],[1,1,0,0]] .L .b1 .aB p2 p3 p4))) fun q3 p3=>(gn .B .l .L .a5 p2 p3)))) fun q1 p1=>(AP .B [[0,1,1,1,1],[0,1,1,1,1]] .aW (.l .X .Q) (.e (.a .D .G) .H) (.k (.a .H .U) .U) hp ht (aa (bh .A .a .I c1)) q1))
     have e2:j+1-1-(t+1)=j-1-t:=by(exact jO .B .z .b2 (.e .X .D) (.e (.a .A .a4) .C) .c2 (aa (ic .aX .i)) (aa (ky .R .d .aP (.l .V .L) (.e (.a .C .F) .A) hp' ht (aa (bh .A .a .I c2)))) (aa (jO .H [[1,1,1,1,-1]] .aW (.l .M .Q) (.e .a0 .G) (.e .L .a4) hp' ht (aa (bh .A .a .I c2)) (aa (ic .aX .i)))) (aa (ky .A .q .b2 (.e .L .D) (.e (.a .F .M) .C) (aa (ic .aX .i)) (aa (ky .R .d .aP (.l .V .L) (.e (.a .C .F) .A) hp' ht (aa (bh .A .a .I c2)))) (aa (jO .H [[1,1,1,1,-1]] .aW (.l .M .Q) (.e .a0 .G) (.e .L .a4) hp' ht (aa (bh .A .a .I c2)) (aa (ic .aX .i)))))))
     show Alike as bs ok (i+1-1-(t+1)) (j+1-1-(t+1))
     rw [e1,e2]
     exact P.all t (by exact bh .C .a (.l .M .L) ht)
   ·have e1:i+1-1-(p+1)=i-1-p:=by(exact jO .B .z .b2 (.e .X .D) (.e (.a .A .a4) .C) .c2 (aa (ic .aX .i)) (aa (ee .R .b (.l .L .C) (.e .T .M) h (aa (dw .O .a .V (aa (bh .A .a .I c1)))))) (aa (ky .H .k .bR (.e .T .X) (.e .L .X) h (aa (dw .O .a .V (aa (bh .A .a .I c1)))) (aa (ic .aX .i)))) (aa (ky .A .q .b2 (.e .L .D) (.e (.a .F .M) .C) (aa (ic .aX .i)) (aa (ee .R .b (.l .L .C) (.e .T .M) h (aa (dw .O .a .V (aa (bh .A .a .I c1)))))) (aa (ky .H .k .bR (.e .T .X) (.e .L .X) h (aa (dw .O .a .V (aa (bh .A .a .I c1)))) (aa (ic .aX .i)))))))
    have e2:j+1-1-(p+1)=j-1-p:=by(exact jO .B .z .b2 (.e .X .D) (.e (.a .A .a4) .C) .c2 (aa (ic .aX .i)) (aa (ee .R .b (.l .L .C) (.e .T .M) h' (aa (dw .O .a .V (aa (bh .A .a .I c2)))))) (aa (ky .H .k .bR (.e .T .X) (.e .L .X) h' (aa (dw .O .a .V (aa (bh .A .a .I c2)))) (aa (ic .aX .i)))) (aa (ky .A .q .b2 (.e .L .D) (.e (.a .F .M) .C) (aa (ic .aX .i)) (aa (ee .R .b (.l .L .C) (.e .T .M) h' (aa (dw .O .a .V (aa (bh .A .a .I c2)))))) (aa (ky .H .k .bR (.e .T .X) (.e .L .X) h' (aa (dw .O .a .V (aa (bh .A .a .I c2)))) (aa (ic .aX .i)))))))
    show ¬ Alike as bs ok (i+1-1-(p+1)) (j+1-1-(p+1))
    rw [e1,e2]
    exact P.stop (by exact ky .C .q .bR (.e .a6 .F) (.e .T .X) h (aa (bh .A .a .I c1)) (aa (dw .O .a .V (aa (bh .A .a .I c1))))) (by exact ky .C .q .bR (.e .a6 .F) (.e .T .X) h' (aa (bh .A .a .I c2)) (aa (dw .O .a .V (aa (bh .A .a .I c2)))))
  ·rw [aw c]
   exact⟨0,rfl,cf _,cf _,fun t h=>absurd h (fu _),fun h h' q=>c ⟨by(first | exact gr .I .b .aT (.e .a8 .L) h (aa (bh .O .a .O h1)) Ar.y | omega),by(first | exact gr .I .b .aT (.e .a8 .L) h' (aa (bh .O .a .O h2)) Ar.y | omega),ux.mpr q⟩⟩
theorem gW {as bs:List Key} {ok:Key→Bool} {ahi bhi:Nat}:∀ {n i j k:Nat},ahi≤i+k+n→∃ p,dW as bs ok ahi bhi n i j k=k+p∧sh (fun t=>Alike as bs ok (i+k+t) (j+k+t)) (ahi-(i+k)) (bhi-(j+k)) p
 | 0,i,j,k,h=>⟨0,by unfold dW;rfl,cf _,cf _,fun t h=>absurd h (fu _),fun h h'=>by(rename_i z1;exact fun q1=>(JI .ff .e .N .L h (gT (dw (.k .A .R) .a (.k .A (.a .R .O)) z1))))⟩
 | n+1,i,j,k,h=>by
  rw [wh]
  by_cases c:i+k<ahi∧j+k<bhi∧hit as bs (fun c=>!ok c) (i+k) (j+k)=true
  ·rw [bx c]
   obtain⟨c1,c2,c3⟩:=c
   obtain⟨p,e,P⟩:=gW (as:=as) (bs:=bs) (ok:=ok) (ahi:=ahi) (bhi:=bhi) (n:=n) (i:=i) (j:=j) (k:=k+1) (by exact H6 (.k .A (.a (.a .B .Q) .D)) .a (.k .A (.a .R .V)) h)
   have hp:=P.le1
   have hp':=P.le2
   refine⟨p+1,by rw [e];(first | exact xi (.e .a2 .Z) .j Ar.y | omega),by(first | exact eF .H .k .G (.e (.a .C (.a .D .X)) .G) (.e (.a .B .a0) .G) hp (aa (dw .aS .a .F c1)) (aa (dw .Q .a .F c1)) Ar.y | omega),by(first | exact eF .H .k .G (.e (.a .C (.a .D .X)) .G) (.e (.a .B .a0) .G) hp' (aa (dw .aS .a .F c2)) (aa (dw .Q .a .F c2)) Ar.y | omega),fun t ht=>?_,fun h h'=>?_⟩
   ·cases t with
    | zero=>exact ux.mp c3
    | succ t =>
     have e1:i+k+(t+1)=i+(k+1)+t:=by(exact DO .b4 .j)
     have e2:j+k+(t+1)=j+(k+1)+t:=by(exact DO .b4 .j)
     show Alike as bs ok (i+k+(t+1)) (j+k+(t+1))
     rw [e1,e2]
     exact P.all t (by exact bh .C .a (.l .M .L) ht)
   ·have e1:i+k+(p+1)=i+(k+1)+p:=by(exact DO .b4 .j)
    have e2:j+k+(p+1)=j+(k+1)+p:=by(exact DO .b4 .j)
    show ¬ Alike as bs ok (i+k+(p+1)) (j+k+(p+1))
    rw [e1,e2]
    exact P.stop (by exact eF .C .q .bR (.e (.a .B (.a .D .X)) .G) (.e (.a .C .a0) .G) h (aa (dw .aS .a .F c1)) (aa (dw .Q .a .F c1))) (by exact eF .C .q .bR (.e (.a .B (.a .D .X)) .G) (.e (.a .C .a0) .G) h' (aa (dw .aS .a .F c2)) (aa (dw .Q .a .F c2)))
  ·rw [aw c]
   exact⟨0,rfl,cf _,cf _,fun t h=>absurd h (fu _),fun h h' q=>c ⟨by(first | exact Ar.sub _ _ (fun q1 p1=>(ee .F .b .bI (.e (.a .D .P) .C) h p1)) fun q1 p1=>(ee .F .e .bI .aB h p1) | omega),by(first | exact Ar.sub _ _ (fun q1 p1=>(Ar.sub _ _ (fun q2 p2=>(ee .F .b .bI (.e (.a .D .P) .C) h' p2)) fun q2 p2=>(ee .F .e .bI .aB h' p2))) fun q1 p1=>(ee .F .e .bI .aB h p1) | omega),ux.mpr q⟩⟩
structure Pfx (U W:List Int) (J:Int→Int) (s:Nat):Prop where
 u:s≤U.length
 w:s≤W.length
 eq:U.take s=W.take s
 up:((U.take s).map J).Pairwise (·≤·)
theorem sZ {U W:List Int} {J:Int→Int} {p q:Nat} (hJ:∀ y,J y=0∨J y=1) (P1:sh (fun t=>∃ y,U[t]?=some y∧W[t]?=some y∧J y=0) U.length W.length p) (P2:sh (fun t=>∃ y,U[p+t]?=some y∧W[p+t]?=some y∧J y=1) (U.length-p) (W.length-p) q) :
  Pfx U W J (p+q)∧∀ s,Pfx U W J s→s≤p+q:=by
 have h1:=P1.le1
 have h2:=P2.le1
 have h1':=P1.le2
 have h2':=P2.le2
 have same:∀ t,t<p+q→∃ y,U[t]?=some y∧W[t]?=some y∧J y=if t<p then 0 else 1:=fun t ht=>by
  by_cases c:t<p
  ·obtain⟨y,a,b,d⟩:=P1.all t c
   exact⟨y,a,b,by rw [bx c];exact d⟩
  ·obtain⟨y,a,b,d⟩:=P2.all (t-p) (by exact ee .C .b (.l .C (.a .D .B)) (.e .a1 .C) ht (aa (bh .A .a (.g .B .A) c)))
   rw [show p+(t-p)=t by(exact dw .a3 .h (.e (.a .B .A) .C) (aa (bh .A .a (.g .B .A) c)))] at a b
   exact⟨y,a,b,by rw [aw c];exact d⟩
 refine⟨⟨by exact ee .Q .b .bP .X h2 (aa (bh .A .a .A h1)),by exact ee .Q .b .bP .X h2' (aa (bh .A .a .A h1')),List.ext_getElem? fun t=>?_,?_⟩,fun s S=>?_⟩
 ·rw [yt,yt]
  split
  ·rename_i c
   obtain⟨y,a,b,_⟩:=same t c
   rw [a,b]
  ·rfl
 ·refine qq.mpr fun i j hi hj hij=>?_
  simp only [au,dt] at hi hj
  simp only [List.getElem_map,pn]
  obtain⟨y,a,_,d⟩:=same i (by exact ky (.l .A .R) .d .bM (.l .D .F) (.k .F .R) hij hj (Ar.iw _ _).1)
  obtain⟨y',a',_,d'⟩:=same j (by exact ee (.l .A .R) .b .bM (.k .D .R) hj (Ar.iw _ _).1)
  rw [bc (by(first | exact rz .C .d .U .aC .aH hij hj (Ar.iw _ _).2.1 Ar.y | exact gr .C .b .U .M hj (Ar.iw _ _).2.1 Ar.y | omega))] at a a'
  rw [ae a,ae a',d,d']
  split<;>split<;>(first | exact zu (.ik .O .O) .i Ar.y | exact zu (.ik .O .U) .i Ar.y | (rename_i z2 z1;exact qc (.ik .U .O) .y .C (.g .A .C) (.l .B .C) hij z2 z1) | exact zu (.ik .U .U) .i Ar.y | omega)
 ·refine kj fun c=>?_
  have hu:=S.u
  have hw:=S.w
  have eU:U[p+q]?=some U[p+q]:=bc (by exact ee .F .b (.l .P .D) .bS c hu)
  have eW:W[p+q]?=some U[p+q]:=by
   have h:=bu (fun l=>l[p+q]?) S.eq
   simp only [yt,c,rp] at h
   rw [← h];exact eU
  rcases hJ U[p+q] with z | z
  ·rcases Nat.eq_zero_or_pos q with rfl | hq
   ·exact P1.stop (by exact gr .C .b .M (.l (.a .A .O) .C) hu c) (by exact gr .C .b .M (.l (.a .A .O) .C) hw c) ⟨_,eU,eW,z⟩
   ·obtain⟨y,a,_,d⟩:=same p (by exact bh (.l .A .P) .a .a4 hq)
    rw [aw (jc p)] at d
    have:=qq.mp S.up p (p+q) (by simp;(exact(Ar.iw _ _).2.2.elim (fun q1=>(ee .C .b (.l .Y .D) .aH c q1)) fun q1=>(ky .C .d (.l .Y .D) .aU (.k .F .B) c hu q1))) (by simp;(exact(Ar.iw _ _).2.2.elim (fun q1=>(ee .F .b (.l .P .D) .bS c q1)) fun q1=>(ky .F .d (.l .P .D) .aU (.k .F .C) c hu q1))) (by exact bh (.l .A .P) .a .a4 hq)
    simp only [List.getElem_map,pn] at this
    rw [bc (by exact ee .C .b (.l .Y .D) .aH c hu)] at a
    rw [ae a,d,z] at this
    (exact KZ .ff [[0,1]] (.ik .U .O) this)
  ·exact P2.stop (by exact ky .C .k (.l .a8 .D) .aU (.e .R .F) c hu (aa (ee .A .b (.l .Y .D) .aH c hu))) (by exact ky .C .k (.l .a8 .D) .aU (.e .R .F) c hw (aa (bh .A .a .A h1'))) ⟨_,eU,eW,z⟩
end MP
end
section
set_option tactic.hygienic true
namespace MP
structure xg (U W:List Int) (J:Int→Int) (m:Nat):Prop where
 here:Pfx U W J m
 top:∀ s,Pfx U W J s→s≤m
theorem xg.uniq {U W:List Int} {J:Int→Int} {m m':Nat} (h:xg U W J m) (h':xg U W J m'):m=m':=Nat.le_antisymm (h'.top _ h.here) (h.top _ h'.here)
theorem sh.to {P P':Nat→Prop} {l1 l2 l1' l2' p:Nat} (h:sh P l1 l2 p) (e1:l1=l1') (e2:l2=l2') (hp:∀ t,t<l1→t<l2→(P t↔P' t)):sh P' l1' l2' p:=by
 subst e1 e2
 exact⟨h.le1,h.le2,fun t ht=>(hp t (cx ht h.le1) (cx ht h.le2)).mp (h.all t ht),fun q q' r=>h.stop q q' ((hp p q q').mpr r)⟩
noncomputable def kh (xs:List Int) (i j:Nat):List Int:=(xs.take j).drop i
theorem nj {xs:List Int} {i j:Nat} (h:j≤xs.length):(kh xs i j).length=j-i:=by
 unfold kh
 rw [gq,dt,Nat.min_eq_left h]
theorem eB {xs:List Int} {i j t:Nat} (h:i+t<j):(kh xs i j)[t]?=xs[i+t]?:=by
 unfold kh
 rw [List.getElem?_drop,yt,bx h]
theorem eA {xs:List Int} {i j t:Nat} (hj:j≤xs.length) (h:t<j-i):(kh xs i j).reverse[t]?=xs[j-1-t]?:=by
 have hl:=nj (i:=i) hj
 rw [List.getElem?_reverse (by exact gr .C .c .U (.e .B .C) h hl),hl,eB (by exact Ar.sub _ _ (fun q1 p1=>(Ar.sub _ _ (fun q2 p2=>(Ar.sub _ _ (fun q3 p3=>(eF .F .d .X .a6 (.e .a4 .D) p1 p2 p3)) fun q3 p3=>(jO .F .s (.l .D .F) .c4 (.e .a6 .G) .bH h p1 p2 p3))) fun q2 p2=>(ky .F .d (.l .D .F) .c4 .a5 h p1 p2))) fun q1 p1=>(jP .F .e (.l .D .F) .aY h p1))]
 congr 1;omega
theorem zj {xs ys:List Int} {ok:Key→Bool} {J:Int→Int} {b:Int} {i j:Nat} (hok:∀ y∈ys,ok (.int y)=true↔J y=b):Alike (xs.map Key.int) (ys.map Key.int) ok i j↔∃ y,xs[i]?=some y∧ys[j]?=some y∧J y=b:=by
 unfold Alike
 rw [az,az]
 refine⟨fun h=>?_,fun h=>?_⟩
 ·obtain⟨c,h1,h2,h3⟩:=h
  obtain⟨x,e1,rfl⟩:=eh.mp h1
  obtain⟨y,e2,e3⟩:=eh.mp h2
  obtain rfl:=Key.int.inj e3
  exact⟨_,e1,e2,(hok _ (cq e2)).mp h3⟩
 ·obtain⟨y,h1,h2,h3⟩:=h
  exact⟨.int y,by rw [h1];rfl,by rw [h2];rfl,(hok _ (cq h2)).mpr h3⟩
section
variable {xs ys:List Int} {js:Key→Bool} {J:Int→Int} {alo ahi blo bhi i j k:Nat}
theorem vP {no:Key→Bool} (hJ:∀ y,J y=0∨J y=1) (hjs:∀ y∈ys,js (.int y)=true↔J y=1) (hno:∀ y∈ys,no (.int y)=true↔J y=0) (h3:i≤xs.length) (h6:j≤ys.length) {p q:Nat}
  (P1:sh (fun t=>Alike (xs.map Key.int) (ys.map Key.int) no (i-1-t) (j-1-t)) (i-alo) (j-blo) p) (P3:sh (fun t=>Alike (xs.map Key.int) (ys.map Key.int) js (i-p-1-t) (j-p-1-t)) (i-p-alo) (j-p-blo) q):xg (kh xs alo i).reverse (kh ys blo j).reverse J (p+q):=by
 have lu:=nj (xs:=xs) (i:=alo) h3
 have lw:=nj (xs:=ys) (i:=blo) h6
 have d:∀ i p t:Nat,i-p-1-t=i-1-(p+t):=fun i p t=>by omega
 have e:∀ i a p t:Nat,t<i-p-a→p+t<i-a:=fun i a p t h=>by(exact Ar.sub _ _ (fun q1 p1=>(Ar.sub _ _ (fun q2 p2=>(Ar.sub _ _ (fun q3 p3=>(AP .F [[1,1,1,1,-1]] .aA (.e .a0 .G) (.e (.a .G .A) .H) (.e (.a .C .F) .H) h p1 p2 p3)) fun q3 p3=>(AP .F .s .aA (.e .a0 .G) (.e (.a .G .A) .H) (.k .H .F) h p1 p2 q3))) fun q2 p2=>(eF .F .y .aA (.e .a0 .G) .bH h p1 p2))) fun q1 p1=>(ee .F .e .aA .aB h p1))
 have r1:(kh xs alo i).reverse.length=i-alo:=by rw [ir,lu]
 have r2:(kh ys blo j).reverse.length=j-blo:=by rw [ir,lw]
 have Q1:sh (fun t=>∃ y,(kh xs alo i).reverse[t]?=some y∧(kh ys blo j).reverse[t]?=some y∧J y=0) (kh xs alo i).reverse.length (kh ys blo j).reverse.length p:=P1.to r1.symm r2.symm fun t ht ht'=>by
  rw [zj hno,eA h3 ht,eA h6 ht']
 have Q2:sh (fun t=>∃ y,(kh xs alo i).reverse[p+t]?=some y∧(kh ys blo j).reverse[p+t]?=some y∧J y=1) ((kh xs alo i).reverse.length-p) ((kh ys blo j).reverse.length-p) q:=P3.to (by rw [r1];exact Nat.sub_right_comm ..) (by rw [r2];exact Nat.sub_right_comm ..) fun t ht ht'=>by
  rw [zj hjs,eA h3 (e _ _ _ _ ht),eA h6 (e _ _ _ _ ht'),d,d]
 obtain⟨a,b⟩:=sZ hJ Q1 Q2
 exact⟨a,b⟩
theorem qG {no:Key→Bool} {a b c d:Nat} (hJ:∀ y,J y=0∨J y=1) (hjs:∀ y∈ys,js (.int y)=true↔J y=1) (hno:∀ y∈ys,no (.int y)=true↔J y=0) (h3:ahi≤xs.length) (h6:bhi≤ys.length) {p q:Nat} (ha:a=i) (hb:b=j) (hc:c=i+p) (hd:d=j+p)
  (P1:sh (fun t=>Alike (xs.map Key.int) (ys.map Key.int) no (a+t) (b+t)) (ahi-a) (bhi-b) p) (P3:sh (fun t=>Alike (xs.map Key.int) (ys.map Key.int) js (c+t) (d+t)) (ahi-c) (bhi-d) q):xg (kh xs i ahi) (kh ys j bhi) J (p+q):=by
 subst ha hb hc hd
 have lu:=nj (xs:=xs) (i:=a) h3
 have lw:=nj (xs:=ys) (i:=b) h6
 have e:∀ i h t:Nat,t<h-i→i+t<h:=fun i h t q=>by(exact Ar.sub _ _ (fun q1 p1=>(ee .F .b .aA .X q p1)) fun q1 p1=>(ee .F .e .aA .aB q p1))
 have e2:∀ i h p t:Nat,t<h-(i+p)→i+(p+t)<h:=fun i h p t q=>by(exact Ar.sub _ _ (fun q1 p1=>(jP (.l (.a .A .R) .D) .b (.l .C .F) (.e (.a .F .P) .D) q p1)) fun q1 p1=>(jP (.l (.a .A .R) .D) .e (.l .C .F) .aY q p1))
 have Q1:sh (fun t=>∃ y,(kh xs a ahi)[t]?=some y∧(kh ys b bhi)[t]?=some y∧J y=0) (kh xs a ahi).length (kh ys b bhi).length p:=P1.to lu.symm lw.symm fun t ht ht'=>by
  rw [zj hno,eB (e _ _ _ ht),eB (e _ _ _ ht')]
 have Q2:sh (fun t=>∃ y,(kh xs a ahi)[p+t]?=some y∧(kh ys b bhi)[p+t]?=some y∧J y=1) ((kh xs a ahi).length-p) ((kh ys b bhi).length-p) q:=P3.to (by rw [lu];exact Nat.sub_add_eq ..) (by rw [lw];exact Nat.sub_add_eq ..) fun t ht ht'=>by
  rw [zj hjs,eB (e2 _ _ _ _ ht),eB (e2 _ _ _ _ ht'),Nat.add_assoc,Nat.add_assoc]
 obtain⟨m,n⟩:=sZ hJ Q1 Q2
 exact⟨m,n⟩
theorem w4 (hJ:∀ y,J y=0∨J y=1) (hjs:∀ y∈ys,js (.int y)=true↔J y=1) (h1:alo≤i) (h2:i+k≤ahi) (h3:ahi≤xs.length) (h4:blo≤j) (h5:j+k≤bhi) (h6:bhi≤ys.length) :
  ∃ m m',grow (xs.map Key.int) (ys.map Key.int) js alo ahi blo bhi i j k=(i-m,j-m,m+k+m')∧m≤i∧m≤j∧xg (kh xs alo i).reverse (kh ys blo j).reverse J m∧xg (kh xs (i+k) ahi) (kh ys (j+k) bhi) J m':=by
 have hno:∀ y∈ys,(fun c=>!js c) (.int y)=true↔J y=0:=fun y hy=>by
  have a:=hjs y hy
  have b:=hJ y
  show(!js (.int y))=true↔_
  rw [dp]
  constructor
  ·intro q
   exact b.resolve_right fun h=>by rw [a.mpr h] at q;cases q
  ·intro h
   cases q:js (.int y) with
   | false=>rfl
   | true =>
    have:=a.mp q
    rw [h] at this;cases this
 obtain⟨p,e1,P1⟩:=n6 (as:=xs.map Key.int) (bs:=ys.map Key.int) (ok:=fun c=>!js c) (alo:=alo) (blo:=blo) (i:=i) (j:=j) (k:=k) h1 h4
 have l1:alo+p≤i:=by have:=P1.le1;(exact ee .Q .b .bP .X this (aa (bh .A .a .A h1)))
 have l1':blo+p≤j:=by have:=P1.le2;(exact ee .Q .b .bP .X this (aa (bh .A .a .A h4)))
 have hi:i-p+(k+p)=i+k:=by(exact H6 (.e (.a .A .R) (.a .D .B)) .h (.e .Y .D) (aa (dw .A .a (.k .a8 .B) l1)))
 have hj:j-p+(k+p)=j+k:=by(exact H6 (.e (.a .A .R) (.a .D .B)) .h (.e .Y .D) (aa (dw .A .a (.k .a8 .B) l1')))
 obtain⟨p',e2,P2⟩:=gW (as:=xs.map Key.int) (bs:=ys.map Key.int) (ok:=fun c=>!js c) (ahi:=ahi) (bhi:=bhi) (n:=ahi-(i-p)) (i:=i-p) (j:=j-p) (k:=k+p) (by exact KY (.k .A (.a (.a .B .T) .F)) [[1,-1]] (.e (.a .F .B) .A) (aa (jP .A .b (.k .T .B) (.e (.a .A .a0) .T) h2 hi)))
 obtain⟨q,e3,P3⟩:=n6 (as:=xs.map Key.int) (bs:=ys.map Key.int) (ok:=js) (alo:=alo) (blo:=blo) (i:=i-p) (j:=j-p) (k:=k+p+p') (by exact jP .A .c .b9 .b0 l1 hi) (by exact jP .A .c .b9 .b0 l1' hj)
 have l3:alo+p+q≤i:=by have:=P3.le1;(exact JF (.k (.a .P .C) .D) .d (.e (.a .F (.a .G .B)) (.a .D .G)) (.k .C .H) (.e (.a .H .A) .F) hi this (aa (jP .A .c .b9 .b0 l1 hi)))
 have l3':blo+p+q≤j:=by have:=P3.le2;(exact JF (.k (.a .P .C) .D) .d (.e (.a .F (.a .G .B)) (.a .D .G)) (.k .C .H) (.e (.a .H .A) .F) hj this (aa (jP .A .c .b9 .b0 l1' hj)))
 have hi2:i-p-q+(k+p+p'+q)=i+k+p':=by(exact H5 .c0 .x (.e (.a .H .R) (.a .G .B)) (.e (.a .A .F) .H) hi (aa (JH .A .o (.e (.a .B .T) (.a .F .C)) (.k (.a (.a .G .D) .A) .F) hi l3)))
 have hj2:j-p-q+(k+p+p'+q)=j+k+p':=by(exact H5 .c0 .x (.e (.a .H .R) (.a .G .B)) (.e (.a .A .F) .H) hj (aa (JH .A .o (.e (.a .B .T) (.a .F .C)) (.k (.a (.a .G .D) .A) .F) hj l3')))
 obtain⟨q',e4,P4⟩:=gW (as:=xs.map Key.int) (bs:=ys.map Key.int) (ok:=js) (ahi:=ahi) (bhi:=bhi) (n:=ahi-(i-p-q)) (i:=i-p-q) (j:=j-p-q) (k:=k+p+p'+q) (by exact KX (.k .A (.a (.a .B (.a (.a .T .F) .G)) .H)) [[1,-1]] (.e (.a .H .B) .A) (aa (H5 .A .b (.k .T .B) (.e (.a .A (.a (.a .a0 .G) .H)) (.a .T .G)) h2 hi2)))
 refine⟨p+q,p'+q',?_,by(first | exact JJ .Q .a .bJ hi2 Ar.y | omega),by(first | exact JJ .Q .a .bJ hj2 Ar.y | omega),vP hJ hjs hno (by exact ee .A .b .b9 .aH h2 h3) (by exact ee .A .b .b9 .aH h5 h6) P1 P3,qG hJ hjs hno h3 h6 hi hj hi2 hj2 P2 P4⟩
 unfold grow
 dsimp only
 rw [e1]
 dsimp only
 rw [e2,e3]
 dsimp only
 rw [e4]
 have a1:i-p-q=i-(p+q):=Nat.sub_sub ..
 have a2:j-p-q=j-(p+q):=Nat.sub_sub ..
 have a3:k+p+p'+q+q'=p+q+k+(p'+q'):=by(exact L0 (.e (.a (.a (.a .P .C) .D) .F) (.a (.a .a6 .A) (.a .C .F))) .j)
 rw [a1,a2,a3]
end
end MP
end
section
namespace MP
open PySem
namespace SM
theorem oL {σ:St} {n:Nat}:∀ L:List Int,(L.map V.int).mapM (jF σ (n+1))=some (L.map PyData.int)
 | []=>rfl
 | y::L=>by
  rw [gp,List.mapM_cons,oL L]
  cases n<;>rfl
theorem lG {σ:St} {n:Nat} {a:Addr} {L:List Int} (h:σ.L a=some (L.map V.int)):jF σ (n+2) (.lst a)=some (.list (L.map PyData.int)):=by
 show((σ.L a).bind fun xs=>(xs.mapM (jF σ (n+1))).map PyData.list)=_
 rw [h]
 show((L.map V.int).mapM (jF σ (n+1))).map PyData.list=_
 rw [oL];rfl
theorem pB:∀ L M:List Int,PyData.eqvAll (L.map PyData.int) (M.map PyData.int)=decide (L=M)
 | [],[]=>by simp [PyData.eqvAll]
 | [],_::_=>by simp [PyData.eqvAll]
 | _::_,[]=>by simp [PyData.eqvAll]
 | a::L,b::M=>by
  have ih:=pB L M
  have e:PyData.eqvAll ((a::L).map PyData.int) ((b::M).map PyData.int)=(PyData.eqv (.int a) (.int b)&&PyData.eqvAll (L.map PyData.int) (M.map PyData.int)):=by simp [PyData.eqvAll]
  rw [e,ih]
  have e2:PyData.eqv (.int a) (.int b)=(a==b):=by simp [PyData.eqv]
  rw [e2,deq]
  by_cases c:a=b<;>by_cases d:L=M<;>simp [c,d]
theorem kK {σ:St} {a b:Addr} {L M:List Int} {K:Bool→Prop} (ha:σ.L a=some (L.map V.int)) (hb:σ.L b=some (M.map V.int)) (h:K (decide (L=M))):cY .eq (.lst a) (.lst b) σ K:=by
 refine⟨_,_,lG ha,lG hb,?_⟩
 have e:PyData.eqv (.list (L.map PyData.int)) (.list (M.map PyData.int))=PyData.eqvAll (L.map PyData.int) (M.map PyData.int):=by simp [PyData.eqv]
 rw [e,pB];exact h
theorem fB {G:St→Prop} {T:V→Fr→List V→St→(Fr→List V→St→Prop)→Prop} {K:Fr→List V→St→Prop} {σ:St} (g:Int→V) (Inv:Fr→Prop) (hG:G σ):∀ (us:List Int) (acc:List V) (ρ:Fr),Inv ρ→acc.length+us.length≤aq→(∀ y∈us,∀ ρ acc (k:Fr→List V→St→Prop),Inv ρ→acc.length<aq→(∀ ρ',Inv ρ'→k ρ' (acc++[g y]) σ)→T (.int y) ρ acc σ k) →
  (∀ ρ',Inv ρ'→K ρ' (acc++us.map g) σ)→gQ (us.map V.int) G T ρ acc σ K
 | [],acc,ρ,hi,hz,step,fin=>⟨hG,by have:=fin ρ hi;rwa [List.map_nil,fc] at this⟩
 | y::us,acc,ρ,hi,hz,step,fin=>by
  refine⟨hG,step y (.head _) ρ acc _ hi (by rw [gz] at hz;(exact dw .C .a (.k .a3 .B) hz)) fun ρ' hi'=>?_⟩
  refine fB g Inv hG us _ ρ' hi' (by rw [bz,ue];rw [gz] at hz;(exact dw (.k .a2 .C) .a .aS hz)) (fun z hz=>step z (.tail _ hz)) fun ρ2 h2=>?_
  have:=fin ρ2 h2
  rwa [gp,List.append_cons] at this
noncomputable def HC (C:Cal) (vf:V) (J:Int→Int):Prop:=∃ k cs,vf=.clo k cs∧∀ (y:Int) (σ:St) (Q:V→St→Prop),Q (.int (J y)) σ→C (1000+k) (.int y::cs) σ Q
noncomputable def zQ:jt:=(.cons (.assign [(.var 5)] (.comp [(2,2)] (.seq (.slc (.loc 0) .none (.loc 4))) (.var 1) .nil (.elt (.callv 2 (.cons (.loc 1) .nil)))))
 (.cons (.cond (.and (.cmp .eq (.slc (.loc 0) .none (.loc 4)) (.slc (.loc 1) .none (.loc 4))) (.cmp .eq (.loc 5) (.bf .sorted (.cons (.loc 5) .nil)))) (.cons (.expr (.bm .append (.loc 3) (.cons (.loc 4) .nil)))
 .nil) .nil)
 .nil))
theorem hV {C:Cal} {ρ:Fr} {σ:St} {x:Nat} {l:Addr} {U:List Int} {s:Nat} {Q:V→St→Prop} (hx:ρ x=some (.lst l)) (hl:σ.L l=some (U.map V.int)) (r4:ρ 4=some (.int s)) (hs:s≤U.length) (hU:s<aq) (k:∀ c σ',Ext σ σ'→σ.L c=none→σ'.L c=some ((U.take s).map V.int)→Q (.lst c) σ'):wpE C (.slc (.loc x) .none (.loc 4)) ρ σ Q:=by
 refine⟨_,hx,_,r4,?_⟩
 refine⟨U.map V.int,0,(s:Int),hl,rfl,rfl,by decide,by unfold aq at hU;(exact(Ar.nab _).elim (fun q1=>(gn .J .b (.l .B .S) .b7 hU q1.2)) fun q1=>(bh .J .a .aJ q1.2)),fun c hc=>?_⟩
 refine k c _ ((Ext.refl σ).fg hc) hc ?_
 rw [cQ,zi (by rw [au];exact hs),List.drop_zero,← cV]
 exact bg _ _ _
theorem kO {L M:List Int} (hp:M.Perm L) (hs:M.Pairwise (·≤·)):(L=M)↔L.Pairwise (·≤·):=by
 refine⟨fun e=>by rw [e];exact hs,fun h=>?_⟩
 exact(hp.symm.eq_of_pairwise (fun a b _ _ h1 h2=>Int.le_antisymm h1 h2) h hs)
noncomputable def eX (U W:List Int) (J:Int→Int) (s:Nat):Bool:=decide (U.take s=W.take s)&&decide (((U.take s).map J).Pairwise (·≤·))
theorem w0 {C:Cal} {U W:List Int} {J:Int→Int} {vf:V} {ol wl zl:Addr} {σ₀ σ:St} {ρ:Fr} {ss:List Int} {s:Nat} {again:Fr→St→Prop} {K:Fl→Fr→St→Prop} (hf:HC C vf J) (hU:σ₀.L ol=some (U.map V.int)) (hW:σ₀.L wl=some (W.map V.int)) (E:Ext σ₀ σ) (hz:σ₀.L zl=none) (hL:σ.L zl=some (ss.map V.int)) (r0:ρ 0=some (.lst ol)) (r1:ρ 1=some (.lst wl)) (r2:ρ 2=some vf) (r3:ρ 3=some (.lst zl)) (h1:s≤U.length) (h2:s≤W.length) (h64:s<64) (hss:ss.length<aq)
  (h:∀ ρ' σ',ρ' 0=some (.lst ol)→ρ' 1=some (.lst wl)→ρ' 2=some vf→ρ' 3=some (.lst zl)→Ext σ₀ σ'→σ'.L zl=some ((ss++if eX U W J s then [(s:Int)] else []).map V.int)→again ρ' σ'):fy C zQ (upd ρ 4 (.int s)) σ (sq again K):=by
 obtain⟨kf,cs,rfl,hf⟩:=hf
 have hsz:s<aq:=by unfold aq;(exact gv .a2 .a .bY h64)
 refine hV (x:=0) (U:=U) r0 (E.L _ _ hU) rfl h1 hsz fun c1 σ1 E1 hc1 hL1=>?_
 refine⟨_,hL1,?_⟩
 have hlen:(U.take s).length≤aq:=by rw [dt];(exact gr .A .b .aG .G hsz (Ar.iw _ _).1)
 refine fB (fun y=>V.int (J y)) (fun ρ=>ρ 2=some (.clo kf cs)) hL1 (U.take s) [] _ (by exact r2) (by rw [List.length_nil,jq];exact hlen) (fun y _ ρ' acc kk i2 ha hk=>?_) fun ρ' i2=>?_
 ·show xu C (.elt (.callv 2 (.cons (.loc 1) .nil))) (upd ρ' 1 (.int y)) acc σ1 kk
  refine⟨_,i2,_,bg _ _ _,?_⟩
  exact hf y σ1 _ ⟨ha,hk _ i2⟩
 ·rw [wo]
  intro c2 hc2
  generalize hσ2:σ1.fg c2 ((U.take s).map fun y=>V.int (J y))=σ2
  have E2:Ext σ1 σ2:=by rw [← hσ2];exact(Ext.refl σ1).fg hc2
  have hL2:σ2.L c2=some (((U.take s).map J).map V.int):=by
   rw [← hσ2,xq];exact bg _ _ _
  have EE:=(E.trans E1).trans E2
  have hz2:σ2.L zl=some (ss.map V.int):=E2.L _ _ (E1.L _ _ hL)
  show wpT C _ (upd (upd ρ 4 (.int s)) 5 (.lst c2)) σ2 _
  refine hV (x:=0) (U:=U) r0 (EE.L _ _ hU) rfl h1 hsz fun c3 σ3 E3 hc3 hL3=>?_
  refine hV (x:=1) (U:=W) r1 (E3.L _ _ (EE.L _ _ hW)) rfl h2 hsz fun c4 σ4 E4 hc4 hL4=>?_
  refine kK (E4.L _ _ hL3) hL4 ?_
  have E5:=(EE.trans E3).trans E4
  have hz4:=E4.L _ _ (E3.L _ _ hz2)
  by_cases e:U.take s=W.take s
  ·rw [cm e]
   refine gO ?_
   refine⟨_,rfl,_,rfl,?_⟩
   refine⟨(U.take s).map J,E4.L _ _ (E3.L _ _ hL2),by rw [au,dt];(first | exact gn .bY .b (.l .B (.n 64)) .A h64 (Ar.iw _ _).1 Ar.y | omega),fun ns hp ho c5 hc5=>?_⟩
   have E6:Ext σ4 (σ4.fg c5 (ns.map V.int)):=(Ext.refl σ4).fg hc5
   refine kK (E6.L _ _ (E4.L _ _ (E3.L _ _ hL2))) (bg _ _ _) ?_
   have E7:=E5.trans E6
   have hz5:=E6.L _ _ hz4
   by_cases d:((U.take s).map J).Pairwise (·≤·)
   ·have hb:eX U W J s=true:=by unfold eX;rw [cm e,cm d];rfl
    rw [hb] at h
    rw [cm ((kO hp ho).mpr d)]
    refine gO (F7 (.int s) r3 hz5 rfl (by rw [au];exact hss) (yk (yk (h _ _ r0 r1 r2 r3 (E7.fg hz) ?_))))
    rw [bx rfl,jy];exact bg _ _ _
   ·have hb:eX U W J s=false:=by unfold eX;rw [cn d,Bool.and_false]
    rw [hb] at h
    rw [cn fun q=>d ((kO hp ho).mp q)]
    refine fA (yk (yk (h _ _ r0 r1 r2 r3 E7 ?_)))
    rw [aw (by decide),fc];exact hz5
  ·have hb:eX U W J s=false:=by unfold eX;rw [cn e];rfl
   rw [hb] at h
   rw [cn e]
   refine fA ?_
   refine fA ?_
   refine yk (yk (h _ _ r0 r1 r2 r3 E5 ?_))
   rw [aw (by decide),fc];exact hz4
noncomputable def vo (U W:List Int) (J:Int→Int) (t:Nat):List Int:=((List.range t).filter (eX U W J)).map fun s:Nat=>(s:Int)
theorem qD {U W:List Int} {J:Int→Int} {t:Nat}:vo U W J (t+1)=vo U W J t++if eX U W J t then [(t:Int)] else []:=by
 unfold vo
 rw [List.range_succ,List.filter_append,jy]
 cases h:eX U W J t with
 | false=>rw [List.filter_cons_of_neg (by rw [h];decide)];rfl
 | true=>rw [List.filter_cons_of_pos h];rfl
theorem uT {U W:List Int} {J:Int→Int} {t:Nat}:(vo U W J t).length≤t:=by
 unfold vo
 rw [au]
 exact gj (ku _ _) (Nat.le_of_eq jv)
theorem FZ {U W:List Int} {J:Int→Int} {s:Nat} (h:eX U W J s=true) (h1:s≤U.length) (h2:s≤W.length):Pfx U W J s:=by
 obtain⟨a,b⟩:=(cg ..).mp h
 exact⟨h1,h2,ah a,ah b⟩
theorem G1 {U W:List Int} {J:Int→Int} {s:Nat} (h:Pfx U W J s):eX U W J s=true:=by
 unfold eX
 rw [cm h.eq,cm h.up];rfl
theorem rD {σ:St} {ρ:Fr} {x:Nat} {l:Addr} {xs:List V} (hx:ρ x=some (.lst l)) (hl:σ.L l=some xs):evV σ ρ (.bf .len (.cons (.loc x) .nil))=some (.int (xs.length:Nat)):=by
 have e:evV σ ρ (.loc x)=some (.lst l):=hx
 have e2:cN σ ρ (.cons (.loc x) .nil)=some [.lst l]:=by rw [cz,e];rfl
 show(cN σ ρ (.cons (.loc x) .nil)).bind (fun vs=>pA σ .len vs)=_
 rw [e2]
 show(σ.L l).map (fun xs=>V.int (xs.length:Nat))=_
 rw [hl];rfl
theorem iU {P:Nat→Option Fn} (hP:P 11=some R2.fC) {n:Nat} {U W:List Int} {J:Int→Int} {vf:V} {ol wl:Addr} {σ:St} {Q:V→St→Prop} (hf:HC (gy P n) vf J) (hU:σ.L ol=some (U.map V.int)) (hW:σ.L wl=some (W.map V.int)) (h64:U.length<63) (hw:W.length<aq)
  (h:∀ σ' m,Ext σ σ'→xg U W J m→Q (.int (m:Nat)) σ'):gy P (n+1) 11 [.lst ol,.lst wl,vf] σ Q:=by
 refine⟨R2.fC,hP,ay 3,ay 3,?_⟩
 have a0:frameOf R2.fC [.lst ol,.lst wl,vf] 0=some (.lst ol):=rfl
 have a1:frameOf R2.fC [.lst ol,.lst wl,vf] 1=some (.lst wl):=rfl
 have a2:frameOf R2.fC [.lst ol,.lst wl,vf] 2=some vf:=rfl
 generalize frameOf R2.fC [.lst ol,.lst wl,vf]=ρ at a0 a1 a2
 refine F6 [] rfl (cf _) fun zl hzl=>?_
 have E0:Ext σ (σ.fg zl []):=(Ext.refl σ).fg hzl
 have hev:evV (σ.fg zl []) (upd ρ 3 (.lst zl)) (.bin .add (.bf .min (.cons (.bf .len (.cons (.loc 0) .nil)) (.cons (.bf .len (.cons (.loc 1) .nil)) .nil))) (.int 1))=some (.int ((min U.length W.length+1:Nat):Int)):=by
  have e0:=rD (x:=0) (σ:=σ.fg zl []) (ρ:=upd ρ 3 (.lst zl)) a0 (E0.L _ _ hU)
  have e1:=rD (x:=1) (σ:=σ.fg zl []) (ρ:=upd ρ 3 (.lst zl)) a1 (E0.L _ _ hW)
  rw [au] at e0 e1
  rw [tR]
  have e2:evV (σ.fg zl []) (upd ρ 3 (.lst zl)) (.bf .min (.cons (.bf .len (.cons (.loc 0) .nil)) (.cons (.bf .len (.cons (.loc 1) .nil)) .nil)))=some (.int (min (U.length:Int) (W.length:Int))):=by
   show(cN (σ.fg zl []) (upd ρ 3 (.lst zl)) _).bind _=_
   rw [cz,e0,cz,e1];rfl
  rw [e2]
  show some (V.int (min (U.length:Int) (W.length:Int)+1))=_
  congr 2;(exact(Ar.zO _ _).2.2.elim (fun q1=>((Ar.iw _ _).2.2.elim (fun q2=>(EY .aI .w (.ik .A .P) .A (.ik .P .A) .a1 (Ar.zO _ _).1 (Ar.iw _ _).1 q1 q2)) fun q2=>(EX .aI .w (.ik .A .P) .G (.ik .Q .A) .a1 (Ar.zO _ _).2.1 (Ar.iw _ _).1 q1 q2))) fun q1=>((Ar.iw _ _).2.2.elim (fun q2=>(EX .aI .w (.ik .A .P) .G (.ik .Q .A) .a1 (Ar.zO _ _).1 (Ar.iw _ _).2.1 q1 q2)) fun q2=>(EY .aI .w (.ik .A .P) .A (.ik .P .A) .a1 (Ar.zO _ _).2.1 (Ar.iw _ _).2.1 q1 q2)))
 refine gw _ hev ?_
 refine⟨((min U.length W.length+1:Nat):Int),rfl,by unfold aq at hw;(first | exact(Ar.nab _).elim (fun q1=>(qc .K .d (.l .B (.n 63)) .M (.ie .L (.t .Q)) h64 (Ar.iw _ _).1 q1.2)) fun q1=>(bh .K .a (.ie .L (.g (.t .L))) q1.2) | omega),?_⟩
 refine rj (fun t ρ' σ'=>ρ' 0=some (.lst ol)∧ρ' 1=some (.lst wl)∧ρ' 2=some vf∧ρ' 3=some (.lst zl)∧Ext σ σ'∧σ'.L zl=some ((vo U W J t).map V.int)) ?_ ?_ ⟨a0,a1,a2,bg _ _ _,E0,bg _ _ _⟩
 ·rintro t v ρ' σ' hv ⟨r0,r1,r2,r3,E,hL⟩
  obtain⟨hlt,rfl⟩:=ze (a:=0) hv
  refine⟨trivial,fun kk hk=>?_⟩
  have hs:=uT (U:=U) (W:=W) (J:=J) (t:=t)
  rw [jq] at hlt ⊢
  refine w0 hf hU hW E hzl hL r0 r1 r2 r3 (by exact gr .A .b (.l .A .Q) .M hlt (Ar.iw _ _).1) (by exact gr .A .b (.l .A .Q) .M hlt (Ar.iw _ _).2.1) (by exact qc .bY .d (.l .B (.n 63)) (.l .A .Q) .M h64 hlt (Ar.iw _ _).1) (by unfold aq;(exact gR .a2 .s (.l .B (.n 63)) (.l .C .V) .G .aH h64 hlt hs (Ar.iw _ _).1)) fun ρ2 σ2 b0 b1 b2 b3 E2 hL2=>hk _ _ ⟨b0,b1,b2,b3,E2,?_⟩
  rw [qD];exact hL2
 ·rintro ρ' σ' ⟨r0,r1,r2,r3,E,hL⟩
  have hl:(qr 0 ((min U.length W.length+1:Nat):Int)).length=min U.length W.length+1:=(we (a:=0) (b:=min U.length W.length+1)).trans (Nat.sub_zero _)
  rw [hl] at hL
  refine⟨trivial,?_⟩
  have hin:∀ s,Pfx U W J s→((s:Nat):Int)∈vo U W J (min U.length W.length+1):=fun s S=>by
   have:=S.u
   have:=S.w
   exact bw.mpr ⟨s,gI.mpr ⟨nq.mpr (by(rename_i z1;exact(Ar.iw _ _).2.2.elim (fun q1=>(gr .I .b .G .M z1 q1)) fun q1=>(gr .I .b .G .M this q1))),G1 S⟩,rfl⟩
  refine⟨_,r3,?_⟩
  refine⟨_,hL,fun q=>?_,fun m hm hmax=>?_⟩
  ·have h0:=hin 0 ⟨cf _,cf _,rfl,List.Pairwise.nil⟩
   rw [q] at h0;cases h0
  ·obtain⟨s,hs,rfl⟩:=bw.mp hm
   obtain⟨hs1,hs2⟩:=gI.mp hs
   have hs1:=nq.mp hs1
   refine h σ' s E ⟨FZ hs2 (by exact gr .A .b (.l .A .Q) .M hs1 (Ar.iw _ _).1) (by exact gr .A .b (.l .A .Q) .M hs1 (Ar.iw _ _).2.1),fun s' S'=>?_⟩
   have:=hmax _ (hin s' S')
   (exact bh .A .a (.ik .L .P) this)
end SM
end MP
end
section
namespace MP
open PySem
namespace SM
section
variable {σ:St} {ρ:Fr} {a b:Ex} {x y:Int}
theorem zh {op:Bop} {v:V} (ha:evV σ ρ a=some (.int x)) (hb:evV σ ρ b=some (.int y)) (h:aO op (.int x) (.int y)=some v):evV σ ρ (.bin op a b)=some v:=by
 rw [tR,ha,hb];exact h
theorem ry (ha:evV σ ρ a=some (.int x)) (hb:evV σ ρ b=some (.int y)):evV σ ρ (.bin .add a b)=some (.int (x+y)):=zh ha hb rfl
theorem n7 (ha:evV σ ρ a=some (.int x)) (hb:evV σ ρ b=some (.int y)):evV σ ρ (.bin .sub a b)=some (.int (x-y)):=zh ha hb rfl
theorem uh (ha:evV σ ρ a=some (.int x)) (hb:evV σ ρ b=some (.int y)) (h:0<y):evV σ ρ (.bin .mod a b)=some (.int (x%y)):=zh ha hb (by
 show lh (0<y) (V.int (x%y))=_
 unfold lh;rw [bx h])
theorem tQ (ha:evV σ ρ a=some (.int x)) (hb:evV σ ρ b=some (.int y)) (h:0<y) (h2:y.natAbs<2^60):evV σ ρ (.bin .fdiv a b)=some (.int (x/y)):=zh ha hb (by
 show lh (0<y∧y.natAbs<2^60) (V.int (x/y))=_
 unfold lh;rw [bx ⟨h,h2⟩])
theorem GY (ha:evV σ ρ a=some (.int x)) (hb:evV σ ρ b=some (.int y)) (h:x.natAbs<2^60):evV σ ρ (.bin .mul a b)=some (.int (x*y)):=zh ha hb (by
 show lh (x.natAbs<2^60∨y.natAbs<2^60) (V.int (x*y))=_
 unfold lh;rw [bx (.inl h)])
theorem A0 (ha:evV σ ρ a=some (.int x)) (hb:evV σ ρ b=some (.int y)):evV σ ρ (.bf .max (.cons a (.cons b .nil)))=some (.int (max x y)):=by
 show(cN σ ρ (.cons a (.cons b .nil))).bind (fun vs=>pA σ .max vs)=_
 rw [cz,ha,cz,hb];rfl
theorem zg {n:Nat} {l:Addr} {zs:List Int} (hx:ρ n=some (.lst l)) (hl:σ.L l=some (zs.map V.int)):evV σ ρ (.bf .len (.cons (.loc n) .nil))=some (.int (zs.length:Nat)):=by
 rw [rD hx hl,au]
end
theorem rep0 {C:Cal} {ρ:Fr} {σ:St} {e:Ex} {n:Nat} {Q:V→St→Prop} (h:∀ σ',Ext σ σ'→evV σ' ρ e=some (.int n)) (hn:n<1000) (k:∀ c σ',Ext σ σ'→σ.L c=none→σ'.L c=some ((List.replicate n (0:Int)).map V.int)→Q (.lst c) σ'):wpE C (.bin .mul (.lst (.cons (.int 0) .nil)) e) ρ σ Q:=by
 rw [B8,s8]
 refine rf (Q:=fun vs σ=>vs.length≤aq∧∀ c,σ.L c=none→wpE C e ρ (σ.fg c vs) fun vb σ=>xv .mul (.lst c) vb σ Q) _ (vs:=[.int 0]) rfl ⟨dk rfl,fun c hc=>?_⟩
 have E:Ext σ (σ.fg c [.int 0]):=(Ext.refl σ).fg hc
 refine gw _ (h _ E) ?_
 refine⟨[.int 0],bg _ _ _,by show 1*(n:Int).toNat≤aq;unfold aq;(exact(Ar.ton _).elim (fun q1=>(gn (.k (.m 1 .A) .S) .b (.l .B (.n 1000)) .b7 hn q1.2)) fun q1=>(gv (.k (.m 1 .A) .S) .a .L q1.2)),by(first | exact(Ar.nab _).elim (fun q1=>(gn .J .b (.l .B (.n 1000)) .b7 hn q1.2)) fun q1=>(bh .J .a .aJ q1.2) | omega),fun c2 hc2=>?_⟩
 refine k c2 _ (E.fg (E.noL hc2)) (E.noL hc2) ?_
 refine(bg _ _ _).trans (bu some ?_)
 rw [List.map_replicate,fk]
 clear h k
 induction n with
 | zero=>rfl
 | succ n ih=>rw [List.replicate_succ,List.flatten_cons,ih (by exact gv (.l .A (.n 1000)) .a (.l .M (.n 1000)) hn),List.replicate_succ];rfl
theorem fH {C:Cal} {σ:St} {a b:Addr} {xs ys:List Int} {Q:V→St→Prop} (ha:σ.L a=some (xs.map V.int)) (hb:σ.L b=some (ys.map V.int)) (hz:xs.length+ys.length≤aq) (k:∀ c σ',Ext σ σ'→σ.L c=none→σ'.L c=some ((xs++ys).map V.int)→Q (.lst c) σ'):xv .add (.lst a) (.lst b) σ Q:=by
 refine⟨xs.map V.int,ys.map V.int,ha,hb,by rw [au,au];exact hz,fun c hc=>k c _ ((Ext.refl σ).fg hc) hc ?_⟩
 rw [jy];exact bg _ _ _
theorem yb {C:Cal} {ρ:Fr} {σ:St} {x:Nat} {lo hi:Ex} {l:Addr} {zs:List Int} {i j:Nat} {vl vh:V} {Q:V→St→Prop} (hx:ρ x=some (.lst l)) (hl:σ.L l=some (zs.map V.int)) (e1:evV σ ρ lo=some vl) (e2:evV σ ρ hi=some vh) (h1:ye 0 vl=some (i:Int)) (h2:ye zs.length vh=some (j:Int)) (hi':i≤zs.length) (hj:j≤zs.length) (hz:zs.length<aq) (k:∀ c σ',Ext σ σ'→σ.L c=none→σ'.L c=some ((kh zs i j).map V.int)→Q (.lst c) σ'):wpE C (.slc (.loc x) lo hi) ρ σ Q:=by
 refine⟨_,hx,?_⟩
 refine gw (Q:=fun va σ=>wpE C hi ρ σ fun vb σ=>rZ (.lst l) va vb σ Q) lo e1 ?_
 refine gw (Q:=fun vb σ=>rZ (.lst l) vl vb σ Q) hi e2 ?_
 refine⟨zs.map V.int,i,j,hl,h1,by rw [au];exact h2,by unfold aq at hz;(first | exact(Ar.nab _).elim (fun q1=>(qc .J .d .aP (.l .C .S) .b7 hi' hz q1.2)) fun q1=>(bh .J .a .aJ q1.2) | omega),by unfold aq at hz;(first | exact(Ar.nab _).elim (fun q1=>(qc .J .d .aP (.l .C .S) .b7 hj hz q1.2)) fun q1=>(bh .J .a .aJ q1.2) | omega),fun c hc=>k c _ ((Ext.refl σ).fg hc) hc ?_⟩
 rw [zi (by rw [au];exact hi'),zi (by rw [au];exact hj)]
 unfold kh
 rw [List.map_drop,cV]
 exact bg _ _ _
structure Pre (ρ:Fr) (σ:St) (b:Int) (xs ys:List Int) (al bl:Addr) (ba bb:Int) (alo ahi blo bhi:Nat):Prop where
 r28:ρ 28=some (.int b)
 r10:ρ 10=some (.lst al)
 r11:ρ 11=some (.lst bl)
 La:σ.L al=some (xs.map V.int)
 Lb:σ.L bl=some (ys.map V.int)
 r2:ρ 2=some (.int ba)
 r4:ρ 4=some (.int bb)
 r12:ρ 12=some (.int ahi)
 r13:ρ 13=some (.int bhi)
 r14:ρ 14=some (.int alo)
 r15:ρ 15=some (.int blo)
 ha:ahi≤xs.length
 hb:bhi≤ys.length
 ha0:ba=0→ahi=xs.length
 hb0:bb=0→bhi=ys.length
 hal:alo≤ahi
 hbl:blo≤bhi
 lx:xs.length≤56
 ly:ys.length≤456
theorem A2 {z:Int} {n:Nat}:∃ m:Nat,(((n:Int)+1)-max (z%((n:Int)+2)) 1)=m∧m≤n∧(z%((n:Int)+2)=0→m=n):=by
 have h1:=ou z (show((n:Int)+2)≠0 by exact ic (.iu (.a .L .W) .O) .i)
 have h2:=kq z (show(0:Int)<(n:Int)+2 by exact ic (.il .O (.a .L .W)) .i)
 refine⟨(((n:Int)+1)-max (z%((n:Int)+2)) 1).toNat,?_,?_,fun q=>?_⟩<;>(first | exact(Ar.ton _).elim (fun q1=>(JK (.ie .R .P) .g (.ie .P .R) q1.2)) fun q1=>((Ar.imax _ _).2.2.elim (fun q2=>(JE (.ie .R .P) [[1,1,0,1,1],[1,0,1,0,0]] (.il .B (.a .L .W)) (.ik .R .O) .a5 (.ik .A .B) h2 q1.1 q1.2 q2)) fun q2=>(pQ (.ie .R .P) [[1,0,1,1],[1,1,0,0]] (.ik .R .O) .a5 (.ik .A .U) q1.1 q1.2 q2)) | exact(Ar.ton _).elim (fun q1=>(u4 .A .b (.ik .U .A) (.ie .L (.s (.a .P .U) .A)) (Ar.imax _ _).2.1 q1.2)) fun q1=>(bh .A .a .L q1.2) | exact(Ar.imax _ _).2.2.elim (fun q1=>(JG .B .v (.ie .A .O) (.ik .U .B) (.ik .B .A) q (Ar.imax _ _).2.1 q1)) fun q1=>((Ar.ton _).elim (fun q2=>(pQ .B [[1,0,1,-1],[1,1,0,1]] (.ik .U .A) (.ik .A .U) (.ie .L (.s (.a .P .U) .A)) (Ar.imax _ _).2.1 q1 q2.2)) fun q2=>(pQ .B [[1,1,1,0],[1,0,0,1]] (.ik .A .U) (.ik (.s (.a .P .U) .A) .O) .L q1 q2.1 q2.2)) | omega)
theorem mL {z:Int} {n:Nat}:∃ m:Nat,z%((n:Int)+1)=m∧m≤n:=by
 have h1:=ou z (show((n:Int)+1)≠0 by exact ic (.iu (.a .L .U) .O) .i)
 have h2:=kq z (show(0:Int)<(n:Int)+1 by exact ic .bZ .i)
 exact⟨(z%((n:Int)+1)).toNat,by(first | exact(Ar.ton _).elim (fun q1=>(jQ (.ie .A .L) .g .W q1.2)) fun q1=>(u0 (.ie .A .L) .m .T .aK .L h1 q1.1 q1.2) | omega),by(first | exact(Ar.ton _).elim (fun q1=>(u4 .A .b (.il .A (.a .P .U)) .W h2 q1.2)) fun q1=>(bh .A .a .L q1.2) | omega)⟩
noncomputable def HZ:jt:=(.cons (.assign [(.var 2)] (.bin .mod (.loc 2) (.bin .add (.bf .len (.cons (.loc 10) .nil)) (.int 2))))
 (.cons (.assign [(.var 4)] (.bin .mod (.loc 4) (.bin .add (.bf .len (.cons (.loc 11) .nil)) (.int 2))))
 (.cons (.assign [(.var 12)] (.bin .sub (.bin .add (.bf .len (.cons (.loc 10) .nil)) (.int 1)) (.bf .max (.cons (.loc 2) (.cons (.int 1) .nil)))))
 (.cons (.assign [(.var 13)] (.bin .sub (.bin .add (.bf .len (.cons (.loc 11) .nil)) (.int 1)) (.bf .max (.cons (.loc 4) (.cons (.int 1) .nil)))))
 (.cons (.assign [(.var 14)] (.bin .mod (.loc 3) (.bin .add (.loc 12) (.int 1))))
 (.cons (.assign [(.var 15)] (.bin .mod (.loc 5) (.bin .add (.loc 13) (.int 1))))
 .nil))))))
theorem HW {C:Cal} {ρ:Fr} {σ:St} {K:Fl→Fr→St→Prop} {b z2 z3 z4 z5:Int} {xs ys:List Int} {al bl:Addr} (r28:ρ 28=some (.int b)) (r2:ρ 2=some (.int z2)) (r3:ρ 3=some (.int z3)) (r4:ρ 4=some (.int z4)) (r5:ρ 5=some (.int z5)) (r10:ρ 10=some (.lst al)) (r11:ρ 11=some (.lst bl)) (La:σ.L al=some (xs.map V.int)) (Lb:σ.L bl=some (ys.map V.int)) (lx:xs.length≤56) (ly:ys.length≤456)
  (h:∀ ρ' ba bb alo ahi blo bhi,Pre ρ' σ b xs ys al bl ba bb alo ahi blo bhi→K .next ρ' σ):fy C HZ ρ σ K:=by
 obtain⟨ahi,ea,ha,ha0⟩:=A2 (z:=z2) (n:=xs.length)
 obtain⟨bhi,eb,hb,hb0⟩:=A2 (z:=z4) (n:=ys.length)
 obtain⟨alo,el,hl⟩:=mL (z:=z3) (n:=ahi)
 obtain⟨blo,em,hm⟩:=mL (z:=z5) (n:=bhi)
 refine eG (.int (z2%((xs.length:Nat)+2))) (uh r2 (ry (zg r10 La) rfl) (by exact ic (.il .O (.a .L .W)) .i)) ?_
 refine eG (.int (z4%((ys.length:Nat)+2))) (uh (a:=.loc 4) r4 (ry (zg (n:=11) r11 Lb) rfl) (by exact ic (.il .O (.a .L .W)) .i)) ?_
 refine eG (.int ((xs.length:Nat)+1-max (z2%((xs.length:Nat)+2)) 1)) (n7 (ry (zg (n:=10) r10 La) rfl) (A0 (a:=.loc 2) rfl rfl)) ?_
 rw [ea]
 refine eG (.int ((ys.length:Nat)+1-max (z4%((ys.length:Nat)+2)) 1)) (n7 (ry (zg (n:=11) r11 Lb) rfl) (A0 (a:=.loc 4) rfl rfl)) ?_
 rw [eb]
 refine eG (.int (z3%((ahi:Nat)+1))) (uh (a:=.loc 3) r3 (ry (a:=.loc 12) (x:=ahi) rfl rfl) (by exact ic .bZ .i)) ?_
 rw [el]
 refine eG (.int (z5%((bhi:Nat)+1))) (uh (a:=.loc 5) r5 (ry (a:=.loc 13) (x:=bhi) rfl rfl) (by exact ic .bZ .i)) ?_
 rw [em]
 exact yk (h _ _ _ alo ahi blo bhi ⟨r28,r10,r11,La,Lb,rfl,rfl,rfl,rfl,rfl,rfl,ha,hb,ha0,hb0,hl,hm,lx,ly⟩)
end SM
end MP
end
section
namespace MP
open PySem
structure DU (σ σ':St) (s:Addr) (js:List Key):Prop where
 L:σ'.L=σ.L
 D:σ'.D=σ.D
 I:σ'.I=σ.I
 S:∀ a,a≠s→σ'.S a=σ.S a
 at_:σ'.S s=some js
structure DV (σ σ':St) (d:Addr) (es:List (Key × V)):Prop where
 L:σ'.L=σ.L
 S:σ'.S=σ.S
 I:σ'.I=σ.I
 D:∀ a,a≠d→σ'.D a=σ.D a
 at_:σ'.D d=some es
section
variable {C:Cal} {K:Fl→Fr→St→Prop}
theorem AS {c:Ex} {sx s:Nat} {ρ:Fr} {σ:St} {js:List Key} {k:Int} {b:Bool} {again:Fr→St→Prop} (hc:∀ Q:Bool→St→Prop,Q b σ→wpT C c ρ σ Q) (r4:ρ 4=some (.int k)) (rs:ρ sx=some (.set s)) (hS:σ.S s=some js) (hz:js.length<4000) (hk:Key.int k∉js)
  (h:again ρ (if b then σ.dG s (js++[.int k]) else σ)):fy C (.cons (.cond c (.cons (.expr (.bm .add (.loc sx) (.cons (.loc 4) .nil))) .nil) .nil) .nil) ρ σ (sq again K):=by
 refine hc _ ?_
 cases b with
 | false=>exact fA h
 | true =>
  refine gO ⟨.set s,rs,(by show(σ.S s).isSome=true;rw [hS];rfl),.int k,r4,js,hS,hz,rfl,?_⟩
  rw [aw hk];exact h
theorem AV {c:Ex} {sx s:Nat} {t:Tg} {vs:List V} {G:St→Prop} {ks:List Int} {p:Int→Bool} {ρ:Fr} {σ:St} {k:Fr→St→Prop} (Inv:Fr→Prop) (nd:ks.Nodup) (hlen:vs.length=ks.length) (hz:ks.length<4000) (hI:Inv ρ) (hS:σ.S s=some []) (hG:∀ σ' js,DU σ σ' s js→σ'.Z=σ.Z∨σ'.Z=clr σ.Z s→G σ')
  (bind:∀ (i:Nat) (v:V) (y:Int) (ρ:Fr) (σ':St) (js:List Key) (K:Fr→Prop),vs[i]?=some v→ks[i]?=some y→Inv ρ→DU σ σ' s js→(∀ ρ',Inv ρ'→ρ' 4=some (.int y)→ρ' sx=some (.set s)→(∀ Q:Bool→St→Prop,Q (p y) σ'→wpT C c ρ' σ' Q)→K ρ')→lq t v σ' ρ K)
  (h:∀ ρ' σ',Inv ρ'→DU σ σ' s ((ks.filter p).map Key.int)→k ρ' σ') :
  mX vs G (fun v ρ σ kk=>lq t v σ ρ fun ρ=>fy C (.cons (.cond c (.cons (.expr (.bm .add (.loc sx) (.cons (.loc 4) .nil))) .nil) .nil) .nil) ρ σ (sq kk K)) ρ σ k:=by
 refine rj (fun i ρ' σ'=>Inv ρ'∧DU σ σ' s (((ks.take i).filter p).map Key.int)∧(σ'.Z=σ.Z∨σ'.Z=clr σ.Z s)) ?_ ?_ ⟨hI,⟨rfl,rfl,rfl,fun _ _=>rfl,hS⟩,.inl rfl⟩
 ·rintro i v ρ' σ' hv ⟨hi,B,hZ⟩
  refine⟨hG _ _ B hZ,fun kk hk=>?_⟩
  have hlt:i<ks.length:=hlen▸(cj.mp hv).1
  have hy:ks[i]?=some ks[i]:=bc hlt
  refine bind i v ks[i] ρ' σ' _ _ hv hy hi B fun ρ2 i2 r4 rs hc=>?_
  have hnot:Key.int ks[i]∉((ks.take i).filter p).map Key.int:=fun q=>by
   obtain⟨y,hy1,hy2⟩:=bw.mp q
   obtain rfl:=Key.int.inj hy2
   have h1:=(gI.mp hy1).1
   obtain⟨j,hj,e⟩:=gf.mp h1
   rw [pn] at e
   have hj':j<i:=by rw [dt] at hj;(exact gr .C .b .U .M hj (Ar.iw _ _).1)
   have:=(List.getElem_inj nd).mp e
   (exact gn .ff [[0,1,-1]] .C .B hj' this)
  refine AS (b:=p ks[i]) hc r4 rs B.at_ ?_ hnot (hk _ _ ⟨i2,?_⟩)
  ·rw [au]
   have:=ku p (ks.take i)
   rw [dt] at this;(exact gR (.l .A (.n 4000)) .s (.l .B (.n 4000)) .aG .b3 .bS hz hlt this (Ar.iw _ _).1)
  ·rw [mn hlt,List.filter_append,jy]
   cases hp:p ks[i] with
   | false =>
    rw [List.filter_cons_of_neg (by rw [hp];decide),List.filter_nil,List.map_nil,fc]
    exact⟨B,hZ⟩
   | true =>
    rw [List.filter_cons_of_pos hp,List.filter_nil]
    refine⟨⟨B.L,B.D,B.I,fun a ha=>(dq ha).trans (B.S a ha),bg _ _ _⟩,.inr ?_⟩
    show clr σ'.Z s=clr σ.Z s
    rcases hZ with e | e
    ·rw [e]
    ·rw [e];funext a
     unfold clr
     split<;>rfl
 ·rintro ρ' σ' ⟨hi,B,hZ⟩
  refine⟨hG _ _ B hZ,?_⟩
  rw [hlen,uk] at B
  exact h ρ' σ' hi B
noncomputable def wq (es:List (Key × V)) (ks:List Key):List (Key × V):=es.filter fun e=>decide (e.1∉ks)
theorem vq {es:List (Key × V)} {ks:List Key} {k:Key}:(wq es ks).lookup k=if k∈ks then none else es.lookup k:=by
 unfold wq
 induction es with
 | nil=>rw [List.filter_nil];split<;>rfl
 | cons e r ih =>
  obtain⟨a,v⟩:=e
  rw [eO]
  by_cases c:a∈ks
  ·rw [aw (by simpa using c),ih]
   by_cases d:k∈ks
   ·rw [bx d,bx d]
   ·have hne:k≠a:=fun q=>d (q▸c)
    rw [aw d,aw d,kl,lr hne]
  ·rw [bx (by simpa using c),kl,kl,ih]
   by_cases d:k=a
   ·subst d;rw [qj];exact(aw c).symm
   ·rw [lr d]
theorem vF {es:List (Key × V)} {ks:List Key} {k:Key}:delD (wq es ks) k=wq es (ks++[k]):=by
 unfold delD wq
 rw [List.filter_filter]
 refine List.filter_congr fun e _=>?_
 by_cases c:e.1=k
 ·simp [c]
 ·by_cases d:e.1∈ks
  ·simp [c,d]
  ·simp [c,d]
theorem vE {es:List (Key × V)}:wq es []=es:=List.filter_eq_self.mpr fun _ _=>rfl
theorem A6 {ks:List Key} {G:St→Prop} {es:List (Key × V)} {d dx:Nat} {ρ:Fr} {σ:St} {k:Fr→St→Prop} (hd:σ.D d=some es) (rd:ρ dx=some (.dct d)) (h4:dx≠4) (nd:ks.Nodup) (hin:∀ k∈ks,(es.lookup k).isSome=true) (hG:∀ σ' es',DV σ σ' d es'→σ'.Z=σ.Z∨σ'.Z=clr σ.Z d→G σ')
  (h:∀ ρ' σ',(∀ m,m≠4→ρ' m=ρ m)→DV σ σ' d (wq es ks)→k ρ' σ') :
  mX (ks.map Key.v) G (fun v ρ σ kk=>lq (.var 4) v σ ρ fun ρ=>fy C (.cons (.delD (.loc dx) (.loc 4)) .nil) ρ σ (sq kk K)) ρ σ k:=by
 refine rj (fun i ρ' σ'=>(∀ m,m≠4→ρ' m=ρ m)∧DV σ σ' d (wq es (ks.take i))∧(σ'.Z=σ.Z∨σ'.Z=clr σ.Z d)) ?_ ?_ ⟨fun _ _=>rfl,⟨rfl,rfl,rfl,fun _ _=>rfl,hd.trans (by rw [List.take_zero,vE])⟩,.inl rfl⟩
 ·rintro i v ρ' σ' hv ⟨hr,B,hZ⟩
  refine⟨hG _ _ B hZ,fun kk hk=>?_⟩
  rw [az] at hv
  obtain⟨y,hy,rfl⟩:=omap hv
  obtain⟨hlt,rfl⟩:=cj.mp hy
  have hnot:ks[i]∉ks.take i:=fun q=>by
   obtain⟨j,hj,e⟩:=gf.mp q
   rw [pn] at e
   have hj':j<i:=by rw [dt] at hj;(exact gr .C .b .U .M hj (Ar.iw _ _).1)
   have:=(List.getElem_inj nd).mp e
   (exact gn .ff [[0,1,-1]] .C .B hj' this)
  refine⟨.dct d,(dq h4).trans ((hr _ h4).trans rd),ks[i].v,bg _ _ _,_,ks[i],B.at_,oS _,?_,?_⟩
  ·rw [vq,aw hnot];exact hin _ (km hlt)
  ·refine hk _ _ ⟨fun m hm=>(dq hm).trans (hr m hm),?_,.inr ?_⟩
   ·rw [mn hlt,← vF]
    exact⟨B.L,B.S,B.I,fun a ha=>(dq ha).trans (B.D a ha),bg _ _ _⟩
   ·show clr σ'.Z d=clr σ.Z d
    rcases hZ with e | e
    ·rw [e]
    ·rw [e];funext a
     unfold clr
     split<;>rfl
 ·rintro ρ' σ' ⟨hr,B,hZ⟩
  refine⟨hG _ _ B hZ,?_⟩
  rw [au,uk] at B
  exact h ρ' σ' hr B
end
end MP
end
section
namespace MP
open PySem
theorem yS {α:Type} [DecidableEq α] {ks ks':List α} (nd:ks.Nodup) (hm:∀ k,k∈ks'↔k∈ks) (hl:ks'.length=ks.length):ks'.Nodup:=by
 refine qq.mpr fun i j hi hj hij e=>?_
 have hs:ks ⊆ ks'.eraseIdx j:=fun x hx=>by
  obtain⟨m,hm1,hm2⟩:=gf.mp ((hm x).mpr hx)
  refine List.mem_eraseIdx_iff_getElem.mpr ?_
  by_cases c:m=j
  ·subst c;exact⟨i,hi,fj hij,e.trans hm2⟩
  ·exact⟨m,hm1,c,hm2⟩
 have h1:=nd.length_le_of_subset hs
 rw [List.length_eraseIdx_of_lt hj] at h1
 (exact qc .ff .y .B .aP (.e .Q .A) hl h1 (aa (bh .R .a .a7 hj)))
structure Tb (σ:St) (db:Addr) (bs:List Key) (gone:Key→Bool) (es:List (Key × V)):Prop where
 D:σ.D db=some es
 nd:(es.map (·.1)).Nodup
 sub:∀ k∈es.map (·.1),k∈bs
 len:es.length≤bs.length
 out:∀ k,gone k=true→es.lookup k=none
 here:∀ k,gone k=false→(es.lookup k=none∧posOf k bs=[])∨∃ c,es.lookup k=some (.lst c)∧σ.L c=some (zo k bs)
theorem Tb.tabAt {σ:St} {db:Addr} {bs:List Key} {gone:Key→Bool} {es:List (Key × V)} (h:Tb σ db bs gone es):TabAt σ db bs gone:=⟨es,h.D,h.out,h.here⟩
theorem Tb.move {σ σ':St} {db:Addr} {bs:List Key} {gone:Key→Bool} {es:List (Key × V)} (h:Tb σ db bs gone es) (hD:σ'.D db=σ.D db) (hL:∀ a xs,σ.L a=some xs→σ'.L a=some xs):Tb σ' db bs gone es :=
 ⟨hD.trans h.D,h.nd,h.sub,h.len,h.out,fun k hk=>(h.here k hk).imp_right fun q=>by obtain⟨c,e1,e2⟩:=q;exact⟨c,e1,hL _ _ e2⟩⟩
theorem mP {es:List (Key × V)} {k:Key}:k∈es.map (·.1)↔(es.lookup k).isSome=true:=by
 rw [← cT,List.any_eq_true]
 refine⟨fun h=>?_,fun h=>?_⟩
 ·obtain⟨e,h1,h2⟩:=bw.mp h
  exact⟨e,h1,by rw [h2];exact qj k⟩
 ·obtain⟨e,h1,h2⟩:=h
  exact bw.mpr ⟨e,h1,eq_of_beq h2⟩
theorem Tb.wq {σ σ':St} {db:Addr} {bs:List Key} {gone p:Key→Bool} {es:List (Key × V)} {ks:List Key} (h:Tb σ db bs gone es) (B:DV σ σ' db (MP.wq es ks)) (hk:∀ k,k∈ks↔k∈es.map (·.1)∧p k=true):Tb σ' db bs (fun k=>gone k||p k) (MP.wq es ks):=by
 refine⟨B.at_,?_,fun k q=>?_,gj (ku _ _) h.len,fun k q=>?_,fun k q=>?_⟩
 ·exact(List.filter_sublist.map _).nodup h.nd
 ·obtain⟨e,h1,rfl⟩:=bw.mp q
  exact h.sub _ (bw.mpr ⟨e,(gI.mp h1).1,rfl⟩)
 ·rw [vq]
  split
  ·rfl
  ·rename_i n
   rcases (lz ..).mp q with q | q
   ·exact h.out k q
   ·cases hq:es.lookup k with
    | none=>rfl
    | some w=>exact absurd ((hk k).mpr ⟨mP.mpr (by rw [hq];rfl),q⟩) n
 ·obtain⟨q1,q2⟩:=Bool.or_eq_false_iff.mp q
  have n:k∉ks:=fun m=>by rw [((hk k).mp m).2] at q2;cases q2
  rw [vq,aw n,B.L]
  exact h.here k q1
theorem B2J.tb {σ₀ σ:St} {db:Addr} {bs:List Key} (h:B2J σ₀ σ db bs):∃ es,Tb σ db bs (fun _=>false) es:=by
 obtain⟨es,h1,hl,h2,h3,_⟩:=h.tab
 obtain⟨k1,k2⟩:=h.keys es h1
 refine⟨es,h1,k1,k2,hl,fun k e=>Bool.noConfusion e,fun k _=>?_⟩
 cases hk:es.lookup k with
 | none=>exact .inl ⟨rfl,h2 k hk⟩
 | some w =>
  obtain⟨c,rfl,e,_⟩:=h3 k w hk
  exact .inr ⟨c,rfl,e⟩
noncomputable def ph (p:Int→Bool):Key→Bool
 | .int y=>p y
 | .str _=>false
theorem zM {es:List (Key × V)} {ys:List Int} (h:∀ k∈es.map (·.1),k∈ys.map Key.int):∃ ks:List Int,es.map (·.1)=ks.map Key.int:=by
 generalize es.map (·.1)=l at h
 induction l with
 | nil=>exact⟨[],rfl⟩
 | cons k l ih =>
  obtain⟨ks,e⟩:=ih fun k hk=>h k (.tail _ hk)
  obtain⟨y,_,rfl⟩:=bw.mp (h k (.head _))
  exact⟨y::ks,by rw [e];rfl⟩
theorem vK {ks:List Int} (h:(ks.map Key.int).Nodup):ks.Nodup:=(List.pairwise_map.mp h).imp fun n e=>n (bu Key.int e)
theorem vG {ks:List Int} (h:ks.Nodup):(ks.map Key.int).Nodup:=List.pairwise_map.mpr (h.imp fun n e=>n (Key.int.inj e))
section
variable {C:Cal} {K:Fl→Fr→St→Prop}
structure H9 (σ σ':St) (db s:Addr) (bs:List Key) (gone p:Key→Bool) (es:List (Key × V)):Prop where
 L:σ'.L=σ.L
 I:σ'.I=σ.I
 S:∀ a,a≠s→σ'.S a=σ.S a
 D:∀ a,a≠db→σ'.D a=σ.D a
 tb:∃ es',Tb σ' db bs (fun k=>gone k||p k) es'
 at_:∃ js,σ'.S s=some js∧∀ k,k∈js↔k∈es.map (·.1)∧p k=true
theorem ED {c:Ex} {sx s db:Nat} {t:Tg} {it:It} {ys:List Int} {gone:Key→Bool} {es:List (Key × V)} {p:Int→Bool} {ρ:Fr} {σ:St} {ss:jt} (Inv:Fr→Prop) (val:Key × V→V) (hsx:sx≠4) (inv4:∀ ρ ρ',(∀ m,m≠4→ρ' m=ρ m)→Inv ρ→Inv ρ') (inv2:∀ ρ,Inv ρ→ρ 2=some (.dct db)∧ρ sx=some (.set s))
  (hz:ys.length<4000) (T:Tb σ db (ys.map Key.int) gone es) (hS:σ.S s=some []) (hsd:s≠db) (hI:Inv ρ)
  (hit:∀ K:List V→(St→Prop)→St→Prop,(∀ o,K (es.map val) (fun τ=>τ.Z db=some o) (σ.zm db o))→nW C it ρ σ K)
  (bind:∀ (e:Key × V) (y:Int) (ρ:Fr) (σ':St) (K:Fr→Prop),e∈es→e.1=.int y→Inv ρ→σ'.L=σ.L→(∀ ρ',Inv ρ'→ρ' 4=some (.int y)→(∀ Q:Bool→St→Prop,Q (p y) σ'→wpT C c ρ' σ' Q)→K ρ')→lq t (val e) σ' ρ K)
  (h:∀ ρ' σ',Inv ρ'→H9 σ σ' db s (ys.map Key.int) gone (ph p) es→fy C ss ρ' σ' K) :
  fy C (.cons (.each t it (.cons (.cond c (.cons (.expr (.bm .add (.loc sx) (.cons (.loc 4) .nil))) .nil) .nil) .nil)) (.cons (.each (.var 4) (.seq (.loc sx)) (.cons (.delD (.loc 2) (.loc 4)) .nil)) ss)) ρ σ K:=by
 obtain⟨ks,hks⟩:=zM T.sub
 have ndk:ks.Nodup:=vK (hks▸T.nd)
 have hlen:es.length=ks.length:=by have:=bu List.length hks;simpa using this
 have hle:ks.length<4000:=by have:=T.len;rw [au] at this;(exact qc (.l .A (.n 4000)) .q (.l .B (.n 4000)) .bU .M hz hlen this)
 refine hit _ fun o=>?_
 refine AV (σ:=σ.zm db o) (p:=p) (ks:=ks) (s:=s) (sx:=sx) Inv ndk (by rw [au];exact hlen) hle hI hS (fun σ' js B hZ=>?_) (fun i v y ρ' σ' js K' hv hy hi B kk=>?_) fun ρ' σ' hi B=>?_
 ·rcases hZ with e | e
  ·rw [e];exact bg _ _ _
  ·rw [e,AD (xm hsd)];exact bg _ _ _
 ·rw [az] at hv
  obtain⟨e,he,rfl⟩:=omap hv
  have e1:e.1=.int y:=by
   have:(es.map (·.1))[i]?=some (.int y):=by rw [hks,az,hy];rfl
   rw [az,he] at this
   exact ae this
  exact bind e y ρ' σ' K' (cq he) e1 hi B.L fun ρ2 i2 r4 hc=>kk ρ2 i2 r4 (inv2 _ i2).2 hc
 ·obtain⟨r2,rs⟩:=inv2 _ hi
  refine⟨_,rs,_,B.at_,fun o2 ks' hm hl=>?_⟩
  have ndj:((ks.filter p).map Key.int).Nodup:=vG (ndk.sublist List.filter_sublist)
  have nd':=yS ndj hm hl
  have hmem:∀ k,k∈ks'↔k∈es.map (·.1)∧ph p k=true:=fun k=>by
   rw [hm k,hks]
   refine⟨fun q=>?_,fun q=>?_⟩
   ·obtain⟨y,h1,rfl⟩:=bw.mp q
    obtain⟨h2,h3⟩:=gI.mp h1
    exact⟨bw.mpr ⟨y,h2,rfl⟩,h3⟩
   ·obtain⟨h1,h3⟩:=q
    obtain⟨y,h2,rfl⟩:=bw.mp h1
    exact bw.mpr ⟨y,gI.mpr ⟨h2,h3⟩,rfl⟩
  have hD:(σ'.zm s o2).D db=some es:=(ew B.D db).trans T.D
  refine A6 (σ:=σ'.zm s o2) hD r2 (by decide) nd' (fun k hk=>mP.mp ((hmem k).mp hk).1) (fun σ2 es2 B2 hZ=>?_) fun ρ2 σ2 hr B2=>?_
  ·rcases hZ with e | e
   ·rw [e];exact bg _ _ _
   ·rw [e,AD hsd];exact bg _ _ _
  ·refine h ρ2 σ2 (inv4 _ _ hr hi) ?_
   have T2:Tb (σ'.zm s o2) db (ys.map Key.int) gone es:=T.move (ew B.D db) fun a xs e=>(ew B.L a).trans e
   exact⟨B2.L.trans B.L,B2.I.trans B.I,fun a ha=>(ew B2.S a).trans (B.S a ha),fun a ha=>(B2.D a ha).trans (ew B.D a),⟨_,T2.wq B2 hmem⟩,_,(ew B2.S s).trans B.at_,fun k=>(hm k).symm.trans (hmem k)⟩
end
end MP
end
section
namespace MP
open PySem
namespace SM
noncomputable def jU (C:Cal) (vj:V) (jk:Int→Bool):Prop:=(vj=.none∧∀ y,jk y=false)∨∃ k cs,vj=.clo k cs∧∀ (y:Int) (σ:St) (Q:V→St→Prop),(∀ i:Int,(i != 0)=jk y→Q (.int i) σ)→C (1000+k) (.int y::cs) σ Q
noncomputable def eV (ys:List Int) (y:Int):Bool:=decide (200≤ys.length)&&decide (ys.length/100+1<(posOf (.int y) (ys.map Key.int)).length)
structure nP (σ σ':St) (x d:Addr) (f:Nat→Option V) (ys:List Int) (jk:Int→Bool) (db sj:Addr) (js:List Key):Prop where
 L:∀ a xs,σ.L a=some xs→σ'.L a=some xs
 I:∃ f',σ'.I x=some (d,f')∧f' 1=f 1∧f' 2=f 2∧f' 7=some (.dct db)∧f' 8=some (.set sj)
 D:TabAt σ' db (ys.map Key.int) fun k=>ph jk k||ph (eV ys) k
 S:σ'.S sj=some js
 J:∀ y∈ys,Key.int y∈js↔jk y=true
structure Mid (σ₀:St) (x d lb db sj:Addr) (f:Nat→Option V) (ys:List Int) (jk:Int→Bool) (ρ:Fr) (σ:St) (js:List Key) (es:List (Key × V)):Prop where
 r0:ρ 0=some (.obj x)
 r1:ρ 1=some (.lst lb)
 r2:ρ 2=some (.dct db)
 I:σ.I x=some (d,upd (upd f 7 (.dct db)) 8 (.set sj))
 L:∀ a xs,σ₀.L a=some xs→σ.L a=some xs
 S:σ.S sj=some js
 J:∀ y∈ys,Key.int y∈js↔jk y=true
 T:Tb σ db (ys.map Key.int) (ph jk) es
noncomputable def sW:jt:=(.cons (.assign [(.attr (.loc 0) 9),(.var 8)] (.bf .set .nil))
 (.cons (.assign [(.var 9)] (.bf .len (.cons (.loc 1) .nil)))
 (.cons (.cond (.and (.attr (.loc 0) 3) (.cmp .ge (.loc 9) (.int 200))) (.cons (.assign [(.var 10)] (.bin .add (.bin .fdiv (.loc 9) (.int 100)) (.int 1)))
 (.cons (.each (.tup [4,11]) (.items (.loc 2)) (.cons (.cond (.cmp .gt (.bf .len (.cons (.loc 11) .nil)) (.loc 10)) (.cons (.expr (.bm .add (.loc 8) (.cons (.loc 4) .nil)))
 .nil) .nil)
 .nil))
 (.cons (.each (.var 4) (.seq (.loc 8)) (.cons (.delD (.loc 2) (.loc 4))
 .nil))
 .nil))) .nil)
 .nil)))
theorem lookup_mem {es:List (Key × V)} (nd:(es.map (·.1)).Nodup) {k:Key} {v:V} (h:(k,v)∈es):es.lookup k=some v:=by
 induction es with
 | nil=>cases h
 | cons e r ih =>
  obtain⟨a,b⟩:=e
  rw [gp,List.nodup_cons] at nd
  rw [kl]
  rcases cu.mp h with e | h
  ·cases e;rw [qj]
  ·have:k≠a:=fun q=>nd.1 (q▸bw.mpr ⟨_,h,rfl⟩)
   rw [lr this];exact ih nd.2 h
theorem sV {C:Cal} {σ₀ σ:St} {x d lb db sj:Addr} {f:Nat→Option V} {ys:List Int} {jk:Int→Bool} {ρ:Fr} {js:List Key} {es:List (Key × V)} {Q:V→St→Prop} (M:Mid σ₀ x d lb db sj f ys jk ρ σ js es) (hf3:f 3=some (.bool true)) (hL:σ₀.L lb=some (ys.map V.int)) (hz:ys.length<4000)
  (h:∀ σ',nP σ₀ σ' x d f ys jk db sj js→Q .none σ'):fy C sW ρ σ (dH Q):=by
 have r0:=M.r0;have r1:=M.r1;have r2:=M.r2;have I:=M.I;have T:=M.T;have S:=M.S
 have Lb:=M.L _ _ hL
 intro s2 hs2 hs2d
 refine⟨.obj x,r0,x,d,_,rfl,I,?_⟩
 have hne:sj≠s2:=fun e=>by rw [e,hs2] at S;cases S
 have hnd:s2≠db:=fun e=>by
  have:=T.D
  rw [← e,hs2d] at this;cases this
 generalize hσ1:(σ.dG s2 []).ju x d (upd (upd (upd f 7 (.dct db)) 8 (.set sj)) 9 (.set s2))=σ1
 have L1:σ1.L=σ.L:=by rw [← hσ1];rfl
 have D1:σ1.D=σ.D:=by rw [← hσ1];rfl
 have I1:σ1.I x=some (d,upd (upd (upd f 7 (.dct db)) 8 (.set sj)) 9 (.set s2)):=by rw [← hσ1];exact oa
 have S1:σ1.S=upd σ.S s2 []:=by rw [← hσ1];rfl
 have Sj:σ1.S sj=some js:=by rw [S1,dq hne];exact S
 have T1:Tb σ1 db (ys.map Key.int) (ph jk) es:=T.move (ew D1 db) fun a xs e=>(ew L1 a).trans e
 have fin:∀ σ',σ'.L=σ1.L→σ'.I=σ1.I→σ'.S sj=some js→(∃ es',Tb σ' db (ys.map Key.int) (fun k=>ph jk k||ph (eV ys) k) es')→Q .none σ':=fun σ' hL' hI' hS' hT'=>by
  obtain⟨es',T'⟩:=hT'
  exact h σ' ⟨fun a xs e=>by rw [hL',L1];exact M.L _ _ e,⟨upd (upd (upd f 7 (.dct db)) 8 (.set sj)) 9 (.set s2),by rw [hI'];exact I1,rfl,rfl,rfl,rfl⟩,T'.tabAt,hS',M.J⟩
 refine⟨.lst lb,r1,_,(ew L1 lb).trans Lb,?_⟩
 refine⟨.obj x,r0,x,d,_,.bool true,rfl,I1,hf3,?_⟩
 show wpT C (.cmp .ge (.loc 9) (.int 200)) (upd (upd ρ 8 (.set s2)) 9 (.int (ys.map V.int).length)) σ1 _
 refine⟨_,rfl,?_⟩
 rw [au]
 show if decide ((200:Int)≤(ys.length:Nat))=true then _ else _
 by_cases c:200≤ys.length
 ·rw [cm (by(exact gv (.ik (.n 200) .L) .a (.k (.n 200) .A) c):(200:Int)≤(ys.length:Nat)),bx rfl]
  refine⟨_,rfl,(by decide:(100:Int)≠0),by decide,?_⟩
  have e100:((ys.length:Nat):Int).fdiv 100+1=((ys.length/100+1:Nat):Int):=by
   rw [yv _ (by decide)];(exact EW .aI [[100,0,1,-1,0,1],[100,1,0,1,1,-1]] (.ik .O .B) (.il .B (.n 100)) (.ie (.a (.m 100 .A) .B) .P) (.l .C (.n 100)) (.e (.a (.m 100 .A) .C) .B) (Ar.imod _ 100 (by decide)).1 (Ar.imod _ 100 (by decide)).2.1 (Ar.imod _ 100 (by decide)).2.2 (Ar.mH _ 100 (by decide)).1 (Ar.mH _ 100 (by decide)).2)
  show fy C _ (upd _ 10 (.int (((ys.length:Nat):Int).fdiv 100+1))) σ1 _
  rw [e100]
  refine ED (σ:=σ1) (s:=s2) (db:=db) (p:=eV ys) (fun ρ=>ρ 2=some (.dct db)∧ρ 8=some (.set s2)∧ρ 10=some (.int (ys.length/100+1:Nat))) (fun e=>.tup [e.1.v,e.2]) (by decide) (fun ρ ρ' hr hi=>⟨(hr 2 (by decide)).trans hi.1,(hr 8 (by decide)).trans hi.2.1,(hr 10 (by decide)).trans hi.2.2⟩) (fun ρ hi=>⟨hi.1,hi.2.1⟩) hz T1 (by rw [S1];exact bg _ _ _) hnd ⟨r2,rfl,rfl⟩ (fun K' kk=>⟨_,r2,es,T1.D,kk⟩) (fun e y ρ' σ' K' he hy hi hL' kk=>?_) fun ρ' σ' hi V=>?_
  ·refine⟨_,rfl,rfl,?_⟩
   obtain⟨i2,i8,i10⟩:=hi
   rw [hy]
   refine kk _ ⟨i2,i8,i10⟩ rfl fun Q' q=>?_
   obtain⟨es1,v1⟩:=e
   obtain rfl:es1=.int y:=hy
   have hin:=T1.nd
   have hl:es.lookup (.int y)=some v1:=lookup_mem T1.nd he
   have hg:ph jk (.int y)=false:=by
    cases hq:ph jk (.int y) with
    | false=>rfl
    | true=>rw [T1.out _ hq] at hl;cases hl
   rcases T1.here _ hg with ⟨q1,_⟩ | ⟨cc,q1,q2⟩
   ·rw [hl] at q1;cases q1
   ·rw [hl] at q1
    obtain rfl:=ae q1
    refine⟨_,rfl,_,(ew hL' cc).trans q2,_,i10,?_⟩
    have e:decide (((ys.length/100+1:Nat):Int)<((zo (.int y) (ys.map Key.int)).length:Nat))=eV ys y:=by
     unfold eV
     rw [cm c,cW]
     have:(zo (.int y) (ys.map Key.int)).length=(posOf (.int y) (ys.map Key.int)).length:=au ..
     rw [this]
     exact decide_eq_decide.mpr (by exact⟨fun q1=>(bh (.l .M .B) .a (.il (.t .M) .P) q1),fun q1=>(bh (.il (.t .M) .P) .a (.l .M .B) q1)⟩)
    show Q' (decide _) σ'
    rw [e];exact q
  ·refine(fin σ' V.L V.I ((V.S sj hne).trans Sj) V.tb)
 ·rw [cn (by(exact gv (.ij (.n 200) .L) .a (.j (.n 200) .A) c):¬ (200:Int)≤(ys.length:Nat)),aw (by decide)]
  have hp:ph (eV ys)=fun _=>false:=by
   funext k
   cases k with
   | int y=>show eV ys y=false;unfold eV;rw [cn c];rfl
   | str s=>rfl
  refine(fin σ1 rfl rfl Sj ⟨es,?_⟩)
  rw [hp]
  have:(fun k=>ph jk k||false)=ph jk:=funext fun k=>cX _
  rw [this];exact T1
end SM
end MP
end
section
namespace MP
open PySem
namespace SM
noncomputable def zF:jt:=(.cons (.assign [(.var 7)] (.attr (.loc 0) 0))
 (.cons (.cond (.loc 7) (.cons (.each (.var 4) (.keys (.loc 2)) (.cons (.cond (.callv 7 (.cons (.loc 4) .nil)) (.cons (.expr (.bm .add (.loc 6) (.cons (.loc 4) .nil)))
 .nil) .nil)
 .nil))
 (.cons (.each (.var 4) (.seq (.loc 6)) (.cons (.delD (.loc 2) (.loc 4))
 .nil))
 .nil)) .nil)
 sW))
theorem GL {C:Cal} {σ₀ σ:St} {x d lb db sj:Addr} {f:Nat→Option V} {ys:List Int} {jk:Int→Bool} {ρ:Fr} {es:List (Key × V)} {vj:V} {Q:V→St→Prop} (r0:ρ 0=some (.obj x)) (r1:ρ 1=some (.lst lb)) (r2:ρ 2=some (.dct db)) (r6:ρ 6=some (.set sj)) (I:σ.I x=some (d,upd (upd f 7 (.dct db)) 8 (.set sj))) (L:∀ a xs,σ₀.L a=some xs→σ.L a=some xs) (S:σ.S sj=some []) (T:Tb σ db (ys.map Key.int) (fun _=>false) es)
  (hsd:sj≠db) (hf0:f 0=some vj) (hf3:f 3=some (.bool true)) (hL:σ₀.L lb=some (ys.map V.int)) (hz:ys.length<4000) (hJ:jU C vj jk)
  (h:∀ σ' js,nP σ₀ σ' x d f ys jk db sj js→Q .none σ'):fy C zF ρ σ (dH Q):=by
 refine⟨.obj x,r0,x,d,_,vj,rfl,I,hf0,?_⟩
 have inB:∀ y∈ys,Key.int y∈es.map (·.1):=fun y hy=>by
  rw [mP]
  rcases T.here (.int y) rfl with ⟨q1,q2⟩ | ⟨c,q1,_⟩
  ·obtain⟨j,hj,e⟩:=gf.mp hy
   have:j∈posOf (.int y) (ys.map Key.int):=kT.mpr (by rw [az,bc hj,e];rfl)
   rw [q2] at this;cases this
  ·rw [q1];rfl
 refine⟨vj,bg _ _ _,?_⟩
 rcases hJ with ⟨rfl,hno⟩ | ⟨k,cs,rfl,hyes⟩
 ·have e:ph jk=fun _=>false:=by
   funext q
   cases q with
   | int y=>exact hno y
   | str s=>rfl
  exact sV (js:=[]) ⟨r0,r1,r2,I,L,S,fun y hy=>⟨fun q=>(nomatch q),fun q=>by rw [hno y] at q;cases q⟩,by rw [e];exact T⟩ hf3 hL hz fun σ' hc=>h σ' [] hc
 ·show fy C _ (upd ρ 7 (.clo k cs)) σ _
  refine ED (σ:=σ) (s:=sj) (db:=db) (p:=jk) (gone:=fun _=>false) (es:=es) (fun ρ=>ρ 0=some (.obj x)∧ρ 1=some (.lst lb)∧ρ 2=some (.dct db)∧ρ 6=some (.set sj)∧ρ 7=some (.clo k cs)) (fun e=>e.1.v) (by decide) (fun ρ ρ' hr hi=>⟨(hr 0 (by decide)).trans hi.1,(hr 1 (by decide)).trans hi.2.1,(hr 2 (by decide)).trans hi.2.2.1,(hr 6 (by decide)).trans hi.2.2.2.1,(hr 7 (by decide)).trans hi.2.2.2.2⟩) (fun ρ hi=>⟨hi.2.2.1,hi.2.2.2.1⟩) hz T S hsd ⟨r0,r1,r2,r6,rfl⟩ (fun K' kk=>⟨_,r2,es,T.D,kk⟩) (fun e y ρ' σ' K' he hy hi hL' kk=>?_) fun ρ' σ' hi V=>?_
  ·obtain⟨i0,i1,i2,i6,i7⟩:=hi
   rw [hy]
   refine kk _ ⟨i0,i1,i2,i6,i7⟩ rfl fun Q' q=>?_
   refine⟨_,i7,_,rfl,?_⟩
   refine hyes y σ' _ fun i hi=>?_
   show Q' (i != 0) σ'
   rw [hi];exact q
  ·obtain⟨i0,i1,i2,i6,i7⟩:=hi
   obtain⟨es',T'⟩:=V.tb
   obtain⟨js,hS',hm⟩:=V.at_
   have e:(fun k=>false||ph jk k)=ph jk:=funext fun k=>Bool.false_or _
   rw [e] at T'
   refine sV (js:=js) ⟨i0,i1,i2,by rw [V.I];exact I,fun a xs q=>by rw [V.L];exact L a xs q,hS',fun y hy=>?_,T'⟩ hf3 hL hz fun σ' hc=>h σ' js hc
   rw [hm]
   exact⟨fun q=>q.2,fun q=>⟨inB y hy,q⟩⟩
theorem AH {P:Nat→Option Fn} (hP:P 4=some R2.fn4) {n:Nat} {x d lb:Addr} {f:Nat→Option V} {ys:List Int} {σ:St} {vj:V} {jk:Int→Bool} {Q:V→St→Prop} (hI:σ.I x=some (d,f)) (hf0:f 0=some vj) (hf2:f 2=some (.lst lb)) (hf3:f 3=some (.bool true)) (hL:σ.L lb=some (ys.map V.int)) (hz:ys.length<4000)
  (hJ:jU (gy P n) vj jk) (h:∀ σ' db sj js,nP σ σ' x d f ys jk db sj js→Q .none σ'):gy P (n+1) 4 [.obj x] σ Q:=by
 refine⟨R2.fn4,hP,by simp [R2.fn4],by simp [R2.fn4],?_⟩
 have h0:frameOf R2.fn4 [.obj x] 0=some (.obj x):=rfl
 generalize frameOf R2.fn4 [.obj x]=ρ at h0
 have hL':σ.L lb=some ((ys.map Key.int).map Key.v):=by rw [hL,xq];rfl
 refine⟨.obj x,h0,x,d,f,.lst lb,rfl,hI,hf2,?_⟩
 refine fun db hdb=>⟨.obj x,h0,x,d,f,rfl,hI,?_⟩
 refine⟨.lst lb,rfl,lb,(ys.map Key.int).map Key.v,rfl,hL',?_⟩
 generalize hbs:ys.map Key.int=bs at hL'
 have hzb:bs.length<4000:=by rw [← hbs,au];exact hz
 refine rj (fun i ρ' σ'=>ρ' 0=some (.obj x)∧ρ' 1=some (.lst lb)∧ρ' 2=some (.dct db)∧B2J (σ.ju x d (upd f 7 (.dct db))) σ' db (bs.take i)) ?_ ?_ ?_
 ·intro i v ρ' σ' hv ⟨r0,r1,r2,hB⟩
  refine⟨hB.old lb _ hL',fun k hk=>?_⟩
  have hi:i<bs.length:=by
   have:=(cj.mp hv).1
   simpa using this
  have hv':v=.tup [.int i,bs[i].v]:=by
   rw [az,List.getElem?_zipIdx] at hv
   simp [hi] at hv
   exact hv.symm
  subst hv'
  refine⟨_,rfl,rfl,?_⟩
  refine⟨.dct db,r2,?_,bs[i].v,rfl,?_⟩
  ·obtain⟨es,hes,_⟩:=hB.tab
   show(σ'.D db).isSome=true
   rw [hes];rfl
  refine⟨by simp [aq],fun c hc=>?_⟩
  obtain⟨es,hes,hlen,c',e1,e2,hB'⟩:=hB.step hc bs[i]
  have htl:(bs.take i).length=i:=by simp;(exact(Ar.iw _ _).2.2.elim (fun q1=>(gn .B .l .A .a1 (Ar.iw _ _).1 q1)) fun q1=>(qc .B .m (.l .B .C) .A .bV hi (Ar.iw _ _).1 q1))
  have htk:bs.take i++[bs[i]]=bs.take (i+1):=(mn hi).symm
  rw [htl] at hlen hB'
  rw [htk] at hB'
  refine⟨es,bs[i],hes,oS _,by unfold aq;(exact qc .a2 .d (.l .B (.n 4000)) .aG .G hzb hi hlen),?_⟩
  rw [e1]
  refine⟨.lst c',rfl,?_,.int i,rfl,?_⟩
  ·show(St.L _ c').isSome=true
   rw [e2];rfl
  refine⟨zo bs[i] (bs.take i),e2,?_,rfl,?_⟩
  ·unfold zo posOf
   have:=ku (fun j=>decide ((bs.take i)[j]?=some bs[i])) (List.range (bs.take i).length)
   simp only [au,jv] at this ⊢
   unfold aq;(exact gR .a2 .s (.l .B (.n 4000)) .aG .bW .b3 hzb hi htl this)
  exact hk _ _ ⟨r0,r1,r2,hB'⟩
 ·intro ρ' σ' ⟨r0,r1,r2,hB⟩
  have hlen:((bs.map Key.v).zipIdx.map fun p=>V.tup [.int p.2,p.1]).length=bs.length:=by simp
  rw [hlen,uk] at hB
  refine⟨hB.old lb _ hL',?_⟩
  have hI2:σ'.I x=some (d,upd f 7 (.dct db)):=by rw [hB.I];exact oa
  intro s1 hs1 hs1d
  refine⟨.obj x,r0,x,d,_,rfl,hI2,?_⟩
  obtain⟨es,T⟩:=hB.tb
  subst hbs
  have hsd:s1≠db:=fun e=>by
   have:=T.D
   rw [← e,hs1d] at this;cases this
  refine GL (σ:=(σ'.dG s1 []).ju x d (upd (upd f 7 (.dct db)) 8 (.set s1))) (ρ:=upd ρ' 6 (.set s1)) (σ₀:=σ) (es:=es) (sj:=s1) (lb:=lb) r0 r1 r2 rfl oa (fun a xs e=>hB.old a xs e) (bg _ _ _) (T.move rfl fun a xs e=>e) hsd hf0 hf3 hL hz hJ fun σ' js hc=>h σ' db s1 js hc
 ·exact⟨h0,rfl,rfl,B2J.start⟩
end SM
end MP
end
section
namespace MP
open PySem
namespace SM
theorem IE {P:Nat→Option Fn} (hP:P 0=some fn0) {n:Nat} {x d:Addr} {vj va vb:V} {σ:St} {Q:V→St→Prop} (hI:σ.I x=some (d,fun _=>none))
  (h:gy P n 1 [.obj x,va,vb] (σ.ju x d (upd (upd (upd (upd (fun _=>none) 0 vj) 1 .none) 2 .none) 3 (.bool true))) fun v σ=>v=.none∧Q .none σ):gy P (n+1) 0 [.obj x,vj,va,vb] σ Q :=
 ⟨fn0,hP,dk rfl,dk rfl,nK (nM vj rfl rfl hI (jT .none rfl rfl (u9 (.bool true) rfl rfl (nL [va,vb] rfl (by rw [oa];rfl) rfl h))))⟩
structure Made (σ σ':St) (x la lb db sj:Addr) (xs ys:List Int) (jk:Int→Bool) (js:List Key):Prop where
 L:∀ a zs,σ.L a=some zs→σ'.L a=some zs
 M:MAt σ' x la lb db sj (xs.map Key.int) (ys.map Key.int) (fun k=>ph jk k||ph (eV ys) k) js
 J:∀ y∈ys,Key.int y∈js↔jk y=true
theorem I6 {P:Nat→Option Fn} (h0:P 0=some fn0) (h1:P 1=some fn1) (h2:P 2=some fn2) (h3:P 3=some fn3) (h4:P 4=some R2.fn4) {n:Nat} {x d la lb:Addr} {xs ys:List Int} {σ:St} {vj:V} {jk:Int→Bool} {Q:V→St→Prop} (hI:σ.I x=some (d,fun _=>none)) (hLa:σ.L la=some (xs.map V.int)) (hLb:σ.L lb=some (ys.map V.int)) (hz:ys.length<4000) (hJ:jU (gy P n) vj jk)
  (h:∀ σ' db sj js,Made σ σ' x la lb db sj xs ys jk js→Q .none σ'):gy P (n+4) 0 [.obj x,vj,.lst la,.lst lb] σ Q:=by
 refine IE h0 hI (y4 h1 (by rw [oa];rfl) (y6 h2 oa rfl ⟨rfl,by rw [oa];rfl,y5 h3 oa rfl (AH h4 oa (vj:=vj) (lb:=lb) (ys:=ys) rfl rfl rfl hLb hz hJ fun σ' db sj js hc=>⟨rfl,rfl,rfl,h σ' db sj js ?_⟩)⟩))
 obtain⟨L,⟨f',i1,i2,i3,i4,i5⟩,D,S,J⟩:=hc
 have e:∀ zs:List Int,zs.map V.int=(zs.map Key.int).map Key.v:=fun zs=>by rw [xq];rfl
 exact⟨L,⟨⟨d,f',i1,i2.trans rfl,i3.trans rfl,i4,i5⟩,(L _ _ hLa).trans (bu some (e xs)),(L _ _ hLb).trans (bu some (e ys)),D,S⟩,J⟩
end SM
end MP
end
section
namespace MP
open PySem
namespace SM
noncomputable def Jb (b y:Int):Int:=b/2^(y%8).toNat%2
theorem HB (b y:Int):Jb b y=0∨Jb b y=1:=by
 have h1:=ou (b/2^(y%8).toNat) (show(2:Int)≠0 by decide)
 have h2:=kq (b/2^(y%8).toNat) (show(0:Int)<2 by decide)
 unfold Jb
 (exact gh fun q1=>((jj (fP.mp q1).1).elim (fun q2=>(AQ .ff .e .T (.il .A .O) h1 q2)) fun q2=>((jj (fP.mp q1).2).elim (fun q3=>(AQ .ff .e .b6 (.il .A .U) q2 q3)) fun q3=>(AQ .ff .e (.il .A .W) (.il .U .A) h2 q3))))
theorem J0 {z:Int} {k:Nat} (h:k<8) (hz:z%256=0):z/2^k%2=0:=by
 match k,h with
 | 0,_=>show z/1%2=0;omega
 | 1,_=>show z/2%2=0;omega
 | 2,_=>show z/4%2=0;omega
 | 3,_=>show z/8%2=0;omega
 | 4,_=>show z/16%2=0;omega
 | 5,_=>show z/32%2=0;omega
 | 6,_=>show z/64%2=0;omega
 | 7,_=>show z/128%2=0;omega
theorem G9 (y:Int):(y%8).toNat<8∧((y%8).toNat:Int)=y%8:=by
 have h1:=ou y (show(8:Int)≠0 by decide)
 have h2:=kq y (show(0:Int)<8 by decide)
 (exact⟨((Ar.ton _).elim (fun q1=>(pk (.l .A (.n 8)) .b (.il .A (.n 8)) .W h2 q1.2)) fun q1=>(gv (.l .A (.n 8)) .a .L q1.2)),((Ar.ton _).elim (fun q1=>(jQ .W .h .W q1.2)) fun q1=>(u0 .W [[1,0,1,0],[1,1,0,1]] .T .aK .L h1 q1.1 q1.2))⟩)
theorem DT {b y:Int} (h:b%256=0):Jb b y=0:=J0 (G9 y).1 h
theorem v8 {k:Nat} (h:k<8):(0:Int)<2^k∧((2:Int)^k).natAbs<2^60:=by
 match k,h with
 | 0,_=>decide
 | 1,_=>decide
 | 2,_=>decide
 | 3,_=>decide
 | 4,_=>decide
 | 5,_=>decide
 | 6,_=>decide
 | 7,_=>decide
theorem GW {σ:St} {ρ:Fr} {e:Ex} {y:Int} (he:evV σ ρ e=some (.int y)):evV σ ρ (.bin .pow (.int 2) (.bin .mod e (.int 8)))=some (.int (2^(y%8).toNat)):=by
 obtain⟨h1,h2⟩:=G9 y
 refine zh rfl (uh he rfl (by decide)) ?_
 show lh (0≤y%8∧y%8≤1000∧(2:Int).natAbs<2^64) (V.int (2^(y%8).toNat))=_
 unfold lh
 rw [bx ⟨by exact jQ .T .a .W h2,by exact pk (.ik .A (.n 1000)) .c (.l .A (.n 8)) .W h1 h2,by decide⟩]
theorem iV {P:Nat→Option Fn} (hP:P 1000=some R2.fnL) {n:Nat} {b y:Int} {σ:St} {Q:V→St→Prop} (h:Q (.int (Jb b y)) σ):gy P (n+1) 1000 [.int y,.int b] σ Q:=by
 refine⟨R2.fnL,hP,ay 2,ay 2,?_⟩
 obtain⟨p1,p2⟩:=v8 (G9 y).1
 exact JP (.int (Jb b y)) (uh (tQ (a:=.loc 1) (x:=b) rfl (GW (e:=.loc 0) (y:=y) rfl) p1 p2) rfl (by decide)) h
theorem oQ {P:Nat→Option Fn} (hP:P 1000=some R2.fnL) {n:Nat} {b:Int}:HC (gy P (n+1)) (.clo 0 [.int b]) (Jb b):=⟨0,[.int b],rfl,fun y σ Q q=>iV hP q⟩
noncomputable def jkB (b y:Int):Bool:=Jb b y != 0
theorem GN {b y:Int}:jkB b y=true↔Jb b y=1:=by
 unfold jkB
 rcases HB b y with e | e<;>(rw [e];decide)
theorem vW {P:Nat→Option Fn} (hP:P 1000=some R2.fnL) {n:Nat} {b:Int}:jU (gy P (n+1)) (.clo 0 [.int b]) (jkB b):=.inr ⟨0,[.int b],rfl,fun y σ Q q=>iV hP (q _ rfl)⟩
theorem vX {C:Cal} {b:Int} (h:b%256=0):jU C .none (jkB b):=.inl ⟨rfl,fun y=>by unfold jkB;rw [DT h];rfl⟩
noncomputable def rh (x y:Int):List V:=if y=x then [.int y] else []
theorem sU (x:Int):∀ l:List Int,(posOf (.int x) (l.reverse.map Key.int)).length=(l.reverse.flatMap (rh x)).length
 | []=>rfl
 | y::l=>by
  rw [tn,jy,List.flatMap_append,bz,← sU x l]
  show(posOf (.int x) (l.reverse.map Key.int++[Key.int y])).length=_
  rw [vp,bz]
  have e:([y].flatMap (rh x))=rh x y:=List.flatMap_singleton ..
  rw [e]
  unfold rh
  by_cases c:y=x
  ·rw [bx c,bx (bu Key.int c)];rfl
  ·rw [aw c,aw fun q=>c (Key.int.inj q)];rfl
theorem vA (x:Int) (ys:List Int):(posOf (.int x) (ys.map Key.int)).length=(ys.flatMap (rh x)).length:=by
 have:=sU x ys.reverse
 rwa [List.reverse_reverse] at this
theorem kS (x:Int):∀ ys:List Int,(ys.flatMap (rh x)).length≤ys.length
 | []=>ay _
 | y::ys=>by
  have ih:=kS x ys
  rw [List.flatMap_cons,bz,gz]
  have:(rh x y).length≤1:=by
   unfold rh
   split
   ·exact ay _
   ·exact cf _
  (exact gr (.k .P .Q) .b .aP (.k .A .U) ih this)
noncomputable def rx (ys:List Int):Nat:=if 200≤ys.length then ys.length/100+1 else ys.length
noncomputable abbrev rmB (b:Int) (ys:List Int) (k:Key):Bool:=ph (jkB b) k||ph (eV ys) k
theorem y9 {b:Int} {ys:List Int} {x:Int}:(!rmB b ys (.int x))=(decide (Jb b x=0)&&decide ((ys.flatMap (rh x)).length≤rx ys)):=by
 have h:=kS x ys
 show(!(jkB b x||eV ys x))=_
 rw [Bool.not_or]
 have e1:(!jkB b x)=decide (Jb b x=0):=by
  unfold jkB
  rcases HB b x with e | e<;>(rw [e];decide)
 have e2:(!eV ys x)=decide ((ys.flatMap (rh x)).length≤rx ys):=by
  unfold eV rx
  rw [vA]
  by_cases c:200≤ys.length
  ·rw [cm c,bx c,cW]
   by_cases d:ys.length/100+1<(ys.flatMap (rh x)).length
   ·rw [cm d,cn (Nat.not_le.mpr d)];rfl
   ·rw [cn d,cm (jx.mp d)];rfl
  ·rw [cn c,aw c,cm h];rfl
 rw [e1,e2]
end SM
end MP
end
section
set_option tactic.hygienic true
namespace MP
noncomputable def sz (as bs:List Key) (rm:Key→Bool) (ahi bhi i j:Nat):Nat:=dW as bs (fun c=>!rm c) ahi bhi (ahi-i) i j 0
theorem pR {as bs:List Key} {rm:Key→Bool} {i j:Nat}:Alike as bs (fun c=>!rm c) i j↔hit as bs rm i j=true:=by
 rw [← ux]
 have e:(fun c=>!!rm c)=rm:=funext fun c=>Bool.not_not _
 rw [e]
theorem x9 (as bs:List Key) (rm:Key→Bool) (ahi bhi i j:Nat) (h:i≤ahi):sh (fun t=>Alike as bs (fun c=>!rm c) (i+t) (j+t)) (ahi-i) (bhi-j) (sz as bs rm ahi bhi i j):=by
 obtain⟨p,e,P⟩:=gW (as:=as) (bs:=bs) (ok:=fun c=>!rm c) (ahi:=ahi) (bhi:=bhi) (n:=ahi-i) (i:=i) (j:=j) (k:=0) (by exact dw (.k .A (.a (.a .B .O) .C)) [[1,-1]] (.e .a5 .A) (aa (bh .A .a .A h)))
 have e':sz as bs rm ahi bhi i j=p:=e.trans (jq p)
 rw [e']
 exact P
noncomputable def rv (k i j:Nat):Int × Int × Int:=(-(k:Int),(i:Int),(j:Int))
theorem CU {s t:Int × Int × Int}:jn [s.1,s.2.1,s.2.2] [t.1,t.2.1,t.2.2]=true↔s.1<t.1∨(s.1=t.1∧(s.2.1<t.2.1∨(s.2.1=t.2.1∧s.2.2<t.2.2))):=by
 unfold jn
 split
 ·rename_i e1
  unfold jn
  split
  ·rename_i e2
   unfold jn
   split
   ·rename_i e3
    exact⟨fun h=>Bool.noConfusion h,fun h=>by exact False.elim (h.elim (fun q1=>(wu .ff .p .S .D e1 q1)) fun q1=>(q1.2.elim (fun q2=>(wu .ff .p .S .D e2 q2)) fun q2=>(wu .ff .p .S .D e3 q2.2)))⟩
   ·simp only [fw];(rename_i z1;exact⟨fun q1=>(.inr ⟨(kc .S .h .S e1),(.inr ⟨(kc .S .h .S e2),(kc .D .a .D q1)⟩)⟩),fun q1=>((jj z1).elim (fun q2=>(kc .D .a .D q2)) fun q2=>(q1.elim (fun q3=>(lK .D .p (.ie .C .D) (.il .C .D) e1 q3)) fun q3=>(q3.2.elim (fun q4=>(lK .D .p (.ie .C .D) (.il .C .D) e2 q4)) fun q4=>(kc .D .a .D q4.2))))⟩)
  ·simp only [fw];(rename_i z1;exact⟨fun q1=>(.inr ⟨(kc .S .h .S e1),(.inl (kc .D .a .D q1))⟩),fun q1=>((jj z1).elim (fun q2=>(kc .D .a .D q2)) fun q2=>(q1.elim (fun q3=>(lK .D .p (.ie .C .D) (.il .C .D) e1 q3)) fun q3=>(q3.2.elim (fun q4=>(kc .D .a .D q4)) fun q4=>(wu .D .e (.il .B .A) .S q2 q4.1))))⟩)
 ·simp only [fw];(rename_i z1;exact⟨fun q1=>(.inl (kc .D .a .D q1)),fun q1=>((jj z1).elim (fun q2=>(kc .D .a .D q2)) fun q2=>(q1.elim (fun q3=>(kc .D .a .D q3)) fun q3=>(wu .D .e (.il .B .A) .S q2 q3.1)))⟩)
theorem yT {k i j k' i' j':Nat} (h:jn [(rv k' i' j').1,(rv k' i' j').2.1,(rv k' i' j').2.2] [(rv k i j).1,(rv k i j).2.1,(rv k i j).2.2]=false):k'<k∨(k'=k∧(i<i'∨(i=i'∧j≤j'))):=by
 have n:¬ (-(k':Int) < -(k:Int)∨(-(k':Int)=-(k:Int)∧((i':Int)<i∨((i':Int)=i∧(j':Int)<j)))):=fun q=>pU.mp h (CU.mpr q)
 omega
structure Runs (as bs:List Key) (rm:Key→Bool) (alo ahi blo bhi:Nat) (ts:List (Int × Int × Int)):Prop where
 only:∀ t∈ts,t=rv 0 alo blo∨∃ i j,alo≤i∧i<ahi∧blo≤j∧j<bhi∧t=rv (sz as bs rm ahi bhi i j) i j
 first:rv 0 alo blo∈ts
 all:∀ i j,alo≤i→i<ahi→blo≤j→j<bhi→rv (sz as bs rm ahi bhi i j) i j∈ts
theorem pO {as bs:List Key} {rm:Key→Bool} {alo ahi blo bhi:Nat} {ts:List (Int × Int × Int)} {t:Int × Int × Int} (R:Runs as bs rm alo ahi blo bhi ts) (ha:alo≤ahi) (hb:blo≤bhi) (ht:t∈ts) (hm:∀ u∈ts,jn [u.1,u.2.1,u.2.2] [t.1,t.2.1,t.2.2]=false):∃ i j k,t=rv k i j∧kJ as bs rm alo ahi blo bhi i j k:=by
 have go:∀ i j k,t=rv k i j→Run as bs rm alo ahi blo bhi i j k→∃ i j k,t=rv k i j∧kJ as bs rm alo ahi blo bhi i j k:=fun i j k e r=>by
  subst e
  refine⟨i,j,k,rfl,r,fun hk=>?_,fun i' j' k' hk' r'=>?_⟩
  ·have:=yT (hm _ R.first)
   have a:=r.ai
   have b:=r.bj
   (exact⟨(this.elim (fun q1=>(gr .B .f .aF .aT hk q1)) fun q1=>(q1.2.elim (fun q2=>(gn .B .r .a1 .C a q2)) fun q2=>(bh .B .h .B q2.1))),(this.elim (fun q1=>(gr .B .f .aF .aT hk q1)) fun q1=>(q1.2.elim (fun q2=>(ee .B .f .aW .aN a q2)) fun q2=>(gn .B .r .a1 .A b q2.2)))⟩)
  ·have l:=r'.ia
   have l':=r'.jb
   have a:=r'.ai
   have b:=r'.bj
   have:=yT (hm _ (R.all i' j' a (by exact gr .C .b .aT (.k .Y .B) hk' l) b (by exact gr .C .b .aT (.k .Y .B) hk' l')))
   have S:=x9 as bs rm ahi bhi i' j' (by exact dw .A .a (.k .Y .B) l)
   have hle:k'≤sz as bs rm ahi bhi i' j':=kj fun c=>S.stop (by exact ky .C .k (.k .T .F) .bM (.e .R .F) l c (aa (dw .A .a (.k .Y .B) l))) (by exact ky .C .k (.k .T .F) .bM (.e .R .F) l' c (aa (dw .A .a (.k .Y .B) l'))) (pR.mpr (r'.eq _ c))
   (exact gh fun q1=>(this.elim (fun q2=>(qc .ff .y .A (.g .A .C) (.l .B .C) hle (fP.mp q1).1 q2)) fun q2=>((mq.mp (fP.mp q1).2).elim (fun q3=>((bp q3).elim (fun q4=>(gn .ff .e .bN .C (fP.mp q1).1 q4)) fun q4=>(qc .ff .y .A (.e .B .C) (.l .C .A) hle q2.1 q4))) fun q3=>(q2.2.elim (fun q4=>(gn .ff .e .bN .C (fP.mp q3).1 q4)) fun q4=>((mq.mp (fP.mp q3).2).elim (fun q5=>((bp q5).elim (fun q6=>(gn .ff .p .B .C q4.1 q6)) fun q6=>(gn .ff .e .B .a7 q4.1 q6))) fun q5=>(gn .ff .e .A (.j .A .B) q4.2 q5))))))
 rcases R.only t ht with e | ⟨i,j,h1,h2,h3,h4,e⟩
 ·exact go alo blo 0 e ⟨ay _,ha,ay _,hb,fun t h=>absurd h (fu _)⟩
 ·have S:=x9 as bs rm ahi bhi i j (by exact bh .A .a .C h2)
  have l1:=S.le1
  have l2:=S.le2
  exact go i j _ e ⟨h1,by exact ee .Q .b .bP .X l1 (aa (bh .A .a .C h2)),h3,by exact ee .Q .b .bP .X l2 (aa (bh .A .a .C h4)),fun t h=>pR.mp (S.all t h)⟩
end MP
end
section
namespace MP
open PySem
namespace SM
structure Lc where
 al:Addr
 bl:Addr
 pl:Addr
 xs:List Int
 ys:List Int
 rm:Key→Bool
 alo:Nat
 ahi:Nat
 blo:Nat
 bhi:Nat
structure Lc.F (c:Lc) (ρ:Fr):Prop where
 r0:ρ 0=some (.lst c.al)
 r1:ρ 1=some (.lst c.bl)
 r2:ρ 2=some (.int c.alo)
 r3:ρ 3=some (.int c.ahi)
 r4:ρ 4=some (.int c.blo)
 r5:ρ 5=some (.int c.bhi)
 r6:ρ 6=some (.lst c.pl)
structure Lc.H (c:Lc) (σ:St):Prop where
 a:σ.L c.al=some (c.xs.map V.int)
 b:σ.L c.bl=some (c.ys.map V.int)
 p:σ.L c.pl=some (c.xs.map fun x=>V.bool (!c.rm (.int x)))
 ha:c.ahi≤c.xs.length
 hb:c.bhi≤c.ys.length
theorem Lc.F.up {c:Lc} {ρ:Fr} (h:c.F ρ) {n:Nat} {v:V} (hn:7≤n):c.F (upd ρ n v) :=
 have k:∀ m,Nat.blt m 7=true→upd ρ n v m=ρ m:=fun m hm=>dq (fj (cx (dk hm) hn))
 ⟨(k 0 rfl).trans h.r0,(k 1 rfl).trans h.r1,(k 2 rfl).trans h.r2,(k 3 rfl).trans h.r3,(k 4 rfl).trans h.r4,(k 5 rfl).trans h.r5,(k 6 rfl).trans h.r6⟩
theorem Lc.H.ext {c:Lc} {σ σ':St} (h:c.H σ) (k:∀ a xs,σ.L a=some xs→σ'.L a=some xs):c.H σ':=⟨k _ _ h.a,k _ _ h.b,k _ _ h.p,h.ha,h.hb⟩
noncomputable abbrev Lc.z (c:Lc) (i j:Nat):Nat:=sz (c.xs.map Key.int) (c.ys.map Key.int) c.rm c.ahi c.bhi i j
noncomputable def iE:Ex:=(.and (.cmp .lt (.bin .add (.loc 8) (.loc 10)) (.loc 3)) (.and (.cmp .lt (.bin .add (.loc 9) (.loc 10)) (.loc 5)) (.and (.sub (.loc 6) (.bin .add (.loc 8) (.loc 10))) (.cmp .eq (.sub (.loc 0) (.bin .add (.loc 8) (.loc 10))) (.sub (.loc 1) (.bin .add (.loc 9) (.loc 10)))))))
theorem nI {xs:List Int} {n:Nat} {f:Int→V} (h:n<xs.length):0≤fb (xs.map f).length (n:Int)∧(xs.map f)[(fb (xs.map f).length (n:Int)).toNat]?=some (f xs[n]):=by
 have e:fb (xs.map f).length (n:Int)=n:=by unfold fb;rw [aw (by exact ic (.ig .L .O) .i)]
 rw [e,fk,az,bc h]
 exact⟨Int.natCast_nonneg n,rfl⟩
theorem uV {C:Cal} {c:Lc} {σ:St} {ρ:Fr} (F:c.F ρ) (H:c.H σ) {i j k:Nat} (r8:ρ 8=some (.int i)) (r9:ρ 9=some (.int j)) (r10:ρ 10=some (.int k)) {Q:Bool→St→Prop}
  (ht:i+k<c.ahi→j+k<c.bhi→Alike (c.xs.map Key.int) (c.ys.map Key.int) (fun q=>!c.rm q) (i+k) (j+k)→Q true σ) (hf:¬ (i+k<c.ahi∧j+k<c.bhi∧Alike (c.xs.map Key.int) (c.ys.map Key.int) (fun q=>!c.rm q) (i+k) (j+k))→Q false σ):wpT C iE ρ σ Q:=by
 refine⟨_,r8,_,r10,_,F.r3,?_⟩
 show if decide ((i:Int)+k<c.ahi)=true then _ else _
 by_cases c1:i+k<c.ahi
 ·rw [cm (by exact dw (.il .T .Q) .a .F c1),bx rfl]
  refine⟨_,r9,_,r10,_,F.r5,?_⟩
  show if decide ((j:Int)+k<c.bhi)=true then _ else _
  by_cases c2:j+k<c.bhi
  ·rw [cm (by exact dw (.il .T .Q) .a .F c2),bx rfl]
   have hx:i+k<c.xs.length:=cx c1 H.ha
   have hy:j+k<c.ys.length:=cx c2 H.hb
   have hal:Alike (c.xs.map Key.int) (c.ys.map Key.int) (fun q=>!c.rm q) (i+k) (j+k)↔(c.rm (.int c.xs[i+k])=false∧c.xs[i+k]=c.ys[j+k]):=by
    unfold Alike
    rw [az,az,bc hx,bc hy]
    refine⟨fun h=>?_,fun h=>⟨.int c.xs[i+k],rfl,by rw [h.2];rfl,by show(!c.rm _)=true;rw [h.1];rfl⟩⟩
    obtain⟨q,h1,h2,h3⟩:=h
    have e1:=ae h1
    have e2:=ae h2
    subst e1
    exact⟨(dp _).mp h3,(Key.int.inj e2).symm⟩
   obtain⟨p1,p2⟩:=nI (f:=fun x=>V.bool (!c.rm (.int x))) hx
   obtain⟨a1,a2⟩:=nI (f:=V.int) hx
   obtain⟨b1,b2⟩:=nI (f:=V.int) hy
   refine⟨_,F.r6,_,r8,_,r10,?_⟩
   refine⟨_,_,H.p,p1,p2,?_⟩
   cases hr:c.rm (.int c.xs[i+k]) with
   | true =>
    exact hf fun q=>by rw [((hal.mp q.2.2).1)] at hr;cases hr
   | false =>
    show wpT C (.cmp .eq (.sub (.loc 0) (.bin .add (.loc 8) (.loc 10))) (.sub (.loc 1) (.bin .add (.loc 9) (.loc 10)))) ρ σ Q
    refine⟨_,F.r0,_,r8,_,r10,?_⟩
    refine⟨_,_,H.a,a1,a2,?_⟩
    refine⟨_,F.r1,_,r9,_,r10,?_⟩
    refine⟨_,_,H.b,b1,b2,?_⟩
    show Q (c.xs[i+k]==c.ys[j+k]) σ
    rw [deq]
    by_cases e:c.xs[i+k]=c.ys[j+k]
    ·rw [cm e];exact ht c1 c2 (hal.mpr ⟨hr,e⟩)
    ·rw [cn e];exact hf fun q=>e (hal.mp q.2.2).2
  ·rw [cn (by exact dw (.ig .T .Q) .a (.g .P .C) c2),aw (by decide)]
   exact hf fun q=>c2 q.2.1
 ·rw [cn (by exact dw (.ig .T .Q) .a (.g .P .C) c1),aw (by decide)]
  exact hf fun q=>c1 q.1
theorem uU {C:Cal} {c:Lc} {σ:St} {ρ:Fr} {K:Fl→Fr→St→Prop} (F:c.F ρ) (H:c.H σ) {i j:Nat} (hi:i≤c.ahi) (r8:ρ 8=some (.int i)) (r9:ρ 9=some (.int j)) (r10:ρ 10=some (.int 0))
  (h:∀ ρ',c.F ρ'→(∀ m,m≠10→ρ' m=ρ m)→ρ' 10=some (.int (c.z i j))→K .next ρ' σ):wpS C (.loop iE (.cons (.aug 10 .add (.int 1)) .nil)) ρ σ K:=by
 have S:=x9 (c.xs.map Key.int) (c.ys.map Key.int) c.rm c.ahi c.bhi i j hi
 have l1:=S.le1
 have l2:=S.le2
 refine⟨c.z i j+1,zd (fun n ρ' σ'=>σ'=σ∧c.F ρ'∧(∀ m,m≠10→ρ' m=ρ m)∧∃ k:Nat,ρ' 10=some (.int k)∧k≤c.z i j∧n=c.z i j-k) ?_ _ (c.z i j) (qk _) ⟨rfl,F,fun _ _=>rfl,0,r10,cf _,rfl⟩⟩
 rintro n ρ' σ' ⟨rfl,F',hs,k,e10,hk,rfl⟩ again hag
 refine uV F' H ((hs 8 (by decide)).trans r8) ((hs 9 (by decide)).trans r9) e10 (fun c1 c2 al=>?_) fun no=>?_
 ·have hlt:k<c.z i j:=Nat.lt_of_le_of_ne hk fun e=>by
   subst e
   exact S.stop (by exact ee .C .c (.l .a8 .D) .b1 c1 (aa (dw .A .a .bF c1))) (by exact ee .C .c (.l .a8 .D) .b1 c2 (aa (dw .A .a .bF c2))) al
  refine gO ⟨_,e10,?_⟩
  refine hag (c.z i j-(k+1)) _ _ (by exact ee .C .c (.e .a3 .D) .b1 (aa (bh .H .a .C hlt)) (aa (bh .A .a .A hk))) ⟨rfl,F'.up (by decide),fun m hm=>(dq hm).trans (hs m hm),k+1,?_,hlt,rfl⟩
  rw [bg];rfl
 ·have hkk:k=c.z i j:=Nat.le_antisymm hk (kj fun q=>no ⟨by exact ky .F .d .aU .aA .c4 l1 q (aa (bh .A .a .A hi)),by exact Ar.sub _ _ (fun q1 p1=>(ky .F .d .aU .aA .c4 l2 q p1)) fun q1 p1=>(ky .F .y .aU .aA .aY l2 q p1),S.all k q⟩)
  refine fA (h ρ' F' hs ?_)
  rw [e10,hkk]
noncomputable def A9:jt:=(.cons (.assign [(.var 10)] (.int 0))
 (.cons (.loop iE (.cons (.aug 10 .add (.int 1)) .nil))
 (.cons (.expr (.bm .append (.loc 7) (.cons (.tup (.cons (.neg (.loc 10)) (.cons (.loc 8) (.cons (.loc 9) .nil)))) .nil)))
 .nil)))
structure Lc.To (c:Lc) (i j n:Nat) (ts:List (Int × Int × Int)):Prop where
 only:∀ t∈ts,t=rv 0 c.alo c.blo∨∃ i j,c.alo≤i∧i<c.ahi∧c.blo≤j∧j<c.bhi∧t=rv (c.z i j) i j
 first:rv 0 c.alo c.blo∈ts
 all:∀ i' j',c.alo≤i'→i'<c.ahi→c.blo≤j'→j'<c.bhi→(i'<i∨(i'=i∧j'<j))→rv (c.z i' j') i' j'∈ts
 len:ts.length≤n
theorem Lc.To.next {c:Lc} {i j n:Nat} {ts:List (Int × Int × Int)} (h:c.To i j n ts) (h1:c.alo≤i) (h2:i<c.ahi) (h3:c.blo≤j) (h4:j<c.bhi):c.To i (j+1) (n+1) (ts++[rv (c.z i j) i j]):=by
 refine⟨fun t ht=>?_,ek _ h.first,fun i' j' a1 a2 a3 a4 q=>?_,?_⟩
 ·rcases gm.mp ht with ht | ht
  ·exact h.only t ht
  ·exact .inr ⟨i,j,h1,h2,h3,h4,aj.mp ht⟩
 ·by_cases e:i'=i∧j'=j
  ·obtain⟨rfl,rfl⟩:=e
   exact jh _ (.head _)
  ·exact ek _ (h.all i' j' a1 a2 a3 a4 (by exact gh fun q1=>(q.elim (fun q2=>(gn .ff .e .bN .C (fP.mp q1).1 q2)) fun q2=>((mq.mp e).elim (fun q3=>((bp q3).elim (fun q4=>(gn .ff .p .B .C q2.1 q4)) fun q4=>(gn .ff .e .B .a7 q2.1 q4))) fun q3=>((bp q3).elim (fun q4=>((mq.mp (fP.mp q1).2).elim (fun q5=>((bp q5).elim (fun q6=>(gn .ff .p .B .C q2.1 q6)) fun q6=>(gn .ff .e .B .a7 q2.1 q6))) fun q5=>(gn .ff .e .C .bN q4 q5))) fun q4=>(gn .ff .e .I .a7 q2.2 q4))))))
 ·rw [bz]
  exact Nat.add_le_add_right h.len 1
theorem GX {σ:St} {ρ:Fr} {i j k:Nat} (r8:ρ 8=some (.int i)) (r9:ρ 9=some (.int j)) (r10:ρ 10=some (.int k)):evV σ ρ (.tup (.cons (.neg (.loc 10)) (.cons (.loc 8) (.cons (.loc 9) .nil))))=some (tI (rv k i j)):=by
 have e8:evV σ ρ (.loc 8)=some (.int i):=r8
 have e9:evV σ ρ (.loc 9)=some (.int j):=r9
 have e10:evV σ ρ (.neg (.loc 10))=some (.int (-(k:Int))):=by
  show(evV σ ρ (.loc 10)).bind _=_
  rw [show evV σ ρ (.loc 10)=some (.int k) from r10];rfl
 rw [gX,cz,e10,cz,e8,cz,e9];rfl
theorem DG {C:Cal} {c:Lc} {σ₀ σ:St} {ρ:Fr} {again:Fr→St→Prop} {K:Fl→Fr→St→Prop} {rl:Addr} {ts:List (Int × Int × Int)} {i j n:Nat} (F:c.F ρ) (H:c.H σ₀) (E:Ext σ₀ σ) (hrl:σ₀.L rl=none) (r7:ρ 7=some (.lst rl)) (r8:ρ 8=some (.int i)) (hL:σ.L rl=some (ts.map tI)) (T:c.To i j n ts) (hn:n<aq) (h1:c.alo≤i) (h2:i<c.ahi) (h3:c.blo≤j) (h4:j<c.bhi)
  (h:∀ ρ' σ' ts',c.F ρ'→Ext σ₀ σ'→ρ' 7=some (.lst rl)→ρ' 8=some (.int i)→σ'.L rl=some (ts'.map tI)→c.To i (j+1) (n+1) ts'→again ρ' σ'):fy C A9 (upd ρ 9 (.int j)) σ (sq again K):=by
 refine eG (.int 0) rfl ?_
 refine uU (F:=(F.up (by decide)).up (by decide)) (H.ext E.L) (i:=i) (j:=j) (xp h2) r8 rfl rfl fun ρ' F' hs e10=>?_
 have a7:ρ' 7=some (.lst rl):=(hs 7 (by decide)).trans r7
 have a8:ρ' 8=some (.int i):=(hs 8 (by decide)).trans r8
 have a9:ρ' 9=some (.int j):=hs 9 (by decide)
 refine F7 (tI (rv (c.z i j) i j)) a7 hL (GX a8 a9 e10) (by rw [au];exact Nat.lt_of_le_of_lt T.len hn) (yk ?_)
 refine h ρ' _ (ts++[rv (c.z i j) i j]) F' (E.fg hrl) a7 a8 ?_ (T.next h1 h2 h3 h4)
 rw [jy]
 exact bg _ _ _
theorem A8 {C:Cal} {c:Lc} {σ₀ σ:St} {ρ:Fr} {again:Fr→St→Prop} {K:Fl→Fr→St→Prop} {rl:Addr} {ts:List (Int × Int × Int)} {i n:Nat} (F:c.F ρ) (H:c.H σ₀) (E:Ext σ₀ σ) (hrl:σ₀.L rl=none) (r7:ρ 7=some (.lst rl)) (hL:σ.L rl=some (ts.map tI)) (T:c.To i c.blo n ts) (hn:n+(c.bhi-c.blo)<aq) (hbh:c.bhi<aq) (hb:c.blo≤c.bhi) (h1:c.alo≤i) (h2:i<c.ahi)
  (h:∀ ρ' σ' ts',c.F ρ'→Ext σ₀ σ'→ρ' 7=some (.lst rl)→σ'.L rl=some (ts'.map tI)→c.To (i+1) c.blo (n+(c.bhi-c.blo)) ts'→again ρ' σ'):fy C (.cons (.each (.var 9) (.rng2 (.loc 4) (.loc 5)) A9) .nil) (upd ρ 8 (.int i)) σ (sq again K):=by
 have F1:c.F (upd ρ 8 (.int i)):=F.up (by decide)
 refine⟨_,F1.r4,_,F1.r5,(c.blo:Int),(c.bhi:Int),rfl,rfl,by unfold aq at hbh;(exact(Ar.nab _).elim (fun q1=>(qc .K .d (.l .B .S) .M (.ie .L .Q) hbh hb q1.2)) fun q1=>(bh .K .a .aJ q1.2)),by unfold aq at hbh;(exact(Ar.nab _).elim (fun q1=>(gn .K .b (.l .B .S) .b7 hbh q1.2)) fun q1=>(bh .K .a .aJ q1.2)),?_⟩
 refine rj (fun u ρ' σ'=>c.F ρ'∧Ext σ₀ σ'∧ρ' 7=some (.lst rl)∧ρ' 8=some (.int i)∧∃ ts':List (Int × Int × Int),σ'.L rl=some (ts'.map tI)∧c.To i (c.blo+u) (n+u) ts') ?_ ?_ ⟨F1,E,r7,rfl,ts,hL,T⟩
 ·rintro u v ρ' σ' hv ⟨F',E',a7,a8,ts',hL',T'⟩
  obtain⟨hlt,rfl⟩:=ze hv
  refine⟨trivial,fun kk hk=>?_⟩
  refine DG F' H E' hrl a7 a8 hL' T' (by exact eF .F .k (.l .a1 .C) (.l (.a .F .B) .G) (.e .a0 .G) hn hlt (aa (dw .A .a .bF hlt))) h1 h2 (eM _ _) hlt fun ρ2 σ2 ts2 F2 E2 b7 b8 hL2 T2=>hk _ _ ⟨F2,E2,b7,b8,ts2,hL2,T2⟩
 ·rintro ρ' σ' ⟨F',E',a7,a8,ts',hL',T'⟩
  rw [we] at T'
  refine⟨trivial,h ρ' σ' ts' F' E' a7 hL' ⟨T'.only,T'.first,fun i' j' q1 q2 q3 q4 q=>T'.all i' j' q1 q2 q3 q4 ?_,T'.len⟩⟩
  omega
theorem zB {P:Nat→Option Fn} (hP:P 10=some R2.mY) {n:Nat} {c:Lc} {σ:St} {Q:V→St→Prop} (H:c.H σ) (hab:c.alo≤c.ahi) (hbb:c.blo≤c.bhi) (hlid:1+(c.ahi-c.alo)*(c.bhi-c.blo)<aq) (ha:c.ahi<aq) (hb:c.bhi<aq)
  (h:∀ σ' i j k,Ext σ σ'→kJ (c.xs.map Key.int) (c.ys.map Key.int) c.rm c.alo c.ahi c.blo c.bhi i j k→Q (.tup [.int i,.int j,.int k]) σ') :
  gy P (n+1) 10 [.lst c.al,.lst c.bl,.int c.alo,.int c.ahi,.int c.blo,.int c.bhi,.lst c.pl] σ Q:=by
 refine⟨R2.mY,hP,ay 7,ay 7,?_⟩
 have F:c.F (frameOf R2.mY [.lst c.al,.lst c.bl,.int c.alo,.int c.ahi,.int c.blo,.int c.bhi,.lst c.pl]):=⟨rfl,rfl,rfl,rfl,rfl,rfl,rfl⟩
 generalize frameOf R2.mY [.lst c.al,.lst c.bl,.int c.alo,.int c.ahi,.int c.blo,.int c.bhi,.lst c.pl]=ρ at F
 refine F6 [tI (rv 0 c.alo c.blo)] ?_ (dk rfl) fun rl hrl=>?_
 ·have e2:evV σ ρ (.loc 2)=some (.int c.alo):=F.r2
  have e4:evV σ ρ (.loc 4)=some (.int c.blo):=F.r4
  rw [cz,gX,cz,cz,e2,cz,e4];rfl
 have F1:c.F (upd ρ 7 (.lst rl)):=F.up (by decide)
 refine⟨_,F1.r2,_,F1.r3,(c.alo:Int),(c.ahi:Int),rfl,rfl,by unfold aq at ha;(exact(Ar.nab _).elim (fun q1=>(qc .K .d .aP (.l .C .S) .b7 hab ha q1.2)) fun q1=>(bh .K .a .aJ q1.2)),by unfold aq at ha;(exact(Ar.nab _).elim (fun q1=>(gn .K .b (.l .B .S) .b7 ha q1.2)) fun q1=>(bh .K .a .aJ q1.2)),?_⟩
 refine rj (fun t ρ' σ'=>c.F ρ'∧Ext σ σ'∧ρ' 7=some (.lst rl)∧∃ ts':List (Int × Int × Int),σ'.L rl=some (ts'.map tI)∧c.To (c.alo+t) c.blo (1+t*(c.bhi-c.blo)) ts') ?_ ?_ ⟨F1,(Ext.refl σ).fg hrl,bg _ _ _,[rv 0 c.alo c.blo],(show upd σ.L rl [tI (rv 0 c.alo c.blo)] rl=some ([rv 0 c.alo c.blo].map tI) from bg _ _ _),fun t ht=>.inl (aj.mp ht),.head _,fun i' j' q1 q2 q3 q4 q=>by omega,by simp⟩
 ·rintro t v ρ' σ' hv ⟨F',E',a7,ts',hL',T'⟩
  obtain⟨hlt,rfl⟩:=ze hv
  refine⟨trivial,fun kk hk=>?_⟩
  have hm:(t+1)*(c.bhi-c.blo)≤(c.ahi-c.alo)*(c.bhi-c.blo):=Nat.mul_le_mul_right _ (by exact ee .H .c (.l .a8 .D) .b1 hlt (aa (dw .A .a .bF hlt)))
  have e:(t+1)*(c.bhi-c.blo)=t*(c.bhi-c.blo)+(c.bhi-c.blo):=Nat.succ_mul ..
  refine A8 F' H E' hrl a7 hL' T' (by exact ky (.l (.a (.a .U .A) .B) .C) .k (.l (.a .U .D) .C) (.k .F .D) (.e .F .P) hlid hm e) hb hbb (eM _ _) hlt fun ρ2 σ2 ts2 F2 E2 b7 hL2 T2=>hk _ _ ⟨F2,E2,b7,ts2,hL2,?_⟩
  rw [e,← Nat.add_assoc 1]
  exact T2
 ·rintro ρ' σ' ⟨F',E',a7,ts',hL',T'⟩
  rw [we] at T'
  refine⟨trivial,?_⟩
  have R:Runs (c.xs.map Key.int) (c.ys.map Key.int) c.rm c.alo c.ahi c.blo c.bhi ts':=⟨T'.only,T'.first,fun i j q1 q2 q3 q4=>T'.all i j q1 q2 q3 q4 (by exact .inl (ee (.l .A .R) .c .bM (.e .a5 .D) q2 (aa (gr .A .b .G .aG q1 q2))))⟩
  refine⟨_,a7,?_⟩
  refine⟨ts',hL',fun q=>(by have:=R.first;rw [q] at this;cases this),fun t ht hm=>?_⟩
  obtain⟨i,j,k,rfl,B⟩:=pO R hab hbb ht hm
  refine⟨_,rfl,rfl,?_⟩
  refine⟨_,rfl,_,rfl,_,rfl,_,rfl,dk rfl,?_⟩
  have:=h σ' i j k E' B
  show Q (.tup [.int (i:Int),.int (j:Int),.int (-(-(k:Int)))]) σ'
  rw [Int.neg_neg];exact this
end SM
end MP
end
section
namespace MP
open PySem
namespace SM
noncomputable def K6:jt:=(.cons (.assign [(.var 6)] (.bin .mod (.loc 6) (.bin .add (.bf .len (.cons (.loc 7) .nil)) (.int 1))))
 (.cons (.assign [(.var 9)] (.bin .mul (.lst (.cons (.int 0) .nil)) (.bin .mul (.int 25) (.bin .mod (.loc 1) (.int 9)))))
 (.cons (.assign [(.var 10)] (.slc (.loc 7) .none (.loc 6)))
 (.cons (.assign [(.var 11)] (.bin .add (.bin .add (.loc 9) (.slc (.loc 7) (.loc 6) .none)) (.loc 9)))
 HZ))))
structure Told (ρ:Fr) (b z1 z2 z3 z4 z5 z6:Int):Prop where
 r28:ρ 28=some (.int b)
 r1:ρ 1=some (.int z1)
 r2:ρ 2=some (.int z2)
 r3:ρ 3=some (.int z3)
 r4:ρ 4=some (.int z4)
 r5:ρ 5=some (.int z5)
 r6:ρ 6=some (.int z6)
theorem Told.up {ρ:Fr} {b z1 z2 z3 z4 z5 z6:Int} (h:Told ρ b z1 z2 z3 z4 z5 z6) {n:Nat} {v:V} (hn:n≠28∧7≤n):Told (upd ρ n v) b z1 z2 z3 z4 z5 z6 :=
 have k:∀ m,Nat.blt m 7=true→upd ρ n v m=ρ m:=fun m hm=>dq (fj (cx (dk hm) hn.2))
 ⟨(dq hn.1.symm).trans h.r28,(k 1 rfl).trans h.r1,(k 2 rfl).trans h.r2,(k 3 rfl).trans h.r3,(k 4 rfl).trans h.r4,(k 5 rfl).trans h.r5,(k 6 rfl).trans h.r6⟩
theorem EF {C:Cal} {ρ:Fr} {σ:St} {K:Fl→Fr→St→Prop} {b z1 z2 z3 z4 z5 z6:Int} {rs:List Int} {rl:Addr} (T:Told ρ b z1 z2 z3 z4 z5 z6) (r7:ρ 7=some (.lst rl)) (hL:σ.L rl=some (rs.map V.int)) (hr:rs.length≤56)
  (h:∀ ρ' σ' xs ys al bl ba bb alo ahi blo bhi,Pre ρ' σ' b xs ys al bl ba bb alo ahi blo bhi→K .next ρ' σ'):fy C K6 ρ σ K:=by
 obtain⟨c,ec,hc⟩:=mL (z:=z6) (n:=rs.length)
 refine eG (.int (z6%((rs.length:Nat)+1))) (uh T.r6 (ry (zg r7 hL) rfl) (by exact ic .bZ .i)) ?_
 rw [ec]
 have h9:=ou z1 (show(9:Int)≠0 by decide)
 have h9':=kq z1 (show(0:Int)<9 by decide)
 have e9:((25*(z1%9).toNat:Nat):Int)=25*(z1%9):=by(exact(Ar.ton _).elim (fun q1=>(jQ .aR [[1,-25],[1,25]] .W q1.2)) fun q1=>(u0 .aR [[1,0,25,0],[1,25,0,25]] .T .aK .L h9 q1.1 q1.2))
 refine rep0 (n:=25*(z1%9).toNat) (fun σ' _=>by
  rw [e9]
  exact GY rfl (uh (a:=.loc 1) (b:=.int 9) T.r1 rfl (by decide)) (by decide)) (by exact pk (.l (.m 25 .A) (.n 1000)) [[1,25,1]] (.il .A (.n 9)) .aR h9' e9) fun fl σ1 E1 hf1 hF1=>?_
 have hL1:=E1.L _ _ hL
 refine yb (x:=7) (zs:=rs) (i:=0) (j:=c) (vl:=.none) (vh:=.int c) r7 hL1 rfl rfl rfl rfl (cf _) hc (by unfold aq;(exact gv .a2 .a .Y hr)) fun al σ2 E2 ha2 hA2=>?_
 have hL2:=E2.L _ _ hL1
 have hF2:=E2.L _ _ hF1
 refine⟨_,rfl,?_⟩
 refine yb (x:=7) (zs:=rs) (i:=c) (j:=rs.length) (vl:=.int c) (vh:=.none) r7 hL2 rfl rfl rfl rfl hc (ay _) (by unfold aq;(exact gv .a2 .a .Y hr)) fun tl σ3 E3 ht3 hT3=>?_
 have l3:(kh rs c rs.length).length≤56:=by rw [nj (ay _)];(exact gr .Y .b .aL (.e .Y .B) hr (aa (bh .A .a .A hc)))
 have lf:(List.replicate (25*(z1%9).toNat) (0:Int)).length≤200:=by rw [gU];(exact pk (.k (.m 25 .A) (.n 200)) [[1,25,1]] (.il .A (.n 9)) .aR h9' e9)
 have hF3:=E3.L _ _ hF2
 refine fH (C:=C) hF3 hT3 (by unfold aq;(exact gn (.k .P .S) .b .aL (.k .A (.n 200)) l3 lf)) fun ml σ4 E4 hm4 hM4=>?_
 have hF4:=E4.L _ _ hF3
 refine⟨_,rfl,?_⟩
 refine fH (C:=C) hM4 hF4 (by rw [bz];unfold aq;(exact gn (.k (.a .P .A) .S) [[1,1,2]] .aL (.k .A (.n 200)) l3 lf)) fun bl σ5 E5 hb5 hB5=>?_
 have hA5:=E5.L _ _ (E4.L _ _ (E3.L _ _ hA2))
 refine HW (b:=b) (z2:=z2) (z3:=z3) (z4:=z4) (z5:=z5) (al:=al) (bl:=bl) T.r28 T.r2 T.r3 T.r4 T.r5 rfl rfl hA5 hB5 (by rw [nj hc];(exact qc .Y .d .aL .M (.e (.a .A .O) .C) hr hc (aa (ic (.k .O .A) .i)))) (by rw [bz,bz];(exact gn (.k (.a .P .A) (.n 456)) [[1,1,2]] .aL (.k .A (.n 200)) l3 lf)) fun ρ' ba bb alo ahi blo bhi hp=>h ρ' _ _ _ _ _ ba bb alo ahi blo bhi hp
theorem B7 {C:Cal} {ρ:Fr} {σ:St} {e i:Ex} {Q:V→St→Prop}:wpE C (.sub e i) ρ σ Q=wpE C e ρ σ fun v σ=>wpE C i ρ σ fun j σ=>nU v j σ fun r=>Q r σ:=rfl
theorem HS {zs:List Int} (h:zs.length=7):∃ a b c d e f g,zs=[a,b,c,d,e,f,g]:=by
 match zs,h with
 | [a,b,c,d,e,f,g],_=>exact⟨a,b,c,d,e,f,g,rfl⟩
theorem four {z:Int} {xs:List Int} (h:xs.length=4):∃ m,0≤fb (xs.map V.int).length (z.fmod 4)∧(xs.map V.int)[(fb (xs.map V.int).length (z.fmod 4)).toNat]?=some (V.int m):=by
 rw [yu _ (by decide)]
 have h1:=ou z (show(4:Int)≠0 by decide)
 have h2:=kq z (show(0:Int)<4 by decide)
 have e:z%4=((z%4).toNat:Nat):=by(exact(Ar.ton _).elim (fun q1=>(jQ (.ie .A .L) .g .W q1.2)) fun q1=>(u0 (.ie .A .L) .m .T .aK .L h1 q1.1 q1.2))
 rw [e]
 have hlt:(z%4).toNat<xs.length:=by(exact pQ .C [[1,-1,1,-1]] (.e .B (.n 4)) (.il .A (.n 4)) (.ie .A .L) h h2 e)
 obtain⟨a,b⟩:=nI (f:=V.int) hlt
 exact⟨_,a,b⟩
theorem HX {C:Cal} {ns:List Int} {K:Fl→Fr→St→Prop} {ρ:Fr} {σ:St} (r0:ρ 0=some (.ro ns)) (hn:ns.length≤63)
  (h:∀ ρ' σ' b xs ys al bl ba bb alo ahi blo bhi,Pre ρ' σ' b xs ys al bl ba bb alo ahi blo bhi→K .next ρ' σ'):fy C R2.oF ρ σ K:=by
 have c63:dh ns.length 63=ns.length:=by
  unfold dh fb
  rw [aw (by decide)]
  (exact(Ar.iw _ _).2.2.elim (fun q1=>(gn .B .l .A .a1 (Ar.iw _ _).1 q1)) fun q1=>((Ar.ton _).elim (fun q2=>(KV .B [[1,1,0,1,-1],[1,0,1,0,0]] (.k .B (.n 63)) .A .bV (.ie .Q (.n 63)) hn (Ar.iw _ _).1 q1 q2.2)) fun q2=>(bh .B .u (.ik (.n 63) .O) q2.1)))
 refine⟨_,r0,?_⟩
 refine⟨0,63,by unfold aq;(exact gv .bD .a (.k .A (.n 63)) hn),rfl,rfl,by decide,by decide,fun sl hsl=>?_⟩
 have hS:(σ.fg sl (((ns.take (dh ns.length 63)).drop (dh ns.length 0)).map V.int)).L sl=some (ns.map V.int):=by
  rw [c63,cQ,uk,List.drop_zero];exact bg _ _ _
 generalize σ.fg sl (((ns.take (dh ns.length 63)).drop (dh ns.length 0)).map V.int)=σ0 at hS
 show fy C _ (upd ρ 0 (.lst sl)) σ0 K
 refine⟨_,rfl,?_⟩
 refine rep0 (n:=7) (fun σ' _=>rfl) (by decide) fun zl σ1 E1 hz1 hZ1=>?_
 have hS1:=E1.L _ _ hS
 refine fH (C:=C) hS1 hZ1 (by rw [gU];unfold aq;(exact gv (.k (.a .A (.n 7)) .S) .a (.k .A (.n 63)) hn)) fun cl σ2 E2 hc2 hC2=>?_
 have hS2:=E2.L _ _ hS1
 have hl7:7≤(ns++List.replicate 7 (0:Int)).length:=by rw [bz,gU];(exact ic (.k (.n 7) (.a .A (.n 7))) .i)
 refine⟨_,0,7,hC2,rfl,rfl,by decide,by decide,fun dl hdl=>?_⟩
 have E3:Ext σ2 (σ2.fg dl ((((ns++List.replicate 7 (0:Int)).map V.int).take (dh ((ns++List.replicate 7 (0:Int)).map V.int).length 7)).drop (dh ((ns++List.replicate 7 (0:Int)).map V.int).length 0))):=(Ext.refl σ2).fg hdl
 have e7:dh ((ns++List.replicate 7 (0:Int)).map V.int).length 7=7:=zi (i:=7) (by rw [au];exact hl7)
 obtain⟨b,z1,z2,z3,z4,z5,z6,ez⟩:=HS (zs:=(ns++List.replicate 7 (0:Int)).take 7) (by rw [dt];(exact(Ar.iw _ _).2.2.elim (fun q1=>(JI (.e .A (.n 7)) .l (.k .A (.n 7)) (.k (.n 7) .A) (Ar.iw _ _).1 q1)) fun q1=>(KW (.e .A (.n 7)) .m (.k (.n 7) .B) (.k .A (.n 7)) .a1 hl7 (Ar.iw _ _).1 q1)))
 refine⟨[.int b,.int z1,.int z2,.int z3,.int z4,.int z5,.int z6],?_,rfl,?_⟩
 ·refine(bg _ _ _).trans (bu some ?_)
  rw [e7,cQ,List.drop_zero,← cV,ez];rfl
 have hS3:=E3.L _ _ hS2
 generalize σ2.fg dl ((((ns++List.replicate 7 (0:Int)).map V.int).take (dh ((ns++List.replicate 7 (0:Int)).map V.int).length 7)).drop (dh ((ns++List.replicate 7 (0:Int)).map V.int).length 0))=σ3 at hS3
 clear E3 E2 E1 hS2 hS1 hS hC2 hZ1
 show fy C _ (mu [28,1,2,3,4,5,6] [.int b,.int z1,.int z2,.int z3,.int z4,.int z5,.int z6] (upd ρ 0 (.lst sl))) σ3 K
 have T:Told (mu [28,1,2,3,4,5,6] [.int b,.int z1,.int z2,.int z3,.int z4,.int z5,.int z6] (upd ρ 0 (.lst sl))) b z1 z2 z3 z4 z5 z6:=⟨rfl,rfl,rfl,rfl,rfl,rfl,rfl⟩
 have q0:mu [28,1,2,3,4,5,6] [.int b,.int z1,.int z2,.int z3,.int z4,.int z5,.int z6] (upd ρ 0 (.lst sl)) 0=some (.lst sl):=rfl
 generalize mu [28,1,2,3,4,5,6] [.int b,.int z1,.int z2,.int z3,.int z4,.int z5,.int z6] (upd ρ 0 (.lst sl))=ρ1 at T q0
 refine⟨_,q0,?_⟩
 refine⟨_,7,((ns.map V.int).length:Int),hS3,rfl,rfl,by decide,by rw [au];(exact(Ar.nab _).elim (fun q1=>(gn .J .b (.k .B (.n 63)) .b7 hn q1.2)) fun q1=>(bh .J .a .aJ q1.2)),fun rl hrl=>?_⟩
 have hR:∃ rs:List Int,(σ3.fg rl (((ns.map V.int).take (dh (ns.map V.int).length ((ns.map V.int).length:Int))).drop (dh (ns.map V.int).length 7))).L rl=some (rs.map V.int)∧rs.length≤56:=by
  refine⟨(ns.take (dh (ns.map V.int).length ((ns.map V.int).length:Int))).drop (dh (ns.map V.int).length 7),?_,?_⟩
  ·rw [List.map_drop,cV];exact bg _ _ _
  ·rw [gq,dt,au]
   have:dh ns.length 7=min ns.length 7:=by unfold dh fb;rw [aw (by decide)];rfl
   rw [this];(exact Ar.sub _ _ (fun q1 p1=>((Ar.iw _ _).2.2.elim (fun q2=>(rz .Y .d .aP (.e .a1 .B) .aW (Ar.iw _ _).2.1 p1 q2)) fun q2=>(gR .Y .s (.k .B (.n 63)) .M (.e .a1 .C) (.k (.n 7) .D) hn (Ar.iw _ _).2.1 p1 q2))) fun q1 p1=>(gv .Y .a .L p1))
 obtain⟨rs,hR,hrs⟩:=hR
 generalize σ3.fg rl (((ns.map V.int).take (dh (ns.map V.int).length ((ns.map V.int).length:Int))).drop (dh (ns.map V.int).length 7))=σ4 at hR
 show fy C _ (upd ρ1 7 (.lst rl)) σ4 K
 have T4:Told (upd ρ1 7 (.lst rl)) b z1 z2 z3 z4 z5 z6:=T.up ⟨by decide,by decide⟩
 have q7:upd ρ1 7 (.lst rl) 7=some (.lst rl):=bg _ _ _
 generalize upd ρ1 7 (.lst rl)=ρ4 at T4 q7
 rw [mw,B7,s8]
 refine rf (Q:=_) _ (vs:=[.int 0,.int 3,.int 5,.int 8]) rfl ⟨dk rfl,fun ml hml=>?_⟩
 have E5:Ext σ4 (σ4.fg ml [.int 0,.int 3,.int 5,.int 8]):=(Ext.refl σ4).fg hml
 have hM5:(σ4.fg ml [.int 0,.int 3,.int 5,.int 8]).L ml=some (([0,3,5,8]:List Int).map V.int):=bg _ _ _
 have hR5:=E5.L _ _ hR
 generalize σ4.fg ml [.int 0,.int 3,.int 5,.int 8]=σ5 at hM5 hR5
 refine⟨_,T4.r1,(by decide:(4:Int)≠0),?_⟩
 obtain⟨m,m1,m2⟩:=four (z:=z1) (xs:=[0,3,5,8]) rfl
 refine⟨_,_,hM5,m1,m2,?_⟩
 show fy C _ (upd ρ4 8 (.int m)) σ5 K
 have T5:Told (upd ρ4 8 (.int m)) b z1 z2 z3 z4 z5 z6:=T4.up ⟨by decide,by decide⟩
 refine⟨_,bg _ _ _,?_⟩
 show if decide (0<m)=true then _ else _
 by_cases hm:0<m
 ·rw [cm hm,bx rfl]
  refine⟨_,q7,_,hR5,?_⟩
  refine fB (fun y=>V.int (y%m)) (fun ρ=>ρ 2=some (.int m)) hR5 rs [] _ (by show yg [(2,8)] (upd ρ4 8 (.int m)) 2=_;rfl) (by rw [List.length_nil];unfold aq;(exact gv (.k (.a .O .A) .S) .a .Y hrs)) (fun y _ ρ' acc kk i2 ha hk=>?_) fun ρ' i2=>?_
  ·show xu C (.elt (.bin .mod (.loc 1) (.loc 2))) (upd ρ' 1 (.int y)) acc σ5 kk
   refine gw (Q:=fun v σ=>acc.length<aq∧kk (upd ρ' 1 (.int y)) (acc++[v]) σ) _ (v:=.int (y%m)) (uh (a:=.loc 1) (b:=.loc 2) (x:=y) (y:=m) rfl i2 hm) ⟨ha,hk _ i2⟩
  ·rw [wo]
   intro ql hql
   refine EF (ρ:=upd (upd ρ4 8 (.int m)) 7 (.lst ql)) (rs:=rs.map fun y=>y%m) (T5.up ⟨by decide,by decide⟩) (bg _ _ _) ?_ (by rw [au];exact hrs) (fun ρ' σ' xs ys al bl ba bb alo ahi blo bhi hp=>h ρ' σ' b xs ys al bl ba bb alo ahi blo bhi hp)
   rw [xq];exact bg _ _ _
 ·rw [cn hm,aw (by decide)]
  exact EF (ρ:=upd ρ4 8 (.int m)) T5 q7 hR5 hrs (fun ρ' σ' xs ys al bl ba bb alo ahi blo bhi hp=>h ρ' σ' b xs ys al bl ba bb alo ahi blo bhi hp)
end SM
end MP
end
section
namespace MP
open PySem
namespace SM
theorem oW {G:St→Prop} {T:V→Fr→List V→St→(Fr→List V→St→Prop)→Prop} {K:Fr→List V→St→Prop} {σ₀:St} (g:Int→V) (Inv:Fr→Prop) (hG:∀ σ,Ext σ₀ σ→G σ):∀ (us:List Int) (acc:List V) (ρ:Fr) (σ:St),Inv ρ→Ext σ₀ σ→acc.length+us.length≤aq→(∀ y∈us,∀ ρ acc σ (k:Fr→List V→St→Prop),Inv ρ→Ext σ₀ σ→acc.length<aq→(∀ ρ' σ',Inv ρ'→Ext σ₀ σ'→k ρ' (acc++[g y]) σ')→T (.int y) ρ acc σ k) →
  (∀ ρ' σ',Inv ρ'→Ext σ₀ σ'→K ρ' (acc++us.map g) σ')→gQ (us.map V.int) G T ρ acc σ K
 | [],acc,ρ,σ,hi,E,hz,step,fin=>⟨hG σ E,by have:=fin ρ σ hi E;rwa [List.map_nil,fc] at this⟩
 | y::us,acc,ρ,σ,hi,E,hz,step,fin=>by
  refine⟨hG σ E,step y (.head _) ρ acc σ _ hi E (by rw [gz] at hz;(exact dw .C .a (.k .a3 .B) hz)) fun ρ' σ' hi' E'=>?_⟩
  refine oW g Inv hG us _ ρ' σ' hi' E' (by rw [bz,ue];rw [gz] at hz;(exact dw (.k .a2 .C) .a .aS hz)) (fun z hz=>step z (.tail _ hz)) fun ρ2 σ2 h2 E2=>?_
  have:=fin ρ2 σ2 h2 E2
  rwa [gp,List.append_cons] at this
noncomputable def qF:Ex:=.comp [(2,1)] (.seq (.loc 3)) (.var 1) (.cons (.cmp .eq (.loc 1) (.loc 2)) .nil) (.elt (.loc 1))
theorem uZ {C:Cal} {ρ:Fr} {σ:St} {bl:Addr} {x:Int} {ys:List Int} {Q:V→St→Prop} (r1:ρ 1=some (.int x)) (r3:ρ 3=some (.lst bl)) (hL:σ.L bl=some (ys.map V.int)) (hz:ys.length≤aq) (k:∀ c σ',Ext σ σ'→σ'.L c=some (ys.flatMap (rh x))→Q (.lst c) σ'):wpE C qF ρ σ Q:=by
 refine Fv.comp (C:=C) (u:=V.int) (us:=ys) (rh x) (fun ρ=>ρ 2=some (.int x)) (Gv.loc r3 hL) (by show yg [(2,1)] ρ 2=_;exact r1) hz (fun σ' E y hy ρ' i2 K hK=>?_) σ _ (Ext.refl σ) fun c σ' E _ h=>k c σ' E h
 refine hK _ i2 ?_
 refine Gives.test (b:=decide (y=x)) ?_ ?_
 ·have e1:evV σ' (upd ρ' 1 (.int y)) (.loc 1)=some (.int y):=rfl
  have e2:evV σ' (upd ρ' 1 (.int y)) (.loc 2)=some (.int x):=i2
  show(evV σ' (upd ρ' 1 (.int y)) (.loc 1)).bind (fun va=>(evV σ' (upd ρ' 1 (.int y)) (.loc 2)).bind fun vb=>sg σ' .eq va vb)=_
  rw [e1,e2];rfl
 ·unfold rh
  by_cases c:y=x
  ·rw [cm c,bx rfl,bx c]
   exact⟨.int y,rfl,rfl⟩
  ·rw [cn c,aw (by decide),aw c]
theorem uB {C:Cal} {ρ:Fr} {σ:St} {e f:Ex} {Q:V→St→Prop}:wpE C (.cmp .le (.bf .len (.cons e .nil)) f) ρ σ Q=wpE C e ρ σ fun v σ=>lQ .len [v] σ fun va σ=>wpE C f ρ σ fun vb σ=>cY .le va vb σ fun r=>Q (.bool r) σ:=rfl
noncomputable def sX:Ex:=.comp [(3,11),(4,16),(5,17)] (.seq (.loc 10)) (.var 1) .nil (.elt (.and (.cmp .eq (.callv 4 (.cons (.loc 1) .nil)) (.int 0)) (.cmp .le (.bf .len (.cons qF .nil)) (.loc 5))))
theorem qJ {P:Nat→Option Fn} (hP:P 1000=some R2.fnL) {n:Nat} {ρ:Fr} {σ:St} {b:Int} {al bl:Addr} {xs ys:List Int} {Q:V→St→Prop} (r10:ρ 10=some (.lst al)) (r11:ρ 11=some (.lst bl)) (r16:ρ 16=some (.clo 0 [.int b])) (r17:ρ 17=some (.int (rx ys))) (La:σ.L al=some (xs.map V.int)) (Lb:σ.L bl=some (ys.map V.int)) (lx:xs.length≤56) (ly:ys.length≤456)
  (k:∀ c σ',Ext σ σ'→σ.L c=none→σ'.L c=some (xs.map fun x=>V.bool (!rmB b ys (.int x)))→Q (.lst c) σ'):wpE (gy P (n+1)) sX ρ σ Q:=by
 refine⟨_,r10,_,La,?_⟩
 refine oW (σ₀:=σ) (fun x=>V.bool (!rmB b ys (.int x))) (fun ρ=>ρ 3=some (.lst bl)∧ρ 4=some (.clo 0 [.int b])∧ρ 5=some (.int (rx ys))) (fun σ' E=>E.L _ _ La) xs [] _ σ ⟨r11,r16,r17⟩ (Ext.refl σ) (by rw [List.length_nil];unfold aq;(exact gv (.k (.a .O .A) .S) .a .Y lx)) (fun x _ ρ' acc σ' kk hi E ha hk=>?_) fun ρ' σ' _ E=>?_
 ·obtain⟨i3,i4,i5⟩:=hi
  show xu (gy P (n+1)) (.elt (.and (.cmp .eq (.callv 4 (.cons (.loc 1) .nil)) (.int 0)) (.cmp .le (.bf .len (.cons qF .nil)) (.loc 5)))) (upd ρ' 1 (.int x)) acc σ' kk
  refine⟨_,i4,_,bg _ _ _,?_⟩
  refine iV hP ?_
  have hk':=fun σ2=>hk (upd ρ' 1 (.int x)) σ2 ⟨i3,i4,i5⟩
  rw [y9] at hk'
  show if (Jb b x==0)=true then _ else _
  rw [deq]
  by_cases c:Jb b x=0
  ·rw [cm c,cW] at hk'
   rw [cm c,bx rfl]
   rw [uB]
   refine uZ (ρ:=upd ρ' 1 (.int x)) (x:=x) rfl i3 (E.L _ _ Lb) (by unfold aq;(exact gv .bD .a .b5 ly)) fun c2 σ2 E2 hL2=>?_
   refine⟨_,hL2,_,i5,?_⟩
   show acc.length<aq∧kk _ (acc++[V.bool (decide (((ys.flatMap (rh x)).length:Int)≤(rx ys:Nat)))]) σ2
   have e:decide (((ys.flatMap (rh x)).length:Int)≤(rx ys:Nat))=decide ((ys.flatMap (rh x)).length≤rx ys):=decide_eq_decide.mpr Int.ofNat_le
   rw [e]
   exact⟨ha,hk' _ (E.trans E2)⟩
  ·rw [cn c,Bool.false_and] at hk'
   rw [cn c,aw (by decide)]
   exact⟨ha,hk' _ E⟩
 ·rw [wo]
  intro c hc
  exact k c _ (E.fg (E.noL hc)) (E.noL hc) (bg _ _ _)
end SM
end MP
end
section
namespace MP
open PySem
namespace SM
noncomputable abbrev jR:V→St→Prop:=fun v _=>v=.bool true
noncomputable def t7:jt:=(.cons (.ret (.cmp .eq (.tup (.cons (.loc 20) (.cons (.loc 21) (.cons (.loc 22) .nil)))) (.tup (.cons (.bin .sub (.loc 23) (.loc 26)) (.cons (.bin .sub (.loc 24) (.loc 26)) (.cons (.bin .add (.bin .add (.loc 26) (.loc 25)) (.loc 27)) .nil))))))
 .nil)
noncomputable def t6:jt:=(.cons (.assign [(.var 27)] (.call 11 (.cons (.slc (.loc 10) (.bin .add (.loc 23) (.loc 25)) (.loc 12)) (.cons (.slc (.loc 11) (.bin .add (.loc 24) (.loc 25)) (.loc 13)) (.cons (.loc 16) .nil))))) t7)
noncomputable def t5:jt:=(.cons (.assign [(.var 26)] (.call 11 (.cons (.rev (.slc (.loc 10) (.loc 14) (.loc 23))) (.cons (.rev (.slc (.loc 11) (.loc 15) (.loc 24))) (.cons (.loc 16) .nil))))) t6)
theorem B6 {σ:St} {a b c:Int} {K:Bool→Prop} (h:K true):cY .eq (.tup [.int a,.int b,.int c]) (.tup [.int a,.int b,.int c]) σ K:=by
 refine⟨.tuple [.int a,.int b,.int c],.tuple [.int a,.int b,.int c],rfl,rfl,?_⟩
 have e:PyData.eqv (.tuple [.int a,.int b,.int c]) (.tuple [.int a,.int b,.int c])=true:=by simp [PyData.eqv,PyData.eqvAll]
 rw [e];exact h
theorem sR {C:Cal} {ρ:Fr} {σ:St} {x:Nat} {lo hi:Ex} {l:Addr} {zs:List Int} {i j:Nat} {vl vh:V} {Q:V→St→Prop} (hx:ρ x=some (.lst l)) (hl:σ.L l=some (zs.map V.int)) (e1:evV σ ρ lo=some vl) (e2:evV σ ρ hi=some vh) (h1:ye 0 vl=some (i:Int)) (h2:ye zs.length vh=some (j:Int)) (hi':i≤zs.length) (hj:j≤zs.length) (hz:zs.length<aq) (k:∀ c σ',Ext σ σ'→σ.L c=none→σ'.L c=some ((kh zs i j).reverse.map V.int)→Q (.lst c) σ'):wpE C (.rev (.slc (.loc x) lo hi)) ρ σ Q:=by
 refine yb (C:=C) (Q:=fun v σ=>DY v σ Q) hx hl e1 e2 h1 h2 hi' hj hz fun c σ1 E1 hc hL=>?_
 refine⟨_,hL,fun d hd=>?_⟩
 refine k d _ (E1.fg (E1.noL hd)) (E1.noL hd) ?_
 rw [List.map_reverse];exact bg _ _ _
structure End (ρ:Fr) (σ:St) (b:Int) (xs ys:List Int) (al bl:Addr) (alo ahi blo bhi i j k m m':Nat):Prop where
 r10:ρ 10=some (.lst al)
 r11:ρ 11=some (.lst bl)
 r12:ρ 12=some (.int ahi)
 r13:ρ 13=some (.int bhi)
 r14:ρ 14=some (.int alo)
 r15:ρ 15=some (.int blo)
 r16:ρ 16=some (.clo 0 [.int b])
 r20:ρ 20=some (.int (i-m:Nat))
 r21:ρ 21=some (.int (j-m:Nat))
 r22:ρ 22=some (.int (m+k+m':Nat))
 r23:ρ 23=some (.int i)
 r24:ρ 24=some (.int j)
 r25:ρ 25=some (.int k)
 La:σ.L al=some (xs.map V.int)
 Lb:σ.L bl=some (ys.map V.int)
structure Nums (b:Int) (xs ys:List Int) (alo ahi blo bhi i j k m m':Nat):Prop where
 lx:xs.length≤56
 ly:ys.length≤456
 h1:alo≤i
 h2:i+k≤ahi
 h3:ahi≤xs.length
 h4:blo≤j
 h5:j+k≤bhi
 h6:bhi≤ys.length
 mi:m≤i
 mj:m≤j
 M:xg (kh xs alo i).reverse (kh ys blo j).reverse (Jb b) m
 M':xg (kh xs (i+k) ahi) (kh ys (j+k) bhi) (Jb b) m'
theorem hH {C:Cal} {ρ:Fr} {σ:St} {f:Nat} {es:Exs} {Q:V→St→Prop}:wpE C (.call f es) ρ σ Q=so C es ρ σ fun vs σ=>C f vs σ Q:=rfl
theorem nV {C:Cal} {ρ:Fr} {σ:St} {a b:Ex} {ss:jt} {K:Fl→Fr→St→Prop}:fy C (.cons (.ret (.cmp .eq a b)) ss) ρ σ K=wpE C a ρ σ fun va σ=>wpE C b ρ σ fun vb σ=>cY .eq va vb σ fun r=>K (.ret (.bool r)) ρ σ:=rfl
theorem D9 {C:Cal} {ρ:Fr} {σ:St} {b:Int} {xs ys:List Int} {al bl:Addr} {alo ahi blo bhi i j k m m':Nat} (H:End ρ σ b xs ys al bl alo ahi blo bhi i j k m m') (N:Nums b xs ys alo ahi blo bhi i j k m m') (r26:ρ 26=some (.int m)) (r27:ρ 27=some (.int m')):fy C t7 ρ σ (dH jR):=by
 have mi:=N.mi
 have mj:=N.mj
 have e20:evV σ ρ (.loc 20)=some (.int (i-m:Nat)):=H.r20
 have e21:evV σ ρ (.loc 21)=some (.int (j-m:Nat)):=H.r21
 have e22:evV σ ρ (.loc 22)=some (.int (m+k+m':Nat)):=H.r22
 have a1:evV σ ρ (.bin .sub (.loc 23) (.loc 26))=some (.int (i-m:Nat)):=(n7 (a:=.loc 23) (b:=.loc 26) H.r23 r26).trans (by congr 2;(exact dw (.ie .V .Q) .g (.e .a5 .A) (aa (bh .A .a .A mi))))
 have a2:evV σ ρ (.bin .sub (.loc 24) (.loc 26))=some (.int (j-m:Nat)):=(n7 (a:=.loc 24) (b:=.loc 26) H.r24 r26).trans (by congr 2;(exact dw (.ie .V .Q) .g (.e .a5 .A) (aa (bh .A .a .A mj))))
 have a3:evV σ ρ (.bin .add (.bin .add (.loc 26) (.loc 25)) (.loc 27))=some (.int (m+k+m':Nat)):=(ry (ry (a:=.loc 26) (b:=.loc 25) r26 H.r25) (b:=.loc 27) r27).trans (by congr 2)
 have v1:evV σ ρ (.tup (.cons (.loc 20) (.cons (.loc 21) (.cons (.loc 22) .nil))))=some (.tup [.int (i-m:Nat),.int (j-m:Nat),.int (m+k+m':Nat)]):=by
  rw [gX,cz,e20,cz,e21,cz,e22];rfl
 have v2:evV σ ρ (.tup (.cons (.bin .sub (.loc 23) (.loc 26)) (.cons (.bin .sub (.loc 24) (.loc 26)) (.cons (.bin .add (.bin .add (.loc 26) (.loc 25)) (.loc 27)) .nil))))=some (.tup [.int (i-m:Nat),.int (j-m:Nat),.int (m+k+m':Nat)]):=by
  rw [gX,cz,a1,cz,a2,cz,a3];rfl
 rw [t7,nV]
 refine gw _ v1 (gw _ v2 (B6 ?_))
 exact rfl
theorem IV {P:Nat→Option Fn} (hL:P 1000=some R2.fnL) (h11:P 11=some R2.fC) {n:Nat} {ρ:Fr} {σ:St} {b:Int} {xs ys:List Int} {al bl:Addr} {alo ahi blo bhi i j k m m':Nat} (H:End ρ σ b xs ys al bl alo ahi blo bhi i j k m m') (N:Nums b xs ys alo ahi blo bhi i j k m m') (r26:ρ 26=some (.int m)):fy (gy P (n+2)) t6 ρ σ (dH jR):=by
 have lx:=N.lx;have ly:=N.ly;have h2:=N.h2;have h3:=N.h3;have h5:=N.h5;have h6:=N.h6
 rw [t6,mw,hH,uo]
 refine yb (zs:=xs) (i:=i+k) (j:=ahi) H.r10 H.La (ry (a:=.loc 23) (b:=.loc 25) H.r23 H.r25) (show evV σ ρ (.loc 12)=_ from H.r12) (by rfl) rfl (by exact ee .Q .b (.k .P .D) .bS h2 h3) h3 (by unfold aq;(exact gv .a2 .a .Y lx)) fun c1 σ1 E1 hc1 hL1=>?_
 have Lb1:=E1.L _ _ H.Lb
 rw [uo]
 refine yb (zs:=ys) (i:=j+k) (j:=bhi) H.r11 Lb1 (ry (a:=.loc 24) (b:=.loc 25) H.r24 H.r25) (show evV σ1 ρ (.loc 13)=_ from H.r13) (by rfl) rfl (by exact ee .Q .b (.k .P .D) .bS h5 h6) h6 (by unfold aq;(exact gv .a2 .a .b5 ly)) fun c2 σ2 E2 hc2 hL2=>?_
 refine⟨_,H.r16,?_⟩
 have l1:=nj (xs:=xs) (i:=i+k) h3
 have l2:=nj (xs:=ys) (i:=j+k) h6
 refine iU h11 (oQ hL) (E2.L _ _ hL1) hL2 (by exact jO (.l .A (.n 63)) .s .aL .M (.e .A .D) (.e (.a .D (.a .F .G)) .C) lx h3 l1 (aa (dw .Q .a .Q h2))) (by unfold aq;(exact jO .a2 .s (.k .B (.n 456)) .M (.e .A .D) (.e (.a .D (.a .F .G)) .C) ly h6 l2 (aa (dw .Q .a .Q h5)))) fun σ3 mm E3 MM=>?_
 obtain rfl:=MM.uniq N.M'
 have E:=(E1.trans E2).trans E3
 exact D9 (ρ:=upd ρ 27 (.int mm)) (b:=b) (xs:=xs) (ys:=ys) (al:=al) (bl:=bl) (alo:=alo) (ahi:=ahi) (blo:=blo) (bhi:=bhi) (i:=i) (j:=j) (k:=k) (m:=m) (m':=mm) ⟨H.r10,H.r11,H.r12,H.r13,H.r14,H.r15,H.r16,H.r20,H.r21,H.r22,H.r23,H.r24,H.r25,E.L _ _ H.La,E.L _ _ H.Lb⟩ N r26 rfl
theorem IW {P:Nat→Option Fn} (hL:P 1000=some R2.fnL) (h11:P 11=some R2.fC) {n:Nat} {ρ:Fr} {σ:St} {b:Int} {xs ys:List Int} {al bl:Addr} {alo ahi blo bhi i j k m m':Nat} (H:End ρ σ b xs ys al bl alo ahi blo bhi i j k m m') (N:Nums b xs ys alo ahi blo bhi i j k m m'):fy (gy P (n+2)) t5 ρ σ (dH jR):=by
 have lx:=N.lx;have ly:=N.ly;have h1:=N.h1;have h2:=N.h2;have h3:=N.h3;have h4:=N.h4;have h5:=N.h5;have h6:=N.h6
 rw [t5,mw,hH,uo]
 refine sR (zs:=xs) (i:=alo) (j:=i) H.r10 H.La (show evV σ ρ (.loc 14)=_ from H.r14) (show evV σ ρ (.loc 23)=_ from H.r23) rfl rfl (by exact ky .A .d .G (.k .T .F) (.k .F .B) h1 h2 h3) (by exact ee .A .b .b9 .aH h2 h3) (by unfold aq;(exact gv .a2 .a .Y lx)) fun c1 σ1 E1 hc1 hL1=>?_
 have Lb1:=E1.L _ _ H.Lb
 rw [uo]
 refine sR (zs:=ys) (i:=blo) (j:=j) H.r11 Lb1 (show evV σ1 ρ (.loc 15)=_ from H.r15) (show evV σ1 ρ (.loc 24)=_ from H.r24) rfl rfl (by exact ky .A .d .G (.k .T .F) (.k .F .B) h4 h5 h6) (by exact ee .A .b .b9 .aH h5 h6) (by unfold aq;(exact gv .a2 .a .b5 ly)) fun c2 σ2 E2 hc2 hL2=>?_
 refine⟨_,H.r16,?_⟩
 have l1:=nj (xs:=xs) (i:=alo) (j:=i) (by exact ee .A .b .b9 .aH h2 h3)
 have l2:=nj (xs:=ys) (i:=blo) (j:=j) (by exact ee .A .b .b9 .aH h5 h6)
 refine iU h11 (oQ hL) (E2.L _ _ hL1) hL2 (by rw [ir];(exact rU (.l .A (.n 63)) .A .aL (.k .T .F) (.k .F .B) (.e .A .G) (.e (.a .G .H) .C) lx h2 h3 l1 (aa (bh .A .a .A h1)))) (by rw [ir];unfold aq;(exact rU .a2 .A (.k .B (.n 456)) (.k .T .F) (.k .F .B) (.e .A .G) (.e (.a .G .H) .C) ly h5 h6 l2 (aa (bh .A .a .A h4)))) fun σ3 mm E3 MM=>?_
 obtain rfl:=MM.uniq N.M
 have E:=(E1.trans E2).trans E3
 exact IV hL h11 (ρ:=upd ρ 26 (.int mm)) (b:=b) (xs:=xs) (ys:=ys) (al:=al) (bl:=bl) (alo:=alo) (ahi:=ahi) (blo:=blo) (bhi:=bhi) (i:=i) (j:=j) (k:=k) (m:=mm) (m':=m') ⟨H.r10,H.r11,H.r12,H.r13,H.r14,H.r15,H.r16,H.r20,H.r21,H.r22,H.r23,H.r24,H.r25,E.L _ _ H.La,E.L _ _ H.Lb⟩ N rfl
end SM
end MP
end
section
namespace MP
open PySem
namespace SM
section
variable {ρ:Fr} {σ:St} {b:Int} {xs ys:List Int} {al bl:Addr} {ba bb:Int} {alo ahi blo bhi:Nat}
theorem Pre.up (H:Pre ρ σ b xs ys al bl ba bb alo ahi blo bhi) {n:Nat} {v:V} (h1:16≤n) (h2:n≤27):Pre (upd ρ n v) σ b xs ys al bl ba bb alo ahi blo bhi :=
 have k:∀ m,(Nat.blt m 16||m==28)=true→upd ρ n v m=ρ m:=fun m hm=>dq fun q=>by
  subst q
  rcases lz .. |>.mp hm with h | h
  ·exact jx.mpr h1 (dk h)
  ·rw [eq_of_beq h] at h2;exact absurd h2 (by decide)
 ⟨(k 28 rfl).trans H.r28,(k 10 rfl).trans H.r10,(k 11 rfl).trans H.r11,H.La,H.Lb,(k 2 rfl).trans H.r2,(k 4 rfl).trans H.r4,(k 12 rfl).trans H.r12,(k 13 rfl).trans H.r13,(k 14 rfl).trans H.r14,(k 15 rfl).trans H.r15,H.ha,H.hb,H.ha0,H.hb0,H.hal,H.hbl,H.lx,H.ly⟩
theorem Pre.ext {σ':St} (H:Pre ρ σ b xs ys al bl ba bb alo ahi blo bhi) (L:∀ a zs,σ.L a=some zs→σ'.L a=some zs):Pre ρ σ' b xs ys al bl ba bb alo ahi blo bhi :=
 ⟨H.r28,H.r10,H.r11,L _ _ H.La,L _ _ H.Lb,H.r2,H.r4,H.r12,H.r13,H.r14,H.r15,H.ha,H.hb,H.ha0,H.hb0,H.hal,H.hbl,H.lx,H.ly⟩
theorem tP {n:Nat} {z:Int} {e:Ex} {v:V} (hz:ρ n=some (.int z)) (he:evV σ ρ e=some v):evV σ ρ (.ite (.cmp .eq (.loc n) (.int 0)) .none e)=some (if z=0 then .none else v):=by
 have h:evT σ ρ (.cmp .eq (.loc n) (.int 0))=some (decide (z=0)):=by
  have e1:evV σ ρ (.loc n)=some (.int z):=hz
  show(evV σ ρ (.loc n)).bind (fun va=>(evV σ ρ (.int 0)).bind fun vb=>sg σ .eq va vb)=_
  rw [e1];rfl
 show(evT σ ρ (.cmp .eq (.loc n) (.int 0))).bind (fun t=>if t then evV σ ρ .none else evV σ ρ e)=_
 rw [h]
 by_cases c:z=0
 ·rw [cm c,bx c];rfl
 ·rw [cn c,aw c];exact he
noncomputable def t4:jt:=(.cons (.assign [(.tup [23,24,25])] (.call 10 (.cons (.loc 10) (.cons (.loc 11) (.cons (.loc 14) (.cons (.loc 12) (.cons (.loc 15) (.cons (.loc 13) (.cons (.loc 18) .nil))))))))) t5)
noncomputable def t3:jt:=(.cons (.assign [(.tup [20,21,22])] (.meth (.loc 19) 5 (.cons (.loc 14) (.cons (.ite (.cmp .eq (.loc 2) (.int 0)) .none (.loc 12)) (.cons (.loc 15) (.cons (.ite (.cmp .eq (.loc 4) (.int 0)) .none (.loc 13)) .nil)))))) t4)
noncomputable def t2:jt:=(.cons (.assign [(.var 19)] (.newM (.cons (.ite (.cmp .eq (.bin .mod (.loc 28) (.int 256)) (.int 0)) .none (.loc 16)) (.cons (.loc 10) (.cons (.loc 11) .nil))))) t3)
noncomputable def t1:jt:=(.cons (.assign [(.var 18)] sX) t2)
noncomputable def t0:jt:=(.cons (.assign [(.var 17)] (.ite (.cmp .ge (.bf .len (.cons (.loc 11) .nil)) (.int 200)) (.bin .add (.bin .fdiv (.bf .len (.cons (.loc 11) .nil)) (.int 100)) (.int 1)) (.bf .len (.cons (.loc 11) .nil)))) t1)
theorem CF:R2.fW=t0:=rfl
structure Fnd (b:Int) (xs ys:List Int) (alo ahi blo bhi i j k m m':Nat):Prop where
 B:kJ (xs.map Key.int) (ys.map Key.int) (rmB b ys) alo ahi blo bhi i j k
 mi:m≤i
 mj:m≤j
 M:xg (kh xs alo i).reverse (kh ys blo j).reverse (Jb b) m
 M':xg (kh xs (i+k) ahi) (kh ys (j+k) bhi) (Jb b) m'
structure R3 (ρ:Fr) (i j k m m':Nat):Prop where
 r20:ρ 20=some (.int (i-m:Nat))
 r21:ρ 21=some (.int (j-m:Nat))
 r22:ρ 22=some (.int (m+k+m':Nat))
theorem IX {P:Nat→Option Fn} (h10:P 10=some R2.mY) (hL:P 1000=some R2.fnL) (h11:P 11=some R2.fC) {n:Nat} {pl:Addr} {i j k m m':Nat} (H:Pre ρ σ b xs ys al bl ba bb alo ahi blo bhi) (r16:ρ 16=some (.clo 0 [.int b])) (r18:ρ 18=some (.lst pl)) (Lp:σ.L pl=some (xs.map fun x=>V.bool (!rmB b ys (.int x)))) (R:R3 ρ i j k m m') (N:Fnd b xs ys alo ahi blo bhi i j k m m'):fy (gy P (n+2)) t4 ρ σ (dH jR):=by
 have lx:=H.lx;have ly:=H.ly;have ha:=H.ha;have hb:=H.hb
 rw [t4,mw,hH]
 refine rf _ (vs:=[.lst al,.lst bl,.int alo,.int ahi,.int blo,.int bhi,.lst pl]) ?_ ?_
 ·have e1:evV σ ρ (.loc 10)=some (.lst al):=H.r10
  have e2:evV σ ρ (.loc 11)=some (.lst bl):=H.r11
  have e3:evV σ ρ (.loc 14)=some (.int alo):=H.r14
  have e4:evV σ ρ (.loc 12)=some (.int ahi):=H.r12
  have e5:evV σ ρ (.loc 15)=some (.int blo):=H.r15
  have e6:evV σ ρ (.loc 13)=some (.int bhi):=H.r13
  have e7:evV σ ρ (.loc 18)=some (.lst pl):=r18
  rw [cz,e1,cz,e2,cz,e3,cz,e4,cz,e5,cz,e6,cz,e7];rfl
 ·refine zB h10 (c:=⟨al,bl,pl,xs,ys,rmB b ys,alo,ahi,blo,bhi⟩) ⟨H.La,H.Lb,Lp,H.ha,H.hb⟩ H.hal H.hbl (by show 1+(ahi-alo)*(bhi-blo)<aq;have:=Nat.mul_le_mul (show ahi-alo≤56 by exact qc .Y .d .aL .M .G lx ha (uj _ _)) (show bhi-blo≤456 by exact qc .b5 .d (.k .B (.n 456)) .M .G ly hb (uj _ _));unfold aq;(exact gv (.l (.a .U .A) .S) .a (.k .A (.m 56 (.n 456))) this)) (by show ahi<aq;unfold aq;(exact gn .a2 .b .aL .A lx ha)) (by show bhi<aq;unfold aq;(exact gn .a2 .b (.k .B (.n 456)) .A ly hb)) fun σ' i2 j2 k2 E B=>?_
  obtain⟨rfl,rfl,rfl⟩:=B.uniq N.B
  refine⟨_,rfl,rfl,?_⟩
  have H':=H.ext E.L
  have R':=N.B.run
  exact IW hL h11 (b:=b) (xs:=xs) (ys:=ys) (al:=al) (bl:=bl) (alo:=alo) (ahi:=ahi) (blo:=blo) (bhi:=bhi) (i:=i2) (j:=j2) (k:=k2) (m:=m) (m':=m') ⟨H'.r10,H'.r11,H'.r12,H'.r13,H'.r14,H'.r15,r16,R.r20,R.r21,R.r22,rfl,rfl,rfl,H'.La,H'.Lb⟩ ⟨lx,ly,R'.ai,R'.ia,ha,R'.bj,R'.jb,hb,N.mi,N.mj,N.M,N.M'⟩
theorem zL (zs:List Int):∀ k∈zs.map Key.int,yl k:=fun k hk=>by
 obtain⟨x,_,rfl⟩:=bw.mp hk
 exact trivial
theorem IY {P:Nat→Option Fn} (h5:P 5=some fn5) (h10:P 10=some R2.mY) (hL:P 1000=some R2.fnL) (h11:P 11=some R2.fC) {n:Nat} {pl x db sj:Addr} {js:List Key} (H:Pre ρ σ b xs ys al bl ba bb alo ahi blo bhi) (r16:ρ 16=some (.clo 0 [.int b])) (r18:ρ 18=some (.lst pl)) (r19:ρ 19=some (.obj x)) (Lp:σ.L pl=some (xs.map fun x=>V.bool (!rmB b ys (.int x)))) (M:MAt σ x al bl db sj (xs.map Key.int) (ys.map Key.int) (rmB b ys) js) (J:∀ y∈ys,Key.int y∈js↔jkB b y=true):fy (gy P (n+2)) t3 ρ σ (dH jR):=by
 have lx:=H.lx;have ly:=H.ly;have ha:=H.ha;have hb:=H.hb
 rw [t3,mw,wU]
 refine⟨_,r19,x,rfl,by obtain⟨d,f,e,_⟩:=M.I;rw [e];rfl,?_⟩
 refine rf _ (vs:=[.int alo,if ba=0 then .none else .int ahi,.int blo,if bb=0 then .none else .int bhi]) ?_ ?_
 ·have e3:evV σ ρ (.loc 14)=some (.int alo):=H.r14
  have e5:evV σ ρ (.loc 15)=some (.int blo):=H.r15
  rw [cz,e3,cz,tP H.r2 (e:=.loc 12) H.r12,cz,e5,cz,tP H.r4 (e:=.loc 13) H.r13];rfl
 ·refine flm h5 M (zL xs) (zL ys) (by rw [au];unfold aq;(exact gv .a2 .a .b5 ly)) (by rw [au];unfold aq;(exact gv .a2 .a .Y lx)) (ahi:=ahi) (bhi:=bhi) ?_ ?_ H.hal H.hbl (by rw [au];exact ha) (by rw [au];exact hb) fun σ' i j k K B=>?_
  ·rw [au]
   by_cases c:ba=0
   ·rw [bx c];exact .inr ⟨rfl,H.ha0 c⟩
   ·rw [aw c];exact .inl rfl
  ·rw [au]
   by_cases c:bb=0
   ·rw [bx c];exact .inr ⟨rfl,H.hb0 c⟩
   ·rw [aw c];exact .inl rfl
  ·have R':=B.run
   obtain⟨m,m',g,g1,g2,g3,g4⟩:=w4 (xs:=xs) (ys:=ys) (js:=fun c=>decide (c∈js)) (J:=Jb b) (HB b) (fun y hy=>by rw [fw,J y hy];exact GN) R'.ai R'.ia ha R'.bj R'.jb hb
   show cA _ [.tup [20,21,22]] (mtV ((grow (xs.map Key.int) (ys.map Key.int) (fun c=>decide (c∈js)) alo ahi blo bhi i j k).1,(grow (xs.map Key.int) (ys.map Key.int) (fun c=>decide (c∈js)) alo ahi blo bhi i j k).2.1,(grow (xs.map Key.int) (ys.map Key.int) (fun c=>decide (c∈js)) alo ahi blo bhi i j k).2.2)) ρ σ' _
   rw [g]
   refine⟨_,rfl,rfl,?_⟩
   exact IX h10 hL h11 (pl:=pl) (i:=i) (j:=j) (k:=k) (m:=m) (m':=m') (((H.ext K.ext.L).up (by decide) (by decide)).up (by decide) (by decide) |>.up (by decide) (by decide)) r16 r18 (K.ext.L _ _ Lp) ⟨rfl,rfl,rfl⟩ ⟨B,g1,g2,g3,g4⟩
theorem IZ {P:Nat→Option Fn} (h0:P 0=some fn0) (h1:P 1=some fn1) (h2:P 2=some fn2) (h3:P 3=some fn3) (h4:P 4=some R2.fn4) (h5:P 5=some fn5) (h10:P 10=some R2.mY) (hL:P 1000=some R2.fnL) (h11:P 11=some R2.fC) {n:Nat} {pl:Addr} (H:Pre ρ σ b xs ys al bl ba bb alo ahi blo bhi) (r16:ρ 16=some (.clo 0 [.int b])) (r18:ρ 18=some (.lst pl)) (Lp:σ.L pl=some (xs.map fun x=>V.bool (!rmB b ys (.int x)))):fy (gy P (n+5)) t2 ρ σ (dH jR):=by
 have ly:=H.ly
 rw [t2,mw,wR]
 refine rf _ (vs:=[if b%256=0 then .none else .clo 0 [.int b],.lst al,.lst bl]) ?_ ?_
 ·have e1:evV σ ρ (.loc 10)=some (.lst al):=H.r10
  have e2:evV σ ρ (.loc 11)=some (.lst bl):=H.r11
  have e0:evV σ ρ (.ite (.cmp .eq (.bin .mod (.loc 28) (.int 256)) (.int 0)) .none (.loc 16))=some (if b%256=0 then .none else .clo 0 [.int b]):=by
   have h:evT σ ρ (.cmp .eq (.bin .mod (.loc 28) (.int 256)) (.int 0))=some (decide (b%256=0)):=by
    show(evV σ ρ (.bin .mod (.loc 28) (.int 256))).bind (fun va=>(evV σ ρ (.int 0)).bind fun vb=>sg σ .eq va vb)=_
    rw [uh (a:=.loc 28) (b:=.int 256) H.r28 rfl (by decide)];rfl
   show(evT σ ρ (.cmp .eq (.bin .mod (.loc 28) (.int 256)) (.int 0))).bind (fun t=>if t then evV σ ρ .none else evV σ ρ (.loc 16))=_
   rw [h]
   by_cases c:b%256=0
   ·rw [cm c,bx c];rfl
   ·rw [cn c,aw c];exact r16
  rw [cz,e0,cz,e1,cz,e2];rfl
 ·intro x d hx
  refine I6 h0 h1 h2 h3 h4 (n:=n+1) (jk:=jkB b) (d:=d) (xs:=xs) (ys:=ys) (bg _ _ _) H.La H.Lb (by exact gv (.l .A (.n 4000)) .a .b5 ly) ?_ fun σ' db sj js Md=>⟨rfl,?_⟩
  ·by_cases c:b%256=0
   ·rw [bx c];exact vX c
   ·rw [aw c];exact vW hL
  ·exact IY h5 h10 hL h11 (n:=n+3) ((H.ext (σ':=σ') Md.L).up (by decide) (by decide)) r16 r18 (bg _ _ _) (Md.L _ _ Lp) Md.M Md.J
theorem CM (r11:ρ 11=some (.lst bl)) (Lb:σ.L bl=some (ys.map V.int)):evV σ ρ (.ite (.cmp .ge (.bf .len (.cons (.loc 11) .nil)) (.int 200)) (.bin .add (.bin .fdiv (.bf .len (.cons (.loc 11) .nil)) (.int 100)) (.int 1)) (.bf .len (.cons (.loc 11) .nil)))=some (.int (rx ys)):=by
 have l:=zg r11 Lb
 have h:evT σ ρ (.cmp .ge (.bf .len (.cons (.loc 11) .nil)) (.int 200))=some (decide (200≤ys.length)):=by
  show(evV σ ρ (.bf .len (.cons (.loc 11) .nil))).bind (fun va=>(evV σ ρ (.int 200)).bind fun vb=>sg σ .ge va vb)=_
  rw [l]
  show some (decide ((200:Int)≤(ys.length:Nat)))=_
  rw [decide_eq_decide.mpr];(exact⟨fun q1=>(gv (.k (.n 200) .A) .a (.ik (.n 200) .L) q1),fun q1=>(gv (.ik (.n 200) .L) .a (.k (.n 200) .A) q1)⟩)
 show(evT σ ρ (.cmp .ge (.bf .len (.cons (.loc 11) .nil)) (.int 200))).bind (fun t=>if t then evV σ ρ (.bin .add (.bin .fdiv (.bf .len (.cons (.loc 11) .nil)) (.int 100)) (.int 1)) else evV σ ρ (.bf .len (.cons (.loc 11) .nil)))=_
 rw [h]
 unfold rx
 by_cases c:200≤ys.length
 ·rw [cm c,bx c]
  refine(ry (tQ l (y:=100) rfl (by decide) (by decide)) (b:=.int 1) rfl).trans (bu (fun z=>some (V.int z)) ?_)
  (exact EW .aI [[100,0,1,-1,0,1],[100,1,0,1,1,-1]] (.ik .O .B) (.il .B (.n 100)) (.ie (.a (.m 100 .A) .B) .P) (.l .C (.n 100)) (.e (.a (.m 100 .A) .C) .B) (Ar.imod _ 100 (by decide)).1 (Ar.imod _ 100 (by decide)).2.1 (Ar.imod _ 100 (by decide)).2.2 (Ar.mH _ 100 (by decide)).1 (Ar.mH _ 100 (by decide)).2)
 ·rw [cn c,aw c]
  exact l
theorem v9 {P:Nat→Option Fn} (h0:P 0=some fn0) (h1:P 1=some fn1) (h2:P 2=some fn2) (h3:P 3=some fn3) (h4:P 4=some R2.fn4) (h5:P 5=some fn5) (h10:P 10=some R2.mY) (hL:P 1000=some R2.fnL) (h11:P 11=some R2.fC) {n:Nat} (H:Pre ρ σ b xs ys al bl ba bb alo ahi blo bhi) (r16:ρ 16=some (.clo 0 [.int b])):fy (gy P (n+5)) R2.fW ρ σ (dH jR):=by
 rw [CF]
 refine eG (.int (rx ys)) (CM H.r11 H.Lb) ?_
 have H0:=H.up (n:=17) (v:=.int (rx ys)) (by decide) (by decide)
 rw [t1,mw]
 refine qJ hL H0.r10 H0.r11 r16 (bg _ _ _) H0.La H0.Lb H0.lx H0.ly fun c σ' E _ hc=>?_
 exact IZ h0 h1 h2 h3 h4 h5 h10 hL h11 ((H0.ext E.L).up (by decide) (by decide)) r16 (bg _ _ _) hc
end
end SM
end MP
end
section
namespace Mine
open MP PySem
theorem fin2:rw2.Holds:=KO fun ns hn=>SM.HX rfl hn fun ρ' σ' b xs ys al bl ba bb alo ahi blo bhi H=>⟨rfl,b,H.r28,SM.v9 (n:=1) rfl rfl rfl rfl rfl rfl rfl rfl rfl (H.up (n:=16) (by decide) (by decide)) rfl⟩
end Mine
end
theorem PySem.Challenge.cw_dm0056_02_holds : PySem.Challenge.rw_dm0056_02.Holds :=
 Mine.fin2
