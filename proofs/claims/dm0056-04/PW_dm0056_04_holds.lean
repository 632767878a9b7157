import PyProof.Rows.All
import Wide.All
import OpenK.AllK
import Wide.FinOn
import Open.Tops
import OpenK.KWalk
import PySem.Challenge.RW_dm0056_04
set_option Elab.async false
set_option tactic.hygienic false
set_option maxRecDepth 100000
local macro_rules
 | `(tactic| show $t)=>`(tactic| refine(?_:$t))
local macro_rules
 | `(tactic| rw [$t:term])=>`(tactic| ((first | refine Ar.rwm ($t ..) ?_ | rewrite [$t:term]);try (with_reducible rfl)))
 | `(tactic| rw [← $t:term])=>`(tactic| ((first | refine Ar.rwn ($t ..) ?_ | rewrite [← $t:term]);try (with_reducible rfl)))
 | `(tactic| rw [$t:term,$rs:rwRule,*])=>`(tactic| ((first | refine Ar.rwm ($t ..) ?_ | rewrite [$t:term]);rw [$rs,*]))
 | `(tactic| rw [← $t:term,$rs:rwRule,*])=>`(tactic| ((first | refine Ar.rwn ($t ..) ?_ | rewrite [← $t:term]);rw [$rs,*]))
open Lean in
local macro_rules
 | `(tactic| obtain⟨$ps,*⟩:=$t)=>do
  let ps:=ps.getElems.map (·.raw)
  let n:=ps.size
  let mut xs:Array Ident:=#[]
  let mut aft:Array (Array (TSyntax `tactic)):=#[]
  for i in [0:n] do
   let p:=ps[i]!
   if p[1].getNumArgs=0&&p[0][0].getNumArgs=1&&p[0][0][0].isOfKind ``Lean.Parser.Tactic.rcasesPat.one&&!p[0][0][0][0].getId==`rfl then
    xs:=xs.push ⟨p[0][0][0][0]⟩;aft:=aft.push #[]
   else
    let q:=mkIdent (← Macro.addMacroScope (.mkSimple s!"x{i}"))
    xs:=xs.push q
    aft:=aft.push #[← `(tactic| obtain $(⟨p[0]⟩):rcasesPatMed:=$q)]
  let cl:TSyntax `tactic←if t.raw.isIdent then `(tactic| try clear $t) else `(tactic| skip)
  let mut alts:Array (TSyntax ``Lean.Parser.Tactic.tacticSeq):=#[]
  for k in [0:min n 9-1] do
   let m:=min n 9-k
   let q:=mkIdent (← Macro.addMacroScope `y)
   let ys:=if m=n then xs else (xs.extract 0 (m-1)).push q
   let fs←(Array.range m).mapM fun j=>`(tacticSeq| refine $(mkIdent (.str `Ar s!"e{m}_{m - 1 - j}")) $t ?_)
   let rest:Array (TSyntax ``Lean.Parser.Tactic.rcasesPatLo):=(ps.extract (m-1) n).map (⟨·⟩)
   let mut a:Array (TSyntax `tactic):=#[]
   for i in [0:m] do a:=(a.push (← `(tactic| intro $(ys[i]!):ident)))++(if m=n||i<m-1 then aft[i]! else #[])
   let b←if m=n then pure a else pure (a.push (← `(tactic| obtain⟨$rest,*⟩:=$q)))
   alts:=alts.push (← `(tacticSeq| first $[| $fs]*;$cl;$[$b];*))
  if n<2 then Macro.throwUnsupported
  `(tactic| first $[| $alts]* | fail)
open Lean in
local macro_rules
 | `(tactic| rintro $ps*)=>do
  let mut a:Array (TSyntax `tactic):=#[]
  let mut any:=false
  for p in ps do
   if p.raw.isOfKind ``Lean.Parser.Tactic.rintroPat.one&&p.raw[0].isOfKind ``Lean.Parser.Tactic.rcasesPat.tuple then
    let q:=mkIdent (← Macro.addMacroScope `z)
    any:=true
    a:=a.push (← `(tactic| (intro $q:ident;obtain $(⟨p.raw[0]⟩):rcasesPat:=$q)))
   else a:=a.push (← `(tactic| rintro $p))
  if !any then Macro.throwUnsupported
  `(tactic| ($[$a];*))
open Lean in
local macro_rules
 | `(tactic| refine⟨$ts,*⟩)=>do
  let ts:=ts.getElems
  let n:=ts.size
  if n<2 then Macro.throwUnsupported
  let mut alts:Array (TSyntax ``Lean.Parser.Tactic.tacticSeq):=#[]
  for k in [0:min n 9-1] do
   let m:=min n 9-k
   let r:=ts.extract (m-1) n
   let us←if m=n then pure ts else pure ((ts.extract 0 (m-1)).push (← `(⟨$r,*⟩)))
   for j in [0:m-1] do
    alts:=alts.push (← `(tacticSeq| refine $(mkIdent (.str `Ar s!"i{m}_{m - 1 - j}")) $us*))
  `(tactic| (refine(?_:Exists _);first $[| $alts]* | fail))
local macro_rules
 | `(tactic| exact⟨$ts,*⟩)=>`(tactic| (refine⟨$ts,*⟩;done))
namespace Mine.Z
def aa:=@Nat.sub_add_cancel
def ab:=@PySem.wpAny_bind
def ae:=@PySem.wpAny_pure
def af:=@Option.some.inj
def ah:=@Classical.not_and_iff_not_or_not
def aj:=@Nat.le_refl
def ak:=@Nat.lt_or_gt_of_ne
def aq:=@List.mem_singleton
def au:=@PySem.Heap.get?_push_of_some
def aw:=@if_neg
def ax:=@List.length_map
def ay:=@PySem.wpAny_mono
def az:=@of_decide_eq_true
def ba:=@Nat.zero_le
def bb:=@List.getElem?_eq_some_iff
def bc:=@if_pos
def bg:=@List.size_toArray
def bh:=@PySem.wpAny_holding
def bq:=@List.getElem?_map
def br:=@List.mem_cons
def bu:=@congrArg
def bw:=@Option.isSome_iff_exists
def bx:=@List.length_append
def bz:=@Bool.and_eq_true
def cf:=@List.getElem?_eq_getElem
def cg:=@PySem.Heap.get?_push_size
def cm:=@Nat.le_of_ble_eq_true
def cq:=@Option.bind_eq_some_iff
def ct:=@Bool.false_eq_true
def cu:=@List.mem_of_getElem?
def cv:=@List.append_nil
def cx:=@PySem.wpAny_of_eq
def cy:=@List.mem_append
def cz:=@Option.some.injEq
def dg:=@PySem.builtinLookup_eq_fast
def dh:=@List.mem_map
def di:=@List.map_append
def dp:=@decide_eq_false
def dq:=@List.length_take
def dt:=@PySem.wpAny_standAt
def dv:=@decide_eq_true
def dw:=@Bool.not_eq_true'
def dz:=@PySem.Heap.size_push
def eh:=@Int.toNat_natCast
def ek:=@PySem.Heap.lt_size
def er:=@PySem.typeLookup_type
def fb:=@Option.map_eq_some_iff
def fk:=@List.length_drop
def fo:=@List.mem_append_right
def fq:=@List.mem_append_left
def fu:=@List.length_cons
def fy:=@if_false
def gb:=@congrFun
def gc:=@Nat.lt_irrefl
def gi:=@List.all_eq_true
def gm:=@List.map_cons
def gu:=@List.append_assoc
def gw:=@List.drop_eq_getElem_cons
def gx:=@Classical.byContradiction
def gy:=@PySem.wpAny_newObj_type
def gz:=@PySem.isSubtype_type
def ib:=@List.length_singleton
def iq:=@List.forIn_nil
def iz:=@Prod.mk.inj
def jg:=@PySem.wpAny_call_entry
def jh:=@Nat.not_lt_zero
def ji:=@List.forIn_cons
def jj:=@PySem.F.slot_tuple_iterator_next
def jk:=@Nat.ne_of_lt
def jl:=@List.take_succ_eq_append_getElem
def jo:=@Prod.mk.injEq
def jy:=@PySem.wpAny_loadPart_at
def jz:=@not_or
def kc:=@decide_eq_decide
def ke:=@List.take_length
def kf:=@List.getElem_mem
def ku:=@Nat.zero_add
def kx:=@Nat.le_of_lt
def ky:=@List.map_map
def kz:=@Bool.false_ne_true
def lq:=@PySem.wpAny_execs_cons
def mu:=@PySem.Heap.get?_update_other
def nh:=@PyProof.Rows.callWith_type
def nj:=@Nat.not_lt
def nk:=@Nat.le_trans
def nq:=@Int.zero_add
def nt:=@PySem.wpAny_truthy_bool
def nu:=@Option.isNone_iff_eq_none
def nv:=@List.pairwise_iff_getElem
def oo:=@beq_eq_false_iff_ne
def pe:=@PySem.wpAny_seqItems
def pf:=@PySem.wpAny_call
def pg:=@List.nodup_cons
def ph:=@Bool.or_eq_true
def pq:=@beq_iff_eq
def pv:=@Option.isSome_none
def pz:=@List.pairwise_cons
def qa:=@Int.lt_or_gt_of_ne
def qc:=@List.lookup_eq_none_iff
def qh:=@PySem.Heap.SameBut.update
def rf:=@Nat.lt_or_ge
def rg:=@PySem.Heap.Ns.of_isNs
def rj:=@PySem.wpAny_load
def sd:=@Nat.le_add_right
def sf:=@List.not_mem_nil
def sg:=@if_true
def sh:=@List.map_take
def si:=@Bool.not_true
def tg:=@PySem.Calls.spliced_nil
def ud:=@beq_false_of_ne
def uk:=@List.getElem_of_mem
def um:=@List.flatMap_append
def uo:=@PySem.Heap.get?_update_self
def uv:=@PySem.entryFor_of_tree
def uw:=@Int.le_of_eq
def vq:=@le_of_le_of_eq
def vt:=@Option.none_or
def vv:=@Nat.lt_or_eq_of_le
def wc:=@Nat.lt_of_lt_of_le
def wd:=@List.drop_zero
def we:=@PySem.Heap.get?_none_of_le
def wg:=@Array.perm_iff_toList_perm
def xk:=@PySem.codeAny_of_tree
def xn:=@List.getElem?_eq_none_iff
def xp:=@List.getElem?_append_left
def yc:=@decide_eq_true_eq
def yd:=@bne_self_eq_false
def ye:=@Nat.le_of_lt_succ
def yf:=@List.reverse_cons
def yr:=@PySem.wpAny_typeOf
def yt:=@PySem.F.slot_list_append
def yu:=@PyProof.noPylong_of_log2
def yv:=@Bool.or_false
def zx:=@PySem.wpAny_loadPart
def zy:=@decide_eq_false_iff_not
def a9:=@PySem.call_meets
def aA:=@Nat.succ_ne_zero
def aB:=@List.lookup_cons
def aC:=@List.flatten_nil
def aD:=@List.filter_cons_of_pos
def aE:=@List.cons_append
def bS:=@PySem.wpAny_field
def bY:=@PySem.signature?_of
def dZ:=@PySem.wpAny_callSpecial?_slot
def e8:=@List.mem_iff_getElem
def fU:=@List.ne_and_not_mem_of_not_mem_cons
def iF:=@PySem.F.args_tuple_iterator_next_1
def iG:=@PySem.F.entry_tuple_iterator_next
def u0:=@PySem.slot_list_getitem
end Mine.Z
open Mine.Z
section
namespace Ar
set_option genSizeOf false
set_option genInjectivity false
inductive N where
 | v (i:Nat)
 | n (k:Nat)
 | a (x y:N)
 | m (k:Nat) (x:N)
 | r (x:N) (k:Nat)
inductive E where
 | v (i:Nat)
 | n (k:Int)
 | a (x y:E)
 | s (x y:E)
 | m (k:Int) (x:E)
 | r (x:E) (k:Int)
 | g (x:E)
 | t (x:N)
inductive R where
 | lt | le | eq | ge | gt | ne
inductive P where
 | i (r:R) (x y:E)
 | n (r:R) (x y:N)
 | ff
structure Q where
 r:R
 x:E
 y:E
noncomputable abbrev hd (d:α):List α→α
 | []=>d
 | x::_=>x
noncomputable abbrev tl:List α→List α
 | []=>[]
 | _::l=>l
noncomputable abbrev nth (d:α):Nat→List α→α
 | 0=>hd d
 | i+1=>fun l=>nth d i (tl l)
noncomputable abbrev N.d (k:List Nat):N→Nat
 | .v i=>nth 0 i k
 | .n c=>c
 | .a x y=>x.d k+y.d k
 | .m c x=>c*x.d k
 | .r x c=>x.d k*c
noncomputable abbrev E.d (c:List Int) (k:List Nat):E→Int
 | .v i=>nth 0 i c
 | .n j=>j
 | .a x y=>x.d c k+y.d c k
 | .s x y=>x.d c k-y.d c k
 | .m i x=>i*x.d c k
 | .r x i=>x.d c k*i
 | .g x=>- x.d c k
 | .t x=>(x.d k:Int)
noncomputable abbrev R.i (a b:Int):R→Prop
 | .lt=>a<b
 | .le=>a≤b
 | .eq=>a=b
 | .ge=>¬ a<b
 | .gt=>¬ a≤b
 | .ne=>¬ a=b
noncomputable abbrev R.n (a b:Nat):R→Prop
 | .lt=>a<b
 | .le=>a≤b
 | .eq=>a=b
 | .ge=>¬ a<b
 | .gt=>¬ a≤b
 | .ne=>¬ a=b
noncomputable abbrev P.h (c:List Int) (k:List Nat):P→Prop
 | .i r x y=>r.i (x.d c k) (y.d c k)
 | .n r x y=>r.n (x.d k) (y.d k)
 | .ff=>False
theorem R.n_i {a b:Nat}:(r:R)→r.n a b→r.i (a:Int) (b:Int)
 | .lt=>Int.ofNat_lt.mpr
 | .le=>Int.ofNat_le.mpr
 | .eq=>fun h=>bu _ h
 | .ge=>fun h e=>h (Int.ofNat_lt.mp e)
 | .gt=>fun h e=>h (Int.ofNat_le.mp e)
 | .ne=>fun h e=>h (Int.ofNat.inj e)
theorem R.i_n {a b:Nat}:(r:R)→r.i (a:Int) (b:Int)→r.n a b
 | .lt=>Int.ofNat_lt.mp
 | .le=>Int.ofNat_le.mp
 | .eq=>fun h=>Int.ofNat.inj h
 | .ge=>fun h e=>h (Int.ofNat_lt.mpr e)
 | .gt=>fun h e=>h (Int.ofNat_le.mpr e)
 | .ne=>fun h e=>h (bu _ e)
theorem ad {a b c d:Int} (h:a=c) (e:b=d):a+b=c+d:=h▸e▸rfl
theorem sb {a b c d:Int} (h:a=c) (e:b=d):a-b=c-d:=h▸e▸rfl
theorem aac (a b c d:Int):a+b+(c+d)=a+c+(b+d):=by omega
theorem CL {a b:Int} (h:a<0) (e:b≤0):a+b<0:=by omega
theorem ltd {a b:Int} (h:a<b):0≤b-a+-1:=by omega
noncomputable def S:List Int→(Nat→Int)→Int
 | []=>fun _=>0
 | y::l=>fun f=>f 0*y+S l fun j=>f (j+1)
noncomputable def dl (i j:Nat):Int:=bif Nat.beq i j then 1 else 0
theorem tU:(l:List Int)→(f g:Nat→Int)→S l (fun j=>f j+g j)=S l f+S l g
 | [],_,_=>rfl
 | y::l,f,g=>(ad (Int.add_mul (f 0) (g 0) y) (tU l (fun j=>f (j+1)) fun j=>g (j+1))).trans (aac _ _ _ _)
theorem tT (i:Int):(l:List Int)→(f:Nat→Int)→S l (fun j=>i*f j)=i*S l f
 | [],_=>(Int.mul_zero i).symm
 | y::l,f=>(ad (Int.mul_assoc i (f 0) y) (tT i l fun j=>f (j+1))).trans (Int.mul_add ..).symm
theorem b0:(l:List Int)→S l (fun _=>0)=0
 | []=>rfl
 | y::l=>(ad (Int.zero_mul y) (b0 l)).trans (nq 0)
theorem nU:(i:Nat)→(l:List Int)→S l (dl i)=nth 0 i l
 | 0,[]=>rfl
 | 0,y::l=>(ad (Int.one_mul y) (b0 l)).trans (Int.add_zero y)
 | i+1,[]=>nU i []
 | i+1,y::l=>(ad (Int.zero_mul y) (nU i l)).trans (nq _)
noncomputable def up:List Nat→List Int
 | []=>[]
 | x::l=>(x:Int)::up l
theorem kQ:(i:Nat)→(l:List Nat)→nth 0 i (up l)=(nth 0 i l:Nat)
 | 0,[]=>rfl
 | 0,_::_=>rfl
 | i+1,[]=>kQ i []
 | i+1,_::l=>kQ i l
structure L where
 k:Int
 c:Nat→Int
 n:Nat→Int
noncomputable def L.d (c k:List Int) (l:L):Int:=l.k+(S c l.c+S k l.n)
noncomputable def L.add (l m:L):L:=⟨l.k+m.k,fun j=>l.c j+m.c j,fun j=>l.n j+m.n j⟩
noncomputable def L.scl (i:Int) (l:L):L:=⟨i*l.k,fun j=>i*l.c j,fun j=>i*l.n j⟩
noncomputable def L.num (i:Int):L:=⟨i,fun _=>0,fun _=>0⟩
theorem L.jQ {c k:List Int} (l m:L):(l.add m).d c k=l.d c k+m.d c k :=
 (bu (l.k+m.k+·) ((ad (tU ..) (tU ..)).trans (aac _ _ _ _))).trans (aac _ _ _ _)
theorem L.dK {c k:List Int} (i:Int) (l:L):(l.scl i).d c k=i*l.d c k :=
 (bu (i*l.k+·) ((ad (tT ..) (tT ..)).trans (Int.mul_add ..).symm)).trans (Int.mul_add ..).symm
theorem L.jP {c k:List Int} (i:Int):(L.num i).d c k=i :=
 (bu (i+·) ((ad (b0 c) (b0 k)).trans (nq 0))).trans (Int.add_zero i)
noncomputable def N.l:N→L
 | .v i=>⟨0,fun _=>0,dl i⟩
 | .n c=>.num c
 | .a x y=>x.l.add y.l
 | .m c x=>x.l.scl c
 | .r x c=>x.l.scl c
noncomputable def E.l:E→L
 | .v i=>⟨0,dl i,fun _=>0⟩
 | .n j=>.num j
 | .a x y=>x.l.add y.l
 | .s x y=>x.l.add (y.l.scl (-1))
 | .m i x=>x.l.scl i
 | .r x i=>x.l.scl i
 | .g x=>x.l.scl (-1)
 | .t x=>x.l
theorem N.l_d {c:List Int} {k:List Nat}:(x:N)→x.l.d c (up k)=(x.d k:Nat)
 | .v i=>(nq _).trans ((ad (b0 c) ((nU i (up k)).trans (kQ i k))).trans (nq _))
 | .n i=>L.jP (i:Int)
 | .a x y=>(L.jQ x.l y.l).trans ((ad (N.l_d x) (N.l_d y)))
 | .m i x=>(L.dK i x.l).trans ((bu ((i:Int)*·) (N.l_d x)))
 | .r x i=>(L.dK i x.l).trans ((bu ((i:Int)*·) (N.l_d x)).trans (Int.mul_comm ..))
theorem eS {c k:List Int} (x y:L):(x.add (y.scl (-1))).d c k=x.d c k-y.d c k :=
 (L.jQ ..).trans (bu (x.d c k+·) ((L.dK ..).trans (Int.neg_one_mul _)))
theorem E.l_d {c:List Int} {k:List Nat}:(x:E)→x.l.d c (up k)=x.d c k
 | .v i=>(nq _).trans ((ad (nU i c) (b0 (up k))).trans (Int.add_zero _))
 | .n i=>L.jP i
 | .a x y=>(L.jQ x.l y.l).trans ((ad (E.l_d x) (E.l_d y)))
 | .s x y=>(eS x.l y.l).trans ((sb (E.l_d x) (E.l_d y)))
 | .m i x=>(L.dK i x.l).trans ((bu (i*·) (E.l_d x)))
 | .r x i=>(L.dK i x.l).trans ((bu (i*·) (E.l_d x)).trans (Int.mul_comm ..))
 | .g x=>(L.dK (-1) x.l).trans ((Int.neg_one_mul _).trans (bu (- ·) (E.l_d x)))
 | .t x=>N.l_d x
noncomputable def R.l (x y:L):R→L
 | .lt=>(y.add (x.scl (-1))).add (.num (-1))
 | .le=>y.add (x.scl (-1))
 | .eq=>y.add (x.scl (-1))
 | .ge=>x.add (y.scl (-1))
 | .gt=>(x.add (y.scl (-1))).add (.num (-1))
 | .ne=>.num 0
theorem less {c k:List Int} {x y:L} (h:x.d c k<y.d c k):0≤((y.add (x.scl (-1))).add (.num (-1))).d c k :=
 vq (ltd h) ((L.jQ ..).trans (ad (eS y x) (L.jP (-1)))).symm
theorem R.l_d {c k:List Int} {x y:L}:(r:R)→r.i (x.d c k) (y.d c k)→0≤(r.l x y).d c k
 | .lt=>fun h=>less h
 | .le=>fun h=>vq (Int.sub_nonneg_of_le h) (eS y x).symm
 | .eq=>fun h=>vq (Int.sub_nonneg_of_le (uw h)) (eS y x).symm
 | .ge=>fun h=>vq (Int.sub_nonneg_of_le (Int.not_lt.mp h)) (eS x y).symm
 | .gt=>fun h=>less (Int.not_le.mp h)
 | .ne=>fun _=>uw (L.jP 0).symm
theorem R.CU {a b a' b':Int} (r:R) (e1:a=a') (e2:b=b') (h:r.i a' b'):r.i a b:=by subst e1 e2;exact h
noncomputable def Q.h (c:List Int) (k:List Nat) (q:Q):Prop:=q.r.i (q.x.d c k) (q.y.d c k)
noncomputable def Q.l (q:Q):L:=q.r.l q.x.l q.y.l
theorem Q.l_d {c:List Int} {k:List Nat} {q:Q} (h:q.h c k):0≤q.l.d c (up k) :=
 R.l_d q.r (R.CU q.r (E.l_d q.x) (E.l_d q.y) h)
noncomputable def R.e:R→Bool
 | .eq=>true
 | _=>false
theorem R.e_d {a b:Int}:(r:R)→r.e=true→r.i a b→r=.eq∧a=b
 | .eq=>fun _ h=>⟨rfl,h⟩
 | .lt=>fun e=>Bool.noConfusion e
 | .le=>fun e=>Bool.noConfusion e
 | .ge=>fun e=>Bool.noConfusion e
 | .gt=>fun e=>Bool.noConfusion e
 | .ne=>fun e=>Bool.noConfusion e
theorem Q.e_d {c:List Int} {k:List Nat} {q:Q} (e:q.r.e=true) (h:q.h c k):q.l.d c (up k)=0:=by
 obtain⟨r,x,y⟩:=q
 obtain⟨rfl,h⟩:=R.e_d r e h
 exact(eS y.l x.l).trans ((sb (E.l_d y) (E.l_d x)).trans (Int.sub_eq_zero_of_eq h.symm))
noncomputable def P.q:P→Q
 | .i r x y=>⟨r,x,y⟩
 | .n r x y=>⟨r,.t x,.t y⟩
 | .ff=>⟨.ne,.n 0,.n 0⟩
theorem P.to {c:List Int} {k:List Nat}:{p:P}→p.h c k→p.q.h c k
 | .i _ _ _=>id
 | .n r _ _=>R.n_i r
 | .ff=>False.elim
theorem P.of {c:List Int} {k:List Nat}:(p:P)→p.q.h c k→p.h c k
 | .i _ _ _=>id
 | .n r _ _=>R.i_n r
 | .ff=>fun h=>h rfl
noncomputable def sum:List Q→List Int→L
 | []=>fun _=>.num 0
 | q::qs=>fun ms=>(q.l.scl (ms.headD 0)).add (sum qs ms.tail)
noncomputable def good:List Q→List Int→Bool
 | []=>fun _=>true
 | q::qs=>fun ms=>(q.r.e||decide (0≤ms.headD 0))&&good qs ms.tail
noncomputable def All (c:List Int) (k:List Nat):List Q→Prop
 | []=>True
 | q::qs=>q.h c k∧All c k qs
theorem band {a b:Bool}:(a&&b)=true→a=true∧b=true:=(bz a b).mp
theorem y1 {c:List Int} {k:List Nat}:(qs:List Q)→(ms:List Int)→good qs ms=true→All c k qs→0≤(sum qs ms).d c (up k)
 | []=>fun _ _ _=>uw (L.jP 0).symm
 | q::qs=>fun ms hg h=>vq
   (Int.add_nonneg (((ph ..).mp (band hg).1).elim
    (fun e=>uw ((bu (ms.headD 0*·) (Q.e_d e h.1)).trans (Int.mul_zero _)).symm)
    (fun e=>Int.mul_nonneg (az e) (Q.l_d h.1))) (y1 qs ms.tail (band hg).2 h.2))
   ((L.jQ ..).trans (ad (L.dK ..) rfl)).symm
noncomputable def zero:List Int→(Nat→Int)→Bool
 | []=>fun _=>true
 | _::l=>fun f=>decide (f 0=0)&&zero l fun j=>f (j+1)
noncomputable def zG:List Nat→(Nat→Int)→Bool
 | []=>fun _=>true
 | _::l=>fun f=>decide (f 0≤0)&&zG l fun j=>f (j+1)
theorem pU:(l:List Int)→(f:Nat→Int)→zero l f=true→S l f=0
 | []=>fun _ _=>rfl
 | y::l=>fun f h=>(ad ((bu (·*y) (az (band h).1)).trans (Int.zero_mul y)) (pU l _ (band h).2)).trans (nq 0)
theorem sH:(l:List Nat)→(f:Nat→Int)→zG l f=true→S (up l) f≤0
 | []=>fun _ _=>Int.le_refl _
 | y::l=>fun f h=>Int.add_le_add (Int.mul_nonpos_of_nonpos_of_nonneg (az (band h).1) (Int.natCast_nonneg y)) (sH l _ (band h).2)
noncomputable def ok (c:List Int) (k:List Nat) (qs:List Q) (ms:List Int):Bool :=
 good qs ms&&(decide ((sum qs ms).k<0)&&(zero c (sum qs ms).c&&zG k (sum qs ms).n))
theorem CJ {c:List Int} {k:List Nat} {qs:List Q} {ms:List Int} (h:ok c k qs ms=true) (hs:All c k qs):False :=
 have h1:=band (band h).2
 have h2:=band h1.2
 Int.not_lt.mpr (y1 qs ms (band h).1 hs) (CL (az h1.1) (Int.le_trans (uw ((ad (pU c _ h2.1) rfl).trans (nq _))) (sH k _ h2.2)))
noncomputable def R.zK:R→List R
 | .lt=>[.ge]
 | .le=>[.gt]
 | .eq=>[.lt,.gt]
 | .ge=>[.lt]
 | .gt=>[.le]
 | .ne=>[.eq]
theorem R.neg {a b:Int}:(r:R)→(∀ s,s∈r.zK→¬ s.i a b)→r.i a b
 | .lt=>fun h=>Decidable.not_not.mp (h .ge (.head _))
 | .le=>fun h=>Decidable.not_not.mp (h .gt (.head _))
 | .eq=>fun h=>Int.le_antisymm (Decidable.not_not.mp (h .gt (.tail _ (.head _)))) (Int.not_lt.mp (h .lt (.head _)))
 | .ge=>fun h=>h .lt (.head _)
 | .gt=>fun h=>h .le (.head _)
 | .ne=>fun h=>h .eq (.head _)
noncomputable def oks (c:List Int) (k:List Nat) (x y:E) (qs:List Q):List R→List (List Int)→Bool
 | []=>fun _=>true
 | r::rs=>fun ms=>ok c k (⟨r,x,y⟩::qs) (ms.headD [])&&oks c k x y qs rs ms.tail
theorem y4 {c:List Int} {k:List Nat} {x y:E} {qs:List Q} (hs:All c k qs):(rs:List R)→(ms:List (List Int))→oks c k x y qs rs ms=true→∀ s,s∈rs→¬ s.i (x.d c k) (y.d c k)
 | _,_,h,_,.head _=>fun hq=>CJ (band h).1 ⟨hq,hs⟩
 | _,ms,h,s,.tail _ m=>y4 hs _ ms.tail (band h).2 s m
noncomputable def chk (c:List Int) (k:List Nat) (g:P) (ps:List P) (ms:List (List Int)):Bool :=
 oks c k g.q.x g.q.y (ps.map P.q) g.q.r.zK ms
theorem main {c:List Int} {k:List Nat} {g:P} (ps:List P) {ms:List (List Int)} (h:chk c k g ps ms=true) (hs:All c k (ps.map P.q)):g.h c k :=
 P.of g (R.neg g.q.r (y4 hs g.q.r.zK ms h))
theorem a0 (c:List Int) (k:List Nat) (g:P) (ms:List (List Int)) (hc:chk c k g [] ms=true:=by exact Ar.y):g.h c k:=main [] hc trivial
theorem a1 (c:List Int) (k:List Nat) (g:P) (ms:List (List Int)) (p1:P) (h1:p1.h c k) (hc:chk c k g [p1] ms=true:=by exact Ar.y):g.h c k:=main [p1] hc ⟨P.to h1,trivial⟩
theorem a2 (c:List Int) (k:List Nat) (g:P) (ms:List (List Int)) (p1 p2:P) (h1:p1.h c k) (h2:p2.h c k) (hc:chk c k g [p1,p2] ms=true:=by exact Ar.y):g.h c k:=main [p1,p2] hc ⟨P.to h1,P.to h2,trivial⟩
theorem a3 (c:List Int) (k:List Nat) (g:P) (ms:List (List Int)) (p1 p2 p3:P) (h1:p1.h c k) (h2:p2.h c k) (h3:p3.h c k) (hc:chk c k g [p1,p2,p3] ms=true:=by exact Ar.y):g.h c k:=main [p1,p2,p3] hc ⟨P.to h1,P.to h2,P.to h3,trivial⟩
theorem a4 (c:List Int) (k:List Nat) (g:P) (ms:List (List Int)) (p1 p2 p3 p4:P) (h1:p1.h c k) (h2:p2.h c k) (h3:p3.h c k) (h4:p4.h c k) (hc:chk c k g [p1,p2,p3,p4] ms=true:=by exact Ar.y):g.h c k:=main [p1,p2,p3,p4] hc ⟨P.to h1,P.to h2,P.to h3,P.to h4,trivial⟩
theorem a5 (c:List Int) (k:List Nat) (g:P) (ms:List (List Int)) (p1 p2 p3 p4 p5:P) (h1:p1.h c k) (h2:p2.h c k) (h3:p3.h c k) (h4:p4.h c k) (h5:p5.h c k) (hc:chk c k g [p1,p2,p3,p4,p5] ms=true:=by exact Ar.y):g.h c k:=main [p1,p2,p3,p4,p5] hc ⟨P.to h1,P.to h2,P.to h3,P.to h4,P.to h5,trivial⟩
theorem a6 (c:List Int) (k:List Nat) (g:P) (ms:List (List Int)) (p1 p2 p3 p4 p5 p6:P) (h1:p1.h c k) (h2:p2.h c k) (h3:p3.h c k) (h4:p4.h c k) (h5:p5.h c k) (h6:p6.h c k) (hc:chk c k g [p1,p2,p3,p4,p5,p6] ms=true:=by exact Ar.y):g.h c k:=main [p1,p2,p3,p4,p5,p6] hc ⟨P.to h1,P.to h2,P.to h3,P.to h4,P.to h5,P.to h6,trivial⟩
theorem a7 (c:List Int) (k:List Nat) (g:P) (ms:List (List Int)) (p1 p2 p3 p4 p5 p6 p7:P) (h1:p1.h c k) (h2:p2.h c k) (h3:p3.h c k) (h4:p4.h c k) (h5:p5.h c k) (h6:p6.h c k) (h7:p7.h c k) (hc:chk c k g [p1,p2,p3,p4,p5,p6,p7] ms=true:=by exact Ar.y):g.h c k:=main [p1,p2,p3,p4,p5,p6,p7] hc ⟨P.to h1,P.to h2,P.to h3,P.to h4,P.to h5,P.to h6,P.to h7,trivial⟩
theorem a8 (c:List Int) (k:List Nat) (g:P) (ms:List (List Int)) (p1 p2 p3 p4 p5 p6 p7 p8:P) (h1:p1.h c k) (h2:p2.h c k) (h3:p3.h c k) (h4:p4.h c k) (h5:p5.h c k) (h6:p6.h c k) (h7:p7.h c k) (h8:p8.h c k) (hc:chk c k g [p1,p2,p3,p4,p5,p6,p7,p8] ms=true:=by exact Ar.y):g.h c k:=main [p1,p2,p3,p4,p5,p6,p7,p8] hc ⟨P.to h1,P.to h2,P.to h3,P.to h4,P.to h5,P.to h6,P.to h7,P.to h8,trivial⟩
theorem y:true=true:=rfl
noncomputable abbrev N.v0:N:=.v 0
noncomputable abbrev E.v0:E:=.v 0
noncomputable abbrev N.v1:N:=.v 1
noncomputable abbrev E.v1:E:=.v 1
noncomputable abbrev N.v2:N:=.v 2
noncomputable abbrev E.v2:E:=.v 2
noncomputable abbrev N.v3:N:=.v 3
noncomputable abbrev E.v3:E:=.v 3
noncomputable abbrev N.v4:N:=.v 4
noncomputable abbrev E.v4:E:=.v 4
noncomputable abbrev N.v5:N:=.v 5
noncomputable abbrev E.v5:E:=.v 5
noncomputable abbrev N.v6:N:=.v 6
noncomputable abbrev E.v6:E:=.v 6
noncomputable abbrev N.v7:N:=.v 7
noncomputable abbrev E.v7:E:=.v 7
noncomputable abbrev N.v8:N:=.v 8
noncomputable abbrev E.v8:E:=.v 8
noncomputable abbrev N.v9:N:=.v 9
noncomputable abbrev E.v9:E:=.v 9
noncomputable abbrev N.n0:N:=.n 0
noncomputable abbrev E.n0:E:=.n 0
noncomputable abbrev N.n1:N:=.n 1
noncomputable abbrev E.n1:E:=.n 1
noncomputable abbrev N.n2:N:=.n 2
noncomputable abbrev E.n2:E:=.n 2
noncomputable abbrev P.l (x y:N):P:=.n .lt x y
noncomputable abbrev P.il (x y:E):P:=.i .lt x y
noncomputable abbrev P.k (x y:N):P:=.n .le x y
noncomputable abbrev P.ik (x y:E):P:=.i .le x y
noncomputable abbrev P.e (x y:N):P:=.n .eq x y
noncomputable abbrev P.ie (x y:E):P:=.i .eq x y
noncomputable abbrev P.g (x y:N):P:=.n .ge x y
noncomputable abbrev P.ig (x y:E):P:=.i .ge x y
noncomputable abbrev P.j (x y:N):P:=.n .gt x y
noncomputable abbrev P.ij (x y:E):P:=.i .gt x y
noncomputable abbrev P.u (x y:N):P:=.n .ne x y
noncomputable abbrev P.iu (x y:E):P:=.i .ne x y
noncomputable abbrev E.ng (k:Int):E:=.n (-k)
theorem AS (x y:Nat):x≤x-y+y:=by omega
theorem imp {a b:Prop} (h:a→b):¬ a∨b:=(Classical.em a).elim (fun x=>.inr (h x)) .inl
theorem aL (x k:Nat) (h:0<k):x%k<k∧k*(x/k)+x%k=x:=⟨Nat.mod_lt x h,Nat.div_add_mod x k⟩
theorem jr (x y:Nat):min x y≤x∧min x y≤y∧(x≤min x y∨y≤min x y):=by omega
theorem zH (x y:Nat):x≤max x y∧y≤max x y∧(max x y≤x∨max x y≤y):=by omega
theorem ton (x:Int):(0≤x∧(x.toNat:Int)=x)∨(x≤0∧x.toNat=0) :=
 (Int.le_total 0 x).elim (fun h=>.inl ⟨h,Int.toNat_of_nonneg h⟩) fun h=>.inr ⟨h,Int.toNat_of_nonpos h⟩
theorem nab (x:Int):(0≤x∧(x.natAbs:Int)=x)∨(x≤0∧(x.natAbs:Int)=-x) :=
 (Int.le_total 0 x).elim (fun h=>.inl ⟨h,Int.natAbs_of_nonneg h⟩) fun h=>.inr ⟨h,Int.ofNat_natAbs_of_nonpos h⟩
theorem sub {p:Prop} (x y:Nat) (h1:y≤x→x-y+y=x→p) (h2:x≤y→x-y=0→p):p :=
 (Nat.le_total y x).elim (fun h=>h1 h (aa h)) fun h=>h2 h (Nat.sub_eq_zero_of_le h)
@[elab_as_elim] theorem rwm {α:Sort u} {a b:α} {p:α→Prop} (h:a=b) (q:p b):p a:=Eq.rec (motive:=fun x _=>p x) q h.symm
@[elab_as_elim] theorem rwn {α:Sort u} {a b:α} {p:α→Prop} (h:b=a) (q:p b):p a:=Eq.rec (motive:=fun x _=>p x) q h
theorem ER {p0 p1:Prop} {r:Prop} (h:p0∧p1) (k:p0→p1→r):r:=k h.1 h.2
theorem EP {A0:Sort _} {p0:A0→Prop} {r:Prop} (h:∃ x0,p0 x0) (k:∀ x0,p0 x0→r):r:=h.elim fun x0 g0=>k x0 g0
theorem DK {A0:Sort _} {p0:A0→Prop} (x0:A0) (h0:p0 x0):∃ x0,p0 x0:=⟨x0,h0⟩
theorem EO {p0 p1 p2:Prop} {r:Prop} (h:p0∧p1∧p2) (k:p0→p1→p2→r):r:=k h.1 h.2.1 h.2.2
theorem EN {A0:Sort _} {p0 p1:A0→Prop} {r:Prop} (h:∃ x0,p0 x0∧p1 x0) (k:∀ x0,p0 x0→p1 x0→r):r:=h.elim fun x0 g0=>k x0 g0.1 g0.2
theorem DJ {A0:Sort _} {p0 p1:A0→Prop} (x0:A0) (h0:p0 x0) (h1:p1 x0):∃ x0,p0 x0∧p1 x0:=⟨x0,h0,h1⟩
theorem EM {A0 A1:Sort _} {p0:A0→A1→Prop} {r:Prop} (h:∃ x0 x1,p0 x0 x1) (k:∀ x0 x1,p0 x0 x1→r):r:=h.elim fun x0 g0=>g0.elim fun x1 g1=>k x0 x1 g1
theorem DI {A0 A1:Sort _} {p0:A0→A1→Prop} (x0:A0) (x1:A1) (h0:p0 x0 x1):∃ x0 x1,p0 x0 x1:=⟨x0,x1,h0⟩
theorem EL {p0 p1 p2 p3:Prop} {r:Prop} (h:p0∧p1∧p2∧p3) (k:p0→p1→p2→p3→r):r:=k h.1 h.2.1 h.2.2.1 h.2.2.2
theorem EK {A0:Sort _} {p0 p1 p2:A0→Prop} {r:Prop} (h:∃ x0,p0 x0∧p1 x0∧p2 x0) (k:∀ x0,p0 x0→p1 x0→p2 x0→r):r:=h.elim fun x0 g0=>k x0 g0.1 g0.2.1 g0.2.2
theorem DH {A0:Sort _} {p0 p1 p2:A0→Prop} (x0:A0) (h0:p0 x0) (h1:p1 x0) (h2:p2 x0):∃ x0,p0 x0∧p1 x0∧p2 x0:=⟨x0,h0,h1,h2⟩
theorem EJ {A0 A1:Sort _} {p0 p1:A0→A1→Prop} {r:Prop} (h:∃ x0 x1,p0 x0 x1∧p1 x0 x1) (k:∀ x0 x1,p0 x0 x1→p1 x0 x1→r):r:=h.elim fun x0 g0=>g0.elim fun x1 g1=>k x0 x1 g1.1 g1.2
theorem DG {A0 A1:Sort _} {p0 p1:A0→A1→Prop} (x0:A0) (x1:A1) (h0:p0 x0 x1) (h1:p1 x0 x1):∃ x0 x1,p0 x0 x1∧p1 x0 x1:=⟨x0,x1,h0,h1⟩
theorem EI {A0 A1 A2:Sort _} {p0:A0→A1→A2→Prop} {r:Prop} (h:∃ x0 x1 x2,p0 x0 x1 x2) (k:∀ x0 x1 x2,p0 x0 x1 x2→r):r:=h.elim fun x0 g0=>g0.elim fun x1 g1=>g1.elim fun x2 g2=>k x0 x1 x2 g2
theorem DF {A0 A1 A2:Sort _} {p0:A0→A1→A2→Prop} (x0:A0) (x1:A1) (x2:A2) (h0:p0 x0 x1 x2):∃ x0 x1 x2,p0 x0 x1 x2:=⟨x0,x1,x2,h0⟩
theorem EH {p0 p1 p2 p3 p4:Prop} {r:Prop} (h:p0∧p1∧p2∧p3∧p4) (k:p0→p1→p2→p3→p4→r):r:=k h.1 h.2.1 h.2.2.1 h.2.2.2.1 h.2.2.2.2
theorem EG {A0:Sort _} {p0 p1 p2 p3:A0→Prop} {r:Prop} (h:∃ x0,p0 x0∧p1 x0∧p2 x0∧p3 x0) (k:∀ x0,p0 x0→p1 x0→p2 x0→p3 x0→r):r:=h.elim fun x0 g0=>k x0 g0.1 g0.2.1 g0.2.2.1 g0.2.2.2
theorem DE {A0:Sort _} {p0 p1 p2 p3:A0→Prop} (x0:A0) (h0:p0 x0) (h1:p1 x0) (h2:p2 x0) (h3:p3 x0):∃ x0,p0 x0∧p1 x0∧p2 x0∧p3 x0:=⟨x0,h0,h1,h2,h3⟩
theorem EF {A0 A1:Sort _} {p0 p1 p2:A0→A1→Prop} {r:Prop} (h:∃ x0 x1,p0 x0 x1∧p1 x0 x1∧p2 x0 x1) (k:∀ x0 x1,p0 x0 x1→p1 x0 x1→p2 x0 x1→r):r:=h.elim fun x0 g0=>g0.elim fun x1 g1=>k x0 x1 g1.1 g1.2.1 g1.2.2
theorem DD {A0 A1:Sort _} {p0 p1 p2:A0→A1→Prop} (x0:A0) (x1:A1) (h0:p0 x0 x1) (h1:p1 x0 x1) (h2:p2 x0 x1):∃ x0 x1,p0 x0 x1∧p1 x0 x1∧p2 x0 x1:=⟨x0,x1,h0,h1,h2⟩
theorem ED {A0 A1 A2:Sort _} {p0 p1:A0→A1→A2→Prop} {r:Prop} (h:∃ x0 x1 x2,p0 x0 x1 x2∧p1 x0 x1 x2) (k:∀ x0 x1 x2,p0 x0 x1 x2→p1 x0 x1 x2→r):r:=h.elim fun x0 g0=>g0.elim fun x1 g1=>g1.elim fun x2 g2=>k x0 x1 x2 g2.1 g2.2
theorem DC {A0 A1 A2:Sort _} {p0 p1:A0→A1→A2→Prop} (x0:A0) (x1:A1) (x2:A2) (h0:p0 x0 x1 x2) (h1:p1 x0 x1 x2):∃ x0 x1 x2,p0 x0 x1 x2∧p1 x0 x1 x2:=⟨x0,x1,x2,h0,h1⟩
theorem EC {A0 A1 A2 A3:Sort _} {p0:A0→A1→A2→A3→Prop} {r:Prop} (h:∃ x0 x1 x2 x3,p0 x0 x1 x2 x3) (k:∀ x0 x1 x2 x3,p0 x0 x1 x2 x3→r):r:=h.elim fun x0 g0=>g0.elim fun x1 g1=>g1.elim fun x2 g2=>g2.elim fun x3 g3=>k x0 x1 x2 x3 g3
theorem EB {A0:Sort _} {p0 p1 p2 p3 p4:A0→Prop} {r:Prop} (h:∃ x0,p0 x0∧p1 x0∧p2 x0∧p3 x0∧p4 x0) (k:∀ x0,p0 x0→p1 x0→p2 x0→p3 x0→p4 x0→r):r:=h.elim fun x0 g0=>k x0 g0.1 g0.2.1 g0.2.2.1 g0.2.2.2.1 g0.2.2.2.2
theorem EA {A0 A1:Sort _} {p0 p1 p2 p3:A0→A1→Prop} {r:Prop} (h:∃ x0 x1,p0 x0 x1∧p1 x0 x1∧p2 x0 x1∧p3 x0 x1) (k:∀ x0 x1,p0 x0 x1→p1 x0 x1→p2 x0 x1→p3 x0 x1→r):r:=h.elim fun x0 g0=>g0.elim fun x1 g1=>k x0 x1 g1.1 g1.2.1 g1.2.2.1 g1.2.2.2
theorem DB {A0 A1:Sort _} {p0 p1 p2 p3:A0→A1→Prop} (x0:A0) (x1:A1) (h0:p0 x0 x1) (h1:p1 x0 x1) (h2:p2 x0 x1) (h3:p3 x0 x1):∃ x0 x1,p0 x0 x1∧p1 x0 x1∧p2 x0 x1∧p3 x0 x1:=⟨x0,x1,h0,h1,h2,h3⟩
theorem E0 {A0 A1 A2:Sort _} {p0 p1 p2:A0→A1→A2→Prop} {r:Prop} (h:∃ x0 x1 x2,p0 x0 x1 x2∧p1 x0 x1 x2∧p2 x0 x1 x2) (k:∀ x0 x1 x2,p0 x0 x1 x2→p1 x0 x1 x2→p2 x0 x1 x2→r):r:=h.elim fun x0 g0=>g0.elim fun x1 g1=>g1.elim fun x2 g2=>k x0 x1 x2 g2.1 g2.2.1 g2.2.2
theorem DA {A0 A1 A2:Sort _} {p0 p1 p2:A0→A1→A2→Prop} (x0:A0) (x1:A1) (x2:A2) (h0:p0 x0 x1 x2) (h1:p1 x0 x1 x2) (h2:p2 x0 x1 x2):∃ x0 x1 x2,p0 x0 x1 x2∧p1 x0 x1 x2∧p2 x0 x1 x2:=⟨x0,x1,x2,h0,h1,h2⟩
theorem DZ {A0 A1 A2 A3:Sort _} {p0 p1:A0→A1→A2→A3→Prop} {r:Prop} (h:∃ x0 x1 x2 x3,p0 x0 x1 x2 x3∧p1 x0 x1 x2 x3) (k:∀ x0 x1 x2 x3,p0 x0 x1 x2 x3→p1 x0 x1 x2 x3→r):r:=h.elim fun x0 g0=>g0.elim fun x1 g1=>g1.elim fun x2 g2=>g2.elim fun x3 g3=>k x0 x1 x2 x3 g3.1 g3.2
theorem D9 {A0 A1 A2 A3:Sort _} {p0 p1:A0→A1→A2→A3→Prop} (x0:A0) (x1:A1) (x2:A2) (x3:A3) (h0:p0 x0 x1 x2 x3) (h1:p1 x0 x1 x2 x3):∃ x0 x1 x2 x3,p0 x0 x1 x2 x3∧p1 x0 x1 x2 x3:=⟨x0,x1,x2,x3,h0,h1⟩
theorem DY {A0 A1 A2 A3 A4:Sort _} {p0:A0→A1→A2→A3→A4→Prop} {r:Prop} (h:∃ x0 x1 x2 x3 x4,p0 x0 x1 x2 x3 x4) (k:∀ x0 x1 x2 x3 x4,p0 x0 x1 x2 x3 x4→r):r:=h.elim fun x0 g0=>g0.elim fun x1 g1=>g1.elim fun x2 g2=>g2.elim fun x3 g3=>g3.elim fun x4 g4=>k x0 x1 x2 x3 x4 g4
theorem D8 {A0 A1 A2 A3 A4:Sort _} {p0:A0→A1→A2→A3→A4→Prop} (x0:A0) (x1:A1) (x2:A2) (x3:A3) (x4:A4) (h0:p0 x0 x1 x2 x3 x4):∃ x0 x1 x2 x3 x4,p0 x0 x1 x2 x3 x4:=⟨x0,x1,x2,x3,x4,h0⟩
theorem DX {p0 p1 p2 p3 p4 p5 p6:Prop} {r:Prop} (h:p0∧p1∧p2∧p3∧p4∧p5∧p6) (k:p0→p1→p2→p3→p4→p5→p6→r):r:=k h.1 h.2.1 h.2.2.1 h.2.2.2.1 h.2.2.2.2.1 h.2.2.2.2.2.1 h.2.2.2.2.2.2
theorem DW {A0 A1:Sort _} {p0 p1 p2 p3 p4:A0→A1→Prop} {r:Prop} (h:∃ x0 x1,p0 x0 x1∧p1 x0 x1∧p2 x0 x1∧p3 x0 x1∧p4 x0 x1) (k:∀ x0 x1,p0 x0 x1→p1 x0 x1→p2 x0 x1→p3 x0 x1→p4 x0 x1→r):r:=h.elim fun x0 g0=>g0.elim fun x1 g1=>k x0 x1 g1.1 g1.2.1 g1.2.2.1 g1.2.2.2.1 g1.2.2.2.2
theorem D7 {A0 A1:Sort _} {p0 p1 p2 p3 p4:A0→A1→Prop} (x0:A0) (x1:A1) (h0:p0 x0 x1) (h1:p1 x0 x1) (h2:p2 x0 x1) (h3:p3 x0 x1) (h4:p4 x0 x1):∃ x0 x1,p0 x0 x1∧p1 x0 x1∧p2 x0 x1∧p3 x0 x1∧p4 x0 x1:=⟨x0,x1,h0,h1,h2,h3,h4⟩
theorem DV {A0 A1 A2:Sort _} {p0 p1 p2 p3:A0→A1→A2→Prop} {r:Prop} (h:∃ x0 x1 x2,p0 x0 x1 x2∧p1 x0 x1 x2∧p2 x0 x1 x2∧p3 x0 x1 x2) (k:∀ x0 x1 x2,p0 x0 x1 x2→p1 x0 x1 x2→p2 x0 x1 x2→p3 x0 x1 x2→r):r:=h.elim fun x0 g0=>g0.elim fun x1 g1=>g1.elim fun x2 g2=>k x0 x1 x2 g2.1 g2.2.1 g2.2.2.1 g2.2.2.2
theorem D6 {A0 A1 A2:Sort _} {p0 p1 p2 p3:A0→A1→A2→Prop} (x0:A0) (x1:A1) (x2:A2) (h0:p0 x0 x1 x2) (h1:p1 x0 x1 x2) (h2:p2 x0 x1 x2) (h3:p3 x0 x1 x2):∃ x0 x1 x2,p0 x0 x1 x2∧p1 x0 x1 x2∧p2 x0 x1 x2∧p3 x0 x1 x2:=⟨x0,x1,x2,h0,h1,h2,h3⟩
theorem DU {A0 A1 A2 A3:Sort _} {p0 p1 p2:A0→A1→A2→A3→Prop} {r:Prop} (h:∃ x0 x1 x2 x3,p0 x0 x1 x2 x3∧p1 x0 x1 x2 x3∧p2 x0 x1 x2 x3) (k:∀ x0 x1 x2 x3,p0 x0 x1 x2 x3→p1 x0 x1 x2 x3→p2 x0 x1 x2 x3→r):r:=h.elim fun x0 g0=>g0.elim fun x1 g1=>g1.elim fun x2 g2=>g2.elim fun x3 g3=>k x0 x1 x2 x3 g3.1 g3.2.1 g3.2.2
theorem D5 {A0 A1 A2 A3:Sort _} {p0 p1 p2:A0→A1→A2→A3→Prop} (x0:A0) (x1:A1) (x2:A2) (x3:A3) (h0:p0 x0 x1 x2 x3) (h1:p1 x0 x1 x2 x3) (h2:p2 x0 x1 x2 x3):∃ x0 x1 x2 x3,p0 x0 x1 x2 x3∧p1 x0 x1 x2 x3∧p2 x0 x1 x2 x3:=⟨x0,x1,x2,x3,h0,h1,h2⟩
theorem DT {A0 A1:Sort _} {p0 p1 p2 p3 p4 p5:A0→A1→Prop} {r:Prop} (h:∃ x0 x1,p0 x0 x1∧p1 x0 x1∧p2 x0 x1∧p3 x0 x1∧p4 x0 x1∧p5 x0 x1) (k:∀ x0 x1,p0 x0 x1→p1 x0 x1→p2 x0 x1→p3 x0 x1→p4 x0 x1→p5 x0 x1→r):r:=h.elim fun x0 g0=>g0.elim fun x1 g1=>k x0 x1 g1.1 g1.2.1 g1.2.2.1 g1.2.2.2.1 g1.2.2.2.2.1 g1.2.2.2.2.2
theorem D4 {A0 A1:Sort _} {p0 p1 p2 p3 p4 p5:A0→A1→Prop} (x0:A0) (x1:A1) (h0:p0 x0 x1) (h1:p1 x0 x1) (h2:p2 x0 x1) (h3:p3 x0 x1) (h4:p4 x0 x1) (h5:p5 x0 x1):∃ x0 x1,p0 x0 x1∧p1 x0 x1∧p2 x0 x1∧p3 x0 x1∧p4 x0 x1∧p5 x0 x1:=⟨x0,x1,h0,h1,h2,h3,h4,h5⟩
theorem DS {A0 A1 A2:Sort _} {p0 p1 p2 p3 p4:A0→A1→A2→Prop} {r:Prop} (h:∃ x0 x1 x2,p0 x0 x1 x2∧p1 x0 x1 x2∧p2 x0 x1 x2∧p3 x0 x1 x2∧p4 x0 x1 x2) (k:∀ x0 x1 x2,p0 x0 x1 x2→p1 x0 x1 x2→p2 x0 x1 x2→p3 x0 x1 x2→p4 x0 x1 x2→r):r:=h.elim fun x0 g0=>g0.elim fun x1 g1=>g1.elim fun x2 g2=>k x0 x1 x2 g2.1 g2.2.1 g2.2.2.1 g2.2.2.2.1 g2.2.2.2.2
theorem D3 {A0 A1 A2:Sort _} {p0 p1 p2 p3 p4:A0→A1→A2→Prop} (x0:A0) (x1:A1) (x2:A2) (h0:p0 x0 x1 x2) (h1:p1 x0 x1 x2) (h2:p2 x0 x1 x2) (h3:p3 x0 x1 x2) (h4:p4 x0 x1 x2):∃ x0 x1 x2,p0 x0 x1 x2∧p1 x0 x1 x2∧p2 x0 x1 x2∧p3 x0 x1 x2∧p4 x0 x1 x2:=⟨x0,x1,x2,h0,h1,h2,h3,h4⟩
theorem DR {A0 A1 A2 A3:Sort _} {p0 p1 p2 p3:A0→A1→A2→A3→Prop} {r:Prop} (h:∃ x0 x1 x2 x3,p0 x0 x1 x2 x3∧p1 x0 x1 x2 x3∧p2 x0 x1 x2 x3∧p3 x0 x1 x2 x3) (k:∀ x0 x1 x2 x3,p0 x0 x1 x2 x3→p1 x0 x1 x2 x3→p2 x0 x1 x2 x3→p3 x0 x1 x2 x3→r):r:=h.elim fun x0 g0=>g0.elim fun x1 g1=>g1.elim fun x2 g2=>g2.elim fun x3 g3=>k x0 x1 x2 x3 g3.1 g3.2.1 g3.2.2.1 g3.2.2.2
theorem D1 {A0 A1 A2 A3:Sort _} {p0 p1 p2 p3:A0→A1→A2→A3→Prop} (x0:A0) (x1:A1) (x2:A2) (x3:A3) (h0:p0 x0 x1 x2 x3) (h1:p1 x0 x1 x2 x3) (h2:p2 x0 x1 x2 x3) (h3:p3 x0 x1 x2 x3):∃ x0 x1 x2 x3,p0 x0 x1 x2 x3∧p1 x0 x1 x2 x3∧p2 x0 x1 x2 x3∧p3 x0 x1 x2 x3:=⟨x0,x1,x2,x3,h0,h1,h2,h3⟩
theorem DQ {A0 A1:Sort _} {p0 p1 p2 p3 p4 p5 p6:A0→A1→Prop} {r:Prop} (h:∃ x0 x1,p0 x0 x1∧p1 x0 x1∧p2 x0 x1∧p3 x0 x1∧p4 x0 x1∧p5 x0 x1∧p6 x0 x1) (k:∀ x0 x1,p0 x0 x1→p1 x0 x1→p2 x0 x1→p3 x0 x1→p4 x0 x1→p5 x0 x1→p6 x0 x1→r):r:=h.elim fun x0 g0=>g0.elim fun x1 g1=>k x0 x1 g1.1 g1.2.1 g1.2.2.1 g1.2.2.2.1 g1.2.2.2.2.1 g1.2.2.2.2.2.1 g1.2.2.2.2.2.2
theorem DP {A0 A1 A2:Sort _} {p0 p1 p2 p3 p4 p5:A0→A1→A2→Prop} {r:Prop} (h:∃ x0 x1 x2,p0 x0 x1 x2∧p1 x0 x1 x2∧p2 x0 x1 x2∧p3 x0 x1 x2∧p4 x0 x1 x2∧p5 x0 x1 x2) (k:∀ x0 x1 x2,p0 x0 x1 x2→p1 x0 x1 x2→p2 x0 x1 x2→p3 x0 x1 x2→p4 x0 x1 x2→p5 x0 x1 x2→r):r:=h.elim fun x0 g0=>g0.elim fun x1 g1=>g1.elim fun x2 g2=>k x0 x1 x2 g2.1 g2.2.1 g2.2.2.1 g2.2.2.2.1 g2.2.2.2.2.1 g2.2.2.2.2.2
theorem D0 {A0 A1 A2:Sort _} {p0 p1 p2 p3 p4 p5:A0→A1→A2→Prop} (x0:A0) (x1:A1) (x2:A2) (h0:p0 x0 x1 x2) (h1:p1 x0 x1 x2) (h2:p2 x0 x1 x2) (h3:p3 x0 x1 x2) (h4:p4 x0 x1 x2) (h5:p5 x0 x1 x2):∃ x0 x1 x2,p0 x0 x1 x2∧p1 x0 x1 x2∧p2 x0 x1 x2∧p3 x0 x1 x2∧p4 x0 x1 x2∧p5 x0 x1 x2:=⟨x0,x1,x2,h0,h1,h2,h3,h4,h5⟩
theorem DO {A0 A1 A2 A3:Sort _} {p0 p1 p2 p3 p4:A0→A1→A2→A3→Prop} {r:Prop} (h:∃ x0 x1 x2 x3,p0 x0 x1 x2 x3∧p1 x0 x1 x2 x3∧p2 x0 x1 x2 x3∧p3 x0 x1 x2 x3∧p4 x0 x1 x2 x3) (k:∀ x0 x1 x2 x3,p0 x0 x1 x2 x3→p1 x0 x1 x2 x3→p2 x0 x1 x2 x3→p3 x0 x1 x2 x3→p4 x0 x1 x2 x3→r):r:=h.elim fun x0 g0=>g0.elim fun x1 g1=>g1.elim fun x2 g2=>g2.elim fun x3 g3=>k x0 x1 x2 x3 g3.1 g3.2.1 g3.2.2.1 g3.2.2.2.1 g3.2.2.2.2
theorem CZ {A0 A1 A2 A3:Sort _} {p0 p1 p2 p3 p4:A0→A1→A2→A3→Prop} (x0:A0) (x1:A1) (x2:A2) (x3:A3) (h0:p0 x0 x1 x2 x3) (h1:p1 x0 x1 x2 x3) (h2:p2 x0 x1 x2 x3) (h3:p3 x0 x1 x2 x3) (h4:p4 x0 x1 x2 x3):∃ x0 x1 x2 x3,p0 x0 x1 x2 x3∧p1 x0 x1 x2 x3∧p2 x0 x1 x2 x3∧p3 x0 x1 x2 x3∧p4 x0 x1 x2 x3:=⟨x0,x1,x2,x3,h0,h1,h2,h3,h4⟩
theorem DN {A0 A1 A2 A3 A4:Sort _} {p0 p1 p2 p3:A0→A1→A2→A3→A4→Prop} {r:Prop} (h:∃ x0 x1 x2 x3 x4,p0 x0 x1 x2 x3 x4∧p1 x0 x1 x2 x3 x4∧p2 x0 x1 x2 x3 x4∧p3 x0 x1 x2 x3 x4) (k:∀ x0 x1 x2 x3 x4,p0 x0 x1 x2 x3 x4→p1 x0 x1 x2 x3 x4→p2 x0 x1 x2 x3 x4→p3 x0 x1 x2 x3 x4→r):r:=h.elim fun x0 g0=>g0.elim fun x1 g1=>g1.elim fun x2 g2=>g2.elim fun x3 g3=>g3.elim fun x4 g4=>k x0 x1 x2 x3 x4 g4.1 g4.2.1 g4.2.2.1 g4.2.2.2
theorem CY {A0 A1 A2 A3 A4:Sort _} {p0 p1 p2 p3:A0→A1→A2→A3→A4→Prop} (x0:A0) (x1:A1) (x2:A2) (x3:A3) (x4:A4) (h0:p0 x0 x1 x2 x3 x4) (h1:p1 x0 x1 x2 x3 x4) (h2:p2 x0 x1 x2 x3 x4) (h3:p3 x0 x1 x2 x3 x4):∃ x0 x1 x2 x3 x4,p0 x0 x1 x2 x3 x4∧p1 x0 x1 x2 x3 x4∧p2 x0 x1 x2 x3 x4∧p3 x0 x1 x2 x3 x4:=⟨x0,x1,x2,x3,x4,h0,h1,h2,h3⟩
theorem DM {A0 A1 A2 A3 A4 A5 A6:Sort _} {p0 p1:A0→A1→A2→A3→A4→A5→A6→Prop} {r:Prop} (h:∃ x0 x1 x2 x3 x4 x5 x6,p0 x0 x1 x2 x3 x4 x5 x6∧p1 x0 x1 x2 x3 x4 x5 x6) (k:∀ x0 x1 x2 x3 x4 x5 x6,p0 x0 x1 x2 x3 x4 x5 x6→p1 x0 x1 x2 x3 x4 x5 x6→r):r:=h.elim fun x0 g0=>g0.elim fun x1 g1=>g1.elim fun x2 g2=>g2.elim fun x3 g3=>g3.elim fun x4 g4=>g4.elim fun x5 g5=>g5.elim fun x6 g6=>k x0 x1 x2 x3 x4 x5 x6 g6.1 g6.2
theorem CX {A0 A1 A2 A3 A4 A5 A6:Sort _} {p0 p1:A0→A1→A2→A3→A4→A5→A6→Prop} (x0:A0) (x1:A1) (x2:A2) (x3:A3) (x4:A4) (x5:A5) (x6:A6) (h0:p0 x0 x1 x2 x3 x4 x5 x6) (h1:p1 x0 x1 x2 x3 x4 x5 x6):∃ x0 x1 x2 x3 x4 x5 x6,p0 x0 x1 x2 x3 x4 x5 x6∧p1 x0 x1 x2 x3 x4 x5 x6:=⟨x0,x1,x2,x3,x4,x5,x6,h0,h1⟩
theorem DL {A0 A1 A2 A3 A4 A5 A6 A7:Sort _} {p0:A0→A1→A2→A3→A4→A5→A6→A7→Prop} {r:Prop} (h:∃ x0 x1 x2 x3 x4 x5 x6 x7,p0 x0 x1 x2 x3 x4 x5 x6 x7) (k:∀ x0 x1 x2 x3 x4 x5 x6 x7,p0 x0 x1 x2 x3 x4 x5 x6 x7→r):r:=h.elim fun x0 g0=>g0.elim fun x1 g1=>g1.elim fun x2 g2=>g2.elim fun x3 g3=>g3.elim fun x4 g4=>g4.elim fun x5 g5=>g5.elim fun x6 g6=>g6.elim fun x7 g7=>k x0 x1 x2 x3 x4 x5 x6 x7 g7
theorem CW {A0 A1 A2 A3 A4 A5 A6 A7:Sort _} {p0:A0→A1→A2→A3→A4→A5→A6→A7→Prop} (x0:A0) (x1:A1) (x2:A2) (x3:A3) (x4:A4) (x5:A5) (x6:A6) (x7:A7) (h0:p0 x0 x1 x2 x3 x4 x5 x6 x7):∃ x0 x1 x2 x3 x4 x5 x6 x7,p0 x0 x1 x2 x3 x4 x5 x6 x7:=⟨x0,x1,x2,x3,x4,x5,x6,x7,h0⟩
end Ar
end
section
open PySem PySem.W PyProof.Rows
set_option maxHeartbeats 0
namespace Mine
noncomputable abbrev pw:Program:=PySem.Challenge.pw_dm0056_04
noncomputable abbrev an:Option Value:=some (Value.ref 6)
noncomputable abbrev p0:Pos:=⟨0,0,0,0⟩
noncomputable abbrev TB:String→Option Builtin:=PySem.W.Fast.tw14364793385576792824
noncomputable abbrev goT:=PySem.W.Fast.tw10295753902157049106
noncomputable abbrev AX:=PySem.W.Fast.tw10110043849684766642
noncomputable abbrev zI:Builtin:=PySem.W.Fast.tw4202317264376624991
noncomputable abbrev B0:List Frame:=[topFrame p0]
noncomputable def aU:Stmt→Str
 | .ClassDef _ _ _ (.Expr (.Constant (.str s) _ _) _::_) _ _ _ _ _ _ _=>s
 | _=>""
noncomputable def wZ (d:Str):Stmt→Stmt
 | .ClassDef n b k (.Expr (.Constant (.str _) kk p1) p2::rest) dl tp sc ts bd sa pos=>.ClassDef n b k (.Expr (.Constant (.str d) kk p1) p2::rest) dl tp sc ts bd sa pos
 | s=>s
noncomputable def yG (i:Nat) (d:Str) (p:Program):Program:={ p with main:={ p.main with body:=p.main.body.modify i (wZ d) } }
noncomputable def Ds:{ s:String // aU (pw.main.body.getD 5 default)=Str.ofString s }:=⟨_,rfl⟩
noncomputable def yF:{ cs:List Char // String.ofList cs=Ds.1 }:=⟨_,rfl⟩
noncomputable def BS:Str:=⟨(PySem.W.R.mapR Char.toNat yF.1).toArray⟩
theorem x8:aU (pw.main.body.getD 5 default)=BS:=by
 rw [Ds.2,← yF.2,Fast.ofString_ofList,PySem.W.R.mapR_eq];rfl
noncomputable def pwF:Program:=yG 5 BS pw
theorem zA:pwF=pw:=by
 have h:yG 5 (aU (pw.main.body.getD 5 default)) pw=pw:=by kernel_rfl
 rw [x8] at h
 exact h
noncomputable def S0 (w:World) (os:OsState):Shared:=⟨boot_heap w.params,⟨[]⟩,boot_drawn,boot_toks,os⟩
noncomputable abbrev bE:List Stmt:=behindTheImports pw
noncomputable abbrev bF:List Stmt:=behindTheImports pwF
theorem C4:bF=bE:=bu behindTheImports zA
noncomputable abbrev wW:Env:={ scope:=pw.main.scope,locals:=mainNs,globals:=mainNs,cells:=[],code:=Value.ref 13,frame:=some 14 }
noncomputable abbrev cE:Code:=Code.body bE wW
noncomputable def X0 (w:World) (os:OsState):Option (Shared × Thread):=topGo TB pw w 11 an 12 (S0 w os) (topStub pw)
noncomputable def ob (w:World) (os:OsState) (i:Nat):Obj:=((X0 w os).elim (S0 w os) (·.1)).heap.objs.toList.getD i default
noncomputable def T4 (w:World) (os:OsState):BT :=
 .node (ob w os 0)
  (.node (ob w os 1) (.node (ob w os 3) (.node (ob w os 7) .nil .nil) (.node (ob w os 11) .nil .nil)) (.node (ob w os 5) (.node (ob w os 9) .nil .nil) (.node (ob w os 13) .nil .nil)))
  (.node (ob w os 2) (.node (ob w os 4) (.node (ob w os 8) .nil .nil) (.node (ob w os 12) .nil .nil)) (.node (ob w os 6) (.node (ob w os 10) .nil .nil) (.node (ob w os 14) .nil .nil)))
noncomputable def S4 (w:World) (os:OsState):SharedT:={ tree:=T4 w os,n:=15,life:={},gens:=⟨[]⟩,drawn:={},toks:=187,os:=os }
theorem pre:(fun w os=>topGo TB pw w 11 an 12 (S0 w os) (topStub pw))=fun w os=>some ((S4 w os).abs,⟨denote TB cE,cE,p0,B0⟩):=by kernel_rfl
theorem blk:(fun w os=>segRun TB pw w 11 an 1 1 (S4 w os).abs (blockOf bE wW cE p0 B0))=fun w os=>some (Flow.next,(S4 w os).abs,cE,p0):=by kernel_rfl
theorem fin:(fun w c q s=>topRun TB pw w 11 an 2 s ⟨doneF .next,c,q,B0⟩)=fun w c q s=>some s:=by kernel_rfl
end Mine
end
section
open PySem PySem.W PyProof.Rows
set_option maxHeartbeats 0
namespace Mine
noncomputable def nG (as:Array Nat) (p:Nat→Bool) (start stop:Nat):Bool :=
 match Nat.beq start 0,Nat.beq stop as.size with
 | true,true=>PySem.W.R.anyR as.toList p
 | _,_=>Array.any as p start stop
theorem lI:@Array.any Nat=nG:=by
 funext as p start stop
 unfold nG
 split
 ·rename_i h1 h2
  have e1:=Nat.eq_of_beq_eq_true h1
  have e2:=Nat.eq_of_beq_eq_true h2
  subst e1 e2
  rw [← PySem.W.R.anyR_eq,Array.any_toList]
 ·rfl
noncomputable def th0:Thread:=piecesOf bF wW cE p0 B0
noncomputable def XA (w:World) (os:OsState):Option (SharedT × Thread):=goT TB pw w 11 an 1 1966 (S4 w os) th0
noncomputable def sA (w:World) (os:OsState):SharedT:=(XA w os).elim (S4 w os) (·.1)
noncomputable def tA (w:World) (os:OsState):Thread:=(XA w os).elim th0 (·.2)
noncomputable def vm (t:Thread):Args:=match t.code with | .builtin _ a=>a | _=>{}
theorem atA:(fun w os=>((XA w os).isSome,(tA w os).cur))=fun w os=>(true,zI (vm (tA w os))):=by kernel_rfl
end Mine
end
section
set_option tactic.hygienic true
namespace MP
set_option genSizeOf false
set_option genInjectivity false
open PySem
structure EV where
 ks:List Expr
 s:Str
 k:Nat
 op:BoolOp
 g:List Comprehension × Scope
 b:Option Expr × Option Expr
 c:Const
noncomputable def vk (ks:List Expr):EV:=⟨ks,"",0,.And,([],default),(none,none),.none⟩
noncomputable def v0:EV:=vk []
noncomputable def vw (x:Expr):EV:=Expr.casesOn (motive_1:=fun _=>EV) x
 (fun op xs _=>⟨xs,"",0,op,([],default),(none,none),.none⟩)
 (fun _ _ _=>v0)
 (fun l _ r _=>vk [l,r])
 (fun _ y _=>vk [y])
 (fun _ _ _ _=>v0)
 (fun u y z _=>vk [u,y,z])
 (fun _ _ _=>v0)
 (fun _ _ _=>v0)
 (fun y gs sc _=>⟨[y],"",0,.And,(gs,sc),(none,none),.none⟩)
 (fun _ _ _ _=>v0)
 (fun _ _ _ _ _=>v0)
 (fun _ _ _ _=>v0)
 (fun _ _=>v0)
 (fun _ _=>v0)
 (fun _ _=>v0)
 (fun l _ r _=>vk (l::r))
 (fun f xs _ _=>vk (f::xs))
 (fun _ _ _ _=>v0)
 (fun _ _=>v0)
 (fun c k _=>⟨[],"",k,.And,([],default),(none,none),c⟩)
 (fun y _ _=>vk [y])
 (fun y z _=>vk [y,z])
 (fun _ _=>v0)
 (fun y _=>⟨[],y,0,.And,([],default),(none,none),.none⟩)
 (fun xs _=>vk xs)
 (fun xs k _=>⟨xs,"",k,.And,([],default),(none,none),.none⟩)
 (fun l h _ _=>⟨[],"",0,.And,([],default),(l,h),.none⟩)
noncomputable def zj (k:Nat) (x:Expr):Bool:=Nat.beq x.ctorIdx k
noncomputable def kids (x:Expr):List Expr:=(vw x).ks
noncomputable def kid (i:Nat) (x:Expr):Expr:=(kids x).getD i default
noncomputable def gp (x:Expr):Str:=(vw x).s
noncomputable def exK (x:Expr):Nat:=(vw x).k
noncomputable def t8 (x:Expr):Str:=match (vw x).c with
 | .str t=>t
 | _=>""
structure SV where
 es:List Expr
 b:List Stmt
 c:List Stmt
noncomputable def s0:SV:=⟨[],[],[]⟩
noncomputable def sw (x:Stmt):SV:=Stmt.casesOn (motive_2:=fun _=>SV) x
 (fun _ _ _ _ _ _ _ _ _ _=>s0)
 (fun _ _ _ _ _ _ _ _ _ _=>s0)
 (fun _ _ _ b _ _ _ _ _ _ _=>⟨[],b,[]⟩)
 (fun e _=>⟨e.toList,[],[]⟩)
 (fun _ _=>s0)
 (fun ts e _=>⟨e::ts,[],[]⟩)
 (fun _ _ _ _ _ _ _=>s0)
 (fun t _ e _=>⟨[e,t],[],[]⟩)
 (fun _ _ _ _ _=>s0)
 (fun t e b _ _=>⟨[e,t],b,[]⟩)
 (fun _ _ _ _ _=>s0)
 (fun e b _ _=>⟨[e],b,[]⟩)
 (fun e b c _=>⟨[e],b,c⟩)
 (fun _ _ _=>s0)
 (fun _ _ _=>s0)
 (fun _ _ _=>s0)
 (fun _ _ _=>s0)
 (fun _ _ _ _ _=>s0)
 (fun _ _ _ _ _=>s0)
 (fun _ _ _=>s0)
 (fun _ _=>s0)
 (fun _ _ _ _=>s0)
 (fun _ _=>s0)
 (fun _ _=>s0)
 (fun e _=>⟨[e],[],[]⟩)
 (fun _=>s0)
 (fun _=>s0)
 (fun _=>s0)
noncomputable def uq (x:Stmt):List Expr:=(sw x).es
noncomputable def st0 (x:Stmt):Expr:=(uq x).headD default
end MP
end
section
namespace MP
set_option genSizeOf false
open PySem
inductive Key where
 | int (i:Int)
 | str (s:Str)
 deriving DecidableEq
inductive V where
 | none
 | bool (b:Bool)
 | int (i:Int)
 | str (s:Str)
 | lst (a:Addr)
 | dct (a:Addr)
 | set (a:Addr)
 | obj (a:Addr)
 | tup (xs:List V)
 | mt (xs:List V)
 | yo (a:Addr)
 | zd (a:Addr)
 | clo (k:Nat) (cs:List V)
 | ro (ns:List Int)
noncomputable def V.gV:V→Option Key
 | .int i=>some (.int i)
 | .str s=>some (.str s)
 | _=>Option.none
noncomputable def Key.v:Key→V
 | .int i=>.int i
 | .str s=>.str s
structure St where
 L:Addr→Option (List V)
 D:Addr→Option (List (Key × V))
 S:Addr→Option (List Key)
 I:Addr→Option (Addr × (Nat→Option V))
 Z:Addr→Option V
noncomputable abbrev Fr:=Nat→Option V
noncomputable def upd {α:Type} (f:Nat→Option α) (i:Nat) (v:α):Nat→Option α:=fun j=>if j=i then some v else f j
theorem bp {α:Type} (f:Nat→Option α) (i:Nat) (v:α):upd f i v i=some v:=by simp [upd]
theorem cn {α:Type} {f:Nat→Option α} {i j:Nat} {v:α} (h:j≠i):upd f i v j=f j:=by simp [upd,h]
noncomputable def St.cw (σ:St) (a:Addr) (xs:List V):St:={ σ with L:=upd σ.L a xs }
noncomputable def St.ki (σ:St) (a:Addr) (es:List (Key × V)):St:={ σ with D:=upd σ.D a es }
noncomputable def St.rh (σ:St) (a:Addr) (ks:List Key):St:={ σ with S:=upd σ.S a ks }
noncomputable def St.fj (σ:St) (a:Addr) (d:Addr) (f:Nat→Option V):St:={ σ with I:=upd σ.I a (d,f) }
noncomputable def St.dom (σ:St) (b:Addr):Prop:=(σ.L b).isSome∨(σ.D b).isSome∨(σ.S b).isSome∨(σ.I b).isSome∨(σ.Z b).isSome∨∃ a f,σ.I a=some (b,f)
set_option genInjectivity false
inductive Bop where
 | add | sub | mul | fdiv | mod | pow
 deriving DecidableEq
inductive Cop where
 | eq | ne | lt | le | gt | ge | is | isNot | isIn | notIn
 deriving DecidableEq
inductive BM where
 | append | pop | insert | extend | sort | index | count | get | setdefault | add
 deriving DecidableEq
inductive BF where
 | len | lrange | min | max | set | divmod
 deriving DecidableEq
inductive Tg where
 | var (x:Nat)
 | tup (xs:List Nat)
mutual
inductive Ex where
 | none
 | bool (b:Bool)
 | int (i:Int)
 | str (s:Str)
 | loc (x:Nat)
 | bin (op:Bop) (a b:Ex)
 | neg (a:Ex)
 | not (a:Ex)
 | and (a b:Ex)
 | or (a b:Ex)
 | cmp (op:Cop) (a b:Ex)
 | ite (c a b:Ex)
 | lst (es:Exs)
 | tup (es:Exs)
 | dct0
 | call (f:Nat) (es:Exs)
 | meth (e:Ex) (m:Nat) (es:Exs)
 | attr (e:Ex) (a:Nat)
 | dgetOf (e:Ex)
 | shasOf (e:Ex)
 | bm (k:BM) (e:Ex) (es:Exs)
 | bf (k:BF) (es:Exs)
 | callv (f:Nat) (es:Exs)
 | sub (e i:Ex)
 | slc (e lo hi:Ex)
 | comp (fv:List (Nat × Nat)) (it:It) (t:Tg) (cs:Exs) (more:Gens)
 | newM (es:Exs)
 | newMatch (a b c:Ex)
 | mkMatches (e:Ex)
 | dead
inductive Exs where
 | nil
 | cons (e:Ex) (es:Exs)
inductive It where
 | rng1 (e:Ex)
 | rng2 (a b:Ex)
 | rng3 (a b c:Ex)
 | enum (e:Ex)
 | seq (e:Ex)
inductive Gens where
 | elt (e:Ex)
 | cons (it:It) (t:Tg) (cs:Exs) (more:Gens)
end
inductive Tgt where
 | var (x:Nat)
 | attr (o:Ex) (a:Nat)
 | sub (o i:Ex)
 | tup (xs:List Nat)
mutual
inductive Stm where
 | assign (ts:List Tgt) (e:Ex)
 | aug (x:Nat) (op:Bop) (e:Ex)
 | expr (e:Ex)
 | cond (c:Ex) (t e:jf)
 | loop (c:Ex) (b:jf)
 | each (t:Tg) (it:It) (b:jf)
 | ret (e:Ex)
 | brk
 | cont
 | pass
 | dead
inductive jf where
 | nil
 | cons (s:Stm) (ss:jf)
end
inductive Fl where
 | next | brk | cont
 | ret (v:V)
noncomputable def vj (σ:St):Nat→V→Option PyData
 | _,.none=>some .none
 | _,.bool b=>some (.bool b)
 | _,.int i=>some (.int i)
 | _,.str s=>if PyData.strOk s then some (.str s) else Option.none
 | n+1,.tup xs=>(xs.mapM (vj σ n)).map .tuple
 | n+1,.lst a=>(σ.L a).bind fun xs=>(xs.mapM (vj σ n)).map .list
 | _,_=>Option.none
noncomputable def av:Nat:=1000000
noncomputable def t2 (a b:Int):Prop:=a.natAbs<2^60∨b.natAbs<2^60
noncomputable def vInt:V→Option Int
 | .int i=>some i | _=>none
noncomputable def vStr:V→Option Str
 | .str i=>some i | _=>none
noncomputable def bT:V→Option Addr
 | .lst i=>some i | _=>none
noncomputable def uE:V→Option Addr
 | .dct i=>some i | _=>none
noncomputable def yQ:V→Option Addr
 | .obj i=>some i | _=>none
noncomputable def vRo:V→Option (List Int)
 | .ro i=>some i | _=>none
noncomputable def yN:V→Option (List V)
 | .tup i=>some i | _=>none
theorem et {α:Type} {x:α} {p:Prop} (h:none=some x):p:=by cases h
theorem kg {v:V} {i:Int} (h:vInt v=some i):v=.int i:=by
 cases v<;>first | exact bu _ (af h) | exact et h
theorem wh {v:V} {i:Str} (h:vStr v=some i):v=.str i:=by
 cases v<;>first | exact bu _ (af h) | exact et h
theorem yw {v:V} {i:Addr} (h:bT v=some i):v=.lst i:=by
 cases v<;>first | exact bu _ (af h) | exact et h
theorem uD {v:V} {i:Addr} (h:uE v=some i):v=.dct i:=by
 cases v<;>first | exact bu _ (af h) | exact et h
theorem mJ {v:V} {i:Addr} (h:yQ v=some i):v=.obj i:=by
 cases v<;>first | exact bu _ (af h) | exact et h
theorem yP {v:V} {i:List Int} (h:vRo v=some i):v=.ro i:=by
 cases v<;>first | exact bu _ (af h) | exact et h
theorem uC {v:V} {i:List V} (h:yN v=some i):v=.tup i:=by
 cases v<;>first | exact bu _ (af h) | exact et h
noncomputable def oz (v:V) (f:Int→Prop):Prop:=match v with
 | .int i=>f i
 | _=>False
theorem my {v:V} {f:Int→Prop} (h:oz v f):∃ i,v=.int i∧f i:=by
 cases v<;>first | exact⟨_,rfl,h⟩ | exact False.elim h
noncomputable def zf (v:V) (f:Addr→Prop):Prop:=match v with
 | .lst i=>f i
 | _=>False
theorem qe {v:V} {f:Addr→Prop} (h:zf v f):∃ i,v=.lst i∧f i:=by
 cases v<;>first | exact⟨_,rfl,h⟩ | exact False.elim h
noncomputable def f9 (v:V) (f:Addr→Prop):Prop:=match v with
 | .dct i=>f i
 | _=>False
theorem zg {v:V} {f:Addr→Prop} (h:f9 v f):∃ i,v=.dct i∧f i:=by
 cases v<;>first | exact⟨_,rfl,h⟩ | exact False.elim h
noncomputable def onSet (v:V) (f:Addr→Prop):Prop:=match v with
 | .set i=>f i
 | _=>False
theorem vT {v:V} {f:Addr→Prop} (h:onSet v f):∃ i,v=.set i∧f i:=by
 cases v<;>first | exact⟨_,rfl,h⟩ | exact False.elim h
noncomputable def on0 (vs:List V) (p:Prop):Prop:=match vs with
 | []=>p
 | _::_=>False
noncomputable def on1 (vs:List V) (f:V→Prop):Prop:=match vs with
 | []=>False
 | v::r=>on0 r (f v)
noncomputable def on2 (vs:List V) (f:V→V→Prop):Prop:=match vs with
 | []=>False
 | v::r=>on1 r (f v)
noncomputable def on3 (vs:List V) (f:V→V→V→Prop):Prop:=match vs with
 | []=>False
 | v::r=>on2 r (f v)
theorem n3 {vs:List V} {p:Prop} (h:on0 vs p):vs=[]∧p:=by
 cases vs
 ·exact⟨rfl,h⟩
 ·exact False.elim h
theorem bD {vs:List V} {f:V→Prop} (h:on1 vs f):∃ v,vs=[v]∧f v:=by
 cases vs with
 | nil=>exact False.elim h
 | cons v r=>obtain⟨rfl,h⟩:=n3 (p:=f v) h;exact⟨v,rfl,h⟩
theorem cO {vs:List V} {f:V→V→Prop} (h:on2 vs f):∃ v u,vs=[v,u]∧f v u:=by
 cases vs with
 | nil=>exact False.elim h
 | cons v r=>obtain⟨u,rfl,h⟩:=bD (f:=f v) h;exact⟨v,u,rfl,h⟩
theorem y3 {vs:List V} {f:V→V→V→Prop} (h:on3 vs f):∃ v u z,vs=[v,u,z]∧f v u z:=by
 cases vs with
 | nil=>exact False.elim h
 | cons v r=>obtain⟨u,z,rfl,h⟩:=cO (f:=f v) h;exact⟨v,u,z,rfl,h⟩
noncomputable def k9 (op:Bop) (a b:Int) (σ:St) (Q:V→St→Prop):Prop:=match op with
 | .add=>Q (.int (a+b)) σ
 | .sub=>Q (.int (a-b)) σ
 | .mul=>t2 a b∧Q (.int (a*b)) σ
 | .fdiv=>b≠0∧b.natAbs<2^60∧Q (.int (a.fdiv b)) σ
 | .mod=>b≠0∧Q (.int (a.fmod b)) σ
 | .pow=>0≤b∧b≤1000∧a.natAbs<2^64∧Q (.int (a^b.toNat)) σ
noncomputable def itemsOf (a:V) (σ:St):Option (List V):=match bT a with
 | some l=>σ.L l
 | none=>(vRo a).map fun ns=>ns.map V.int
noncomputable def xY (a:V) (b:Addr) (σ:St) (Q:V→St→Prop):Prop:=∃ xs ys,itemsOf a σ=some xs∧σ.L b=some ys∧xs.length+ys.length≤av∧∀ c,σ.L c=Option.none→Q (.lst c) (σ.cw c (xs++ys))
noncomputable def xV (a:Addr) (n:Int) (σ:St) (Q:V→St→Prop):Prop:=∃ xs,σ.L a=some xs∧xs.length*n.toNat≤av∧n.natAbs<2^60∧∀ c,σ.L c=Option.none→Q (.lst c) (σ.cw c ((List.replicate n.toNat xs).flatten))
noncomputable def b6 (op:Bop) (a b:V) (σ:St) (Q:V→St→Prop):Prop:=match vInt a,vInt b with
 | some i,some j=>k9 op i j σ Q
 | none,some n=>match op,bT a with
  | .mul,some l=>xV l n σ Q
  | _,_=>False
 | none,none=>match op,bT b with
  | .add,some m=>xY a m σ Q
  | _,_=>False
 | _,_=>False
theorem iH {op:Bop} {a b:V} {σ:St} {Q:V→St→Prop} (h:b6 op a b σ Q):(∃ i j,a=.int i∧b=.int j∧k9 op i j σ Q)∨(op=.mul∧∃ l n,a=.lst l∧b=.int n∧xV l n σ Q)∨(op=.add∧∃ m,b=.lst m∧xY a m σ Q):=by
 unfold b6 at h
 cases e1:vInt a with
 | some i =>
  cases e2:vInt b with
  | some j=>rw [e1,e2] at h;exact .inl ⟨i,j,kg e1,kg e2,h⟩
  | none=>rw [e1,e2] at h;exact h.elim
 | none =>
  cases e2:vInt b with
  | some j =>
   rw [e1,e2] at h
   cases e3:bT a with
   | none=>rw [e3] at h;cases op<;>exact h.elim
   | some l =>
    rw [e3] at h
    cases op with
    | mul=>exact .inr (.inl ⟨rfl,l,j,yw e3,kg e2,h⟩)
    | _=>exact h.elim
  | none =>
   rw [e1,e2] at h
   cases e3:bT b with
   | none=>rw [e3] at h;cases op<;>exact h.elim
   | some m =>
    rw [e3] at h
    cases op with
    | add=>exact .inr (.inr ⟨rfl,m,yw e3,h⟩)
    | _=>exact h.elim
noncomputable def mI (a b:V) (σ:St) (K:Bool→Prop):Prop:=∃ d e,vj σ 6 a=some d∧vj σ 6 b=some e∧K (PyData.eqv d e)
noncomputable def fV (a b:V) (σ:St) (K:Bool→Prop):Prop:=match vInt a with
 | some i=>match vInt b with
  | some j=>K (i==j)
  | none=>mI a b σ K
 | none=>match vStr a with
  | some x=>match vStr b with
   | some y=>K (x==y)
   | none=>mI a b σ K
  | none=>mI a b σ K
theorem cA {a b:V} {σ:St} {K:Bool→Prop} (h:fV a b σ K):(∃ i j,a=.int i∧b=.int j∧K (i==j))∨(∃ x y,a=.str x∧b=.str y∧K (x==y))∨mI a b σ K:=by
 unfold fV at h
 cases e1:vInt a with
 | some i =>
  rw [e1] at h
  cases e2:vInt b with
  | some j=>rw [e2] at h;exact .inl ⟨i,j,kg e1,kg e2,h⟩
  | none=>rw [e2] at h;exact .inr (.inr h)
 | none =>
  rw [e1] at h
  cases e3:vStr a with
  | none=>rw [e3] at h;exact .inr (.inr h)
  | some x =>
   rw [e3] at h
   cases e2:vStr b with
   | some y=>rw [e2] at h;exact .inr (.inl ⟨x,y,wh e3,wh e2,h⟩)
   | none=>rw [e2] at h;exact .inr (.inr h)
noncomputable def isNone:V→Bool
 | .none=>true
 | _=>false
noncomputable def xX (b:Addr) (v:V) (σ:St) (K:Bool→Prop):Prop:=match v with
 | .lst a=>(σ.L a).isSome∧(σ.L b).isSome∧K (a==b)
 | .none=>K false
 | _=>False
noncomputable def u4 (v w:V) (σ:St) (K:Bool→Prop):Prop:=match w with
 | .none=>K (isNone v)
 | .lst b=>xX b v σ K
 | _=>False
noncomputable def u5 (a b:V) (σ:St) (K:Bool→Prop):Prop:=oz a fun i=>zf b fun l=>∃ ns:List Int,σ.L l=some (ns.map V.int)∧K (ns.contains i)
noncomputable def CI (op:Cop) (a b:Int) (K:Bool→Prop):Prop:=match op with
 | .lt=>K (decide (a<b))
 | .le=>K (decide (a≤b))
 | .gt=>K (decide (b<a))
 | .ge=>K (decide (b≤a))
 | _=>False
noncomputable def xW (op:Cop) (a b:V) (K:Bool→Prop):Prop:=oz a fun i=>oz b fun j=>CI op i j K
noncomputable def b5:Cop→V→V→St→(Bool→Prop)→Prop
 | .eq,a,b,σ,K=>fV a b σ K
 | .ne,a,b,σ,K=>fV a b σ fun r=>K (!r)
 | .is,a,b,σ,K=>u4 a b σ K
 | .isNot,a,b,σ,K=>u4 a b σ fun r=>K (!r)
 | .isIn,a,b,σ,K=>u5 a b σ K
 | .notIn,a,b,σ,K=>u5 a b σ fun r=>K (!r)
 | op,a,b,σ,K=>xW op a b K
noncomputable def mv:V→St→(Bool→Prop)→Prop
 | .none,_,K=>K false
 | .bool b,_,K=>K b
 | .int i,_,K=>K (i != 0)
 | .str s,_,K=>s.cps.size≤av∧K (s.cps.size != 0)
 | .lst a,σ,K=>∃ xs,σ.L a=some xs∧K (!xs.isEmpty)
 | .ro ns,_,K=>ns.length≤av∧K (!ns.isEmpty)
 | .clo _ _,_,K=>K true
 | _,_,_=>False
noncomputable def fm (n:Nat) (i:Int):Int:=if i<0 then i+n else i
noncomputable def dj (n:Nat) (i:Int):Nat:=min n (fm n i).toNat
noncomputable def mF (a b:V) (σ:St) (K:V→Prop):Prop:=match a with
 | .lst a=>oz b fun i=>∃ xs v,σ.L a=some xs∧0≤fm xs.length i∧xs[(fm xs.length i).toNat]?=some v∧K v
 | .ro ns=>oz b fun i=>∃ n,ns.length≤av∧0≤fm ns.length i∧ns[(fm ns.length i).toNat]?=some n∧K (.int n)
 | .tup xs=>oz b fun i=>∃ v,i.natAbs<2^60∧0≤fm xs.length i∧xs[(fm xs.length i).toNat]?=some v∧K v
 | .dct a=>∃ es kk v,σ.D a=some es∧b.gV=some kk∧es.lookup kk=some v∧K v
 | _=>False
noncomputable def zi (d:Nat):V→Option Int
 | .none=>some d
 | .int i=>some i
 | _=>Option.none
noncomputable def mG (a lo hi:V) (σ:St) (Q:V→St→Prop):Prop:=match a with
 | .lst a=>∃ xs i j,σ.L a=some xs∧zi 0 lo=some i∧zi xs.length hi=some j∧i.natAbs<2^60∧j.natAbs<2^60 ∧
   ∀ c,σ.L c=Option.none→Q (.lst c) (σ.cw c ((xs.take (dj xs.length j)).drop (dj xs.length i)))
 | .ro ns=>∃ i j,ns.length≤av∧zi 0 lo=some i∧zi ns.length hi=some j∧i.natAbs<2^60∧j.natAbs<2^60 ∧
   ∀ c,σ.L c=Option.none→Q (.lst c) (σ.cw c (((ns.take (dj ns.length j)).drop (dj ns.length i)).map V.int))
 | _=>False
noncomputable def putD (es:List (Key × V)) (k:Key) (v:V):List (Key × V) :=
 if es.any (fun e=>e.1==k) then es.map (fun e=>if e.1=k then (k,v) else e) else es++[(k,v)]
noncomputable def km:List Int→List Int→Bool
 | a::as,b::bs=>if a=b then km as bs else decide (a<b)
 | _,_=>false
noncomputable def mtV (t:Int × Int × Int):V:=.mt [.int t.1,.int t.2.1,.int t.2.2]
noncomputable def leT (s t:Int × Int × Int):Bool:=!km [t.1,t.2.1,t.2.2] [s.1,s.2.1,s.2.2]
noncomputable def AL (k:BM) (v:V) (vs:List V) (σ:St) (Q:V→St→Prop):Prop:=match k with
 | .append=>zf v fun a=>on1 vs fun x=>∃ xs,σ.L a=some xs∧xs.length<av∧Q .none (σ.cw a (xs++[x]))
 | .pop=>zf v fun a=>on0 vs (∃ xs x,σ.L a=some (xs++[x])∧Q x (σ.cw a xs))
 | .insert=>False
 | .extend=>zf v fun a=>on1 vs fun x=>zf x fun b=>∃ xs ys,a≠b∧σ.L a=some xs∧σ.L b=some ys∧xs.length+ys.length≤av∧Q .none (σ.cw a (xs++ys))
 | .sort=>zf v fun a=>on0 vs (∃ ts:List (Int × Int × Int),σ.L a=some (ts.map mtV)∧ts.length<64∧Q .none (σ.cw a ((ts.mergeSort leT).map mtV)))
 | .index=>False
 | .count=>False
 | .get=>f9 v fun a=>on2 vs fun k d=>∃ es kk,σ.D a=some es∧k.gV=some kk∧Q ((es.lookup kk).getD d) σ
 | .setdefault=>f9 v fun a=>on2 vs fun k d=>∃ es kk,σ.D a=some es∧k.gV=some kk∧es.length<av∧Q ((es.lookup kk).getD d) (σ.ki a (if (es.lookup kk).isSome then es else es++[(kk,d)]))
 | .add=>False
noncomputable def C1 (k:BM) (v:V) (σ:St):Prop:=match k with
 | .get=>f9 v fun a=>(σ.D a).isSome=true
 | .setdefault=>f9 v fun a=>(σ.D a).isSome=true
 | .add=>onSet v fun a=>(σ.S a).isSome=true
 | _=>zf v fun a=>(σ.L a).isSome=true
noncomputable def AK (v:V) (σ:St) (Q:V→St→Prop):Prop:=match v with
 | .lst a=>∃ xs,σ.L a=some xs∧Q (.int xs.length) σ
 | .tup xs=>xs.length≤av∧Q (.int xs.length) σ
 | .ro ns=>ns.length≤av∧Q (.int ns.length) σ
 | .dct a=>∃ es,σ.D a=some es∧Q (.int es.length) σ
 | _=>False
noncomputable def o6 (k:BF) (vs:List V) (σ:St) (Q:V→St→Prop):Prop:=match k with
 | .len=>on1 vs fun v=>AK v σ Q
 | .lrange=>on1 vs fun v=>oz v fun n=>0≤n∧n≤av∧∀ c,σ.L c=Option.none→Q (.lst c) (σ.cw c ((List.range n.toNat).map fun i:Nat=>V.int i))
 | .min=>on2 vs fun v u=>oz v fun a=>oz u fun b=>Q (.int (min a b)) σ
 | .max=>on2 vs fun v u=>oz v fun a=>oz u fun b=>Q (.int (max a b)) σ
 | .set=>on0 vs (∀ c,σ.S c=Option.none→Q (.set c) (σ.rh c []))
 | .divmod=>on2 vs fun v u=>oz v fun a=>oz u fun b=>b≠0∧b.natAbs<2^60∧Q (.tup [.int (a.fdiv b),.int (a.fmod b)]) σ
noncomputable def uF:V→St→Option (List V)
 | .tup vs,_=>some vs
 | .mt vs,_=>some vs
 | .lst a,σ=>σ.L a
 | _,_=>Option.none
noncomputable def ez:List Nat→List V→Fr→Fr
 | x::xs,v::vs,ρ=>ez xs vs (upd ρ x v)
 | _,_,ρ=>ρ
noncomputable def mj:Tg→V→St→Fr→(Fr→Prop)→Prop
 | .var x,v,_,ρ,K=>K (upd ρ x v)
 | .tup xs,v,σ,ρ,K=>∃ vs,uF v σ=some vs∧xs.length=vs.length∧K (ez xs vs ρ)
noncomputable def mi (a b:Int):List V:=(List.range (b-a).toNat).map fun i:Nat=>V.int (a+i)
noncomputable def aO (a b c:Int):List V:=(List.range (if 0<c then ((b-a+c-1)/c).toNat else 0)).map fun i:Nat=>V.int (a+c*i)
noncomputable abbrev Cal:=Nat→List V→St→(V→St→Prop)→Prop
noncomputable def AD (f:V) (vs:List V) (C:Cal) (nclo:Nat) (σ:St) (Q:V→St→Prop):Prop:=match f with
 | .yo a=>on2 vs fun k d=>∃ es kk,σ.D a=some es∧k.gV=some kk∧Q ((es.lookup kk).getD d) σ
 | .zd a=>on1 vs fun k=>∃ ks kk,σ.S a=some ks∧k.gV=some kk∧Q (.bool (decide (kk∈ks))) σ
 | .clo k cs=>C (nclo+k) (vs++cs) σ Q
 | _=>False
noncomputable def aV (fv:List (Nat × Nat)) (ρ:Fr):Fr:=fun i=>(fv.lookup i).bind ρ
noncomputable def eG:List V→(St→Prop)→(V→Fr→List V→St→(Fr→List V→St→Prop)→Prop)→Fr→List V→St→(Fr→List V→St→Prop)→Prop
 | [],G,_,ρ,acc,σ,K=>G σ∧K ρ acc σ
 | v::vs,G,T,ρ,acc,σ,K=>G σ∧T v ρ acc σ fun ρ acc σ=>eG vs G T ρ acc σ K
noncomputable def xU (v:V) (σ:St) (K:List V→(St→Prop)→St→Prop):Prop:=match v with
 | .lst a=>∃ xs,σ.L a=some xs∧K xs (fun τ=>τ.L a=some xs) σ
 | .tup xs=>K xs (fun _=>True) σ
 | _=>False
mutual
noncomputable def wpE (C:Cal):Ex→Fr→St→(V→St→Prop)→Prop
 | .none,_,σ,Q=>Q .none σ
 | .bool b,_,σ,Q=>Q (.bool b) σ
 | .int i,_,σ,Q=>Q (.int i) σ
 | .str s,_,σ,Q=>Q (.str s) σ
 | .loc x,ρ,σ,Q=>∃ v,ρ x=some v∧Q v σ
 | .bin op a b,ρ,σ,Q=>wpE C a ρ σ fun va σ=>wpE C b ρ σ fun vb σ=>b6 op va vb σ Q
 | .neg a,ρ,σ,Q=>wpE C a ρ σ fun v σ=>∃ i,v=.int i∧Q (.int (-i)) σ
 | .not a,ρ,σ,Q=>wpE C a ρ σ fun v σ=>mv v σ fun b=>Q (.bool !b) σ
 | .and a b,ρ,σ,Q=>wpE C a ρ σ fun v σ=>mv v σ fun t=>if t then wpE C b ρ σ Q else Q v σ
 | .or a b,ρ,σ,Q=>wpE C a ρ σ fun v σ=>mv v σ fun t=>if t then Q v σ else wpE C b ρ σ Q
 | .cmp op a b,ρ,σ,Q=>wpE C a ρ σ fun va σ=>wpE C b ρ σ fun vb σ=>b5 op va vb σ fun r=>Q (.bool r) σ
 | .ite c a b,ρ,σ,Q=>wpT C c ρ σ fun t σ=>if t then wpE C a ρ σ Q else wpE C b ρ σ Q
 | .lst es,ρ,σ,Q=>nz C es ρ σ fun vs σ=>vs.length≤av∧∀ c,σ.L c=Option.none→Q (.lst c) (σ.cw c vs)
 | .tup es,ρ,σ,Q=>nz C es ρ σ fun vs σ=>vs.length≤av∧Q (.tup vs) σ
 | .dct0,_,σ,Q=>∀ c,σ.D c=Option.none→Q (.dct c) (σ.ki c [])
 | .call f es,ρ,σ,Q=>nz C es ρ σ fun vs σ=>C f vs σ Q
 | .meth e m es,ρ,σ,Q=>wpE C e ρ σ fun v σ=>∃ a,v=.obj a∧(σ.I a).isSome∧nz C es ρ σ fun vs σ=>C m (v::vs) σ Q
 | .attr e x,ρ,σ,Q=>wpE C e ρ σ fun v σ=>∃ a d f u,v=.obj a∧σ.I a=some (d,f)∧f x=some u∧Q u σ
 | .dgetOf e,ρ,σ,Q=>wpE C e ρ σ fun v σ=>∃ a,v=.dct a∧(σ.D a).isSome∧Q (.yo a) σ
 | .shasOf e,ρ,σ,Q=>wpE C e ρ σ fun v σ=>∃ a,v=.set a∧(σ.S a).isSome∧Q (.zd a) σ
 | .bm k e es,ρ,σ,Q=>wpE C e ρ σ fun v σ=>C1 k v σ∧nz C es ρ σ fun vs σ=>AL k v vs σ Q
 | .bf k es,ρ,σ,Q=>nz C es ρ σ fun vs σ=>o6 k vs σ Q
 | .callv f es,ρ,σ,Q=>∃ v,ρ f=some v∧nz C es ρ σ fun vs σ=>AD v vs C 1000 σ Q
 | .sub e i,ρ,σ,Q=>wpE C e ρ σ fun v σ=>wpE C i ρ σ fun j σ=>mF v j σ fun r=>Q r σ
 | .slc e lo hi,ρ,σ,Q=>wpE C e ρ σ fun v σ=>wpE C lo ρ σ fun a σ=>wpE C hi ρ σ fun b σ=>mG v a b σ Q
 | .comp fv it t cs more,ρ,σ,Q=>nZ C it ρ σ fun vs G σ =>
   eG vs G (fun v ρ' acc σ K=>mj t v σ ρ' fun ρ'=>ti C cs ρ' σ fun ok σ=>if ok then c9 C more ρ' acc σ K else K ρ' acc σ) (aV fv ρ) [] σ
    fun _ acc σ=>∀ c,σ.L c=Option.none→Q (.lst c) (σ.cw c acc)
 | .newM es,ρ,σ,Q=>nz C es ρ σ fun vs σ=>∀ a d,σ.I a=Option.none→C 0 (.obj a::vs) (σ.fj a d fun _=>Option.none) fun v σ=>v=.none∧Q (.obj a) σ
 | .newMatch a b c,ρ,σ,Q=>wpE C a ρ σ fun x σ=>wpE C b ρ σ fun y σ=>wpE C c ρ σ fun z σ=>Q (.mt [x,y,z]) σ
 | .mkMatches e,ρ,σ,Q=>wpE C e ρ σ fun v σ=>∃ a,∃ ts:List (List V),v=.lst a∧σ.L a=some (ts.map V.tup)∧(∀ t∈ts,t.length=3)∧∀ c,σ.L c=Option.none→Q (.lst c) (σ.cw c (ts.map V.mt))
 | .dead,_,_,_=>False
noncomputable def wpT (C:Cal):Ex→Fr→St→(Bool→St→Prop)→Prop
 | .not a,ρ,σ,Q=>wpT C a ρ σ fun b σ=>Q (!b) σ
 | .and a b,ρ,σ,Q=>wpT C a ρ σ fun t σ=>if t then wpT C b ρ σ Q else Q false σ
 | .or a b,ρ,σ,Q=>wpT C a ρ σ fun t σ=>if t then Q true σ else wpT C b ρ σ Q
 | .cmp op a b,ρ,σ,Q=>wpE C a ρ σ fun va σ=>wpE C b ρ σ fun vb σ=>b5 op va vb σ fun r=>Q r σ
 | .ite c a b,ρ,σ,Q=>wpT C c ρ σ fun t σ=>if t then wpT C a ρ σ Q else wpT C b ρ σ Q
 | .loc x,ρ,σ,Q=>∃ v,ρ x=some v∧mv v σ fun b=>Q b σ
 | .int i,_,σ,Q=>Q (i != 0) σ
 | .bool b,_,σ,Q=>Q b σ
 | .attr e x,ρ,σ,Q=>wpE C e ρ σ fun v σ=>∃ a d f u,v=.obj a∧σ.I a=some (d,f)∧f x=some u∧mv u σ fun b=>Q b σ
 | .callv f es,ρ,σ,Q=>∃ v,ρ f=some v∧nz C es ρ σ fun vs σ=>AD v vs C 1000 σ fun r σ=>mv r σ fun b=>Q b σ
 | .sub e i,ρ,σ,Q=>wpE C e ρ σ fun v σ=>wpE C i ρ σ fun j σ=>mF v j σ fun r=>mv r σ fun b=>Q b σ
 | .bin op a b,ρ,σ,Q=>wpE C a ρ σ fun va σ=>wpE C b ρ σ fun vb σ=>b6 op va vb σ fun r σ=>mv r σ fun b=>Q b σ
 | _,_,_,_=>False
noncomputable def nz (C:Cal):Exs→Fr→St→(List V→St→Prop)→Prop
 | .nil,_,σ,Q=>Q [] σ
 | .cons e es,ρ,σ,Q=>wpE C e ρ σ fun v σ=>nz C es ρ σ fun vs σ=>Q (v::vs) σ
noncomputable def ti (C:Cal):Exs→Fr→St→(Bool→St→Prop)→Prop
 | .nil,_,σ,Q=>Q true σ
 | .cons e es,ρ,σ,Q=>wpT C e ρ σ fun b σ=>if b then ti C es ρ σ Q else Q false σ
noncomputable def nZ (C:Cal):It→Fr→St→(List V→(St→Prop)→St→Prop)→Prop
 | .rng1 e,ρ,σ,K=>wpE C e ρ σ fun v σ=>∃ n:Int,v=.int n∧n.natAbs<2^40∧K (mi 0 n) (fun _=>True) σ
 | .rng2 a b,ρ,σ,K=>wpE C a ρ σ fun v σ=>wpE C b ρ σ fun u σ=>∃ m n:Int,v=.int m∧u=.int n∧m.natAbs<2^40∧n.natAbs<2^40∧K (mi m n) (fun _=>True) σ
 | .rng3 a b c,ρ,σ,K=>wpE C a ρ σ fun v σ=>wpE C b ρ σ fun u σ=>wpE C c ρ σ fun z σ=>∃ m n k:Int,v=.int m∧u=.int n∧z=.int k∧m.natAbs<2^40∧n.natAbs<2^40∧0<k∧k<2^40∧K (aO m n k) (fun _=>True) σ
 | .enum e,ρ,σ,K=>wpE C e ρ σ fun v σ=>∃ a xs,v=.lst a∧σ.L a=some xs∧K (xs.zipIdx.map fun p=>V.tup [.int p.2,p.1]) (fun τ=>τ.L a=some xs) σ
 | .seq e,ρ,σ,K=>wpE C e ρ σ fun v σ=>xU v σ K
noncomputable def c9 (C:Cal):Gens→Fr→List V→St→(Fr→List V→St→Prop)→Prop
 | .elt e,ρ,acc,σ,K=>wpE C e ρ σ fun v σ=>acc.length<av∧K ρ (acc++[v]) σ
 | .cons it t cs more,ρ,acc,σ,K=>nZ C it ρ σ fun vs G σ =>
   eG vs G (fun v ρ acc σ K=>mj t v σ ρ fun ρ=>ti C cs ρ σ fun ok σ=>if ok then c9 C more ρ acc σ K else K ρ acc σ) ρ acc σ K
end
noncomputable def nY (u k v:V) (σ:St) (K:St→Prop):Prop:=f9 u fun a=>∃ es kk,σ.D a=some es∧k.gV=some kk∧es.length<av∧K (σ.ki a (putD es kk v))
noncomputable def xT (C:Cal):Tgt→V→Fr→St→(Fr→St→Prop)→Prop
 | .var x,v,ρ,σ,K=>K (upd ρ x v) σ
 | .attr o a,v,ρ,σ,K=>wpE C o ρ σ fun u σ=>∃ x d f,u=.obj x∧σ.I x=some (d,f)∧K ρ (σ.fj x d (upd f a v))
 | .sub o i,v,ρ,σ,K=>wpE C o ρ σ fun u σ=>wpE C i ρ σ fun j σ=>nY u j v σ fun σ=>K ρ σ
 | .tup xs,v,ρ,σ,K=>mj (.tup xs) v σ ρ fun ρ=>K ρ σ
noncomputable def aF (C:Cal):List Tgt→V→Fr→St→(Fr→St→Prop)→Prop
 | [],_,ρ,σ,K=>K ρ σ
 | t::ts,v,ρ,σ,K=>xT C t v ρ σ fun ρ σ=>aF C ts v ρ σ K
noncomputable def yM (a b:Addr) (σ:St) (Q:V→St→Prop):Prop:=∃ xs ys,a≠b∧σ.L a=some xs∧σ.L b=some ys∧xs.length+ys.length≤av∧Q (.lst a) (σ.cw a (xs++ys))
noncomputable def xZ (op:Bop) (v u:V) (σ:St) (Q:V→St→Prop):Prop:=match v with
 | .lst a=>zf u fun b=>match op with
  | .add=>yM a b σ Q
  | _=>False
 | .int a=>oz u fun b=>k9 op a b σ Q
 | _=>False
noncomputable def n6 (T:(Fr→St→Prop)→Fr→St→Prop):Nat→Fr→St→Prop
 | 0,_,_=>False
 | n+1,ρ,σ=>T (n6 T n) ρ σ
noncomputable def lG:List V→(St→Prop)→(V→Fr→St→(Fr→St→Prop)→Prop)→Fr→St→(Fr→St→Prop)→Prop
 | [],G,_,ρ,σ,K=>G σ∧K ρ σ
 | v::vs,G,T,ρ,σ,K=>G σ∧T v ρ σ fun ρ σ=>lG vs G T ρ σ K
noncomputable def qo (again:Fr→St→Prop) (K:Fl→Fr→St→Prop):Fl→Fr→St→Prop
 | .next,ρ,σ=>again ρ σ
 | .cont,ρ,σ=>again ρ σ
 | .brk,ρ,σ=>K .next ρ σ
 | .ret v,ρ,σ=>K (.ret v) ρ σ
mutual
noncomputable def wpS (C:Cal):Stm→Fr→St→(Fl→Fr→St→Prop)→Prop
 | .assign ts e,ρ,σ,K=>wpE C e ρ σ fun v σ=>aF C ts v ρ σ fun ρ σ=>K .next ρ σ
 | .aug x op e,ρ,σ,K=>∃ v,ρ x=some v∧wpE C e ρ σ fun u σ=>xZ op v u σ fun r σ=>K .next (upd ρ x r) σ
 | .expr e,ρ,σ,K=>wpE C e ρ σ fun v σ=>v=.none∧K .next ρ σ
 | .cond c t e,ρ,σ,K=>wpT C c ρ σ fun b σ=>if b then dk C t ρ σ K else dk C e ρ σ K
 | .loop c b,ρ,σ,K=>∃ n,n6 (fun again ρ σ=>wpT C c ρ σ fun t σ=>if t then dk C b ρ σ (qo again K) else K .next ρ σ) n ρ σ
 | .each t it b,ρ,σ,K=>nZ C it ρ σ fun vs G σ=>lG vs G (fun v ρ σ k=>mj t v σ ρ fun ρ=>dk C b ρ σ (qo k K)) ρ σ fun ρ σ=>K .next ρ σ
 | .ret e,ρ,σ,K=>wpE C e ρ σ fun v σ=>K (.ret v) ρ σ
 | .brk,ρ,σ,K=>K .brk ρ σ
 | .cont,ρ,σ,K=>K .cont ρ σ
 | .pass,ρ,σ,K=>K .next ρ σ
 | .dead,_,_,_=>False
noncomputable def dk (C:Cal):jf→Fr→St→(Fl→Fr→St→Prop)→Prop
 | .nil,ρ,σ,K=>K .next ρ σ
 | .cons s ss,ρ,σ,K=>wpS C s ρ σ fun fl ρ σ=>match fl with
   | .next=>dk C ss ρ σ K
   | fl=>K fl ρ σ
end
structure Fn where
 n:Nat
 dflt:List V
 body:jf
noncomputable def vm (f:Fn) (vs:List V):List V:=vs++f.dflt.drop (f.dflt.length-(f.n-vs.length))
noncomputable def frameOf (f:Fn) (vs:List V):Fr:=fun i=>(vm f vs)[i]?
noncomputable def rT (Q:V→St→Prop):Fl→Fr→St→Prop
 | .ret v,_,σ=>Q v σ
 | .next,_,σ=>Q .none σ
 | _,_,_=>False
noncomputable def dn (P:Nat→Option Fn):Nat→Cal
 | 0,_,_,_,_=>False
 | d+1,f,vs,σ,Q=>∃ fn,P f=some fn∧vs.length≤fn.n∧fn.n≤vs.length+fn.dflt.length∧dk (dn P d) fn.body (frameOf fn vs) σ (rT Q)
end MP
end
section
namespace MP
set_option genSizeOf false
set_option genInjectivity false
open PySem
structure Stc where
 prog:Program
 w:World
 hb:Heap
 cM:Addr
 cS:Addr
 attrs:List Str
 gl:Str→Option Value
noncomputable def Frz (o:Obj):Prop :=
 (o.cls≠.type "list"∧∃ xs n,o.data=.seq xs n)∨((o.cls=.type "builtin_function_or_method"∨o.cls=.type "method-wrapper")∧∃ vs,o.data=.fields vs)∨∃ fd,o.data=.func fd
mutual
noncomputable def VR (G:Stc) (h:Heap):V→Value→Prop
 | .none=>fun w=>w=.none
 | .bool b=>fun w=>w=.bool b
 | .int i=>fun w=>∃ t,w=.int i t
 | .str s=>fun w=>∃ t,w=.str s t
 | .lst a=>fun w=>w=.ref a
 | .dct a=>fun w=>w=.ref a
 | .set a=>fun w=>w=.ref a
 | .obj a=>fun w=>w=.ref a
 | .tup xs=>fun w=>∃ a ws n,w=.ref a∧IsT h a ws.toArray n∧VRs G h xs ws
 | .mt xs=>fun w=>∃ a ws n dd,w=.ref a∧h.get? a=some { cls:=.ref G.cM,dict:=dd,data:=.seq ws.toArray n,slots:=#[] }∧VRs G h xs ws
 | .yo a=>fun w=>∃ q o,w=.ref q∧h.get? q=some o∧o.cls=.type "builtin_function_or_method"∧o.data=.fields #[.builtin "dict.get",.ref a]
 | .zd a=>fun w=>∃ q o,w=.ref q∧h.get? q=some o∧o.cls=.type "builtin_function_or_method"∧o.data=.fields #[.builtin "set.__contains__",.ref a]
 | .clo _ _=>fun _=>False
 | .ro ns=>fun w=>∃ a ws n,w=.ref a∧IsL G.hb a ws.toArray n∧PyProof.Rows.IntsAre ws ns
noncomputable def VRs (G:Stc) (h:Heap):List V→List Value→Prop
 | []=>fun ws=>ws=[]
 | v::vs=>fun ws=>∃ w us,ws=w::us∧VR G h v w∧VRs G h vs us
end
section
variable {G:Stc} {h:Heap}
theorem VR.none:VR G h .none .none:=rfl
theorem VR.bool (b:Bool):VR G h (.bool b) (.bool b):=rfl
theorem VR.int (i:Int) (t:Tok):VR G h (.int i) (.int i t):=⟨t,rfl⟩
theorem VR.str (s:Str) (t:Tok):VR G h (.str s) (.str s t):=⟨t,rfl⟩
theorem VR.lst (a:Addr):VR G h (.lst a) (.ref a):=rfl
theorem VR.dct (a:Addr):VR G h (.dct a) (.ref a):=rfl
theorem VR.set (a:Addr):VR G h (.set a) (.ref a):=rfl
theorem VR.obj (a:Addr):VR G h (.obj a) (.ref a):=rfl
theorem VR.tup {a:Addr} {xs:List V} {ws:List Value} {n:Nat} (g:IsT h a ws.toArray n) (r:VRs G h xs ws):VR G h (.tup xs) (.ref a):=⟨a,ws,n,rfl,g,r⟩
theorem VR.mt {a:Addr} {xs:List V} {ws:List Value} {n:Nat} {dd:Option Addr} (g:h.get? a=some { cls:=.ref G.cM,dict:=dd,data:=.seq ws.toArray n,slots:=#[] }) (r:VRs G h xs ws):VR G h (.mt xs) (.ref a):=⟨a,ws,n,dd,rfl,g,r⟩
theorem VR.yo {q a:Addr} {o:Obj} (g:h.get? q=some o) (c:o.cls=.type "builtin_function_or_method") (d:o.data=.fields #[.builtin "dict.get",.ref a]):VR G h (.yo a) (.ref q):=⟨q,o,rfl,g,c,d⟩
theorem VR.zd {q a:Addr} {o:Obj} (g:h.get? q=some o) (c:o.cls=.type "builtin_function_or_method") (d:o.data=.fields #[.builtin "set.__contains__",.ref a]):VR G h (.zd a) (.ref q):=⟨q,o,rfl,g,c,d⟩
theorem VR.ro {a:Addr} {ns:List Int} {ws:List Value} {n:Nat} (g:IsL G.hb a ws.toArray n) (r:PyProof.Rows.IntsAre ws ns):VR G h (.ro ns) (.ref a):=⟨a,ws,n,rfl,g,r⟩
theorem VRs.nil:VRs G h [] []:=rfl
theorem VRs.cons {v:V} {w:Value} {vs:List V} {ws:List Value} (a:VR G h v w) (r:VRs G h vs ws):VRs G h (v::vs) (w::ws):=⟨w,ws,rfl,a,r⟩
theorem VRs.hd {v:V} {w:Value} {vs:List V} {ws:List Value}:VRs G h (v::vs) (w::ws)→VR G h v w∧VRs G h vs ws
 | ⟨_,_,e,a,r⟩=>by cases e;exact⟨a,r⟩
end
noncomputable def fc (h h':Heap):Prop:=∀ b o,h.get? b=some o→Frz o→h'.get? b=some o
mutual
theorem VR.mono {G:Stc} {h h':Heap} (hk:fc h h'):{v:V}→{w:Value}→VR G h v w→VR G h' v w
 | .none=>fun x=>x
 | .bool _=>fun x=>x
 | .int _=>fun x=>x
 | .str _=>fun x=>x
 | .lst _=>fun x=>x
 | .dct _=>fun x=>x
 | .set _=>fun x=>x
 | .obj _=>fun x=>x
 | .tup _=>fun z0=>by obtain⟨a,ws,n,e,g,r⟩:=z0;exact⟨a,ws,n,e,hk _ _ g (.inl ⟨show Value.type "tuple" ≠ .type "list" by decide,_,_,rfl⟩),VRs.mono hk r⟩
 | .mt _=>fun z0=>by obtain⟨a,ws,n,dd,e,g,r⟩:=z0;exact⟨a,ws,n,dd,e,hk _ _ g (.inl ⟨fun x=>(nomatch x),_,_,rfl⟩),VRs.mono hk r⟩
 | .yo _=>fun z0=>by obtain⟨q,o,e,g,c,d⟩:=z0;exact⟨q,o,e,hk _ _ g (.inr (.inl ⟨.inl c,_,d⟩)),c,d⟩
 | .zd _=>fun z0=>by obtain⟨q,o,e,g,c,d⟩:=z0;exact⟨q,o,e,hk _ _ g (.inr (.inl ⟨.inl c,_,d⟩)),c,d⟩
 | .clo _ _=>fun x=>x
 | .ro _=>fun x=>x
theorem VRs.mono {G:Stc} {h h':Heap} (hk:fc h h'):{vs:List V}→{ws:List Value}→VRs G h vs ws→VRs G h' vs ws
 | []=>fun x=>x
 | _::_=>fun z0=>by obtain⟨w,us,e,a,r⟩:=z0;exact⟨w,us,e,VR.mono hk a,VRs.mono hk r⟩
end
theorem VR.inv {G:Stc} {h:Heap} {v:V} {w:Value} (x:VR G h v w):VR G h v w:=x
section
variable {G:Stc} {h:Heap}
theorem VRs.length:{vs:List V}→{ws:List Value}→VRs G h vs ws→vs.length=ws.length
 | []=>fun e=>e▸rfl
 | _::_=>fun z0=>by obtain⟨_,_,e,_,r⟩:=z0;exact e▸bu (·+1) (VRs.length r)
theorem VRs.get:{vs:List V}→{ws:List Value}→VRs G h vs ws→{i:Nat}→{v:V}→vs[i]?=some v→∃ w,ws[i]?=some w∧VR G h v w
 | [],_,_,i,v,e=>by simp at e
 | _::_,_,⟨w,_,q,a,_⟩,0,v,e=>⟨w,q▸rfl,af e▸a⟩
 | _::_,_,⟨_,_,q,_,r⟩,i+1,v,e=>by subst q;exact VRs.get r e
theorem VRs.append:{vs us:List V}→{ws xs:List Value}→VRs G h vs ws→VRs G h us xs→VRs G h (vs++us) (ws++xs)
 | []=>fun e b=>e▸b
 | _::_=>fun z0 b=>by obtain⟨_,_,e,a,r⟩:=z0;exact e▸.cons a (VRs.append r b)
theorem VRs.take:{vs:List V}→{ws:List Value}→(n:Nat)→VRs G h vs ws→VRs G h (vs.take n) (ws.take n)
 | [],_,n,e=>by subst e;rw [List.take_nil,List.take_nil];rfl
 | _::_,_,0,_=>.nil
 | _::_,_,n+1,⟨_,_,e,a,r⟩=>e▸.cons a (VRs.take n r)
theorem VRs.drop:{vs:List V}→{ws:List Value}→(n:Nat)→VRs G h vs ws→VRs G h (vs.drop n) (ws.drop n)
 | [],_,n,e=>by subst e;rw [List.drop_nil,List.drop_nil];rfl
 | _::_,_,0,x=>x
 | _::_,_,n+1,⟨_,_,e,_,r⟩=>e▸VRs.drop n r
theorem VRs.reverse:{vs:List V}→{ws:List Value}→VRs G h vs ws→VRs G h vs.reverse ws.reverse
 | []=>fun e=>by subst e;exact .nil
 | _::_=>fun z0=>by obtain⟨_,_,e,a,r⟩:=z0;subst e;rw [yf,yf];exact VRs.append (VRs.reverse r) (.cons a .nil)
end
theorem dF {prog:Program} {w:World} {A:Around} {E:Value→Shared→Prop} {s:Shared} {a:Int} {t:Tok} {b:Str} {u:Tok} {Q:Bool→Shared→Prop} (h:Q false s):wpAny (model prog w) A (eqBool (.int a t) (.str b u)) Q E s:=by
 unfold eqBool
 exact ab (PySem.EqMixed.eq_int_str (nt h))
theorem dE {prog:Program} {w:World} {A:Around} {E:Value→Shared→Prop} {s:Shared} {a:Str} {t:Tok} {b:Int} {u:Tok} {Q:Bool→Shared→Prop} (h:Q false s):wpAny (model prog w) A (eqBool (.str a t) (.int b u)) Q E s:=by
 unfold eqBool
 exact ab (PySem.EqMixed.eq_str_int (nt h))
noncomputable def nB:Key→Value→Bool
 | .int i,v=>Value.isInt i v
 | .str s,v=>Value.isStrOf s v
noncomputable def keyHash (w:World):Key→Int
 | .int i=>hashInt i
 | .str s=>hashStr w s
theorem jv {k:Key} {v:Value} (h:nB k v=true):(∃ i t,k=.int i∧v=.int i t)∨∃ s t,k=.str s∧v=.str s t:=by
 cases k with
 | int i=>obtain⟨t,rfl⟩:=Value.isInt_shape h;exact .inl ⟨i,t,rfl,rfl⟩
 | str s=>obtain⟨t,rfl⟩:=Value.isStrOf_shape h;exact .inr ⟨s,t,rfl,rfl⟩
noncomputable def keyKind (prog:Program) (w:World):KeyKind prog w Key where
 is:=nB
 hash:=keyHash w
 inj:=fun v a b ha hb=>by
  rcases jv ha with ⟨i,t,rfl,rfl⟩ | ⟨x,t,rfl,rfl⟩<;>rcases jv hb with ⟨j,u,rfl,e⟩ | ⟨y,u,rfl,e⟩<;>cases e<;>rfl
 byValue:=fun k v h=>by rcases jv h with ⟨i,t,rfl,rfl⟩ | ⟨x,t,rfl,rfl⟩<;>rfl
 pyHash:=fun hv h=>by
  rcases jv hv with ⟨i,t,rfl,rfl⟩ | ⟨x,t,rfl,rfl⟩
  ·exact wpAny_pyHash_int h
  ·exact wpAny_pyHash_str h
 eqBool:=fun hu hv h=>by
  rcases jv hu with ⟨i,t,rfl,rfl⟩ | ⟨x,t,rfl,rfl⟩<;>rcases jv hv with ⟨j,u,rfl,rfl⟩ | ⟨y,u,rfl,rfl⟩
  ·refine wpAny_eqBool_int ?_
   simpa [Bool.beq_eq_decide_eq] using h
  ·exact dF (by simpa using h)
  ·exact dE (by simpa using h)
  ·exact wpAny_eqBool_str (by simpa using h)
 «strs»:=fun k x t v h=>by
  rcases jv h with ⟨i,u,rfl,e⟩ | ⟨y,u,rfl,e⟩
  ·cases e
  ·cases e;cases v<;>rfl
noncomputable abbrev Stc.kk (G:Stc):KeyKind G.prog G.w Key:=keyKind G.prog G.w
noncomputable def DRs (G:Stc) (h:Heap):List (Key × V)→List (Key × Value)→Prop
 | []=>fun ds=>ds=[]
 | e::es=>fun ds=>∃ w us,ds=(e.1,w)::us∧VR G h e.2 w∧DRs G h es us
theorem DRs.nil {G:Stc} {h:Heap}:DRs G h [] []:=rfl
theorem DRs.cons {G:Stc} {h:Heap} {k:Key} {v:V} {w:Value} {es:List (Key × V)} {ds:List (Key × Value)} (a:VR G h v w) (r:DRs G h es ds):DRs G h ((k,v)::es) ((k,w)::ds):=⟨w,ds,rfl,a,r⟩
theorem DRs.mono {G:Stc} {h h':Heap} (hk:fc h h'):{es:List (Key × V)}→{ds:List (Key × Value)}→DRs G h es ds→DRs G h' es ds
 | []=>fun x=>x
 | _::_=>fun z0=>by obtain⟨w,us,e,a,r⟩:=z0;exact⟨w,us,e,a.mono hk,r.mono hk⟩
noncomputable def OV (G:Stc) (h:Heap):Option V→Option Value→Prop
 | none,none=>True
 | some v,some w=>VR G h v w
 | _,_=>False
theorem OV.mono {G:Stc} {h h':Heap} (hk:fc h h') {v:Option V} {w:Option Value} (x:OV G h v w):OV G h' v w:=by
 cases v<;>cases w<;>first | exact x | exact VR.mono hk x
structure vp (G:Stc) (h:Heap) (a d:Addr) (f:Nat→Option V):Prop where
 here:∃ o,h.get? a=some o∧o.cls=.ref G.cS∧o.dict=some d∧∀ c,o.data≠.cls c
 ns:∃ m,h.Ns1 d m∧(∀ i x,G.attrs[i]?=some x→OV G h (f i) (m x))∧∀ x,x∉G.attrs→m x=none
 ne:d≠a
structure Rel (G:Stc) (σ:St) (h:Heap):Prop where
 L:∀ a xs,σ.L a=some xs→∃ ws n,IsL h a ws.toArray n∧VRs G h xs ws
 D:∀ a es,σ.D a=some es→∃ ds,h.DictOf G.kk a ds∧DRs G h es ds
 S:∀ a ks,σ.S a=some ks→h.SetOf G.kk a (fun k=>decide (k∈ks)) ks.length
 I:∀ a d f,σ.I a=some (d,f)→vp G h a d f
 Z:∀ a,σ.Z a=none
 Ll:∀ a xs,σ.L a=some xs→xs.length≤av
 Dl:∀ a es,σ.D a=some es→es.length≤av
 inj:∀ a a' d f f',σ.I a=some (d,f)→σ.I a'=some (d,f')→a=a'
 apart:∀ a d f,σ.I a=some (d,f)→σ.D d=none
 sep:∀ a d f a' d' f',σ.I a=some (d,f)→σ.I a'=some (d',f')→a≠d'
 new:∀ b,σ.dom b→G.hb.get? b=none
 base:∀ b o,G.hb.get? b=some o→h.get? b=some o
structure Evo (X:List Addr) (σ:St) (h:Heap) (σ':St) (h':Heap):Prop where
 keep:∀ b o,h.get? b=some o→¬ σ.dom b→b∉X→h'.get? b=some o
 frz:fc h h'
 dom:∀ b,σ'.dom b→σ.dom b∨h.get? b=none
 there:∀ b o,h.get? b=some o→∃ o',h'.get? b=some o'
theorem Evo.refl (X:List Addr) (σ:St) (h:Heap):Evo X σ h σ h:=⟨fun _ _ e _ _=>e,fun _ _ e _=>e,fun _ d=>.inl d,fun _ o e=>⟨o,e⟩⟩
theorem Evo.trans {X:List Addr} {σ σ₁ σ₂:St} {h h₁ h₂:Heap} (x:Evo X σ h σ₁ h₁) (y:Evo X σ₁ h₁ σ₂ h₂):Evo X σ h σ₂ h₂:=by
 refine⟨fun b o e nd nx=>y.keep b o (x.keep b o e nd nx) (fun d=>?_) nx,fun b o e f=>y.frz b o (x.frz b o e f) f,fun b d=>?_,fun b o e=>?_⟩
 ·rcases x.dom b d with d | d
  ·exact nd d
  ·rw [e] at d;cases d
 ·rcases y.dom b d with d | d
  ·exact x.dom b d
  ·cases hq:h.get? b with
   | none=>exact .inr rfl
   | some o=>obtain⟨o',e'⟩:=x.there b o hq;rw [e'] at d;cases d
 ·obtain⟨o₁,e₁⟩:=x.there b o e
  exact y.there b o₁ e₁
theorem Evo.more {X Y:List Addr} {σ σ':St} {h h':Heap} (x:Evo X σ h σ' h') (hs:∀ b∈X,b∈Y):Evo Y σ h σ' h' :=
 ⟨fun b o e nd ny=>x.keep b o e nd fun hx=>ny (hs b hx),x.frz,x.dom,x.there⟩
theorem Evo.less {X Y:List Addr} {σ σ':St} {h h':Heap} (x:Evo X σ h σ' h') (hs:∀ b∈X,b∈Y∨h.get? b=none):Evo Y σ h σ' h' :=
 ⟨fun b o e nd ny=>x.keep b o e nd fun hx=>(hs b hx).elim ny fun q=>(by rw [e] at q;cases q),x.frz,x.dom,x.there⟩
theorem rk {o:Obj} {xs:Array Value} {n:Nat} (c:o.cls=.type "list") (d:o.data=.seq xs n):¬ Frz o:=by
 rintro (⟨h,_⟩ | ⟨_,_,h⟩ | ⟨_,h⟩)
 ·exact h c
 ·rw [d] at h;cases h
 ·rw [d] at h;cases h
theorem mq {o:Obj} {es:Array DictEntry} {n:Nat} (d:o.data=.dict es n):¬ Frz o:=by
 rintro (⟨_,_,_,h⟩ | ⟨_,_,h⟩ | ⟨_,h⟩)<;>(rw [d] at h;cases h)
theorem i1 {o:Obj} {v:Option Value} (d:o.data=.cell v):¬ Frz o:=by
 rintro (⟨_,_,_,h⟩ | ⟨_,_,h⟩ | ⟨_,h⟩)<;>(rw [d] at h;cases h)
theorem jw {h h':Heap} {a:Addr} (hs:Heap.SameBut a h h') (hn:∀ o,h.get? a=some o→¬ Frz o):fc h h':=fun b o e f=>by
 by_cases hb:b=a
 ·subst hb;exact absurd f (hn o e)
 ·rw [hs.2 b hb];exact e
theorem rq {h h':Heap} {a:Addr} {o':Obj} (hs:Heap.SameBut a h h') (ha:h'.get? a=some o'):∀ b o,h.get? b=some o→∃ o',h'.get? b=some o':=fun b o e=>by
 by_cases hb:b=a
 ·subst hb;exact⟨_,ha⟩
 ·exact⟨o,by rw [hs.2 b hb];exact e⟩
theorem none_at_size (h:Heap):h.get? h.objs.size=none:=by
 cases hq:h.get? h.objs.size with
 | none=>rfl
 | some o=>exact absurd (ek hq) (gc _)
theorem y2 {o:Obj} {es:Array (Int × Value)} {n:Nat} {t:SetTable} (d:o.data=.set es n t):¬ Frz o:=by
 rintro (⟨_,_,_,h⟩ | ⟨_,_,h⟩ | ⟨_,h⟩)<;>(rw [d] at h;cases h)
theorem Rel.kj {G:Stc} {σ:St} {h:Heap} (R:Rel G σ h) {b:Addr} (d:σ.dom b):∃ o,h.get? b=some o:=by
 rcases d with d | d | d | d | d | ⟨a,f,d⟩
 ·obtain⟨xs,e⟩:=bw.mp d
  obtain⟨ws,n,ho,_⟩:=R.L b xs e
  exact⟨_,ho⟩
 ·obtain⟨xs,e⟩:=bw.mp d
  obtain⟨ds,⟨o,es,ep,ho,_,dd,_⟩,_⟩:=R.D b xs e
  exact⟨o,ho⟩
 ·obtain⟨xs,e⟩:=bw.mp d
  obtain⟨o,es,ep,t,ho,_,dd,_⟩:=R.S b xs e
  exact⟨o,ho⟩
 ·obtain⟨⟨d,f⟩,e⟩:=bw.mp d
  obtain⟨o,ho,_⟩:=(R.I b d f e).here
  exact⟨o,ho⟩
 ·rw [R.Z] at d;cases d
 ·obtain⟨m,⟨o',es,ep,ho',dd,_⟩,_⟩:=(R.I a b f d).ns
  exact⟨o',ho'⟩
theorem Rel.same {G:Stc} {σ:St} {h h':Heap} (R:Rel G σ h) (hk:∀ b o,h.get? b=some o→σ.dom b→h'.get? b=some o) (hf:fc h h') (hb:∀ b o,G.hb.get? b=some o→h'.get? b=some o):Rel G σ h' where
 L:=fun a xs e=>by
  obtain⟨ws,n,ho,v⟩:=R.L a xs e
  exact⟨ws,n,hk a _ ho (.inl (by rw [e];rfl)),v.mono hf⟩
 D:=fun a xs e=>by
  obtain⟨ds,⟨o,es,ep,ho,r⟩,v⟩:=R.D a xs e
  exact⟨ds,⟨o,es,ep,hk a o ho (.inr (.inl (by rw [e];rfl))),r⟩,v.mono hf⟩
 S:=fun a xs e=>by
  obtain⟨o,es,ep,t,ho,r⟩:=R.S a xs e
  exact⟨o,es,ep,t,hk a o ho (.inr (.inr (.inl (by rw [e];rfl)))),r⟩
 I:=fun a d f e=>by
  obtain⟨⟨o,ho,r⟩,⟨m,⟨o',es,ep,ho',r'⟩,v,v'⟩,ne⟩:=R.I a d f e
  have dd:σ.dom d:=.inr (.inr (.inr (.inr (.inr ⟨a,f,e⟩))))
  exact⟨⟨o,hk a o ho (.inr (.inr (.inr (.inl (by rw [e];rfl))))),r⟩,⟨m,⟨o',es,ep,hk d o' ho' dd,r'⟩,fun i x hx=>(v i x hx).mono hf,v'⟩,ne⟩
 Z:=R.Z
 Ll:=R.Ll
 Dl:=R.Dl
 inj:=R.inj
 apart:=R.apart
 sep:=R.sep
 new:=R.new
 base:=hb
theorem Rel.push {G:Stc} {σ:St} {h:Heap} (R:Rel G σ h) (o:Obj):Rel G σ (h.push o) :=
 R.same (fun _ _ e _=>au o e) (fun _ _ e _=>au o e) fun b o' e=>au o (R.base b o' e)
theorem Evo.push (X:List Addr) (σ:St) (h:Heap) (o:Obj):Evo X σ h σ (h.push o) :=
 ⟨fun _ _ e _ _=>au o e,fun _ _ e _=>au o e,fun _ d=>.inl d,fun _ o' e=>⟨o',au o e⟩⟩
theorem tc {σ:St} {a b:Addr} {xs:List V} (d:(σ.cw a xs).dom b):σ.dom b∨b=a:=by
 by_cases h:b=a
 ·exact .inr h
 ·refine .inl ?_
  rcases d with d | d
  ·exact .inl (by simpa [St.cw,upd,h] using d)
  ·exact .inr d
theorem jO {σ:St} {a b:Addr} {xs:List (Key × V)} (d:(σ.ki a xs).dom b):σ.dom b∨b=a:=by
 by_cases h:b=a
 ·exact .inr h
 ·refine .inl ?_
  rcases d with d | d | d
  ·exact .inl d
  ·exact .inr (.inl (by simpa [St.ki,upd,h] using d))
  ·exact .inr (.inr d)
theorem jN {σ:St} {a b:Addr} {xs:List Key} (d:(σ.rh a xs).dom b):σ.dom b∨b=a:=by
 by_cases h:b=a
 ·exact .inr h
 ·refine .inl ?_
  rcases d with d | d | d | d
  ·exact .inl d
  ·exact .inr (.inl d)
  ·exact .inr (.inr (.inl (by simpa [St.rh,upd,h] using d)))
  ·exact .inr (.inr (.inr d))
theorem zp {σ:St} {a b d:Addr} {f:Nat→Option V} (hd:(σ.fj a d f).dom b):σ.dom b∨b=a∨b=d:=by
 by_cases h:b=a
 ·exact .inr (.inl h)
 ·by_cases h':b=d
  ·exact .inr (.inr h')
  ·refine .inl ?_
   rcases hd with q | q | q | q | q | ⟨c,g,q⟩
   ·exact .inl q
   ·exact .inr (.inl q)
   ·exact .inr (.inr (.inl q))
   ·exact .inr (.inr (.inr (.inl (by simpa [St.fj,upd,h] using q))))
   ·exact .inr (.inr (.inr (.inr (.inl q))))
   ·refine .inr (.inr (.inr (.inr (.inr ⟨c,g,?_⟩))))
    by_cases hc:c=a
    ·simp only [St.fj,upd,hc,sg,cz,jo] at q;exact absurd q.1.symm h'
    ·simpa [St.fj,upd,hc] using q
structure At (a:Addr) (h h':Heap):Prop where
 other:∀ b o,b≠a→h.get? b=some o→h'.get? b=some o
 here:∃ o,h'.get? a=some o
 nofrz:∀ o,h.get? a=some o→¬ Frz o
theorem At.frz {a:Addr} {h h':Heap} (x:At a h h'):fc h h':=fun b o e f=>x.other b o (fun hb=>x.nofrz o (hb▸e) f) e
theorem At.there {a:Addr} {h h':Heap} (x:At a h h'):∀ b o,h.get? b=some o→∃ o',h'.get? b=some o':=fun b o e=>by
 by_cases hb:b=a
 ·subst hb;exact x.here
 ·exact⟨o,x.other b o hb e⟩
theorem At.push (h:Heap) {o:Obj} (ho:o.isFreed=false:=by rfl):At h.objs.size h (h.push o) :=
 ⟨fun _ _ _ e=>au o e,⟨o,cg _ ho⟩,fun o' e=>by rw [none_at_size] at e;cases e⟩
theorem At.kP {a:Addr} {h h':Heap} {o o':Obj} (hs:Heap.SameBut a h h') (ha:h.get? a=some o) (hn:¬ Frz o) (ha':h'.get? a=some o'):At a h h' :=
 ⟨fun b _ hb e=>by rw [hs.2 b hb];exact e,⟨o',ha'⟩,fun _ e=>by rw [ha] at e;cases e;exact hn⟩
section
variable {G:Stc} {σ:St} {h h':Heap} {a:Addr}
theorem Rel.atL (R:Rel G σ h) (x:At a h h') {b:Addr} {xs:List V} (hb:b≠a) (e:σ.L b=some xs):∃ ws n,IsL h' b ws.toArray n∧VRs G h' xs ws:=by
 obtain⟨ws,n,ho,v⟩:=R.L b xs e
 exact⟨ws,n,x.other b _ hb ho,v.mono x.frz⟩
theorem Rel.atD (R:Rel G σ h) (x:At a h h') {b:Addr} {es:List (Key × V)} (hb:b≠a) (e:σ.D b=some es):∃ ds,h'.DictOf G.kk b ds∧DRs G h' es ds:=by
 obtain⟨ds,⟨o,es',ep,ho,r⟩,v⟩:=R.D b es e
 exact⟨ds,⟨o,es',ep,x.other b o hb ho,r⟩,v.mono x.frz⟩
theorem Rel.atS (R:Rel G σ h) (x:At a h h') {b:Addr} {ks:List Key} (hb:b≠a) (e:σ.S b=some ks):h'.SetOf G.kk b (fun k=>decide (k∈ks)) ks.length:=by
 obtain⟨o,es',ep,t,ho,r⟩:=R.S b ks e
 exact⟨o,es',ep,t,x.other b o hb ho,r⟩
theorem Rel.atI (R:Rel G σ h) (x:At a h h') {b d:Addr} {f:Nat→Option V} (hb:b≠a) (hd:d≠a) (e:σ.I b=some (d,f)):vp G h' b d f:=by
 obtain⟨⟨o,ho,r⟩,⟨m,⟨o',es,ep,ho',r'⟩,v,v'⟩,ne⟩:=R.I b d f e
 exact⟨⟨o,x.other b o hb ho,r⟩,⟨m,⟨o',es,ep,x.other d o' hd ho',r'⟩,fun i y hy=>(v i y hy).mono x.frz,v'⟩,ne⟩
theorem Rel.hZ (R:Rel G σ h) {xs:List V} (e:σ.L a=some xs):∃ o,h.get? a=some o∧o.cls=.type "list":=by
 obtain⟨ws,n,ho,_⟩:=R.L a xs e
 exact⟨_,ho,rfl⟩
theorem Rel.xF (R:Rel G σ h) {es:List (Key × V)} (e:σ.D a=some es):∃ o,h.get? a=some o∧o.cls=.type "dict":=by
 obtain⟨ds,⟨o,es',ep,ho,c,_⟩,_⟩:=R.D a es e
 exact⟨o,ho,c.1⟩
theorem Rel.xE (R:Rel G σ h) {ks:List Key} (e:σ.S a=some ks):∃ o,h.get? a=some o∧o.cls=.type "set":=by
 obtain⟨o,es',ep,t,ho,c,_⟩:=R.S a ks e
 exact⟨o,ho,c.1⟩
theorem Rel.AA (R:Rel G σ h) {d:Addr} {f:Nat→Option V} (e:σ.I a=some (d,f)):∃ o,h.get? a=some o∧o.cls=.ref G.cS:=by
 obtain⟨o,ho,c,_⟩:=(R.I a d f e).here
 exact⟨o,ho,c⟩
theorem Rel.tG (R:Rel G σ h) {d:Addr} {f:Nat→Option V} (e:σ.I a=some (d,f)):∃ o es ep,h.get? d=some o∧o.data=.dict es ep:=by
 obtain⟨m,⟨o',es,ep,ho',dd,_⟩,_⟩:=(R.I a d f e).ns
 exact⟨o',es,ep,ho',dd⟩
theorem Rel.B6 (R:Rel G σ h) {b d:Addr} {f:Nat→Option V} {xs:List V} (e:σ.L b=some xs) (e':σ.I a=some (d,f)):d≠b:=by
 rintro rfl
 obtain⟨o,es,ep,ho,hd⟩:=R.tG e'
 obtain⟨ws,n,ho',_⟩:=R.L _ _ e
 obtain rfl:=af (ho.symm.trans ho');cases hd
theorem Rel.B5 (R:Rel G σ h) {b d:Addr} {f:Nat→Option V} {xs:List Key} (e:σ.S b=some xs) (e':σ.I a=some (d,f)):d≠b:=by
 rintro rfl
 obtain⟨o,es,ep,ho,hd⟩:=R.tG e'
 obtain⟨o',es',ep',t',ho',_,hd',_⟩:=R.S _ _ e
 rw [ho] at ho';cases ho';rw [hd] at hd';cases hd'
theorem Rel.sI (R:Rel G σ h) {b d:Addr} {f:Nat→Option V} (e:h.get? b=none) (e':σ.I a=some (d,f)):d≠b:=by
 rintro rfl
 obtain⟨o,es,ep,ho,hd⟩:=R.tG e'
 rw [ho] at e;cases e
theorem Rel.putL (R:Rel G σ h) (x:At a h h') (hn:σ.L a=none→h.get? a=none) {xs:List V} {ws:List Value} {n:Nat} (hl:IsL h' a ws.toArray n) (hv:VRs G h xs ws) (hz:xs.length≤av):Rel G (σ.cw a xs) h':=by
 have old:∀ b o,h.get? b=some o→∀ c:Value,o.cls=c→c≠.type "list"→b≠a:=fun b o e c hc hne hb=>by
  subst hb
  cases hq:σ.L b with
  | none=>rw [hn hq] at e;cases e
  | some ys=>obtain⟨o',ho',c'⟩:=R.hZ hq;rw [e] at ho';cases ho';exact hne (hc.symm.trans c')
 have neC:∀ b c,(∃ o,h.get? b=some o∧o.cls=c)→c≠.type "list"→b≠a:=fun b c zz2 hne=>by obtain⟨o,ho,hc⟩:=zz2;exact old b o ho c hc hne
 refine⟨fun b ys e=>?_,fun b es e=>R.atD x (neC b _ (R.xF e) (by decide)) e,fun b ks e=>R.atS x (neC b _ (R.xE e) (by decide)) e,
  fun b d f e=>R.atI x (neC b _ (R.AA e) (fun q=>nomatch q)) (by
   cases hq:σ.L a with
   | none=>exact R.sI (hn hq) e
   | some ys=>exact R.B6 hq e) e,R.Z,fun b ys e=>?_,R.Dl,R.inj,R.apart,R.sep,fun b d=>?_,fun b o e=>?_⟩
 ·by_cases hb:b=a
  ·subst hb
   simp only [St.cw,bp,cz] at e
   subst e
   exact⟨ws,n,hl,hv.mono x.frz⟩
  ·simp only [St.cw,cn hb] at e
   exact R.atL x hb e
 ·by_cases hb:b=a
  ·subst hb
   simp only [St.cw,bp,cz] at e
   exact e▸hz
  ·simp only [St.cw,cn hb] at e
   exact R.Ll b ys e
 ·rcases tc d with d | rfl
  ·exact R.new b d
  ·cases hq:G.hb.get? b with
   | none=>rfl
   | some o =>
    cases hL:σ.L b with
    | none=>have:=R.base b o hq;rw [hn hL] at this;cases this
    | some ys=>have:=R.new b (.inl (by rw [hL];rfl));rw [hq] at this;cases this
 ·refine x.other b o (fun hb=>?_) (R.base b o e)
  subst hb
  cases hL:σ.L b with
  | none=>have:=R.base b o e;rw [hn hL] at this;cases this
  | some ys=>have:=R.new b (.inl (by rw [hL];rfl));rw [e] at this;cases this
theorem Evo.putL {X:List Addr} (x:At a h h') (hn:σ.L a=none→h.get? a=none) (xs:List V):Evo X σ h (σ.cw a xs) h':=by
 refine⟨fun b o e nd _=>x.other b o (fun hb=>?_) e,x.frz,fun b d=>?_,x.there⟩
 ·subst hb
  cases hq:σ.L b with
  | none=>rw [hn hq] at e;cases e
  | some ys=>exact nd (.inl (by rw [hq];rfl))
 ·rcases tc d with d | rfl
  ·exact .inl d
  ·cases hq:σ.L b with
   | none=>exact .inr (hn hq)
   | some ys=>exact .inl (.inl (by rw [hq];rfl))
theorem Rel.putD (R:Rel G σ h) (x:At a h h') (hn:σ.D a=none→h.get? a=none) (hi:∀ b f,σ.I b≠some (a,f)) {xs:List (Key × V)} {ds:List (Key × Value)} (hl:h'.DictOf G.kk a ds) (hv:DRs G h xs ds) (hz:xs.length≤av):Rel G (σ.ki a xs) h':=by
 have old:∀ b o,h.get? b=some o→∀ c:Value,o.cls=c→c≠.type "dict"→b≠a:=fun b o e c hc hne hb=>by
  subst hb
  cases hq:σ.D b with
  | none=>rw [hn hq] at e;cases e
  | some ys=>obtain⟨o',ho',c'⟩:=R.xF hq;rw [e] at ho';cases ho';exact hne (hc.symm.trans c')
 have neC:∀ b c,(∃ o,h.get? b=some o∧o.cls=c)→c≠.type "dict"→b≠a:=fun b c zz2 hne=>by obtain⟨o,ho,hc⟩:=zz2;exact old b o ho c hc hne
 refine⟨fun b es e=>R.atL x (neC b _ (R.hZ e) (by decide)) e,fun b ys e=>?_,fun b ks e=>R.atS x (neC b _ (R.xE e) (by decide)) e,
  fun b d f e=>R.atI x (neC b _ (R.AA e) (fun q=>nomatch q)) (fun hd=>hi b f (hd▸e)) e,R.Z,R.Ll,fun b ys e=>?_,R.inj,fun b d f e=>?_,R.sep,fun b d=>?_,fun b o e=>?_⟩
 ·by_cases hb:b=a
  ·subst hb
   simp only [St.ki,bp,cz] at e
   subst e
   exact⟨ds,hl,hv.mono x.frz⟩
  ·simp only [St.ki,cn hb] at e
   exact R.atD x hb e
 ·by_cases hb:b=a
  ·subst hb
   simp only [St.ki,bp,cz] at e
   exact e▸hz
  ·simp only [St.ki,cn hb] at e
   exact R.Dl b ys e
 ·have hd:d≠a:=fun hd=>hi b f (hd▸e)
  simp only [St.ki,cn hd]
  exact R.apart b d f e
 ·rcases jO d with d | rfl
  ·exact R.new b d
  ·cases hq:G.hb.get? b with
   | none=>rfl
   | some o =>
    cases hL:σ.D b with
    | none=>have:=R.base b o hq;rw [hn hL] at this;cases this
    | some ys=>have:=R.new b (.inr (.inl (by rw [hL];rfl)));rw [hq] at this;cases this
 ·refine x.other b o (fun hb=>?_) (R.base b o e)
  subst hb
  cases hL:σ.D b with
  | none=>have:=R.base b o e;rw [hn hL] at this;cases this
  | some ys=>have:=R.new b (.inr (.inl (by rw [hL];rfl)));rw [e] at this;cases this
theorem Evo.putD {X:List Addr} (x:At a h h') (hn:σ.D a=none→h.get? a=none) (xs:List (Key × V)):Evo X σ h (σ.ki a xs) h':=by
 refine⟨fun b o e nd _=>x.other b o (fun hb=>?_) e,x.frz,fun b d=>?_,x.there⟩
 ·subst hb
  cases hq:σ.D b with
  | none=>rw [hn hq] at e;cases e
  | some ys=>exact nd (.inr (.inl (by rw [hq];rfl)))
 ·rcases jO d with d | rfl
  ·exact .inl d
  ·cases hq:σ.D b with
   | none=>exact .inr (hn hq)
   | some ys=>exact .inl (.inr (.inl (by rw [hq];rfl)))
theorem Rel.zB (R:Rel G σ h) (x:At a h h') (hn:σ.S a=none→h.get? a=none) {xs:List Key} (hl:h'.SetOf G.kk a (fun k=>decide (k∈xs)) xs.length):Rel G (σ.rh a xs) h':=by
 have old:∀ b o,h.get? b=some o→∀ c:Value,o.cls=c→c≠.type "set"→b≠a:=fun b o e c hc hne hb=>by
  subst hb
  cases hq:σ.S b with
  | none=>rw [hn hq] at e;cases e
  | some ys=>obtain⟨o',ho',c'⟩:=R.xE hq;rw [e] at ho';cases ho';exact hne (hc.symm.trans c')
 have neC:∀ b c,(∃ o,h.get? b=some o∧o.cls=c)→c≠.type "set"→b≠a:=fun b c zz2 hne=>by obtain⟨o,ho,hc⟩:=zz2;exact old b o ho c hc hne
 refine⟨fun b es e=>R.atL x (neC b _ (R.hZ e) (by decide)) e,fun b ks e=>R.atD x (neC b _ (R.xF e) (by decide)) e,fun b ys e=>?_,
  fun b d f e=>R.atI x (neC b _ (R.AA e) (fun q=>nomatch q)) (by
   cases hq:σ.S a with
   | none=>exact R.sI (hn hq) e
   | some ys=>exact R.B5 hq e) e,R.Z,R.Ll,R.Dl,R.inj,R.apart,R.sep,fun b d=>?_,fun b o e=>?_⟩
 ·by_cases hb:b=a
  ·subst hb
   simp only [St.rh,bp,cz] at e
   subst e
   exact hl
  ·simp only [St.rh,cn hb] at e
   exact R.atS x hb e
 ·rcases jN d with d | rfl
  ·exact R.new b d
  ·cases hq:G.hb.get? b with
   | none=>rfl
   | some o =>
    cases hL:σ.S b with
    | none=>have:=R.base b o hq;rw [hn hL] at this;cases this
    | some ys=>have:=R.new b (.inr (.inr (.inl (by rw [hL];rfl))));rw [hq] at this;cases this
 ·refine x.other b o (fun hb=>?_) (R.base b o e)
  subst hb
  cases hL:σ.S b with
  | none=>have:=R.base b o e;rw [hn hL] at this;cases this
  | some ys=>have:=R.new b (.inr (.inr (.inl (by rw [hL];rfl))));rw [e] at this;cases this
theorem Evo.zB {X:List Addr} (x:At a h h') (hn:σ.S a=none→h.get? a=none) (xs:List Key):Evo X σ h (σ.rh a xs) h':=by
 refine⟨fun b o e nd _=>x.other b o (fun hb=>?_) e,x.frz,fun b d=>?_,x.there⟩
 ·subst hb
  cases hq:σ.S b with
  | none=>rw [hn hq] at e;cases e
  | some ys=>exact nd (.inr (.inr (.inl (by rw [hq];rfl))))
 ·rcases jN d with d | rfl
  ·exact .inl d
  ·cases hq:σ.S b with
   | none=>exact .inr (hn hq)
   | some ys=>exact .inl (.inr (.inr (.inl (by rw [hq];rfl))))
theorem Rel.zC (R:Rel G σ h) {d:Addr} {f f':Nat→Option V} (e:σ.I a=some (d,f)) (x:At d h h') (hl:vp G h' a d f'):Rel G (σ.fj a d f') h':=by
 have hda:d≠a:=hl.ne
 have base':∀ c d' g,(σ.fj a d f').I c=some (d',g)→∃ g₀,σ.I c=some (d',g₀):=fun c d' g q=>by
  by_cases hc:c=a
  ·subst hc
   simp only [St.fj,bp,cz,jo] at q
   exact⟨f,q.1▸e⟩
  ·exact⟨g,by simpa [St.fj,upd,hc] using q⟩
 refine⟨fun b es e'=>R.atL x (R.B6 e' e).symm e',fun b ks e'=>R.atD x (fun hb=>?_) e',fun b ys e'=>R.atS x (R.B5 e' e).symm e',fun b d' g e'=>?_,R.Z,R.Ll,R.Dl,fun b b' d' g g' e1 e2=>?_,fun b d' g e'=>?_,fun b d' g b' d'' g' e1 e2=>?_,fun b hd=>?_,fun b o e'=>?_⟩
 ·subst hb;have e'':σ.D b=some ks:=e';rw [R.apart a b f e] at e'';cases e''
 ·by_cases hb:b=a
  ·subst hb
   simp only [St.fj,bp,cz,jo] at e'
   obtain⟨rfl,rfl⟩:=e'
   exact hl
  ·simp only [St.fj,cn hb] at e'
   exact R.atI x (R.sep _ _ _ _ _ _ e' e) (fun hd=>hb (R.inj b a d g f (hd▸e') e)) e'
 ·obtain⟨g₁,q1⟩:=base' b d' g e1
  obtain⟨g₂,q2⟩:=base' b' d' g' e2
  exact R.inj b b' d' g₁ g₂ q1 q2
 ·by_cases hb:b=a
  ·subst hb
   simp only [St.fj,bp,cz,jo] at e'
   exact e'.1▸R.apart b d f e
  ·exact R.apart b d' g (by simpa [St.fj,upd,hb] using e')
 ·obtain⟨g₁,q1⟩:=base' b d' g e1
  obtain⟨g₂,q2⟩:=base' b' d'' g' e2
  exact R.sep _ _ _ _ _ _ q1 q2
 ·have ha:σ.dom a:=.inr (.inr (.inr (.inl (by rw [e];rfl))))
  have hd':σ.dom d:=.inr (.inr (.inr (.inr (.inr ⟨a,f,e⟩))))
  rcases zp hd with q | rfl | rfl
  ·exact R.new b q
  ·exact R.new _ ha
  ·exact R.new _ hd'
 ·refine x.other b o (fun hb=>?_) (R.base b o e')
  subst hb
  have:=R.new b (.inr (.inr (.inr (.inr (.inr ⟨a,f,e⟩)))))
  rw [e'] at this;cases this
theorem Evo.zC {X:List Addr} {d:Addr} {f:Nat→Option V} (f':Nat→Option V) (e:σ.I a=some (d,f)) (x:At d h h'):Evo X σ h (σ.fj a d f') h':=by
 refine⟨fun b o e' nd _=>x.other b o (fun hb=>nd (hb▸.inr (.inr (.inr (.inr (.inr ⟨a,f,e⟩)))))) e',x.frz,fun b hd=>.inl ?_,x.there⟩
 rcases zp hd with q | rfl | rfl
 ·exact q
 ·exact .inr (.inr (.inr (.inl (by rw [e];rfl))))
 ·exact .inr (.inr (.inr (.inr (.inr ⟨a,f,e⟩))))
theorem Rel.zJ (R:Rel G σ h) {d:Addr} (ha:h.get? a=none) (hd:h.get? d=none) (hda:d≠a) (hk:∀ b o,h.get? b=some o→h'.get? b=some o) (hl:vp G h' a d fun _=>none):Rel G (σ.fj a d fun _=>none) h':=by
 have R':=R.same (fun b o e _=>hk b o e) (fun b o e _=>hk b o e) fun b o e=>hk b o (R.base b o e)
 have hndom:∀ b,h.get? b=none→¬ σ.dom b:=fun b hb q=>by obtain⟨o,ho⟩:=R.kj q;rw [hb] at ho;cases ho
 have nod:∀ b g,σ.I b≠some (d,g):=fun b g q=>hndom d hd (.inr (.inr (.inr (.inr (.inr ⟨b,g,q⟩)))))
 have hIa:σ.I a=none:=by
  cases hq:σ.I a with
  | none=>rfl
  | some p=>exact absurd (.inr (.inr (.inr (.inl (by rw [hq];rfl))))) (hndom a ha)
 have base:∀ c d' g,(σ.fj a d fun _=>none).I c=some (d',g)→(c=a∧d'=d)∨(c≠a∧σ.I c=some (d',g)):=fun c d' g q=>by
  by_cases hc:c=a
  ·subst hc
   simp only [St.fj,bp,cz,jo] at q
   exact .inl ⟨rfl,q.1.symm⟩
  ·exact .inr ⟨hc,by simpa [St.fj,upd,hc] using q⟩
 refine⟨R'.L,R'.D,R'.S,fun b d' g e'=>?_,R.Z,R.Ll,R.Dl,fun b b' d' g g' e1 e2=>?_,fun b d' g e'=>?_,fun b d' g b' d'' g' e1 e2=>?_,fun b q=>?_,R'.base⟩
 ·by_cases hb:b=a
  ·subst hb
   simp only [St.fj,bp,cz,jo] at e'
   obtain⟨rfl,rfl⟩:=e'
   exact hl
  ·exact R'.I b d' g (by simpa [St.fj,upd,hb] using e')
 ·rcases base b d' g e1 with ⟨rfl,rfl⟩ | ⟨_,q1⟩<;>rcases base b' d' g' e2 with ⟨h1,h2⟩ | ⟨_,q2⟩
  ·exact h1.symm
  ·exact absurd q2 (nod _ _)
  ·exact absurd (h2▸q1) (nod _ _)
  ·exact R.inj b b' d' g g' q1 q2
 ·rcases base b d' g e' with ⟨rfl,rfl⟩ | ⟨_,q1⟩
  ·show σ.D d'=none
   cases hq:σ.D d' with
   | none=>rfl
   | some p=>exact absurd (.inr (.inl (by rw [hq];rfl))) (hndom d' hd)
  ·exact R.apart b d' g q1
 ·have inDom:∀ c d' g,σ.I c=some (d',g)→σ.dom c∧σ.dom d':=fun c d' g q=>⟨.inr (.inr (.inr (.inl (by rw [q];rfl)))),.inr (.inr (.inr (.inr (.inr ⟨c,g,q⟩))))⟩
  rcases base b d' g e1 with ⟨rfl,rfl⟩ | ⟨_,q1⟩<;>rcases base b' d'' g' e2 with ⟨h1,h2⟩ | ⟨_,q2⟩
  ·rw [h2];exact hda.symm
  ·rintro rfl;exact hndom _ ha (inDom _ _ _ q2).2
  ·rw [h2];rintro rfl;exact hndom _ hd (inDom _ _ _ q1).1
  ·exact R.sep _ _ _ _ _ _ q1 q2
 ·have fresh:∀ c,h.get? c=none→G.hb.get? c=none:=fun c hc=>by
   cases hq:G.hb.get? c with
   | none=>rfl
   | some o=>rw [R.base c o hq] at hc;cases hc
  rcases zp q with q | rfl | rfl
  ·exact R.new b q
  ·exact fresh _ ha
  ·exact fresh _ hd
theorem Evo.zJ {X:List Addr} {d:Addr} (f:Nat→Option V) (ha:h.get? a=none) (hd:h.get? d=none) (hk:∀ b o,h.get? b=some o→h'.get? b=some o):Evo X σ h (σ.fj a d f) h':=by
 refine⟨fun b o e _ _=>hk b o e,fun b o e _=>hk b o e,fun b q=>?_,fun b o e=>⟨o,hk b o e⟩⟩
 rcases zp q with q | rfl | rfl
 ·exact .inl q
 ·exact .inr ha
 ·exact .inr hd
end
end MP
end
section
namespace MP
open PySem PyProof.Rows
structure AOk (A:Around) (d:Nat):Prop where
 handled:A.handled=none
 depth:A.depth+3*d+20<recursionLimit
 units:A.units+30*d+300<cLine
structure gr (env:Env):Prop where
 kind:env.scope.kind=.function
 nd:(env.scope.names.map (·.1)).Nodup
 globals:env.globals=mainGlobals
 builtins:env.builtins=builtinsNs
structure FR (G:Stc) (σ:St) (env:Env) (ρ:Fr) (h:Heap):Prop where
 ns:∃ m,h.Ns env.locals m∧∀ i x,env.scope.names[i]?=some (x,.local)→OV G h (ρ i) (m x)
 cells:∀ (i:Nat) (x:Str) (k:NameKind),env.scope.names[i]?=some (x,k)→k=.cell∨k=.free→∃ c w,env.cells.lookup x=some c∧h.IsCell c w∧OV G h (ρ i) w∧¬ σ.dom c∧c≠env.locals∧G.hb.get? c=none
 inj:∀ (i j:Nat) (x y:Str) (k k':NameKind) (c:Addr),env.scope.names[i]?=some (x,k)→env.scope.names[j]?=some (y,k')→(k=.cell∨k=.free)→(k'=.cell∨k'=.free)→env.cells.lookup x=some c→env.cells.lookup y=some c→i=j
 loc:¬ σ.dom env.locals
 notfrz:∀ o,h.get? env.locals=some o→¬ Frz o
 new:G.hb.get? env.locals=none
 allc:∀ p∈env.cells,∃ o,h.get? p.2=some o
theorem FR.evo {G:Stc} {σ σ':St} {env:Env} {ρ:Fr} {h h':Heap} (F:FR G σ env ρ h) (x:Evo [] σ h σ' h'):FR G σ' env ρ h':=by
 obtain⟨m,⟨o,es,ep,ho,r⟩,hm⟩:=F.ns
 have ho':=x.keep _ _ ho F.loc (by simp)
 have still:∀ b o,h.get? b=some o→¬ σ.dom b→¬ σ'.dom b:=fun b o e nd d=>(x.dom b d).elim nd fun q=>by rw [e] at q;cases q
 refine⟨⟨m,⟨o,es,ep,ho',r⟩,fun i y e=>(hm i y e).mono x.frz⟩,fun i y k e hk=>?_,F.inj,still _ _ ho F.loc,fun o'' e=>?_,F.new,fun p hp=>by obtain⟨o,e⟩:=F.allc p hp;exact x.there _ o e⟩
 ·obtain⟨c,w,h1,⟨oc,hoc,hd⟩,h3,h4,h5⟩:=F.cells i y k e hk
  exact⟨c,w,h1,⟨oc,x.keep _ _ hoc h4 (by simp),hd⟩,h3.mono x.frz,still _ _ hoc h4,h5⟩
 ·rw [ho'] at e;cases e;exact F.notfrz o ho
inductive ew (G:Stc) (X:List Addr) (σ:St) (s:Shared) (Q:V→St→Prop) (w:Value) (s':Shared):Prop
 | mk (v:V) (σ':St) (h':Heap) (tk:Nat):s'={ s with heap:=h',toks:=tk }→Q v σ'→VR G h' v w→Rel G σ' h'→Evo X σ s.heap σ' h'→ew G X σ s Q w s'
inductive gq (G:Stc) (X:List Addr) (σ:St) (s:Shared) (Q:Bool→St→Prop) (b:Bool) (s':Shared):Prop
 | mk (σ':St) (h':Heap) (tk:Nat):s'={ s with heap:=h',toks:=tk }→Q b σ'→Rel G σ' h'→Evo X σ s.heap σ' h'→gq G X σ s Q b s'
inductive fR (G:Stc) (X:List Addr) (σ:St) (s:Shared) (Q:List V→St→Prop) (ws:List Value) (s':Shared):Prop
 | mk (vs:List V) (σ':St) (h':Heap) (tk:Nat):s'={ s with heap:=h',toks:=tk }→Q vs σ'→VRs G h' vs ws→Rel G σ' h'→Evo X σ s.heap σ' h'→fR G X σ s Q ws s'
section
variable {G:Stc} {X:List Addr} {σ σ₁:St} {s:Shared} {h₁:Heap} {tk:Nat}
theorem ew.back {Q:V→St→Prop} {w:Value} {s':Shared} (x:Evo X σ s.heap σ₁ h₁) (l:ew G X σ₁ { s with heap:=h₁,toks:=tk } Q w s'):ew G X σ s Q w s':=by
 obtain⟨v,σ',h',t,rfl,q,vr,r,e⟩:=l
 exact⟨v,σ',h',t,rfl,q,vr,r,x.trans e⟩
theorem gq.back {Q:Bool→St→Prop} {b:Bool} {s':Shared} (x:Evo X σ s.heap σ₁ h₁) (l:gq G X σ₁ { s with heap:=h₁,toks:=tk } Q b s'):gq G X σ s Q b s':=by
 obtain⟨σ',h',t,rfl,q,r,e⟩:=l
 exact⟨σ',h',t,rfl,q,r,x.trans e⟩
theorem fR.back {Q:List V→St→Prop} {b:List Value} {s':Shared} (x:Evo X σ s.heap σ₁ h₁) (l:fR G X σ₁ { s with heap:=h₁,toks:=tk } Q b s'):fR G X σ s Q b s':=by
 obtain⟨vs,σ',h',t,rfl,q,v,r,e⟩:=l
 exact⟨vs,σ',h',t,rfl,q,v,r,x.trans e⟩
theorem ew.here {Q:V→St→Prop} {v:V} {w:Value} (q:Q v σ) (vr:VR G s.heap v w) (r:Rel G σ s.heap):ew G X σ s Q w { s with toks:=tk }:=⟨v,σ,s.heap,tk,rfl,q,vr,r,Evo.refl _ _ _⟩
theorem ew.sv {Q:V→St→Prop} {v:V} {w:Value} (q:Q v σ) (vr:VR G s.heap v w) (r:Rel G σ s.heap):ew G X σ s Q w s:=⟨v,σ,s.heap,s.toks,rfl,q,vr,r,Evo.refl _ _ _⟩
theorem gq.here {Q:Bool→St→Prop} {b:Bool} (q:Q b σ) (r:Rel G σ s.heap):gq G X σ s Q b s:=⟨σ,s.heap,s.toks,rfl,q,r,Evo.refl _ _ _⟩
theorem gq.sv {Q:Bool→St→Prop} {b:Bool} (q:Q b σ) (r:Rel G σ s.heap):gq G X σ s Q b { s with toks:=tk }:=⟨σ,s.heap,tk,rfl,q,r,Evo.refl _ _ _⟩
end
noncomputable abbrev Stc.M (G:Stc):Model:=model G.prog G.w
noncomputable def cp (G:Stc) (C:Cal) (sc:Scope) (d:Nat) (e:Ex) (ex:Expr):Prop :=
 ∀ (A:Around) (E:Value→Shared→Prop) (env:Env) (ρ:Fr) (σ:St) (Q:V→St→Prop) (s:Shared),AOk A d→env.scope=sc→gr env→FR G σ env ρ s.heap→Rel G σ s.heap →
  wpE C e ρ σ Q→wpAny G.M A (eval ex env) (ew G [] σ s Q) E s
noncomputable def mr (G:Stc) (C:Cal) (sc:Scope) (d:Nat) (e:Ex) (ex:Expr):Prop :=
 ∀ (A:Around) (E:Value→Shared→Prop) (env:Env) (ρ:Fr) (σ:St) (Q:Bool→St→Prop) (s:Shared),AOk A d→env.scope=sc→gr env→FR G σ env ρ s.heap→Rel G σ s.heap →
  wpT C e ρ σ Q→wpAny G.M A (isTrue ex env (eval ex env)) (gq G [] σ s Q) E s
noncomputable def iy (G:Stc) (C:Cal) (sc:Scope) (d:Nat) (es:Exs) (exs:List Expr):Prop :=
 ∀ (A:Around) (E:Value→Shared→Prop) (env:Env) (ρ:Fr) (σ:St) (Q:List V→St→Prop) (s:Shared) (pos:Pos),AOk A d→env.scope=sc→gr env→FR G σ env ρ s.heap→Rel G σ s.heap →
  nz C es ρ σ Q→wpAny G.M A (spliced (backTo pos (starEach exs env))) (fR G [] σ s Q) E s
section
variable {G:Stc} {A:Around} {E:Value→Shared→Prop} {s:Shared} {σ:St} {α:Type}
theorem ju {t:Sem Value} {P:V→St→Prop} {R:Value→Shared→Prop} (h:wpAny G.M A t (ew G [] σ s P) E s)
  (k:∀ v σ₁ h₁ tk w,P v σ₁→VR G h₁ v w→Rel G σ₁ h₁→Evo [] σ s.heap σ₁ h₁→R w { s with heap:=h₁,toks:=tk }):wpAny G.M A t R E s :=
 ay h (fun _ _ zz2=>by obtain⟨v,σ',h',tk,e,q,vr,r,x⟩:=zz2;exact e▸k v σ' h' tk _ q vr r x) fun _ _ x=>x
theorem eE {t:Sem Bool} {P:Bool→St→Prop} {R:Bool→Shared→Prop} (h:wpAny G.M A t (gq G [] σ s P) E s)
  (k:∀ b σ₁ h₁ tk,P b σ₁→Rel G σ₁ h₁→Evo [] σ s.heap σ₁ h₁→R b { s with heap:=h₁,toks:=tk }):wpAny G.M A t R E s :=
 ay h (fun _ _ zz2=>by obtain⟨σ',h',tk,e,q,r,x⟩:=zz2;exact e▸k _ σ' h' tk q r x) fun _ _ x=>x
theorem eD {t:Sem (List Value)} {P:List V→St→Prop} {R:List Value→Shared→Prop} (h:wpAny G.M A t (fR G [] σ s P) E s)
  (k:∀ vs σ₁ h₁ tk ws,P vs σ₁→VRs G h₁ vs ws→Rel G σ₁ h₁→Evo [] σ s.heap σ₁ h₁→R ws { s with heap:=h₁,toks:=tk }):wpAny G.M A t R E s :=
 ay h (fun _ _ zz2=>by obtain⟨v,σ',h',tk,e,q,vr,r,x⟩:=zz2;exact e▸k v σ' h' tk _ q vr r x) fun _ _ x=>x
end
theorem dX {G:Stc} {σ:St} {h:Heap} {a:Addr} {xs:List V} {ws:List Value} (R:Rel G σ h) (e:σ.L a=some xs) (v:VRs G h xs ws):ws.length≤av:=v.length▸R.Ll a xs e
theorem oZ {n:Nat} (h:n≤av):(n:Int)<2^63:=Int.lt_of_le_of_lt (Int.ofNat_le.mpr h) (by decide)
theorem zL (n:Nat):((n:Int) != 0)=(n != 0):=by
 cases n<;>rfl
theorem fG {α β:Type} {ws:List α} {ns:List β} (q:ws.length=ns.length):ws.toArray.isEmpty=ns.isEmpty:=by
 cases ws<;>cases ns<;>first | rfl | cases q
theorem wj {G:Stc} {A:Around} {E:Value→Shared→Prop} {s:Shared} {σ:St} {v:V} {w:Value} {K:Bool→Prop} (R:Rel G σ s.heap) (vr:VR G s.heap v w) (h:mv v σ K) {Q:Bool→Shared→Prop}
  (k:∀ b tk,K b→Q b { s with toks:=tk }):wpAny G.M A (truthy w) Q E s:=by
 cases v
 case none=>obtain rfl:=vr;exact truthy_none (k _ s.toks h)
 case bool=>obtain rfl:=vr;exact nt (k _ s.toks h)
 case int=>obtain⟨t,rfl⟩:=vr;exact truthy_int (k _ s.toks h)
 case str =>
  obtain⟨t,rfl⟩:=vr
  exact PySem.P.truthy_str (Int.not_le.mpr (oZ h.1)) (k _ _ (by rw [zL];exact h.2))
 case lst =>
  obtain rfl:=vr
  obtain⟨xs,e,hk⟩:=h
  obtain⟨ws,n,hl',hv⟩:=R.L _ xs e
  exact wpAny_truthy_list hl'.isList (oZ (dX R e hv)) (k _ _ (by rw [fG hv.length.symm];exact hk))
 case ro =>
  obtain⟨a,ws,n,rfl,g,r⟩:=vr
  exact wpAny_truthy_list ⟨_,R.base _ _ g,rfl,_,rfl⟩ (oZ (nk (Nat.le_of_eq r.length) h.1)) (k _ _ (by rw [fG r.length];exact h.2))
 all_goals first | exact False.elim h | exact False.elim vr
noncomputable def binOp:Bop→Operator
 | .add=>.Add | .sub=>.Sub | .mul=>.Mult | .fdiv=>.FloorDiv | .mod=>.Mod | .pow=>.Pow
noncomputable def bN:Cop→CmpOp
 | .eq=>.Eq | .ne=>.NotEq | .lt=>.Lt | .le=>.LtE | .gt=>.Gt | .ge=>.GtE | .is=>.Is | .isNot=>.IsNot | .isIn=>.In | .notIn=>.NotIn
theorem log2_lt_of {b:Int} (h:b.natAbs<2^60):b.natAbs.log2<9000:=by
 by_cases h0:b.natAbs=0
 ·rw [h0];decide +kernel
 ·have:=(Nat.log2_lt h0).mpr h;(exact Ar.a1 [] [_] (.l .v0 (.n 9000)) [[1,1]] (.l .v0 (.n 60)) this)
section
variable {G:Stc} {A:Around} {E:Value→Shared→Prop} {s:Shared} {σ:St}
theorem cG {op:Bop} {a b:Int} {t u:Tok} {Q:V→St→Prop} (R:Rel G σ s.heap) (h:b6 op (.int a) (.int b) σ Q):wpAny G.M A (binaryOp (binOp op) (.int a t) (.int b u)) (ew G [] σ s Q) E s:=by
 cases op with
 | add=>exact add_int (ew.here h (.int _ _) R)
 | sub=>exact sub_int (ew.here h (.int _ _) R)
 | mul =>
  refine mul_int (ew.here h.2 (.int _ _) R) ?_
  rcases h.1 with q | q
  ·exact IntMulOk.of_left (intBits_le_64 (by(exact(Ar.nab _).elim (fun q1=>(Ar.a1 [_] [] (.il (.g (.n (2^64))) .v0) [[1,1]] (.ik .n0 .v0) q1.1)) fun q1=>(Ar.a2 [_] [_] (.il (.g (.n (2^64))) .v0) [[1,1,-1]] (.l .v0 (.n (2^60))) (.ie (.t .v0) (.g .v0)) q q1.2))) (by(exact(Ar.nab _).elim (fun q1=>(Ar.a2 [_] [_] (.il .v0 (.n (2^64))) [[1,1,-1]] (.l .v0 (.n (2^60))) (.ie (.t .v0) .v0) q q1.2)) fun q1=>(Ar.a1 [_] [] (.il .v0 (.n (2^64))) [[1,1]] (.ik .v0 .n0) q1.1))))
  ·exact IntMulOk.of_right (intBits_le_64 (by(exact(Ar.nab _).elim (fun q1=>(Ar.a1 [_] [] (.il (.g (.n (2^64))) .v0) [[1,1]] (.ik .n0 .v0) q1.1)) fun q1=>(Ar.a2 [_] [_] (.il (.g (.n (2^64))) .v0) [[1,1,-1]] (.l .v0 (.n (2^60))) (.ie (.t .v0) (.g .v0)) q q1.2))) (by(exact(Ar.nab _).elim (fun q1=>(Ar.a2 [_] [_] (.il .v0 (.n (2^64))) [[1,1,-1]] (.l .v0 (.n (2^60))) (.ie (.t .v0) .v0) q q1.2)) fun q1=>(Ar.a1 [_] [] (.il .v0 (.n (2^64))) [[1,1]] (.ik .v0 .n0) q1.1))))
 | fdiv=>exact floordiv_int h.1 (ew.here h.2.2 (.int _ _) R) (.inl (yu (log2_lt_of h.2.1)))
 | mod=>exact mod_int' h.1 (ew.here h.2 (.int _ _) R)
 | pow =>
  obtain⟨h0,h1,h2,h3⟩:=h
  exact pow_int_small h0 (by(exact Ar.a1 [_] [] (.ik .v0 (.n 1000000)) [[1,1]] (.ik .v0 (.n 1000)) h1)) h2 (ew.here h3 (.int _ _) R)
end
section
variable {G:Stc} {C:Cal} {sc:Scope} {d:Nat}
theorem qS {k:Nat} {pos:Pos}:cp G C sc d .none (.Constant .none k pos):=fun _ _ _ _ _ _ _ _ _ _ _ R h=>Constant_none (ew.sv h .none R)
theorem rG {b:Bool} {k:Nat} {pos:Pos}:cp G C sc d (.bool b) (.Constant (.bool b) k pos):=fun _ _ _ _ _ _ _ _ _ _ _ R h=>Constant_bool (ew.sv h (.bool b) R)
theorem uZ {i:Int} {k:Nat} {pos:Pos}:cp G C sc d (.int i) (.Constant (.int i) k pos):=fun _ _ _ _ _ _ _ _ _ _ _ R h=>wpAny_Constant_int (ew.here h (.int _ _) R)
theorem uQ {x:Str} {k:Nat} {pos:Pos}:cp G C sc d (.str x) (.Constant (.str x) k pos):=fun _ _ _ _ _ _ s _ _ _ _ R h=>by
 show wpAny _ _ (mkText x) _ _ s
 exact wpAny_mkText (ew.here h (.str _ _) R)
theorem oq {names:List (Str × NameKind)} (nd:(names.map (·.1)).Nodup):∀ {i:Nat} {x:Str} {k:NameKind},names[i]?=some (x,k)→names.lookup x=some k:=by
 induction names with
 | nil=>intro i x k e;simp at e
 | cons p r ih =>
  intro i x k e
  obtain⟨y,k'⟩:=p
  simp only [gm,pg] at nd
  cases i with
  | zero=>simp only [List.getElem?_cons_zero,cz,jo] at e;obtain⟨rfl,rfl⟩:=e;simp
  | succ i =>
   simp only [List.getElem?_cons_succ] at e
   have hne:x≠y:=fun q=>nd.1 (by
    subst q
    exact dh.mpr ⟨(x,k),cu e,rfl⟩)
   rw [aB,oo.mpr hne]
   exact ih nd.2 e
noncomputable def isVar (k:NameKind):Bool:=k==.local||k==.cell||k==.free
noncomputable def fe (x:Str):Bool:=!(x==("__debug__":Str))&&!(x==("__classdict__":Str))
theorem zb {A:Around} {E:Value→Shared→Prop} {env:Env} {ρ:Fr} {σ:St} {s:Shared} {i:Nat} {x:Str} {k:NameKind} {v:V} {Q:Value→Shared→Prop} (eo:gr env) (F:FR G σ env ρ s.heap)
  (hi:env.scope.names[i]?=some (x,k)) (hk:isVar k=true) (hx:fe x=true) (hv:ρ i=some v) (h:∀ w,VR G s.heap v w→Q w s):wpAny G.M A (loadName env x) Q E s:=by
 have hkind:env.kindOf x=some k:=oq eo.nd hi
 simp only [fe,bz,dw] at hx
 have get:∀ {w:Option Value},OV G s.heap (ρ i) w→∃ w',w=some w'∧VR G s.heap v w':=fun {w} o=>by
  rw [hv] at o
  cases w with
  | none=>exact o.elim
  | some w'=>exact⟨w',rfl,o⟩
 cases k with
 | «local» =>
  obtain⟨m,hn,hm⟩:=F.ns
  obtain⟨w',e,vr⟩:=get (hm i x hi)
  exact wpAny_loadName_local eo.kind hkind hn e (h w' vr)
 | cell =>
  obtain⟨c,w,hc,hcell,o,_,_,_⟩:=F.cells i x _ hi (.inl rfl)
  obtain⟨w',rfl,vr⟩:=get o
  exact wpAny_loadName_cell eo.kind hkind hc hcell (h w' vr)
 | free =>
  obtain⟨c,w,hc,hcell,o,_,_,_⟩:=F.cells i x _ hi (.inr rfl)
  obtain⟨w',rfl,vr⟩:=get o
  exact wpAny_loadName_free eo.kind hkind hc hcell (h w' vr) hx.2
 | _=>cases hk
theorem bZ {i:Nat} {x:Str} {k:NameKind} {pos:Pos} (hi:sc.names[i]?=some (x,k)) (hk:isVar k=true) (hx:fe x=true):cp G C sc d (.loc i) (.Name x pos):=fun A E env ρ σ Q s ao es eo F R h=>by
 obtain⟨v,hv,q⟩:=h
 have hx':(x==("__debug__":Str))=false:=by simp only [fe,bz,dw] at hx;exact hx.1
 exact wpAny_Name (zb eo F (by rw [es];exact hi) hk hx hv fun w vr=>ew.sv q vr R) hx'
theorem uV {a:Ex} {x:Expr} {pos:Pos} (ha:cp G C sc d a x):cp G C sc d (.neg a) (.UnaryOp .USub x pos):=fun A E env ρ σ Q s ao es eo F R h =>
 UnaryOp_ (ju (ha A E env ρ σ _ s ao es eo F R h) fun v σ₁ h₁ tk w q vr r x=>by
  obtain⟨i,rfl,q⟩:=q
  obtain⟨t,rfl⟩:=vr
  exact PyProof.Rows.neg_int (ew.back (tk:=tk) x (ew.here q (.int _ _) r)))
theorem uU {a:Ex} {x:Expr} {pos:Pos} (ha:cp G C sc d a x):cp G C sc d (.not a) (.UnaryOp .Not x pos):=fun A E env ρ σ Q s ao es eo F R h =>
 UnaryOp_ (ju (ha A E env ρ σ _ s ao es eo F R h) fun v σ₁ h₁ tk w q vr r x=>not_of (wj (s:={ s with heap:=h₁,toks:=tk }) r vr q fun b tk' q=>ew.back (tk:=tk) x (ew.here q (.bool _) r)))
theorem snd_and {a b:Ex} {e₁ e₂:Expr} {rest:List Expr} {pos:Pos} (ha:cp G C sc d a e₁) (hb:cp G C sc d b (.BoolOp .And (e₂::rest) pos)):cp G C sc d (.and a b) (.BoolOp .And (e₁::e₂::rest) pos):=fun A E env ρ σ Q s ao es eo F R h =>
 BoolOp_and (ju (ha A E env ρ σ _ s ao es eo F R h) fun v σ₁ h₁ tk w q vr r x=>wj (s:={ s with heap:=h₁,toks:=tk }) r vr q fun t tk' q=>by
  cases t with
  | true=>exact ay (hb A E env ρ σ₁ Q { s with heap:=h₁,toks:=tk' } ao es eo (F.evo x) r q) (fun _ _ l=>ew.back x l) fun _ _ x=>x
  | false=>exact ew.back (tk:=tk) x (ew.here q vr r))
theorem yU {a b:Ex} {e₁ e₂:Expr} {rest:List Expr} {pos:Pos} (ha:cp G C sc d a e₁) (hb:cp G C sc d b (.BoolOp .Or (e₂::rest) pos)):cp G C sc d (.or a b) (.BoolOp .Or (e₁::e₂::rest) pos):=fun A E env ρ σ Q s ao es eo F R h =>
 BoolOp_or (ju (ha A E env ρ σ _ s ao es eo F R h) fun v σ₁ h₁ tk w q vr r x=>wj (s:={ s with heap:=h₁,toks:=tk }) r vr q fun t tk' q=>by
  cases t with
  | false=>exact ay (hb A E env ρ σ₁ Q { s with heap:=h₁,toks:=tk' } ao es eo (F.evo x) r q) (fun _ _ l=>ew.back x l) fun _ _ x=>x
  | true=>exact ew.back (tk:=tk) x (ew.here q vr r))
theorem uY {c a b:Ex} {x y z:Expr} {pos:Pos} (hc:mr G C sc d c x) (ha:cp G C sc d a y) (hb:cp G C sc d b z):cp G C sc d (.ite c a b) (.IfExp x y z pos):=fun A E env ρ σ Q s ao es eo F R h =>
 IfExp_ (eE (hc A E env ρ σ _ s ao es eo F R h) fun t σ₁ h₁ tk q r x=>by
  cases t with
  | true=>exact ay (ha A E env ρ σ₁ Q _ ao es eo (F.evo x) r q) (fun _ _ l=>ew.back x l) fun _ _ x=>x
  | false=>exact ay (hb A E env ρ σ₁ Q _ ao es eo (F.evo x) r q) (fun _ _ l=>ew.back x l) fun _ _ x=>x)
theorem rJ {a:Ex} {x:Expr} {pos:Pos} (ha:mr G C sc d a x):mr G C sc d (.not a) (.UnaryOp .Not x pos):=fun A E env ρ σ Q s ao es eo F R h =>
 isTrue_not (ay (ha A E env ρ σ _ s ao es eo F R h) (fun _ _ zz2=>by obtain⟨a,b,c,e,q,r,x⟩:=zz2;exact⟨a,b,c,e,q,r,x⟩) fun _ _ x=>x)
theorem rM {a b:Ex} {e₁:Expr} {rest:List Expr} {pos:Pos} (ha:mr G C sc d a e₁) (hb:mr G C sc d b (.BoolOp .And rest pos)):mr G C sc d (.and a b) (.BoolOp .And (e₁::rest) pos):=fun A E env ρ σ Q s ao es eo F R h =>
 isTrue_and (eE (ha A E env ρ σ _ s ao es eo F R h) fun t σ₁ h₁ tk q r x=>by
  cases t with
  | true=>exact ay (hb A E env ρ σ₁ Q _ ao es eo (F.evo x) r q) (fun _ _ l=>gq.back x l) fun _ _ x=>x
  | false=>exact gq.back (tk:=tk) x (gq.here q r))
theorem vI {a b:Ex} {e₁:Expr} {rest:List Expr} {pos:Pos} (ha:mr G C sc d a e₁) (hb:mr G C sc d b (.BoolOp .Or rest pos)):mr G C sc d (.or a b) (.BoolOp .Or (e₁::rest) pos):=fun A E env ρ σ Q s ao es eo F R h =>
 isTrue_or (eE (ha A E env ρ σ _ s ao es eo F R h) fun t σ₁ h₁ tk q r x=>by
  cases t with
  | false=>exact ay (hb A E env ρ σ₁ Q _ ao es eo (F.evo x) r q) (fun _ _ l=>gq.back x l) fun _ _ x=>x
  | true=>exact gq.back (tk:=tk) x (gq.here q r))
theorem rK {c a b:Ex} {x y z:Expr} {pos:Pos} (hc:mr G C sc d c x) (ha:mr G C sc d a y) (hb:mr G C sc d b z):mr G C sc d (.ite c a b) (.IfExp x y z pos):=fun A E env ρ σ Q s ao es eo F R h =>
 isTrue_IfExp (eE (hc A E env ρ σ _ s ao es eo F R h) fun t σ₁ h₁ tk q r x=>by
  cases t with
  | true=>exact ay (ha A E env ρ σ₁ Q _ ao es eo (F.evo x) r q) (fun _ _ l=>gq.back x l) fun _ _ x=>x
  | false=>exact ay (hb A E env ρ σ₁ Q _ ao es eo (F.evo x) r q) (fun _ _ l=>gq.back x l) fun _ _ x=>x)
theorem qq {e:Ex} {x:Expr} (he:cp G C sc d e x) (ht:∀ env whole,isTrue x env whole=(do let v←whole;standAt x.pos;holding [v] (truthy v)))
  (hw:∀ ρ σ Q,wpT C e ρ σ Q→wpE C e ρ σ fun v σ=>mv v σ fun b=>Q b σ):mr G C sc d e x:=fun A E env ρ σ Q s ao es eo F R h =>
 isTrue_plain (ju (he A E env ρ σ _ s ao es eo F R (hw ρ σ Q h)) fun v σ₁ h₁ tk w q vr r y=>wj (s:={ s with heap:=h₁,toks:=tk }) r vr q fun b tk' q=>gq.back (tk:=tk) y (gq.sv q r)) (ht env _)
theorem ip:iy G C sc d .nil []:=fun A E env ρ σ Q s pos ao es eo F R h=>tg ⟨[],σ,s.heap,s.toks,rfl,h,.nil,R,Evo.refl _ _ _⟩
theorem du {e:Ex} {r:Exs} {x:Expr} {xs:List Expr} (he:cp G C sc d e x) (hr:iy G C sc d r xs) (hx:∀ env,starEach (x::xs) env=(false,eval x env)::starEach xs env):iy G C sc d (.cons e r) (x::xs):=fun A E env ρ σ Q s pos ao es eo F R h =>
 spliced_more (ju (he A E env ρ σ _ s ao es eo F R h) fun v σ₁ h₁ tk w q vr rr x =>
  eD (hr A E env ρ σ₁ _ { s with heap:=h₁,toks:=tk } pos ao es eo (F.evo x) rr q) fun vs σ₂ h₂ tk₂ ws q₂ vrs r₂ x₂ =>
   ⟨v::vs,σ₂,h₂,tk₂,rfl,q₂,.cons (vr.mono x₂.frz) vrs,r₂,x.trans x₂⟩) (hx env)
theorem mP {es:Exs} {xs:List Expr} {k:Nat} {pos:Pos} (h₀:iy G C sc d es xs):cp G C sc d (.tup es) (.Tuple xs k pos):=fun A E env ρ σ Q s ao ess eo F R h =>
 Tuple_ (eD (h₀ A E env ρ σ _ s pos ao ess eo F R h) fun vs σ₁ h₁ tk ws q vrs r x=>by
  have hz:=q.1
  rw [vrs.length] at hz
  unfold av at hz
  refine gy (?_:ew G [] σ s Q (.ref h₁.objs.size) _) (by show ws.toArray.size≤sizeLine;rw [bg,show sizeLine=16777216 from rfl];(exact Ar.a1 [] [_] (.k .v0 (.n 16777216)) [[1,1]] (.k .v0 (.n 1000000)) hz))
  exact⟨.tup vs,σ₁,_,tk,rfl,q.2,.tup (IsT.new _ _) (vrs.mono fun _ _ e _=>au _ e),r.push _,x.trans (Evo.push _ _ _ _)⟩)
theorem uW {es:Exs} {xs:List Expr} {pos:Pos} (h₀:iy G C sc d es xs):cp G C sc d (.lst es) (.List xs pos):=fun A E env ρ σ Q s ao ess eo F R h =>
 List_ (eD (h₀ A E env ρ σ _ s pos ao ess eo F R h) fun vs σ₁ h₁ tk ws q vrs r x=>by
  have hz:=q.1
  have hz':=hz
  rw [vrs.length] at hz
  unfold av at hz
  have hn:σ₁.L h₁.objs.size=none:=by
   cases hq:σ₁.L h₁.objs.size with
   | none=>rfl
   | some ys=>obtain⟨o,ho,_⟩:=r.hZ hq;rw [none_at_size] at ho;cases ho
  refine gy (?_:ew G [] σ s Q (.ref h₁.objs.size) _) (by show ws.toArray.size≤sizeLine;rw [bg,show sizeLine=16777216 from rfl];(exact Ar.a1 [] [_] (.k .v0 (.n 16777216)) [[1,1]] (.k .v0 (.n 1000000)) hz))
  have at':At h₁.objs.size h₁ (h₁.push { cls:=.type "list",data:=.seq ws.toArray }):=At.push h₁
  exact⟨.lst _,_,_,tk,rfl,q.2 _ hn,.lst _,r.putL at' (fun _=>none_at_size _) (IsL.new _ _) vrs hz',x.trans (Evo.putL at' (fun _=>none_at_size _) _)⟩)
end
end MP
end
section
set_option tactic.hygienic true
namespace MP
open PySem PyProof.Rows
noncomputable def AF (h:Heap) (w:Value) (d:PyData) (n:Nat):Prop:=∃ as,Reads h w d as∧d.canLay0=true∧d.depth≤n
noncomputable def C6 (h:Heap) (ws:List Value) (ds:List PyData) (n:Nat):Prop:=∃ as,ReadsAll h ws ds as∧PyData.canLayAll0 ds=true∧PyData.depthAll ds≤n
theorem aH {G:Stc} {σ:St} {h:Heap} (n:Nat) (ih:∀ {v:V} {w:Value} {d:PyData},vj σ n v=some d→VR G h v w→AF h w d n) :
  {xs:List V}→{ws:List Value}→{ds:List PyData}→xs.mapM (vj σ n)=some ds→VRs G h xs ws→C6 h ws ds n
 | [],_,_,e,vr=>by
  obtain rfl:=vr
  obtain rfl:=af (e:some []=some _)
  exact⟨[],.nil,rfl,ba _⟩
 | x::xs,_,_,e,⟨w,us,q,a,r⟩=>by
  subst q
  rw [List.mapM_cons] at e
  obtain⟨d,e1,e4⟩:=cq.mp e
  obtain⟨ds',e2,e3⟩:=cq.mp e4
  obtain rfl:=af e3
  obtain⟨as,r1,c1,d1⟩:=ih e1 a
  obtain⟨bs,r2,c2,d2⟩:=aH n ih e2 r
  exact⟨as++bs,.cons r1 r2,by simp [PyData.canLayAll0,c1,c2],Nat.max_le.mpr ⟨d1,d2⟩⟩
theorem rY {h:Heap} {x:Str} {t:Tok} {d:PyData} {n:Nat} (e:(if PyData.strOk x then some (PyData.str x) else Option.none)=some d):AF h (.str x t) d n:=by
 cases c:PyData.strOk x with
 | true=>rw [c] at e;obtain rfl:=af e;exact⟨[],.str _ _,by simpa [PyData.canLay0] using c,ba _⟩
 | false=>rw [c] at e;exact et e
theorem ze {G:Stc} {σ:St} {h:Heap} (R:Rel G σ h):(n:Nat)→{v:V}→{w:Value}→{d:PyData}→vj σ n v=some d→VR G h v w→AF h w d n:=by
 intro n
 induction n with
 | zero =>
  intro v w d e vr
  cases v
  case none=>obtain rfl:=vr;obtain rfl:=af e;exact⟨[],.none,rfl,ba _⟩
  case bool=>obtain rfl:=vr;obtain rfl:=af e;exact⟨[],.bool _,rfl,ba _⟩
  case int=>obtain⟨t,rfl⟩:=vr;obtain rfl:=af e;exact⟨[],.int _ _,rfl,ba _⟩
  case str=>obtain⟨t,rfl⟩:=vr;exact rY e
  all_goals exact et e
 | succ n ih =>
  intro v w d e vr
  cases v
  case none=>obtain rfl:=vr;obtain rfl:=af e;exact⟨[],.none,rfl,ba _⟩
  case bool=>obtain rfl:=vr;obtain rfl:=af e;exact⟨[],.bool _,rfl,ba _⟩
  case int=>obtain⟨t,rfl⟩:=vr;obtain rfl:=af e;exact⟨[],.int _ _,rfl,ba _⟩
  case str=>obtain⟨t,rfl⟩:=vr;exact rY e
  case lst =>
   obtain rfl:=vr
   obtain⟨xs,hx,e⟩:=cq.mp e
   obtain⟨ds,hd,rfl⟩:=fb.mp e
   obtain⟨ws,m,hl,hv⟩:=R.L _ xs hx
   obtain⟨as,r,c,dd⟩:=aH n ih hd hv
   exact⟨_,.list hl rfl rfl (by simpa using r),by simpa [PyData.canLay0] using c,Nat.succ_le_succ dd⟩
  case tup =>
   obtain⟨a,ws,m,rfl,g,r⟩:=vr
   obtain⟨ds,hd,rfl⟩:=fb.mp e
   obtain⟨as,r,c,dd⟩:=aH n ih hd r
   exact⟨_,.tuple g rfl rfl (by simpa using r),by simpa [PyData.canLay0] using c,Nat.succ_le_succ dd⟩
  all_goals exact et e
section
variable {G:Stc} {A:Around} {E:Value→Shared→Prop} {s:Shared} {σ:St} {d:Nat}
theorem wk {d:PyData} (c:d.canLay0=true) (h:d.depth≤6):SeqAt.shaped d=true:=by
 unfold SeqAt.shaped;rw [c,Bool.true_and];exact dv (nk h (by decide))
theorem AOk.u64 (ao:AOk A d):A.units+64<cLine:=by have:=ao.units;(exact Ar.a1 [] [_,_,_] (.l (.a .v0 (.n 64)) .v1) [[1,1]] (.l (.a (.a .v0 (.m 30 .v2)) (.n 300)) .v1) this)
theorem yX {a b:V} {x y:Value} {K:Bool→Prop} (ao:AOk A d) (R:Rel G σ s.heap) (va:VR G s.heap a x) (vb:VR G s.heap b y) (h:fV a b σ K) {Q:Value→Shared→Prop} (k:∀ r,K r→Q (.bool r) s):wpAny G.M A (compareOp .Eq x y) Q E s:=by
 rcases cA h with ⟨i,j,rfl,rfl,h⟩ | ⟨i,j,rfl,rfl,h⟩ | ⟨d,e,hd,he,hk⟩
 ·obtain⟨t,rfl⟩:=va;obtain⟨u,rfl⟩:=vb;exact PyProof.Rows.eq_int (k _ h)
 ·obtain⟨t,rfl⟩:=va;obtain⟨u,rfl⟩:=vb;exact eq_str (k _ h)
 ·obtain⟨as,ra,ca,da⟩:=ze R 6 hd va
  obtain⟨bs,rb,cb,db⟩:=ze R 6 he vb
  exact eq_dataH ra rb (wk ca da) (wk cb db) ao.u64 (k _ hk)
theorem yV {a b:V} {x y:Value} {K:Bool→Prop} (ao:AOk A d) (R:Rel G σ s.heap) (va:VR G s.heap a x) (vb:VR G s.heap b y) (h:fV a b σ fun r=>K (!r)) {Q:Value→Shared→Prop} (k:∀ r,K r→Q (.bool r) s):wpAny G.M A (compareOp .NotEq x y) Q E s:=by
 rcases cA h with ⟨i,j,rfl,rfl,h⟩ | ⟨i,j,rfl,rfl,h⟩ | ⟨d,e,hd,he,hk⟩
 ·obtain⟨t,rfl⟩:=va;obtain⟨u,rfl⟩:=vb;exact ne_int (k _ h)
 ·obtain⟨t,rfl⟩:=va;obtain⟨u,rfl⟩:=vb;exact ne_str (k _ h)
 ·obtain⟨as,ra,ca,da⟩:=ze R 6 hd va
  obtain⟨bs,rb,cb,db⟩:=ze R 6 he vb
  exact ne_dataH ra rb (wk ca da) (wk cb db) ao.u64 (k _ hk)
theorem d5 {v:Value} {R:Bool→Shared→Prop} (h:R (v==.none) s):wpAny G.M A (isSame v .none) R E s:=by
 cases v<;>exact cx (by rfl) (by exact h)
theorem u9 {h:Heap} {a:V} {x:Value} (va:VR G h a x):(x==.none)=isNone a:=by
 cases a
 case int=>obtain⟨t,rfl⟩:=va;rfl
 case str=>obtain⟨t,rfl⟩:=va;rfl
 case tup=>obtain⟨_,_,_,rfl,_⟩:=va;rfl
 case mt=>obtain⟨_,_,_,_,rfl,_⟩:=va;rfl
 case yo=>obtain⟨_,_,rfl,_⟩:=va;rfl
 case zd=>obtain⟨_,_,rfl,_⟩:=va;rfl
 case ro=>obtain⟨_,_,_,rfl,_⟩:=va;rfl
 case clo=>exact va.elim
 all_goals obtain rfl:=va;rfl
theorem cF {a b:V} {x y:Value} {K:Bool→Prop} (R:Rel G σ s.heap) (va:VR G s.heap a x) (vb:VR G s.heap b y) (h:u4 a b σ K) {Q:Bool→Shared→Prop} (k:∀ r,K r→Q r s):wpAny G.M A (isSame x y) Q E s:=by
 cases b with
 | none =>
  obtain rfl:=vb
  exact d5 (k _ (by rw [u9 va];exact h))
 | lst q =>
  obtain rfl:=vb
  have h:xX q a σ K:=h
  cases a with
  | none=>obtain rfl:=va;exact wpAny_isSame_plain rfl (k _ h)
  | lst p =>
   obtain rfl:=va
   obtain⟨h1,h2,h3⟩:=h
   obtain⟨xs,e1⟩:=bw.mp h1
   obtain⟨ys,e2⟩:=bw.mp h2
   by_cases hpq:p=q
   ·subst hpq
    exact wpAny_isSame_ref_self (k _ (beq_self_eq_true p▸h3))
   ·obtain⟨o1,g1,c1⟩:=R.hZ e1
    obtain⟨o2,g2,c2⟩:=R.hZ e2
    exact wpAny_isSame_ref_other hpq g1 g2 (by rw [c1];decide) (k _ (oo.mpr hpq▸h3))
  | _=>exact False.elim h
 | _=>exact False.elim h
theorem rp {G:Stc} {h:Heap}:{ns:List Int}→{ws:List Value}→VRs G h (ns.map V.int) ws→IntsAre ws ns
 | [],_,e=>by obtain rfl:=e;exact .nil
 | _::_,_,⟨_,_,e,⟨t,e'⟩,r⟩=>by subst e;subst e';exact .cons _ _ (rp r)
theorem uh (ns:List Int) (i:Int):(ns.any fun x=>x==i)=ns.contains i:=by
 rw [Bool.eq_iff_iff];simp
theorem yW {a b:V} {x y:Value} {K:Bool→Prop} (R:Rel G σ s.heap) (va:VR G s.heap a x) (vb:VR G s.heap b y) (h:u5 a b σ K) {Q:Value→Shared→Prop} (k:∀ r,K r→Q (.bool r) s):wpAny G.M A (compareOp .In x y) Q E s:=by
 obtain⟨i,rfl,h⟩:=my (v:=a) h
 obtain⟨l,rfl,ns,e,hk⟩:=qe (v:=b) h
 obtain⟨t,rfl⟩:=va
 obtain rfl:=vb
 obtain⟨ws,n,hl,hv⟩:=R.L _ _ e
 exact in_list_ints hl.isList (rp hv) (k _ (by rw [uh];exact hk))
theorem oC {a b:V} {x y:Value} {K:Bool→Prop} (R:Rel G σ s.heap) (va:VR G s.heap a x) (vb:VR G s.heap b y) (h:u5 a b σ fun r=>K (!r)) {Q:Value→Shared→Prop} (k:∀ r,K r→Q (.bool r) s):wpAny G.M A (compareOp .NotIn x y) Q E s:=by
 obtain⟨i,rfl,h⟩:=my (v:=a) h
 obtain⟨l,rfl,ns,e,hk⟩:=qe (v:=b) h
 obtain⟨t,rfl⟩:=va
 obtain rfl:=vb
 obtain⟨ws,n,hl,hv⟩:=R.L _ _ e
 exact notin_list_ints hl.isList (rp hv) (k _ (by rw [uh];exact hk))
theorem bA {op:Cop} {a b:V} {x y:Value} {K:Bool→Prop} (ao:AOk A d) (R:Rel G σ s.heap) (va:VR G s.heap a x) (vb:VR G s.heap b y) (h:b5 op a b σ K) {Q:Value→Shared→Prop} (k:∀ r,K r→Q (.bool r) s):wpAny G.M A (compareOp (bN op) x y) Q E s:=by
 have ord:xW op a b K→wpAny G.M A (compareOp (bN op) x y) Q E s:=fun h=>by
  obtain⟨i,rfl,h⟩:=my (v:=a) h
  obtain⟨j,rfl,h⟩:=my (v:=b) h
  obtain⟨t,rfl⟩:=va
  obtain⟨u,rfl⟩:=vb
  cases op
  case lt=>exact lt_int (k _ h)
  case le=>exact le_int (k _ h)
  case gt=>exact gt_int (k _ h)
  case ge=>exact ge_int (k _ h)
  all_goals exact False.elim h
 cases op with
 | eq=>exact yX ao R va vb h k
 | ne=>exact yV ao R va vb h k
 | is =>
  show wpAny G.M A (do return .bool (← isSame x y)) Q E s
  exact ab (cF R va vb h fun r q=>ae (k _ q))
 | isNot =>
  show wpAny G.M A (do return .bool (!(← isSame x y))) Q E s
  exact ab (cF (K:=fun r=>K (!r)) R va vb h fun r q=>ae (k _ q))
 | isIn=>exact yW R va vb h k
 | notIn=>exact oC R va vb h k
 | lt=>exact ord h
 | le=>exact ord h
 | gt=>exact ord h
 | ge=>exact ord h
end
section
variable {G:Stc} {C:Cal} {sc:Scope} {d:Nat}
theorem vA {op:Cop} {a b:Ex} {x y:Expr} {pos:Pos} (ha:cp G C sc d a x) (hb:cp G C sc d b y) (hm:behindInMarks (bN op) y=false):cp G C sc d (.cmp op a b) (.Compare x [bN op] [y] pos):=fun A E env ρ σ Q s ao es eo F R h =>
 wpAny_Compare1 (ju (ha A E env ρ σ _ s ao es eo F R h) fun v σ₁ h₁ tk w q vr r x =>
  ju (hb A E env ρ σ₁ _ { s with heap:=h₁,toks:=tk } ao es eo (F.evo x) r q) fun v₂ σ₂ h₂ tk₂ w₂ q₂ vr₂ r₂ x₂ =>
   bA (s:={ s with heap:=h₂,toks:=tk₂ }) ao r₂ (vr.mono x₂.frz) vr₂ q₂ fun b q=>ew.back (x.trans x₂) (ew.sv (s:={ s with heap:=h₂,toks:=tk₂ }) q (.bool _) r₂)) hm
theorem uf {G:Stc} {A:Around} {E:Value→Shared→Prop} {s:Shared} {env:Env} {l op r pos whole} {Q:Bool→Shared→Prop}
  (h:wpAny G.M A (eval l env) (fun a s₁=>wpAny G.M A (eval r env) (fun b s₂=>wpAny G.M A (compareOp op a b) (fun c s₃=>wpAny G.M A (truthy c) Q E s₃) E s₂) E s₁) E s)
  (hm:behindInMarks op r=false):wpAny G.M A (isTrue (.Compare l [op] [r] pos) env whole) Q E s:=by
 rw [isTrue_Compare1,markedBehindIn_of_false hm]
 refine ab (ay h (fun a s₁ h₁=>ab (bh (ay h₁ (fun b s₂ h₂=>ab (dt (ab (wpAny_operating (ay h₂ (fun c s₃ h₃=>bh h₃) fun _ _ x=>x)))) ) fun _ _ x=>x))) fun _ _ x=>x)
theorem rL {op:Cop} {a b:Ex} {x y:Expr} {pos:Pos} (ha:cp G C sc d a x) (hb:cp G C sc d b y) (hm:behindInMarks (bN op) y=false):mr G C sc d (.cmp op a b) (.Compare x [bN op] [y] pos):=fun A E env ρ σ Q s ao es eo F R h =>
 uf (ju (ha A E env ρ σ _ s ao es eo F R h) fun v σ₁ h₁ tk w q vr r x =>
  ju (hb A E env ρ σ₁ _ { s with heap:=h₁,toks:=tk } ao es eo (F.evo x) r q) fun v₂ σ₂ h₂ tk₂ w₂ q₂ vr₂ r₂ x₂ =>
   bA (s:={ s with heap:=h₂,toks:=tk₂ }) ao r₂ (vr.mono x₂.frz) vr₂ q₂ fun b q=>nt (gq.back (x.trans x₂) (gq.here (s:={ s with heap:=h₂,toks:=tk₂ }) q r₂))) hm
end
end MP
end
section
namespace MP
open PySem PyProof.Rows
theorem jt {n:Nat} (h:n≤av):n≤sizeLine:=by rw [show sizeLine=16777216 from rfl];unfold av at h;(exact Ar.a1 [] [_] (.k .v0 (.n 16777216)) [[1,1]] (.k .v0 (.n 1000000)) h)
section
variable {G:Stc} {σ:St} {h:Heap}
theorem Rel.zW (R:Rel G σ h):σ.L h.objs.size=none:=by
 cases hq:σ.L h.objs.size with
 | none=>rfl
 | some ys=>obtain⟨o,ho,_⟩:=R.hZ hq;rw [none_at_size] at ho;cases ho
theorem Rel.freshD (R:Rel G σ h):σ.D h.objs.size=none:=by
 cases hq:σ.D h.objs.size with
 | none=>rfl
 | some ys=>obtain⟨o,ho,_⟩:=R.xF hq;rw [none_at_size] at ho;cases ho
theorem Rel.zV (R:Rel G σ h):σ.S h.objs.size=none:=by
 cases hq:σ.S h.objs.size with
 | none=>rfl
 | some ys=>obtain⟨o,ho,_⟩:=R.xE hq;rw [none_at_size] at ho;cases ho
theorem cZ {X:List Addr} {σ₁:St} {s:Shared} {h₁:Heap} {tk:Nat} {Q:V→St→Prop} {vs:List V} {ws:List Value} (r:Rel G σ₁ h₁) (x:Evo X σ s.heap σ₁ h₁) (vrs:VRs G h₁ vs ws) (hz:vs.length≤av)
  (q:∀ c,σ₁.L c=none→Q (.lst c) (σ₁.cw c vs)):ew G X σ s Q (.ref h₁.objs.size) { s with heap:=h₁.push { cls:=.type "list",data:=.seq ws.toArray },toks:=tk }:=by
 have at':At h₁.objs.size h₁ (h₁.push { cls:=.type "list",data:=.seq ws.toArray }):=At.push h₁
 exact⟨.lst _,_,_,tk,rfl,q _ r.zW,.lst _,r.putL at' (fun _=>none_at_size _) (IsL.new _ _) vrs hz,x.trans (Evo.putL at' (fun _=>none_at_size _) _)⟩
theorem VRs.rep {vs:List V} {ws:List Value} (x:VRs G h vs ws):∀ k:Nat,VRs G h (List.replicate k vs).flatten (List.replicate k ws).flatten
 | 0=>by simpa using VRs.nil
 | k+1=>by simpa [List.replicate_succ] using x.append (x.rep k)
theorem VRs.ints {ws:List Value} {ns:List Int} (i:IntsAre ws ns):VRs G h (ns.map V.int) ws:=by
 induction i with
 | nil=>exact .nil
 | cons n t r ih=>exact .cons (.int n t) ih
end
section
variable {G:Stc} {A:Around} {E:Value→Shared→Prop} {s:Shared} {σ:St}
theorem gS {l:Addr} {items:Array Value} {k:Nat} {x:Int} {u:Tok} {Q:Value→Shared→Prop} (hl:IsL s.heap l items k) (hlo:-(2^63:Int)≤x) (hhi:x<2^63) (hsz:items.size*x.toNat≤2^24)
  (h:Q (.ref s.heap.objs.size) { s with heap:=s.heap.push { cls:=.type "list",data:=.seq (List.foldl (fun x1 x2=>x1++x2) #[] (List.replicate (if items.isEmpty=true then 0 else x.toNat) items)) } }) :
  wpAny G.M A (binaryOp .Mult (.ref l) (.int x u)) Q E s :=
 wpAny_binaryOp_repeat_ref (T:="list") (U:="int") (by decide) ⟨_,hl,rfl⟩ (fun s'=>typeIs_int s' x u) noFill_list_mul F.fills_int_mul F.slot_int_rmul repeat_list F.slot_int_index.lookup
  (a9 F.slot_int_rmul (typeIs_int s x u) F.entry_int_rmul (F.args_int_rmul_2 _ _) (int___rmul___int_list x u l items k)
   ⟨hl,rfl,⟨_,hl,rfl⟩,a9 F.slot_list_mul ⟨_,hl,rfl⟩ F.entry_list_mul (F.args_list_mul_2 _ _)
    (AutoListH.list___mul___list_int_3 l items k x u (by simp [Builtin.List.listFitsIndex];(exact⟨(Ar.a1 [_] [] (.ik (.ng 9223372036854775808) .v0) [[1,1]] (.ik (.g (.n (2^63))) .v0) hlo),(Ar.a1 [_] [] (.il .v0 (.n 9223372036854775808)) [[1,1]] (.il .v0 (.n (2^63))) hhi)⟩)) (by(exact Ar.a4 [] [_,_,_,_] (.g .v0 .v1) [[8,8,1,-1,-1]] (.k .v1 (.n (2^24))) (.l .v2 (.n 8)) (.e (.a (.m 8 .v0) .v2) .v3) (.e (.a .v3 .n1) (.n (2^63))) hsz (Ar.aL _ 8 (by decide)).1 (Ar.aL _ 8 (by decide)).2 (aa (Ar.a0 [] [] (.k .n1 (.n (2^63))) [[1]])))) (by simp [Builtin.List.listTooLong,sizeLine];(exact Ar.a1 [] [_] (.k .v0 (.n 16777216)) [[1,1]] (.k .v0 (.n (2^24))) hsz)))
    ⟨hl,h⟩⟩)
set_option maxHeartbeats 2000000 in
theorem rH {op:Bop} {a b:V} {x y:Value} {Q:V→St→Prop} (R:Rel G σ s.heap) (va:VR G s.heap a x) (vb:VR G s.heap b y) (h:b6 op a b σ Q):wpAny G.M A (binaryOp (binOp op) x y) (ew G [] σ s Q) E s:=by
 have ints':∀ i j t u,x=.int i t→y=.int j u→b6 op (.int i) (.int j) σ Q→wpAny G.M A (binaryOp (binOp op) x y) (ew G [] σ s Q) E s:=fun i j t u e1 e2 q=>by
  subst e1;subst e2;exact cG R q
 have mulAt:∀ (l:Addr) (xs:List V) (ws:List Value) (i:Int) (t:Tok) (n:Nat),IsL s.heap l ws.toArray n→VRs G s.heap xs ws→xs.length*i.toNat≤av→i.natAbs<2^60→(∀ c,σ.L c=none→Q (.lst c) (σ.cw c (List.replicate i.toNat xs).flatten)) →
   x=.ref l→y=.int i t→wpAny G.M A (binaryOp .Mult x y) (ew G [] σ s Q) E s:=fun l xs ws i t n hl hv hz hb q e1 e2=>by
  subst e1;subst e2
  have h1:=hv.length
  refine gS hl (by(exact(Ar.nab _).elim (fun q1=>(Ar.a1 [_] [] (.ik (.g (.n (2^63))) .v0) [[1,1]] (.ik .n0 .v0) q1.1)) fun q1=>(Ar.a2 [_] [_] (.ik (.g (.n (2^63))) .v0) [[1,1,-1]] (.l .v0 (.n (2^60))) (.ie (.t .v0) (.g .v0)) hb q1.2))) (by(exact(Ar.nab _).elim (fun q1=>(Ar.a2 [_] [_] (.il .v0 (.n (2^63))) [[1,1,-1]] (.l .v0 (.n (2^60))) (.ie (.t .v0) .v0) hb q1.2)) fun q1=>(Ar.a1 [_] [] (.il .v0 (.n (2^63))) [[1,1]] (.ik .v0 .n0) q1.1))) ?_ ?_
  ·simp only [bg];rw [← h1];unfold av at hz;(exact Ar.a1 [] [_] (.k .v0 (.n (2^24))) [[1,1]] (.k .v0 (.n 1000000)) hz)
  ·have e:List.foldl (fun x1 x2=>x1++x2) #[] (List.replicate (if ws.toArray.isEmpty=true then 0 else i.toNat) ws.toArray)=((List.replicate i.toNat ws).flatten).toArray:=by
    rw [listMul_foldl]
    cases ws with
    | nil=>simp
    | cons w ws=>simp
   rw [e]
   exact cZ (tk:=s.toks) R (Evo.refl _ _ _) (hv.rep _) (by rw [lm_len_rep_flat,Nat.mul_comm];exact hz) q
 rcases iH h with ⟨i,j,rfl,rfl,_⟩ | ⟨rfl,l,n,rfl,rfl,q⟩ | ⟨rfl,m,rfl,q⟩
 ·obtain⟨t,rfl⟩:=va.inv
  obtain⟨u,rfl⟩:=vb.inv
  exact cG R h
 ·obtain⟨u,rfl⟩:=vb.inv
  obtain rfl:=va
  obtain⟨xs,e1,hz,hb,q⟩:=q
  obtain⟨ws,n,hl,hv⟩:=R.L _ _ e1
  exact mulAt _ _ _ _ _ _ hl hv hz hb q rfl rfl
 ·obtain rfl:=vb
  obtain⟨xs,ys,e4,e5,hz,q⟩:=q
  obtain⟨us,m,hl',hv'⟩:=R.L _ _ e5
  have go:∀ (l:Addr) (ws:List Value) (n:Nat),x=.ref l→IsL s.heap l ws.toArray n→VRs G s.heap xs ws→wpAny G.M A (binaryOp (binOp .add) x (.ref _)) (ew G [] σ s Q) E s:=fun l ws n ex hl hv=>by
   subst ex
   have h1:=hv.length;have h2:=hv'.length
   refine P.add_list hl hl' ?_ (by simp only [bg];rw [← h1,← h2];exact jt hz)
   rw [List.append_toArray]
   exact cZ (tk:=s.toks) R (Evo.refl _ _ _) (hv.append hv') (by simpa using hz) q
  unfold itemsOf at e4
  cases e6:bT a with
  | some l' =>
   rw [e6] at e4
   have e6:=yw e6;subst e6
   obtain⟨ws,n,hl,hv⟩:=R.L _ _ e4
   exact go _ ws n va.inv hl hv
  | none =>
   rw [e6] at e4
   cases e7:vRo a with
   | none=>rw [e7] at e4;cases e4
   | some ns =>
    rw [e7] at e4
    cases e4
    have e7:=yP e7;subst e7
    obtain⟨a,ws,n,ex,g,r⟩:=va.inv
    exact go a ws n ex (R.base _ _ g) (VRs.ints (G:=G) (h:=s.heap) r)
theorem mR {C:Cal} {sc:Scope} {d:Nat} {op:Bop} {a b:Ex} {x y:Expr} {pos:Pos} (ha:cp G C sc d a x) (hb:cp G C sc d b y):cp G C sc d (.bin op a b) (.BinOp x (binOp op) y pos):=fun A E env ρ σ Q s ao es eo F R h =>
 wpAny_BinOp (ju (ha A E env ρ σ _ s ao es eo F R h) fun v σ₁ h₁ tk w q vr r x =>
  ju (hb A E env ρ σ₁ _ { s with heap:=h₁,toks:=tk } ao es eo (F.evo x) r q) fun v₂ σ₂ h₂ tk₂ w₂ q₂ vr₂ r₂ x₂ =>
   ay (rH (s:={ s with heap:=h₂,toks:=tk₂ }) r₂ (vr.mono x₂.frz) vr₂ q₂) (fun _ _ l=>ew.back (x.trans x₂) l) fun _ _ x=>x)
theorem DRs.look {h:Heap} (k:Key):{es:List (Key × V)}→{ds:List (Key × Value)}→DRs G h es ds→OV G h (es.lookup k) (valueAt ds k)
 | [],_,e=>by obtain rfl:=e;exact trivial
 | (k',v)::es,_,⟨w,us,e,a,r⟩=>by
  subst e
  by_cases hk:k'=k
  ·subst hk;simpa [valueAt,OV] using a
  ·rw [aB,oo.mpr (fun q=>hk q.symm)]
   simpa [valueAt,List.find?_cons,hk] using DRs.look k r
theorem key_is {v:V} {k:Key} {w:Value} {h:Heap} (hk:v.gV=some k) (vr:VR G h v w):G.kk.is k w=true:=by
 cases v
 case int=>obtain⟨t,rfl⟩:=vr;obtain rfl:=af hk;simp [keyKind,nB,Value.isInt]
 case str=>obtain⟨t,rfl⟩:=vr;obtain rfl:=af hk;simp [keyKind,nB,Value.isStrOf]
 all_goals exact et hk
theorem qM {a b:V} {x y:Value} {ve se:Expr} {K:V→Prop} (R:Rel G σ s.heap) (va:VR G s.heap a x) (vb:VR G s.heap b y) (h:mF a b σ K) (hs:subscripted se false x y=operate [x,y] (getItem x y)) {Q:Value→Shared→Prop} (k:∀ v w tk,K v→VR G s.heap v w→Q w { s with toks:=tk }) :
  wpAny G.M A (subscriptTail ve se x y) Q E s:=by
 have listAt:∀ (l:Addr) (ws:List Value) (i:Int) (t:Tok) (n:Nat) (v:Value),IsL s.heap l ws.toArray n→ws.length≤av→0≤fm ws.length i→ws[(fm ws.length i).toNat]?=some v→x=.ref l→y=.int i t→(∀ tk,Q v { s with toks:=tk })→wpAny G.M A (subscriptTail ve se x y) Q E s:=fun l ws i t n v hl hz h0 hv e1 e2 hq=>by
  subst e1;subst e2
  have hlt:(fm ws.length i).toNat<ws.length:=(bb.mp hv).1
  unfold fm at h0 hv hlt
  unfold av at hz
  by_cases hi:i<0
  ·simp only [hi,sg] at h0 hv hlt
   exact tail_any hl.isList.typeIs u0.lookup (wpAny_getItem_list_neg hl.isList hi (by simp only [bg];(exact Ar.a1 [_] [_] (.ik (.g (.t .v0)) .v0) [[1,1]] (.ik .n0 (.a .v0 (.t .v0))) h0)) (by(exact Ar.a2 [_] [_] (.ik (.g (.n (2^63))) .v0) [[1,1,1]] (.k .v0 (.n 1000000)) (.ik .n0 (.a .v0 (.t .v0))) hz h0)) (by simpa using hv) (hq s.toks)) hs
  ·simp only [hi,fy] at h0 hv hlt
   exact tail_any hl.isList.typeIs u0.lookup (wpAny_getItem_list hl.isList (by(exact Ar.a1 [_] [] (.ik .n0 .v0) [[1,1]] (.ig .v0 .n0) hi)) (by(exact(Ar.ton _).elim (fun q1=>(Ar.a3 [_] [_,_] (.il .v0 (.n (2^63))) [[1,1,1,-1]] (.k .v0 (.n 1000000)) (.l .v1 .v0) (.ie (.t .v1) .v0) hz hlt q1.2)) fun q1=>(Ar.a1 [_] [] (.il .v0 (.n (2^63))) [[1,1]] (.ik .v0 .n0) q1.1))) (by simpa using hv) (hq s.toks)) hs
 have tupAt:∀ (l:Addr) (ws:List Value) (i:Int) (t:Tok) (n:Nat) (v:Value),IsT s.heap l ws.toArray n→i.natAbs<2^60→0≤fm ws.length i→ws[(fm ws.length i).toNat]?=some v→x=.ref l→y=.int i t→(∀ tk,Q v { s with toks:=tk })→wpAny G.M A (subscriptTail ve se x y) Q E s:=fun l ws i t n v hl hz h0 hv e1 e2 hq=>by
  subst e1;subst e2
  have hlt:(fm ws.length i).toNat<ws.length:=(bb.mp hv).1
  have hT:IsTup s.heap l ws.toArray:=⟨_,hl,rfl,n,rfl⟩
  refine tail_any hT.typeIs slot_tuple_getitem.lookup (PyProof.Rows.getItem_tuple hT (by(exact(Ar.nab _).elim (fun q1=>(Ar.a1 [_] [] (.ik (.g (.n (2^63))) .v0) [[1,1]] (.ik .n0 .v0) q1.1)) fun q1=>(Ar.a2 [_] [_] (.ik (.g (.n (2^63))) .v0) [[1,1,-1]] (.l .v0 (.n (2^60))) (.ie (.t .v0) (.g .v0)) hz q1.2))) (by(exact(Ar.nab _).elim (fun q1=>(Ar.a2 [_] [_] (.il .v0 (.n (2^63))) [[1,1,-1]] (.l .v0 (.n (2^60))) (.ie (.t .v0) .v0) hz q1.2)) fun q1=>(Ar.a1 [_] [] (.il .v0 (.n (2^63))) [[1,1]] (.ik .v0 .n0) q1.1))) (j:=(fm ws.length i).toNat) ?_ (by simpa using hv) (hq s.toks)) hs
  unfold seqIndex?
  rw [bg]
  change (if (decide (0≤fm ws.length i)&&decide (fm ws.length i<ws.length))=true then some (fm ws.length i).toNat else none)=_
  rw [bc]
  simp only [bz,yc];(exact⟨(Ar.a1 [_] [] (.ik .n0 .v0) [[1,1]] (.ik .n0 .v0) h0),((Ar.ton _).elim (fun q1=>(Ar.a2 [_] [_,_] (.il .v0 (.t .v0)) [[1,1,-1]] (.l .v1 .v0) (.ie (.t .v1) .v0) hlt q1.2)) fun q1=>(Ar.a2 [_] [_,_] (.il .v0 (.t .v0)) [[1,1,1]] (.l .v1 .v0) (.ik .v0 .n0) hlt q1.1))⟩)
 cases a with
 | lst a =>
  obtain rfl:=va
  obtain⟨i,rfl,xs,v,e,h0,hx,hk⟩:=my (v:=b) h
  obtain⟨t,rfl⟩:=vb
  obtain⟨ws,n,hl,hv⟩:=R.L _ _ e
  have hlen:=hv.length
  obtain⟨w,hw,vr⟩:=hv.get hx
  rw [hlen] at h0 hw
  exact listAt _ ws _ _ n w hl (hlen▸R.Ll _ _ e) h0 hw rfl rfl fun tk=>k v w tk hk vr
 | ro ns =>
  obtain⟨i,rfl,v,hz,h0,hx,hk⟩:=my (v:=b) h
  obtain⟨t,rfl⟩:=vb
  obtain⟨a,ws,n,rfl,g,r⟩:=va
  have hv:=VRs.ints (G:=G) (h:=s.heap) r
  have hlen:=r.length.symm
  obtain⟨w,hw,vr⟩:=hv.get (v:=.int v) (by rw [bq,hx];rfl)
  rw [hlen] at h0 hw
  exact listAt _ ws _ _ _ w (R.base _ _ g) (hlen▸hz) h0 hw rfl rfl fun tk=>k (.int v) w tk hk vr
 | tup xs =>
  obtain⟨i,rfl,v,hb,h0,hx,hk⟩:=my (v:=b) h
  obtain⟨t,rfl⟩:=vb
  obtain⟨a,ws,n,rfl,g,r⟩:=va
  obtain⟨w,hw,vr⟩:=r.get hx
  exact tupAt _ _ _ _ _ _ g hb (r.length▸h0) (r.length▸hw) rfl rfl fun tk=>k v w tk hk vr
 | dct a =>
  obtain rfl:=va
  obtain⟨es,kk,v,e,hkey,hl,hk⟩:=h
  obtain⟨ds,hd,hv⟩:=R.D _ _ e
  have hh:=hv.look kk
  rw [hl] at hh
  cases hq:valueAt ds kk with
  | none=>rw [hq] at hh;exact hh.elim
  | some w =>
   rw [hq] at hh
   exact tail_any hd.typeIs slot_dict_getitem.lookup (wpAny_getItem_of (key_is hkey vb) hd.mapOf hq (k v w _ hk hh)) hs
 | _=>exact False.elim h
end
end MP
end
section
namespace MP
open PySem PyProof.Rows
structure GOk (G:Stc):Prop where
 cls:∃ N mN,ClsAt G.hb G.cS N mN∧mN "__getattribute__"=none∧mN "__getattr__"=none∧mN "__setattr__"=none∧∀ x∈G.attrs,mN x=none∧typeLookup (.type "object") x=pure none
 len:G.attrs.length≤100
 nd:G.attrs.Nodup
 sys:∃ o,G.hb.get? sysModules=some o
 names:∃ mg mb,G.hb.Ns mainGlobals mg∧G.hb.Ns builtinsNs mb∧∀ x,G.gl x=(mg x).or (mb x)
noncomputable def isSlice (x:Expr):Bool:=zj 26 x
theorem yz {se:Expr} (h:isSlice se=false) (x y:Value):subscripted se false x y=operate [x,y] (getItem x y):=by
 cases se<;>first | rfl | exact Bool.noConfusion h
section
variable {G:Stc} {C:Cal} {sc:Scope} {d:Nat}
theorem mQ {a b:Ex} {x y:Expr} {pos:Pos} (ha:cp G C sc d a x) (hb:cp G C sc d b y) (hs:isSlice y=false):cp G C sc d (.sub a b) (.Subscript x y pos):=fun A E env ρ σ Q s ao es eo F R h =>
 Subscript_ (ju (ha A E env ρ σ _ s ao es eo F R h) fun v σ₁ h₁ tk w q vr r x =>
  ju (hb A E env ρ σ₁ _ { s with heap:=h₁,toks:=tk } ao es eo (F.evo x) r q) fun v₂ σ₂ h₂ tk₂ w₂ q₂ vr₂ r₂ x₂ =>
   qM (s:={ s with heap:=h₂,toks:=tk₂ }) r₂ (vr.mono x₂.frz) vr₂ q₂ (yz hs _ _) fun v w tk q vr=>ew.back (tk:=tk₂) (x.trans x₂) (ew.here (s:={ s with heap:=h₂,toks:=tk₂ }) q vr r₂))
noncomputable def xO (G:Stc) (C:Cal) (sc:Scope) (d:Nat) (e:Ex) (x:Option Expr):Prop:=(e=.none∧x=none)∨∃ y,x=some y∧cp G C sc d e y
theorem xO.at {e:Ex} {x:Option Expr} (p:xO G C sc d e x) (A:Around) (E:Value→Shared→Prop) (env:Env) (ρ:Fr) (σ:St) (Q:V→St→Prop) (s:Shared) (ao:AOk A d) (es:env.scope=sc) (eo:gr env) (F:FR G σ env ρ s.heap) (R:Rel G σ s.heap)
  (h:wpE C e ρ σ Q):wpAny G.M A (evalPart x env) (ew G [] σ s Q) E s:=by
 rcases p with ⟨rfl,rfl⟩ | ⟨y,rfl,p⟩
 ·exact evalPart_none_step (ew.sv h .none R)
 ·exact evalPart_some_step (p A E env ρ σ Q s ao es eo F R h)
theorem vZ (a:Int) (n:Nat):(max 0 (min a n)).toNat=min n a.toNat:=by
 rcases Int.le_total a 0 with h | h
 ·rw [Int.toNat_of_nonpos h,Nat.min_zero,Int.max_eq_left (Int.le_trans (Int.min_le_left ..) h)];rfl
 ·rcases Int.le_total a n with h' | h'
  ·rw [Int.min_eq_left h',Int.max_eq_right h,Nat.min_eq_right (Int.toNat_le.mpr h')]
  ·rw [Int.min_eq_right h',Int.max_eq_right (Int.natCast_nonneg n),eh,Nat.min_eq_left ((Int.le_toNat h).mpr h')]
theorem dP (n:Nat) (i:Int):clipAt n i=dj n i:=vZ _ n
theorem part_of {h:Heap} {v:V} {w:Value} {k:Nat} {i:Int} (vr:VR G h v w) (e:zi k v=some i):∃ o,IsPart w o∧o.getD k=i:=by
 cases v
 case none=>obtain rfl:=vr;exact⟨none,.none,af e⟩
 case int=>obtain⟨t,rfl⟩:=vr;exact⟨_,.int _ _,af e⟩
 all_goals exact et e
theorem lM (n:Nat) (o:Option Int) {i:Int} (h:o.getD (0:Nat)=i):o.elim 0 (clipAt n)=dj n i:=by
 cases o with
 | none=>simp at h;subst h;simp [dj,fm]
 | some j=>simp at h;subst h;exact dP n j
theorem lL (n:Nat) (o:Option Int) {i:Int} (h:o.getD (n:Nat)=i):o.elim n (clipAt n)=dj n i:=by
 cases o with
 | none=>obtain rfl:=(h:(n:Int)=i);exact(Nat.min_self n).symm
 | some j=>simp at h;subst h;exact dP n j
theorem qO {A:Around} {E:Value→Shared→Prop} {s:Shared} {σ:St} {a b c:V} {x y z:Value} {ve:Expr} {lo hi:Option Expr} {p:Pos} {Q:V→St→Prop} (R:Rel G σ s.heap) (va:VR G s.heap a x) (vb:VR G s.heap b y) (vc:VR G s.heap c z) (h:mG a b c σ Q) :
  wpAny G.M A (subscriptTail ve (.Slice lo hi none p) x (.ref s.heap.objs.size)) (ew G [] σ s Q) E { s with heap:=s.heap.push { cls:=.type "slice",data:=.fields #[y,z,.none] } }:=by
 have go:∀ (l:Addr) (xs:List V) (ws:List Value) (n:Nat) (i j:Int),x=.ref l→IsL s.heap l ws.toArray n→VRs G s.heap xs ws→xs.length≤av→zi 0 b=some i→zi xs.length c=some j→(∀ c,σ.L c=none→Q (.lst c) (σ.cw c ((xs.take (dj xs.length j)).drop (dj xs.length i)))) →
   wpAny G.M A (subscriptTail ve (.Slice lo hi none p) x (.ref s.heap.objs.size)) (ew G [] σ s Q) E { s with heap:=s.heap.push { cls:=.type "slice",data:=.fields #[y,z,.none] } }:=fun l xs ws n i j e hl hv hz hi hj q=>by
  subst e
  obtain⟨o1,p1,e1⟩:=part_of vb hi
  obtain⟨o2,p2,e2⟩:=part_of vc hj
  have hl':(s.heap.push { cls:=.type "slice",data:=.fields #[y,z,.none] }).IsList l ws.toArray:=(hl.push _).isList
  have hlen:=hv.length
  refine tail_any (T:="list") (id:="list.__getitem__") (ops:=[.ref s.heap.objs.size,.ref l]) ?_ u0.lookup (wpAny_getItem_list_slice hl' (Heap.IsSliceOf.new ..) p1 p2 .none (by simp) ?_ (by simp only [bg];rw [← hlen];exact jt hz)) rfl
  ·exact hl'.typeIs
  ·have e:slicePick ws.toArray o1 o2 none=((ws.take (dj ws.length j)).drop (dj ws.length i)).toArray:=by
    rw [slicePick_plain,bg,lM ws.length o1 e1,lL ws.length o2 (hlen▸e2),List.drop_take]
   rw [e]
   have R':=R.push { cls:=.type "slice",data:=.fields #[y,z,.none] }
   have hv':=((hv.take (dj xs.length j)).drop (dj xs.length i)).mono (h':=s.heap.push { cls:=.type "slice",data:=.fields #[y,z,.none] }) fun _ _ e _=>au _ e
   rw [← hlen]
   exact cZ (s:=s) (tk:=s.toks) R' (Evo.push _ _ _ _) hv' (by simp only [fk,dq];(exact Ar.a3 [] [_,_,_,_] (.k .v0 .v1) [[1,1,1,1]] (.k .v2 .v1) (.k .v3 .v2) (.k .v0 .v3) hz (Ar.jr _ _).2.1 (Nat.sub_le _ _))) q
 cases a with
 | lst a =>
  obtain rfl:=va
  obtain⟨xs,i,j,e,hi,hj,_,_,q⟩:=h
  obtain⟨ws,n,hl,hv⟩:=R.L _ _ e
  exact go _ xs ws n i j rfl hl hv (R.Ll _ _ e) hi hj q
 | ro ns =>
  obtain⟨a,ws,n,rfl,g,r⟩:=va
  obtain⟨i,j,hz,hi,hj,_,_,q⟩:=h
  refine go _ _ _ _ i j rfl (R.base _ _ g) (VRs.ints r) (by simpa using hz) hi (by simpa using hj) fun c hc=>?_
  have:=q c hc
  simpa [List.map_drop,sh] using this
 | _=>exact False.elim h
theorem uR {a b c:Ex} {x:Expr} {lo hi:Option Expr} {p pos:Pos} (ha:cp G C sc d a x) (hb:xO G C sc d b lo) (hc:xO G C sc d c hi):cp G C sc d (.slc a b c) (.Subscript x (.Slice lo hi none p) pos):=fun A E env ρ σ Q s ao es eo F R h =>
 Subscript_ (ju (ha A E env ρ σ _ s ao es eo F R h) fun v σ₁ h₁ tk w q vr r x =>
  wpAny_Slice (ju (hb.at A E env ρ σ₁ _ { s with heap:=h₁,toks:=tk } ao es eo (F.evo x) r q) fun v₂ σ₂ h₂ tk₂ w₂ q₂ vr₂ r₂ x₂ =>
   ju (hc.at A E env ρ σ₂ _ { s with heap:=h₂,toks:=tk₂ } ao es eo (F.evo (x.trans x₂)) r₂ q₂) fun v₃ σ₃ h₃ tk₃ w₃ q₃ vr₃ r₃ x₃ =>
    evalPart_none_step (ay (qO (s:={ s with heap:=h₃,toks:=tk₃ }) r₃ ((vr.mono x₂.frz).mono x₃.frz) (vr₂.mono x₃.frz) vr₃ q₃) (fun _ _ l=>ew.back (x.trans (x₂.trans x₃)) l) fun _ _ x=>x)))
noncomputable def mh (x:Expr):Bool:=!(zj 16 x&&(kids x).tail.isEmpty)
theorem ua {o:Expr} (h:mh o=true) (attr:Str) (env:Env) (whole:Sem Value):attributeBase o attr env whole=whole:=by
 cases o with
 | Call f args kws pos =>
  cases args with
  | nil=>exact Bool.noConfusion h
  | cons a as=>cases f<;>rfl
 | _=>rfl
theorem vp.inst {h:Heap} {a dd:Addr} {f:Nat→Option V} (I:vp G h a dd f) {m:Str→Option Value} (hm:h.Ns1 dd m):h.Inst a G.cS m:=by
 obtain⟨o,ho,hc,hd,hn⟩:=I.here
 exact⟨o,ho,hc,hn,.inr ⟨dd,hd,I.ne,hm⟩⟩
theorem gW {h:Heap} {v:V} {w:Value} (vr:VR G h v w):handedOut w=pure w:=by
 cases v
 case int=>obtain⟨t,rfl⟩:=vr;rfl
 case str=>obtain⟨t,rfl⟩:=vr;rfl
 case tup=>obtain⟨_,_,_,rfl,_⟩:=vr;rfl
 case mt=>obtain⟨_,_,_,_,rfl,_⟩:=vr;rfl
 case yo=>obtain⟨_,_,rfl,_⟩:=vr;rfl
 case zd=>obtain⟨_,_,rfl,_⟩:=vr;rfl
 case ro=>obtain⟨_,_,_,rfl,_⟩:=vr;rfl
 case clo=>exact vr.elim
 all_goals obtain rfl:=vr;rfl
theorem iO {A:Around} {E:Value→Shared→Prop} {s:Shared} {σ:St} {a dd:Addr} {f:Nat→Option V} {i:Nat} {name:Str} {u:V} {expr:Bool} {Q:Value→Shared→Prop} (K:GOk G) (R:Rel G σ s.heap) (hI:σ.I a=some (dd,f)) (hn:G.attrs[i]?=some name) (hu:f i=some u)
  (k:∀ w tk,VR G s.heap u w→Q w { s with toks:=tk }):wpAny G.M A (getAttr (.ref a) name expr) Q E s:=by
 obtain⟨N,mN,X,hga,hgt,hsa,hat⟩:=K.cls
 have I:=R.I a dd f hI
 obtain⟨m,hm,hv,_⟩:=I.ns
 have ov:=hv i name hn
 rw [hu] at ov
 cases hq:m name with
 | none=>rw [hq] at ov;exact ov.elim
 | some w =>
  rw [hq] at ov
  obtain⟨hh,g,dr,t,os⟩:=s
  obtain⟨nm,q,bs,sn,sub,col,d2,k0,k1,k2,k3,k5,hC⟩:=(X.keeps R.base).obj
  have hmem:=cu hn
  exact load_attr hC (X.keeps R.base).ns hga (hat name hmem).1 (hat name hmem).2 (I.inst hm) hq (gW ov) (k w _ ov)
theorem iQ {a:Ex} {i:Nat} {x:Expr} {name:Str} {pos:Pos} (K:GOk G) (ha:cp G C sc d a x) (hb:mh x=true) (hn:G.attrs[i]?=some name):cp G C sc d (.attr a i) (.Attribute x name pos):=fun A E env ρ σ Q s ao es eo F R h =>
 Attribute_any_ (ju (ha A E env ρ σ _ s ao es eo F R h) fun v σ₁ h₁ tk w q vr r x=>by
  obtain⟨b,dd,f,u,rfl,hI,hu,q⟩:=q
  obtain rfl:=vr
  exact iO (s:={ s with heap:=h₁,toks:=tk }) K r hI hn hu fun w tk' vr=>ew.back (tk:=tk) x (ew.here (s:={ s with heap:=h₁,toks:=tk }) q vr r)) (by rw [arm_eval_Attribute,ua hb])
end
end MP
end
section
namespace MP
open PySem PyProof.Rows
noncomputable def isStar:Expr→Bool
 | .Starred _ _=>true
 | _=>false
noncomputable def noStar:List Expr→Bool
 | []=>true
 | e::r=>!isStar e&&noStar r
theorem band {a b:Bool} (h:(a&&b)=true):a=true∧b=true:=(bz a b).mp h
theorem za {e:Expr} (h:(!isStar e)=true) (r:List Expr) (env:Env):starEach (e::r) env=(false,eval e env)::starEach r env:=by
 cases e<;>first | rfl | exact Bool.noConfusion h
theorem qp:{args:List Expr}→noStar args=true→(env:Env)→starEach args env=args.map fun e=>(false,eval e env)
 | [],_,env=>rfl
 | e::r,h,env=>(za (band h).1 r env).trans (bu (_::·) (qp (band h).2 env))
theorem cj {x:Expr} {xs:List Expr} (h:noStar (x::xs)=true):(∀ env,starEach (x::xs) env=(false,eval x env)::starEach xs env)∧noStar xs=true :=
 ⟨za (band h).1 xs,(band h).2⟩
theorem fg {args:List Expr} (h:noStar args=true) (pos:Pos) (env:Env):(backTo pos (starEach args env)).any (·.1)=false:=by
 rw [qp h]
 simp [backTo,List.any_eq_false]
theorem mA {args:List Expr} (h:noStar args=true) (pos:Pos) (env:Env):(backTo pos (starEach args env)).all (fun x=>!x.1)=true:=by
 rw [qp h]
 simp [backTo]
theorem ix {M:Model} {A:Around} {E:Value→Shared→Prop} {s:Shared} {f:Value} {trees:List (Bool × Sem Value)} {Q:Args→Shared→Prop} (hp:trees.any (·.1)=false) (h:wpAny M A (spliced trees) (fun vs s'=>Q ⟨vs,[]⟩ s') E s):wpAny M A (evalArgs f true trees []) Q E s:=by
 cases trees with
 | nil =>
  unfold evalArgs
  show wpAny M A (spliced []>>=_) Q E s
  refine ab (ay h (fun vs s' h'=>?_) fun _ _ x=>x)
  refine bh ?_
  exact ab (ae (ab (ae (ae h'))))
 | cons t r =>
  obtain⟨b,x⟩:=t
  simp only [List.any_cons,Bool.or_eq_false_iff] at hp
  obtain⟨rfl,_⟩:=hp
  exact Calls.evalArgs_plain h
section
variable {G:Stc} {C:Cal} {sc:Scope} {d:Nat}
theorem lu {A:Around} {E:Value→Shared→Prop} {s:Shared} {env:Env} {o:Expr} {name:Str} {args:List Expr} {apos pos:Pos} {Q:Value→Shared→Prop} (hb:mh o=true) (hs:noStar args=true) (hlen:args.length<30) (hline:(apos.endLine==pos.line)=true)
  (h:wpAny G.M A (eval o env) (fun ov s₁=>∀ pl,wpAny G.M A (getMethod ov name pl) (fun p s₂=>wpAny G.M A (callWith pos p.1 p.2 (backTo pos (starEach args env)) []) Q E s₂) E s₁) E s) :
  wpAny G.M A (eval (.Call (.Attribute o name apos) args [] pos) env) Q E s:=by
 rw [arm_eval_Call,ua hb]
 refine ab (ay h (fun ov s₁ h₁=>?_) fun _ _ e=>e)
 refine ab (dt ?_)
 have hform:methodCallForm (args.length+([]:List Keyword).length) (backTo pos (starEach args env)) (backToKw pos (keywordEach [] env))=true:=by
  unfold methodCallForm
  rw [mA hs]
  show decide (args.length<30)=true
  exact dv hlen
 have hpos:methodCallPos true o env apos pos=pure pos:=by unfold methodCallPos;simp [hline]
 unfold methodCall
 rw [hform]
 refine ab (bh (ay (h₁ _) (fun p s₂ h₂=>?_) fun _ _ e=>e))
 exact ab (cx hpos h₂)
theorem lr {A:Around} {E:Value→Shared→Prop} {s:Shared} {env:Env} {ρ:Fr} {σ:St} {id:String} {first:List Value} {es:Exs} {args:List Expr} {pos:Pos} {P:List V→St→Prop} {Q:Value→Shared→Prop} (hs:noStar args=true) (hes:iy G C sc d es args)
  (ao:AOk A d) (hsc:env.scope=sc) (eo:gr env) (F:FR G σ env ρ s.heap) (R:Rel G σ s.heap) (h:nz C es ρ σ P)
  (k:∀ vs σ₁ h₁ tk ws,P vs σ₁→VRs G h₁ vs ws→Rel G σ₁ h₁→Evo [] σ s.heap σ₁ h₁→wpAny G.M A (call (.builtin id) (first++ws)) Q E { s with heap:=h₁,toks:=tk }) :
  wpAny G.M A (callWith pos (.builtin id) first (backTo pos (starEach args env)) []) Q E s :=
 Calls.callWith_builtin (fg hs pos env) (ix (fg hs pos env) (eD (hes A E env ρ σ P s pos ao hsc eo F R h) k))
theorem qC {σ:St} {h:Heap} {a:Addr} {xs ys:List V} {ws us:List Value} {n:Nat} {f:Array Value→Array Value} (R:Rel G σ h) (e:σ.L a=some xs) (hl:IsL h a ws.toArray n) (hv:VRs G h ys us) (hz:ys.length≤av) (hf:f ws.toArray=us.toArray) :
  Rel G (σ.cw a ys) (h.update a (Obj.mapSeq f))∧Evo [] σ h (σ.cw a ys) (h.update a (Obj.mapSeq f)):=by
 have hu:=hl.update f
 rw [hf] at hu
 have x:At a h (h.update a (Obj.mapSeq f)):=⟨fun b o hb eb=>(mu h _ (Ne.symm hb)).trans eb,⟨_,hu⟩,fun o eo=>by
  obtain rfl:=af (eo.symm.trans hl);exact rk rfl rfl⟩
 exact⟨R.putL x (fun q=>by rw [e] at q;cases q) hu hv hz,Evo.putL x (fun q=>by rw [e] at q;cases q) _⟩
noncomputable def i5:BM→Str
 | .append=>"append" | .pop=>"pop" | .insert=>"insert" | .extend=>"extend" | .sort=>"sort" | .index=>"index" | .count=>"count" | .get=>"get" | .setdefault=>"setdefault" | .add=>"add"
noncomputable def C2:BM→String
 | .append=>"list.append" | .pop=>"list.pop" | .insert=>"list.insert" | .extend=>"list.extend" | .sort=>"list.sort" | .index=>"list.index" | .count=>"list.count" | .get=>"dict.get" | .setdefault=>"dict.setdefault" | .add=>"set.add"
theorem jB {h:Heap} {a:Addr} {items:Array Value} {n:Nat} (hl:IsL h a items n):∀ b,Value.ref a=.ref b→∃ ob,h.get? b=some ob∧ob.dict=none:=fun b e=>by
 injection e with e;subst e;exact⟨_,hl,rfl⟩
theorem eT {A:Around} {E:Value→Shared→Prop} {s:Shared} {σ:St} {k:BM} {v:V} {w:Value} {pl:Sem Bool} {Q:Value × List Value→Shared→Prop} (R:Rel G σ s.heap) (vr:VR G s.heap v w) (h:C1 k v σ) (q:Q (.builtin (C2 k),[w]) s) :
  wpAny G.M A (getMethod w (i5 k) pl) Q E s:=by
 have lst:∀ (a:Addr) (name:Str) (id:String),(σ.L a).isSome=true→Slot "list" name id→typeOf (.builtin id)=pure (.type "method_descriptor")→Q (.builtin id,[.ref a]) s→wpAny G.M A (getMethod (.ref a) name pl) Q E s:=fun a name id e sl ty q=>by
  obtain⟨xs,e⟩:=bw.mp e
  obtain⟨ws,n,hl,_⟩:=R.L _ _ e
  exact getMethod_builtin ⟨_,hl,rfl⟩ PySem.F.plainAttrs_list sl ty (jB hl) q
 cases k
 case get =>
  obtain⟨a,rfl,h⟩:=zg (v:=v) h
  obtain rfl:=vr
  obtain⟨xs,e⟩:=bw.mp h
  obtain⟨ds,hd,_⟩:=R.D _ _ e
  exact getMethod_builtin hd.typeIs PySem.F.plainAttrs_dict PySem.F.slot_dict_get PySem.F.type_dict_get hd.mapOf.noDict q
 case setdefault =>
  obtain⟨a,rfl,h⟩:=zg (v:=v) h
  obtain rfl:=vr
  obtain⟨xs,e⟩:=bw.mp h
  obtain⟨ds,hd,_⟩:=R.D _ _ e
  exact getMethod_builtin hd.typeIs PySem.F.plainAttrs_dict PySem.F.slot_dict_setdefault PySem.F.type_dict_setdefault hd.mapOf.noDict q
 case add =>
  obtain⟨a,rfl,h⟩:=vT (v:=v) h
  obtain rfl:=vr
  obtain⟨xs,e⟩:=bw.mp h
  exact getMethod_set_add (R.S _ _ e) q
 all_goals
  obtain⟨a,rfl,h⟩:=qe (v:=v) h
  obtain rfl:=vr
 case append=>exact lst _ _ _ h yt PySem.F.type_list_append q
 case pop=>exact lst _ _ _ h PySem.F.slot_list_pop PySem.F.type_list_pop q
 case insert=>exact lst _ _ _ h PySem.F.slot_list_insert PySem.F.type_list_insert q
 case extend=>exact lst _ _ _ h PySem.F.slot_list_extend PySem.F.type_list_extend q
 case sort=>exact lst _ _ _ h PySem.F.slot_list_sort PySem.F.type_list_sort q
 case index=>exact lst _ _ _ h PySem.F.slot_list_index PySem.F.type_list_index q
 case count=>exact lst _ _ _ h PySem.F.slot_list_count PySem.F.type_list_count q
end
end MP
end
section
namespace MP
open PySem PyProof.Rows
section
variable {G:Stc} {A:Around} {E:Value→Shared→Prop} {s:Shared} {σ:St}
theorem c6 (K:GOk G) (R:Rel G σ s.heap) {b:Addr} (d:σ.dom b):(b==sysModules)=false:=by
 refine oo.mpr fun e=>?_
 obtain⟨o,ho⟩:=K.sys
 have:=R.new b d
 rw [e,ho] at this;cases this
theorem DRs.put {h:Heap} {k:Key} {v:V} {w:Value} (vr:VR G h v w) {es:List (Key × V)} {ds:List (Key × Value)} (r:DRs G h es ds):DRs G h (putD es k v) (stored ds k w):=by
 have hany:∀ {es:List (Key × V)} {ds:List (Key × Value)},DRs G h es ds→(es.any fun e=>e.1==k)=ds.any fun kv=>decide (kv.1=k):=by
  intro es
  induction es with
  | nil=>intro ds r;obtain rfl:=r;rfl
  | cons e es ih=>intro ds r;obtain⟨w,us,rfl,a,r⟩:=r;rw [List.any_cons,List.any_cons,ih r];rfl
 have hmap:∀ {es:List (Key × V)} {ds:List (Key × Value)},DRs G h es ds→DRs G h (es.map fun e=>if e.1=k then (k,v) else e) (ds.map fun kv=>if kv.1=k then (kv.1,w) else kv):=by
  intro es
  induction es with
  | nil=>intro ds r;obtain rfl:=r;exact .nil
  | cons e es ih =>
   intro ds r
   obtain⟨k',v'⟩:=e
   obtain⟨w',us,rfl,a,r⟩:=r
   rw [gm,gm]
   by_cases hk:k'=k
   ·subst hk;rw [bc rfl,bc rfl];exact .cons vr (ih r)
   ·rw [aw hk,aw hk];exact .cons a (ih r)
 have happ:∀ {es:List (Key × V)} {ds:List (Key × Value)},DRs G h es ds→DRs G h (es++[(k,v)]) (ds++[(k,w)]):=by
  intro es
  induction es with
  | nil=>intro ds r;obtain rfl:=r;exact .cons vr .nil
  | cons e es ih=>intro ds r;obtain⟨w',us,rfl,a,r⟩:=r;exact .cons a (ih r)
 unfold putD stored
 rw [hany r]
 split
 ·exact hmap r
 ·exact happ r
theorem DRs.length {h:Heap}:{es:List (Key × V)}→{ds:List (Key × Value)}→DRs G h es ds→es.length=ds.length
 | [],_,e=>e▸rfl
 | _::_,_,⟨_,_,e,_,r⟩=>e▸bu (·+1) r.length
theorem OV.getD {h:Heap} {v:Option V} {w:Option Value} {u:V} {x:Value} (o:OV G h v w) (a:VR G h u x):VR G h (v.getD u) (w.getD x):=by
 cases v<;>cases w
 ·exact a
 ·exact False.elim o
 ·exact False.elim o
 ·exact o
theorem bC (es:List (Key × V)) (k:Key) (v:V):(putD es k v).length≤es.length+1:=by
 unfold putD;split<;>simp
theorem xA (R:Rel G σ s.heap) {a:Addr} {es:List (Key × V)} (e:σ.D a=some es):∀ b f,σ.I b≠some (a,f):=fun b f q=>by
 have:=R.apart b a f q;rw [e] at this;cases this
theorem AN {h':Heap} {a:Addr} {es es':List (Key × V)} {ds:List (Key × Value)} (R:Rel G σ s.heap) (e:σ.D a=some es) (hs:Heap.SameBut a s.heap h') (hd:h'.DictOf G.kk a ds) (hv:DRs G s.heap es' ds) (hz:es'.length≤av) :
  Rel G (σ.ki a es') h'∧Evo [] σ s.heap (σ.ki a es') h':=by
 obtain⟨ds0,⟨o,ees,ep,ho,hc,hdt,_⟩,_⟩:=R.D _ _ e
 obtain⟨o',ees',ep',ho',_⟩:=id hd
 have x:At a s.heap h':=At.kP hs ho (mq hdt) ho'
 exact⟨R.putD x (fun q=>by rw [e] at q;cases q) (xA R e) hd hv hz,Evo.putD x (fun q=>by rw [e] at q;cases q) _⟩
theorem sU {v:V} {k:Key} {w:Value} {h:Heap} (hk:v.gV=some k) (vr:VR G h v w):w.scannable=true:=by
 cases v
 case int=>obtain⟨t,rfl⟩:=vr;rfl
 case str=>obtain⟨t,rfl⟩:=vr;rfl
 all_goals exact et hk
theorem s6 {es:List (Key × V)} {k:Key} (h:es.lookup k=none) (v:V):putD es k v=es++[(k,v)]:=by
 unfold putD
 rw [aw]
 simp only [List.any_eq_true,not_exists,not_and]
 intro e he hk
 rw [qc] at h
 have:=h e he
 simp only [pq] at hk
 simp [hk] at this
theorem oO (R:Rel G σ s.heap) {a:Addr} {es:List (Key × V)} (e:σ.D a=some es):Rel G (σ.ki a es) s.heap∧Evo [] σ s.heap (σ.ki a es) s.heap:=by
 have:σ.ki a es=σ:=by
  unfold St.ki
  have:upd σ.D a es=σ.D:=by
   funext b
   unfold upd
   split
   ·rename_i h;rw [h,e]
   ·rfl
  rw [this]
 rw [this]
 exact⟨R,Evo.refl _ _ _⟩
theorem VRs.one {h:Heap} {v:V} {ws:List Value}:VRs G h [v] ws→∃ w,ws=[w]∧VR G h v w
 | ⟨w,us,e,a,r⟩=>⟨w,e.trans (bu (w::·) r),a⟩
theorem VRs.two {h:Heap} {v u:V} {ws:List Value}:VRs G h [v,u] ws→∃ w w',ws=[w,w']∧VR G h v w∧VR G h u w'
 | ⟨w,us,e,a,r⟩=>by obtain⟨w',e',b⟩:=VRs.one r;exact⟨w,w',e.trans (bu (w::·) e'),a,b⟩
theorem kG {k:BM} {v:V} {w:Value} {vs:List V} {ws:List Value} {Q:V→St→Prop} (K:GOk G) (hk:k≠.sort) (R:Rel G σ s.heap) (vr:VR G s.heap v w) (vrs:VRs G s.heap vs ws) (h:AL k v vs σ Q) :
  wpAny G.M A (call (.builtin (C2 k)) (w::ws)) (ew G [] σ s Q) E s:=by
 cases k
 case append =>
  obtain⟨a,rfl,h⟩:=qe (v:=v) h
  obtain rfl:=vr
  obtain⟨x,rfl,xs,e,hz,q⟩:=bD (vs:=vs) h
  obtain⟨wa,rfl,va⟩:=vrs.one
  obtain⟨us,n,hl,hv⟩:=R.L _ _ e
  have hlen:=hv.length
  refine a9 yt ⟨_,hl,rfl⟩ PySem.F.entry_list_append (PySem.F.args_list_append_2 _ _) (list_append _ _ _ _ (by simp only [bg];rw [← hlen];exact jt (by(exact Ar.a1 [] [_,_] (.k .v0 .v1) [[1,1]] (.l .v0 .v1) hz)))) ⟨hl,?_⟩
  obtain⟨r',x'⟩:=qC (f:=fun x=>x.push wa) R e hl (hv.append (.cons va .nil)) (by simp;(exact Ar.a1 [] [_,_] (.k (.a .v0 .n1) .v1) [[1,1]] (.l .v0 .v1) hz)) (by simp)
  exact⟨.none,_,_,_,rfl,q,.none,r',x'⟩
 case pop =>
  obtain⟨a,rfl,h⟩:=qe (v:=v) h
  obtain rfl:=vr
  obtain⟨rfl,xs,v,e,q⟩:=n3 (vs:=vs) h
  obtain rfl:=vrs
  obtain⟨us,n,hl,hv⟩:=R.L _ _ e
  have hlen:=hv.length
  have hz:=R.Ll _ _ e
  obtain⟨u,hu,vu⟩:=hv.get (i:=xs.length) (v:=v) (by simp)
  have hlen':us.length=xs.length+1:=by rw [← hlen];simp
  refine a9 PySem.F.slot_list_pop ⟨_,hl,rfl⟩ PySem.F.entry_list_pop (PySem.F.args_list_pop_1 _) (MeetsSeq.list_pop_last _ _ _ u (by simp only [bg];rw [hlen'];simpa using hu) (by simp only [bg];rw [← hlen];exact jt hz)) ⟨hl,?_⟩
  obtain⟨r',x'⟩:=qC (f:=fun x=>x.eraseIdxIfInBounds (us.toArray.size-1)) (us:=us.take xs.length) R e hl (by simpa using hv.take xs.length) (by simp at hz;(exact Ar.a1 [] [_,_] (.k .v0 .v1) [[1,1]] (.k (.a .v0 .n1) .v1) hz)) (by
   have e:us.toArray.eraseIdxIfInBounds (us.toArray.size-1)=(us.eraseIdx (us.length-1)).toArray:=by simp
   rw [e,List.eraseIdx_eq_take_drop_succ]
   simp [hlen'])
  exact⟨v,_,_,_,rfl,q,vu.mono x'.frz,r',x'⟩
 case insert=>exact False.elim h
 case extend =>
  obtain⟨a,rfl,h⟩:=qe (v:=v) h
  obtain rfl:=vr
  obtain⟨x,rfl,h⟩:=bD (vs:=vs) h
  obtain⟨b,rfl,xs,ys,hne,e1,e2,hz,q⟩:=qe (v:=x) h
  obtain⟨wa,rfl,rfl⟩:=vrs.one
  obtain⟨us,n,hl,hv⟩:=R.L _ _ e1
  obtain⟨ts,m,hl',hv'⟩:=R.L _ _ e2
  have hlen:=hv.length;have hlen':=hv'.length
  have hz1:us.length+ts.length≤sizeLine:=by rw [← hlen,← hlen'];exact jt hz
  refine a9 PySem.F.slot_list_extend ⟨_,hl,rfl⟩ PySem.F.entry_list_extend (PySem.F.args_list_extend_2 _ _) (AutoSeq1.list_extend_list_list_0 _ _ _ _ _ _ ?_ (by simp only [bg];(exact Ar.a1 [] [_,_,_] (.k .v0 .v1) [[1,1]] (.k (.a .v0 .v2) .v1) hz1)) (by simp only [bg];(exact Ar.a1 [] [_,_,_] (.k (.a .v0 .v1) (.a .v2 .n1)) [[1,1]] (.k (.a .v0 .v1) .v2) hz1))) ⟨hl,hl',?_⟩
  ·simp only [bg,Builtin.List.listTooLong];rw [show sizeLine=16777216 from rfl] at hz1;simp;intro _;first | omega | (unfold sizeLine;(exact Ar.a1 [] [_,_] (.k (.a .v0 .v1) (.n (2^24))) [[1,1]] (.k (.a .v0 .v1) (.n 16777216)) hz1))
  ·obtain⟨r',x'⟩:=qC (f:=fun x=>x++ts.toArray) R e1 hl (hv.append hv') (by simpa using hz) (by simp)
   exact⟨.none,_,_,_,rfl,q,.none,r',x'⟩
 case index=>exact False.elim h
 case count=>exact False.elim h
 case get =>
  obtain⟨a,rfl,h⟩:=zg (v:=v) h
  obtain rfl:=vr
  obtain⟨x,y,rfl,es,kk,e,hkey,q⟩:=cO (vs:=vs) h
  obtain⟨wa,wb,rfl,va,vb⟩:=vrs.two
  obtain⟨ds,hd,hv⟩:=R.D _ _ e
  have hl:=hv.look kk
  refine call_meetsIn PySem.F.slot_dict_get hd.typeIs PySem.F.entry_dict_get (PySem.F.args_dict_get_3 _ _ _) (meets_dict_get_default G.kk _ (key_is hkey va) (c6 K R (.inr (.inl (by rw [e];rfl)))) _) ⟨_,hd.mapOf,?_⟩
  exact⟨_,σ,s.heap,_,rfl,q,hl.getD vb,R,Evo.refl _ _ _⟩
 case setdefault =>
  obtain⟨a,rfl,h⟩:=zg (v:=v) h
  obtain rfl:=vr
  obtain⟨x,y,rfl,es,kk,e,hkey,hz,q⟩:=cO (vs:=vs) h
  obtain⟨wa,wb,rfl,va,vb⟩:=vrs.two
  obtain⟨ds,hd,hv⟩:=R.D _ _ e
  have hl:=hv.look kk
  have hlen:=hv.length
  refine call_meetsIn PySem.F.slot_dict_setdefault hd.typeIs PySem.F.entry_dict_setdefault (PySem.F.args_dict_setdefault_3 _ _ _) (kt_meets_setdefault G.kk _ (key_is hkey va) (c6 K R (.inr (.inl (by rw [e];rfl)))) _) ⟨ds,hd,by rw [← hlen];exact jt (by(exact Ar.a1 [] [_,_] (.k .v0 .v1) [[1,1]] (.l .v0 .v1) hz)),fun v' hv'=>?_,fun hn h' hm' hs'=>?_⟩
  ·rw [hv'] at hl
   cases h1:es.lookup kk with
   | none=>rw [h1] at hl;exact hl.elim
   | some u =>
    rw [h1] at hl q
    simp only [Option.getD_some,Option.isSome_some,sg] at q
    obtain⟨r',x'⟩:=oO R e
    exact⟨u,_,s.heap,_,rfl,q,hl,r',x'⟩
  ·rw [hn] at hl
   cases h1:es.lookup kk with
   | some u=>rw [h1] at hl;exact hl.elim
   | none =>
    rw [h1] at q
    simp only [Option.getD_none,pv,ct,fy] at q
    have e2:=s6 h1
    obtain⟨r',x'⟩:=AN R e hs' hm' (hv.put vb) (nk (bC _ _ _) (by(exact Ar.a1 [] [_,_] (.k (.a .v0 .n1) .v1) [[1,1]] (.l .v0 .v1) hz)))
    rw [e2] at r' x'
    exact⟨_,_,h',_,rfl,q,vb.mono x'.frz,r',x'⟩
 case add=>exact False.elim h
 case sort=>exact absurd rfl hk
theorem yY {C:Cal} {sc:Scope} {d:Nat} {k:BM} {a:Ex} {es:Exs} {o:Expr} {args:List Expr} {apos pos:Pos} (K:GOk G) (hk:k≠.sort) (ha:cp G C sc d a o) (hes:iy G C sc d es args) (hb:mh o=true) (hs:noStar args=true) (hlen:args.length<30) (hline:(apos.endLine==pos.line)=true) :
  cp G C sc d (.bm k a es) (.Call (.Attribute o (i5 k) apos) args [] pos):=fun A E env ρ σ Q s ao ess eo F R h =>
 lu hb hs hlen hline (ju (ha A E env ρ σ _ s ao ess eo F R h) fun v σ₁ h₁ tk w q vr r x pl =>
  eT (s:={ s with heap:=h₁,toks:=tk }) r vr q.1 (lr (s:={ s with heap:=h₁,toks:=tk }) hs hes ao ess eo (F.evo x) r q.2 fun vs σ₂ h₂ tk₂ ws q₂ vrs r₂ x₂ =>
   ay (kG (s:={ s with heap:=h₂,toks:=tk₂ }) K hk r₂ (vr.mono x₂.frz) vrs q₂) (fun _ _ l=>ew.back (x.trans x₂) l) fun _ _ x=>x))
end
end MP
end
section
namespace MP
open PySem PyProof.Rows
noncomputable def wo (p:Arguments):Bool:=p.posonlyargs.isEmpty&&p.kwonlyargs.isEmpty&&p.vararg.isNone&&p.kwarg.isNone
noncomputable def addDefaults:List (Str × Value)→List (Str × Value)→List (Str × Value)
 | slots,[]=>slots
 | slots,(n,d)::r=>addDefaults (if (slots.lookup n).isNone then slots++[(n,d)] else slots) r
theorem qy {M:Model} {A:Around} {E:Value→Shared→Prop} {s:Shared} (f:Str × Value→List (Str × Value)→Sem (ForInStep (List (Str × Value))))
  (hf:∀ n d slots,f (n,d) slots=if (slots.lookup n).isNone then pure (.yield (slots++[(n,d)])) else pure (.yield slots)) :
  ∀ (l:List (Str × Value)) (slots:List (Str × Value)) (Q:List (Str × Value)→Shared→Prop),Q (addDefaults slots l) s→wpAny M A (forIn l slots f) Q E s
 | [],slots,Q,h=>by rw [iq];exact ae h
 | (n,d)::r,slots,Q,h=>by
  rw [ji,hf]
  refine ab ?_
  unfold addDefaults at h
  split
  ·rename_i hc
   rw [bc hc] at h
   exact ae (qy f hf r _ Q h)
  ·rename_i hc
   rw [aw hc] at h
   exact ae (qy f hf r _ Q h)
theorem qz:∀ (l₁ l₂ slots:List (Str × Value)),addDefaults slots (l₁++l₂)=addDefaults (addDefaults slots l₁) l₂
 | [],_,_=>rfl
 | (n,d)::r,l₂,slots=>by simp only [aE,addDefaults];exact qz r l₂ _
theorem te:∀ (l slots:List (Str × Value)),(∀ p∈l,(slots.lookup p.1).isSome=true)→addDefaults slots l=slots
 | [],_,_=>rfl
 | (n,d)::r,slots,h=>by
  have h1:=h (n,d) (.head _)
  simp only [addDefaults]
  rw [aw (by cases hq:slots.lookup n<;>simp_all)]
  exact te r slots fun p hp=>h p (.tail _ hp)
theorem pa {slots:List (Str × Value)} {n:Str} (h:n∈slots.map (·.1)):(slots.lookup n).isSome=true:=by
 cases hq:slots.lookup n with
 | some v=>rfl
 | none =>
  rw [qc] at hq
  obtain⟨p,hp,rfl⟩:=dh.mp h
  have:=hq p hp
  simp at this
theorem lookup_none_of_not_mem {slots:List (Str × Value)} {n:Str} (h:n∉slots.map (·.1)):slots.lookup n=none:=by
 rw [qc]
 intro p hp
 simp only [bne_iff_ne,ne_eq,oo]
 rintro rfl
 exact h (dh.mpr ⟨p,hp,rfl⟩)
theorem ui:∀ (l slots:List (Str × Value)),(l.map (·.1)).Nodup→(∀ n∈l.map (·.1),n∉slots.map (·.1))→addDefaults slots l=slots++l
 | [],_,_,_=>by simp [addDefaults]
 | (n,d)::r,slots,hn,h=>by
  simp only [gm,pg] at hn
  have h1:=h n (.head _)
  simp only [addDefaults]
  rw [bc (by rw [lookup_none_of_not_mem h1];rfl)]
  rewrite [ui r _ hn.2 fun m hm=>?_]
  ·simp
  ·have h2:=h m (.tail _ hm)
   simp only [di,gm,List.map_nil,cy,aq,jz]
   exact⟨h2,fun e=>hn.1 (e▸hm)⟩
theorem iS {n₁ n₂:List Str} {vals d₁ d₂:List Value} (hnd:(n₁++n₂).Nodup) (h1:n₁.length=vals.length) (h2:n₂.length=d₂.length) (h3:d₁.length≤n₁.length) :
  addDefaults ((n₁++n₂).zip vals) (((n₁++n₂).drop ((n₁++n₂).length-(d₁++d₂).length)).zip (d₁++d₂))=(n₁++n₂).zip (vals++d₂):=by
 have e0:(n₁++n₂).zip vals=n₁.zip vals:=by
  have:=List.zip_append (l₁:=n₁) (r₁:=n₂) (l₂:=vals) (r₂:=[]) h1
  simpa using this
 have e1:(n₁++n₂).drop ((n₁++n₂).length-(d₁++d₂).length)=n₁.drop (n₁.length-d₁.length)++n₂:=by
  rw [bx,bx,show n₁.length+n₂.length-(d₁.length+d₂.length)=n₁.length-d₁.length by(exact Ar.a3 [] [_,_,_,_,_,_] (.e .v0 .v1) [[1,-1,-1,1],[1,1,1,-1]] (.e .v2 .v3) (.e (.a .v0 (.a .v4 .v3)) (.a .v5 .v2)) (.e (.a .v1 .v4) .v5) h2 (aa (Ar.a2 [] [_,_,_,_] (.k (.a .v0 .v1) (.a .v2 .v3)) [[1,-1,1]] (.e .v3 .v1) (.k .v0 .v2) h2 h3)) (aa (Ar.a1 [] [_,_] (.k .v0 .v1) [[1,1]] (.k .v0 .v1) h3))),List.drop_append,show n₁.length-d₁.length-n₁.length=0 by(exact Ar.sub _ _ (fun q1 p1=>(Ar.sub _ _ (fun q2 p2=>(Ar.a2 [] [_,_,_,_] (.e .v0 .n0) [[1,0,0],[1,1,1]] (.e (.a .v0 .v1) .v2) (.e (.a .v2 .v3) .v1) p1 p2)) fun q2 p2=>(Ar.a2 [] [_,_,_] (.e .v0 .n0) [[1,0,0],[1,1,1]] (.e (.a .v0 .v1) .v2) (.e .v2 .n0) p1 p2))) fun q1 p1=>(Ar.a1 [] [_] (.e .v0 .n0) [[1,0],[1,1]] (.e .v0 .n0) p1))]
  rfl
 have f1:(n₁.zip vals).map (·.1)=n₁:=List.map_fst_zip (by(exact Ar.a1 [] [_,_] (.k .v0 .v1) [[1,1]] (.e .v0 .v1) h1))
 have f2:(n₂.zip d₂).map (·.1)=n₂:=List.map_fst_zip (by(exact Ar.a1 [] [_,_] (.k .v0 .v1) [[1,1]] (.e .v0 .v1) h2))
 have hd:=List.nodup_append.mp hnd
 rw [e0,e1,List.zip_append (by rw [fk];(exact Ar.sub _ _ (fun q1 p1=>(Ar.sub _ _ (fun q2 p2=>(Ar.a2 [] [_,_,_,_] (.e .v0 .v1) [[1,-1,1],[1,1,-1]] (.e (.a .v0 .v2) .v3) (.e (.a .v2 .v1) .v3) p1 p2)) fun q2 p2=>(Ar.a4 [] [_,_,_,_] (.e .v0 .v1) [[1,1,-1,0,1],[1,0,1,1,0]] (.k .v1 .v2) (.e (.a .v0 .v3) .v2) (.k .v2 .v1) (.e .v3 .n0) h3 p1 q2 p2))) fun q1 p1=>(Ar.sub _ _ (fun q2 p2=>(Ar.a3 [] [_,_,_,_] (.e .v0 .v1) [[1,1,0,1],[1,0,1,0]] (.k .v2 .v3) (.e .v0 .n0) (.e (.a .v3 .v1) .v2) q1 p1 p2)) fun q2 p2=>(Ar.a4 [] [_,_,_,_] (.e .v0 .v1) [[1,1,1,0,1],[1,0,0,1,0]] (.k .v1 .v2) (.k .v2 .v3) (.e .v0 .n0) (.e .v3 .n0) h3 q1 p1 p2)))),qz]
 have e2:addDefaults (n₁.zip vals) ((n₁.drop (n₁.length-d₁.length)).zip d₁)=n₁.zip vals:=te _ _ fun p hp=>by
  refine pa ?_
  rw [f1]
  exact List.mem_of_mem_drop (List.of_mem_zip hp).1
 rw [e2,ui,List.zip_append h1]
 ·rw [f2];exact hd.2.1
 ·intro n hn hm
  rw [f1] at hm;rw [f2] at hn
  exact hd.2.2 n hm n hn rfl
theorem oN {ns:List Str} {vals ds:List Value} (hnd:ns.Nodup) (h1:vals.length≤ns.length) (h2:ns.length≤vals.length+ds.length) (h3:ds.length≤ns.length) :
  addDefaults (ns.zip vals) ((ns.drop (ns.length-ds.length)).zip ds)=ns.zip (vals++ds.drop (ds.length-(ns.length-vals.length))):=by
 have en:=List.take_append_drop vals.length ns
 have ed:=List.take_append_drop (ds.length-(ns.length-vals.length)) ds
 have:=iS (n₁:=ns.take vals.length) (n₂:=ns.drop vals.length) (vals:=vals) (d₁:=ds.take (ds.length-(ns.length-vals.length))) (d₂:=ds.drop (ds.length-(ns.length-vals.length)))
  (by rw [en];exact hnd) (by rw [dq];(exact(Ar.jr _ _).2.2.elim (fun q1=>(Ar.a2 [] [_,_] (.e .v0 .v1) [[1,0,1],[1,1,0]] (.k .v0 .v1) (.k .v1 .v0) (Ar.jr _ _).1 q1)) fun q1=>(Ar.a3 [] [_,_,_] (.e .v0 .v1) [[1,1,0,1],[1,0,1,0]] (.k .v1 .v2) (.k .v0 .v1) (.k .v2 .v0) h1 (Ar.jr _ _).1 q1))) (by rw [fk,fk];(exact Ar.sub _ _ (fun q1 p1=>(Ar.sub _ _ (fun q2 p2=>(Ar.a2 [] [_,_,_,_] (.e .v0 .v1) [[1,1,-1],[1,-1,1]] (.e (.a .v1 .v2) .v3) (.e (.a .v2 .v0) .v3) p1 p2)) fun q2 p2=>(Ar.a5 [] [_,_,_,_,_,_] (.e .v0 .v1) [[1,0,0,1,1,0],[1,1,1,-1,0,1]] (.k .v2 (.a .v3 .v4)) (.e (.a .v0 .v3) .v2) (.e (.a .v1 .v5) .v4) (.k .v4 .v0) (.e .v5 .n0) h2 (aa (Ar.a1 [] [_,_] (.k .v0 .v1) [[1,1]] (.k .v0 .v1) h1)) p1 q2 p2))) fun q1 p1=>(Ar.sub _ _ (fun q2 p2=>(Ar.a3 [] [_,_,_,_] (.e .v0 .v1) [[1,0,1,0],[1,1,0,1]] (.k .v2 .v3) (.e .v1 .n0) (.e (.a .v3 .v0) .v2) q1 p1 p2)) fun q2 p2=>(Ar.a5 [] [_,_,_,_,_,_] (.e .v0 .v1) [[1,0,0,0,1,0],[1,1,1,1,0,1]] (.k .v2 (.a .v3 .v4)) (.e (.a .v0 .v3) .v2) (.k .v4 .v5) (.e .v1 .n0) (.e .v5 .n0) h2 (aa (Ar.a1 [] [_,_] (.k .v0 .v1) [[1,1]] (.k .v0 .v1) h1)) q1 p1 p2)))) (by rw [dq,dq];(exact Ar.sub _ _ (fun q1 p1=>((Ar.jr _ _).2.2.elim (fun q2=>(Ar.sub _ _ (fun q3 p3=>(Ar.a5 [] [_,_,_,_,_,_,_] (.k .v0 .v1) [[1,1,1,1,1,-1]] (.k .v2 .v3) (.k .v0 .v4) (.e (.a .v4 .v5) .v2) (.k .v6 .v1) (.e (.a .v5 .v6) .v3) h3 (Ar.jr _ _).1 p1 q2 p3)) fun q3 p3=>(Ar.a5 [] [_,_,_,_,_,_,_] (.k .v0 .v1) [[1,1,1,1,1,1]] (.k .v2 .v3) (.k .v0 .v4) (.e (.a .v4 .v5) .v2) (.k .v6 .v1) (.k .v3 .v6) h3 (Ar.jr _ _).1 p1 q2 q3))) fun q2=>(Ar.a3 [] [_,_,_,_] (.k .v0 .v1) [[1,1,1,1]] (.k .v2 .v3) (.k .v0 .v2) (.k .v3 .v1) h3 (Ar.jr _ _).2.1 q2))) fun q1 p1=>(Ar.a2 [] [_,_,_] (.k .v0 .v1) [[1,1,1]] (.k .v0 .v2) (.e .v2 .n0) (Ar.jr _ _).1 p1)))
 rw [en,ed] at this
 exact this
theorem iY:∀ (ms:List Str) (n:Str) (u:Value) (l:List (Str × Value)),n∉ms→(ms.filterMap fun m=>(((n,u)::l).lookup m).map (m,·))=ms.filterMap fun m=>(l.lookup m).map (m,·)
 | [],_,_,_,_=>rfl
 | m::ms,n,u,l,h=>by
  simp only [br,jz] at h
  have e:((n,u)::l).lookup m=l.lookup m:=by rw [aB,oo.mpr (Ne.symm h.1)]
  simp only [List.filterMap_cons,e,iY ms n u l h.2]
theorem iZ:∀ {ns:List Str} {us:List Value},ns.Nodup→us.length=ns.length→(ns.filterMap fun n=>((ns.zip us).lookup n).map (n,·))=ns.zip us
 | [],_,_,_=>by simp
 | n::ns,[],_,h=>by simp at h
 | n::ns,u::us,hn,h=>by
  simp only [pg] at hn
  have ih:=iZ (ns:=ns) (us:=us) hn.2 (by simpa using h)
  simp only [List.zip_cons_cons,List.filterMap_cons,List.lookup_cons_self,Option.map_some]
  rw [iY ns n u _ hn.1,ih]
theorem lY {M:Model} {A:Around} {E:Value→Shared→Prop} {s:Shared} {fd:FuncData} {vals ds:List Value} {Q:List (Str × Value)→Shared→Prop} (hp:wo fd.params=true)
  (hd:∀ (Q:Option (Array Value)→Shared→Prop),(∀ o,(o.getD #[]).toList=ds→Q o s)→wpAny M A (seqItems? fd.defaults) Q E s)
  (hnd:(fd.params.args.map (·.arg)).Nodup) (h1:vals.length≤fd.params.args.length) (h2:fd.params.args.length≤vals.length+ds.length) (h3:ds.length≤fd.params.args.length)
  (h:Q ((fd.params.args.map (·.arg)).zip (vals++ds.drop (ds.length-(fd.params.args.length-vals.length)))) s):wpAny M A (bindArgs fd ⟨vals,[]⟩) Q E s:=by
 obtain⟨nm,qn,params,body,sc,gl,clo,df,kdf,dc,pm,cd,bl⟩:=fd
 obtain⟨po,args,va,ko,kd,ka,dfs⟩:=params
 simp only [wo,bz,List.isEmpty_iff,nu] at hp
 obtain⟨⟨⟨rfl,rfl⟩,rfl⟩,rfl⟩:=hp
 dsimp only at hd hnd h1 h2 h3 h
 have hlen:(args.map (·.arg)).length=args.length:=ax _
 generalize hns:args.map (·.arg)=ns at *
 rw [← hlen] at h1 h2 h3 h
 unfold bindArgs
 dsimp only
 rw [hns]
 simp only [List.map_nil,List.nil_append,cv,iq]
 refine ab (ae ?_)
 refine ab (hd _ fun o ho=>?_)
 dsimp only
 rw [ho,aw (by simp;(exact Ar.a1 [] [_,_] (.k .v0 .v1) [[1,1]] (.k .v0 .v1) h1))]
 have hdd:ds.drop (ds.length-ns.length)=ds:=by rw [show ds.length-ns.length=0 by(exact Ar.a1 [] [_] (.e .v0 .n0) [[1,0],[1,1]] (.e .v0 .n0) (Nat.sub_eq_zero_of_le (Ar.a1 [] [_,_] (.k .v0 .v1) [[1,1]] (.k .v0 .v1) h3)))];rfl
 rw [hdd,aw]
 ·refine ab (qy _ (fun n d slots=>by first | rfl | (split<;>rfl)) _ _ _ ?_)
  rw [oN hnd h1 h2 h3]
  refine ab (ae ?_)
  dsimp only
  rw [aw (by simp),iZ hnd (by rw [bx,fk];(exact Ar.sub _ _ (fun q1 p1=>(Ar.sub _ _ (fun q2 p2=>(Ar.sub _ _ (fun q3 p3=>(Ar.a3 [] [_,_,_,_,_,_] (.e (.a .v0 .v1) .v2) [[1,-1,1,-1],[1,1,-1,1]] (.e (.a .v1 .v3) .v4) (.e (.a .v3 .v5) .v4) (.e (.a .v5 .v0) .v2) p1 p2 p3)) fun q3 p3=>(Ar.a5 [] [_,_,_,_,_,_] (.e (.a .v0 .v1) .v2) [[1,0,0,0,1,0],[1,1,1,-1,0,1]] (.k .v0 .v2) (.e (.a .v1 .v3) .v4) (.e (.a .v3 .v5) .v4) (.k .v2 .v0) (.e .v5 .n0) h1 p1 p2 q3 p3))) fun q2 p2=>(Ar.sub _ _ (fun q3 p3=>(Ar.a5 [] [_,_,_,_,_,_] (.e (.a .v0 .v1) .v2) [[1,1,-1,0,1,0],[1,0,1,1,0,1]] (.k .v2 (.a .v0 .v3)) (.e (.a .v1 .v4) .v3) (.k .v3 .v5) (.e .v4 .n0) (.e (.a .v5 .v0) .v2) h2 p1 q2 p2 p3)) fun q3 p3=>(Ar.a6 [] [_,_,_,_,_,_] (.e (.a .v0 .v1) .v2) [[1,1,0,-1,0,1,0],[1,0,1,1,1,0,1]] (.k .v2 (.a .v0 .v3)) (.k .v0 .v2) (.e (.a .v1 .v4) .v3) (.k .v3 .v5) (.e .v4 .n0) (.e .v5 .n0) h2 h1 p1 q2 p2 p3)))) fun q1 p1=>(Ar.sub _ _ (fun q2 p2=>(Ar.sub _ _ (fun q3 p3=>(Ar.a5 [] [_,_,_,_,_,_] (.e (.a .v0 .v1) .v2) [[1,0,1,0,1,-1],[1,1,0,1,0,0]] (.k .v0 .v2) (.k .v3 .v4) (.e .v1 .n0) (.e (.a .v4 .v5) .v3) (.e (.a .v5 .v0) .v2) h1 q1 p1 p2 p3)) fun q3 p3=>(Ar.a3 [] [_,_,_] (.e (.a .v0 .v1) .v2) [[1,0,0,1],[1,1,1,0]] (.k .v0 .v2) (.e .v1 .n0) (.k .v2 .v0) h1 p1 q3))) fun q2 p2=>(Ar.a5 [] [_,_,_,_,_] (.e (.a .v0 .v1) .v2) [[1,1,0,1,0,1],[1,0,1,0,1,0]] (.k .v2 (.a .v0 .v3)) (.k .v0 .v2) (.k .v3 .v4) (.e .v1 .n0) (.e .v4 .n0) h2 h1 q1 p1 p2))))]
  exact ae h
 ·simp only [dw,Bool.not_eq_false,List.isEmpty_iff,List.filter_eq_nil_iff]
  intro n hn hq
  have hm:n∈(ns.zip vals).map (·.1):=by
   have e0:ns.zip vals=(ns.take vals.length).zip vals:=by
    have:=List.zip_append (l₁:=ns.take vals.length) (r₁:=ns.drop vals.length) (l₂:=vals) (r₂:=[]) (by rw [dq];(exact(Ar.jr _ _).2.2.elim (fun q1=>(Ar.a2 [] [_,_] (.e .v0 .v1) [[1,0,1],[1,1,0]] (.k .v0 .v1) (.k .v1 .v0) (Ar.jr _ _).1 q1)) fun q1=>(Ar.a3 [] [_,_,_] (.e .v0 .v1) [[1,1,0,1],[1,0,1,0]] (.k .v1 .v2) (.k .v0 .v1) (.k .v2 .v0) h1 (Ar.jr _ _).1 q1)))
    simpa using this
   rw [e0,List.map_fst_zip (by rw [dq];(exact Ar.a1 [] [_,_] (.k .v0 .v1) [[1,1]] (.k .v0 .v1) (Ar.jr _ _).1))]
   rw [List.mem_take_iff_getElem] at hn ⊢
   obtain⟨i,hi,e⟩:=hn
   exact⟨i,by(first | exact(Ar.jr _ _).2.2.elim (fun q1=>(Ar.a5 [] [_,_,_,_,_,_,_] (.l .v0 .v1) [[1,1,1,1,1,1]] (.k .v2 (.a .v3 .v4)) (.l .v0 .v5) (.k .v5 .v6) (.e (.a .v6 .v4) .v2) (.k .v3 .v1) h2 hi (Ar.jr _ _).1 (aa (Ar.a1 [] [_,_] (.k .v0 .v1) [[1,1]] (.k .v0 .v1) h3)) q1)) fun q1=>(Ar.a3 [] [_,_,_,_] (.l .v0 .v1) [[1,1,1,1]] (.l .v0 .v2) (.k .v2 .v3) (.k .v3 .v1) hi (Ar.jr _ _).2.1 q1) | omega),e⟩
  have hm':=pa hm
  rw [nu] at hq
  rw [hq] at hm'
  cases hm'
end MP
end
section
namespace MP
open PySem PyProof.Rows
noncomputable def envX (env:Env):List Addr:=env.locals::env.cells.map (·.2)
inductive FlR (G:Stc) (h:Heap):Fl→Flow→Prop
 | next:FlR G h .next .next
 | brk:FlR G h .brk .brk
 | cont:FlR G h .cont .cont
 | ret {v:V} {w:Value}:VR G h v w→FlR G h (.ret v) (.ret w)
theorem FlR.mono {G:Stc} {h h':Heap} (hk:fc h h') {fl:Fl} {f:Flow} (x:FlR G h fl f):FlR G h' fl f:=by
 cases x with
 | next=>exact .next
 | brk=>exact .brk
 | cont=>exact .cont
 | ret v=>exact .ret (v.mono hk)
inductive jx (G:Stc) (env:Env) (σ:St) (s:Shared) (K:Fl→Fr→St→Prop) (f:Flow) (s':Shared):Prop
 | mk (fl:Fl) (ρ':Fr) (σ':St) (h':Heap) (tk:Nat):s'={ s with heap:=h',toks:=tk }→FlR G h' fl f→K fl ρ' σ'→FR G σ' env ρ' h'→Rel G σ' h'→Evo (envX env) σ s.heap σ' h'→jx G env σ s K f s'
inductive fQ (G:Stc) (env:Env) (σ:St) (s:Shared) (K:Fr→St→Prop) (s':Shared):Prop
 | mk (ρ':Fr) (σ':St) (h':Heap) (tk:Nat):s'={ s with heap:=h',toks:=tk }→K ρ' σ'→FR G σ' env ρ' h'→Rel G σ' h'→Evo (envX env) σ s.heap σ' h'→fQ G env σ s K s'
theorem mem_of_lookup {α β:Type} [BEq α] [LawfulBEq α] {l:List (α × β)} {x:α} {c:β} (h:l.lookup x=some c):(x,c)∈l:=by
 induction l with
 | nil=>simp at h
 | cons p r ih =>
  obtain⟨y,b⟩:=p
  rw [aB] at h
  split at h
  ·rename_i hy;cases h;rw [pq] at hy;subst hy;exact .head _
  ·exact .tail _ (ih h)
section
variable {G:Stc} {env:Env} {σ σ₁:St} {s:Shared} {h₁:Heap} {tk:Nat}
theorem Evo.wide {σ':St} {h h':Heap} (x:Evo [] σ h σ' h') (env:Env):Evo (envX env) σ h σ' h':=x.more fun _ h=>(nomatch h)
theorem jx.back {K:Fl→Fr→St→Prop} {f:Flow} {s':Shared} (x:Evo (envX env) σ s.heap σ₁ h₁) (l:jx G env σ₁ { s with heap:=h₁,toks:=tk } K f s'):jx G env σ s K f s':=by
 obtain⟨fl,ρ',σ',h',t,rfl,a,b,c,d,e⟩:=l
 exact⟨fl,ρ',σ',h',t,rfl,a,b,c,d,x.trans e⟩
theorem fQ.back {K:Fr→St→Prop} {s':Shared} (x:Evo (envX env) σ s.heap σ₁ h₁) (l:fQ G env σ₁ { s with heap:=h₁,toks:=tk } K s'):fQ G env σ s K s':=by
 obtain⟨ρ',σ',h',t,rfl,b,c,d,e⟩:=l
 exact⟨ρ',σ',h',t,rfl,b,c,d,x.trans e⟩
theorem Rel.frame {h h':Heap} {a:Addr} {o':Obj} (R:Rel G σ h) (hs:Heap.SameBut a h h') (hd:¬ σ.dom a) (hb:G.hb.get? a=none) (hf:fc h h'):Rel G σ h' :=
 R.same (fun b o e d=>by rw [hs.2 b (fun hb=>hd (hb▸d))];exact e) hf fun b o e=>by rw [hs.2 b (fun h=>by subst h;rw [hb] at e;cases e)];exact R.base b o e
theorem Evo.frame {h h':Heap} {a:Addr} {o':Obj} {X:List Addr} (hs:Heap.SameBut a h h') (ha:h'.get? a=some o') (hX:a∈X) (hf:fc h h'):Evo X σ h σ h' :=
 ⟨fun b o e _ hx=>by rw [hs.2 b (fun hb=>hx (hb▸hX))];exact e,hf,fun b d=>.inl d,rq hs ha⟩
theorem zh {names:List (Str × NameKind)} (nd:(names.map (·.1)).Nodup) {i j:Nat} {x:Str} {k k':NameKind} (hi:names[i]?=some (x,k)) (hj:names[j]?=some (x,k')):i=j:=by
 have h1:(names.map (·.1))[i]?=some x:=by rw [bq,hi];rfl
 have h2:(names.map (·.1))[j]?=some x:=by rw [bq,hj];rfl
 have hlt:i<(names.map (·.1)).length:=(bb.mp h1).1
 exact(List.getElem?_inj hlt nd).mp (h1.trans h2.symm)
noncomputable def rn (k:NameKind):Bool:=k==.local||k==.cell
theorem yg {A:Around} {E:Value→Shared→Prop} {X:List Addr} {ρ:Fr} {i:Nat} {x:Str} {k:NameKind} {v:V} {w:Value} {Q:Unit→Shared→Prop} (eo:gr env) (F:FR G σ env ρ s.heap) (R:Rel G σ s.heap)
  (hi:env.scope.names[i]?=some (x,k)) (hk:rn k=true) (vr:VR G s.heap v w) (hXl:env.locals∈X) (hXc:∀ c,env.cells.lookup x=some c→c∈X)
  (q:∀ h' tk,FR G σ env (upd ρ i v) h'→Rel G σ h'→Evo X σ s.heap σ h'→Q () { s with heap:=h',toks:=tk }):wpAny G.M A (storeName env x w) Q E s:=by
 have hkind:env.kindOf x=some k:=oq eo.nd hi
 cases k with
 | «local» =>
  obtain⟨m,hn,hm⟩:=F.ns
  refine wpAny_storeName_local hkind hn (fun h' hn' hs=>?_) (by rw [eo.kind];rfl)
  have hf:fc s.heap h':=jw hs F.notfrz
  obtain⟨o',es',ep',ho',hd',_⟩:=id hn'
  have R':=R.frame (o':=o') hs F.loc F.new hf
  refine q h' _ ⟨⟨_,hn',fun j y hj=>?_⟩,fun j y k' hj hk'=>?_,F.inj,F.loc,fun o e=>?_,F.new,fun p hp=>by obtain⟨o,e⟩:=F.allc p hp;exact rq hs ho' _ o e⟩ R' (Evo.frame hs ho' hXl hf)
  ·by_cases hij:j=i
   ·subst hij
    rw [hi] at hj;cases hj
    simp only [bp,sg]
    exact vr.mono hf
   ·have hxy:y≠x:=fun e=>hij (by subst e;exact zh eo.nd hj hi)
    simp only [cn hij,hxy,fy]
    exact(hm j y hj).mono hf
  ·obtain⟨c,w',h1,⟨oc,hoc,hd⟩,h3,h4,h5,h6⟩:=F.cells j y k' hj hk'
   have hij:j≠i:=fun e=>by
    subst e;rw [hi] at hj;cases hj;rcases hk' with h | h<;>cases h
   refine⟨c,w',h1,⟨oc,by rw [hs.2 c h5];exact hoc,hd⟩,?_,h4,h5,h6⟩
   rw [cn hij];exact h3.mono hf
  ·rw [ho'] at e;cases e;exact mq hd'
 | cell =>
  obtain⟨c,w₀,hc,hcell,o,h4,h5,h6⟩:=F.cells i x _ hi (.inl rfl)
  refine wpAny_storeName_cell eo.kind hkind hc hcell fun h' hc' hs=>?_
  obtain⟨oc,hoc,hd⟩:=id hcell
  obtain⟨oc',hoc',hd'⟩:=id hc'
  have hf:fc s.heap h':=jw hs fun o e=>by rw [hoc] at e;cases e;exact i1 hd
  have R':=R.frame (o':=oc') hs h4 h6 hf
  have hX:c∈X:=hXc c hc
  obtain⟨m,⟨o2,es,ep,ho2,r2⟩,hm⟩:=F.ns
  refine q h' _ ⟨⟨m,⟨o2,es,ep,by rw [hs.2 _ h5.symm];exact ho2,r2⟩,fun j y hj=>?_⟩,fun j y k' hj hk'=>?_,F.inj,F.loc,fun o e=>?_,F.new,fun p hp=>by obtain⟨o,e⟩:=F.allc p hp;exact rq hs hoc' _ o e⟩ R' (Evo.frame hs hoc' hX hf)
  ·have hij:j≠i:=fun e=>by subst e;rw [hi] at hj;cases hj
   rw [cn hij]
   exact(hm j y hj).mono hf
  ·obtain⟨c2,w2,g1,⟨oc2,goc2,gd⟩,g3,g4,g5,g6⟩:=F.cells j y k' hj hk'
   by_cases hij:j=i
   ·subst hij
    rw [hi] at hj;cases hj
    rw [hc] at g1;cases g1
    exact⟨c,some w,hc,hc',by rw [bp];exact vr.mono hf,h4,h5,h6⟩
   ·have hcc:c2≠c:=fun e=>by subst e;exact hij (F.inj j i y x k' _ c2 hj hi hk' (.inl rfl) g1 hc)
    refine⟨c2,w2,g1,⟨oc2,by rw [hs.2 _ hcc];exact goc2,gd⟩,?_,g4,g5,g6⟩
    rw [cn hij];exact g3.mono hf
  ·rw [hs.2 _ h5.symm] at e;exact F.notfrz o e
 | _=>cases hk
theorem qi {A:Around} {E:Value→Shared→Prop} {ρ:Fr} {i:Nat} {x:Str} {k:NameKind} {v:V} {w:Value} {Q:Unit→Shared→Prop} (eo:gr env) (F:FR G σ env ρ s.heap) (R:Rel G σ s.heap)
  (hi:env.scope.names[i]?=some (x,k)) (hk:rn k=true) (vr:VR G s.heap v w)
  (q:∀ h' tk,FR G σ env (upd ρ i v) h'→Rel G σ h'→Evo (envX env) σ s.heap σ h'→Q () { s with heap:=h',toks:=tk }):wpAny G.M A (storeName env x w) Q E s :=
 yg eo F R hi hk vr (.head _) (fun c hc=>.tail _ (dh.mpr ⟨(x,c),mem_of_lookup hc,rfl⟩)) q
end
end MP
end
section
namespace MP
open PySem PyProof.Rows
noncomputable def rz (G:Stc) (C:Cal) (sc:Scope) (d:Nat) (st:Stm) (x:Stmt):Prop :=
 ∀ (A:Around) (E:Value→Shared→Prop) (env:Env) (ρ:Fr) (σ:St) (K:Fl→Fr→St→Prop) (s:Shared),AOk A d→env.scope=sc→gr env→FR G σ env ρ s.heap→Rel G σ s.heap →
  wpS C st ρ σ K→wpAny G.M A (exec x env) (jx G env σ s K) E s
noncomputable def ya (G:Stc) (C:Cal) (sc:Scope) (d:Nat) (st:jf) (xs:List Stmt):Prop :=
 ∀ (A:Around) (E:Value→Shared→Prop) (env:Env) (ρ:Fr) (σ:St) (K:Fl→Fr→St→Prop) (s:Shared),AOk A d→env.scope=sc→gr env→FR G σ env ρ s.heap→Rel G σ s.heap →
  dk C st ρ σ K→wpAny G.M A (execs xs env) (jx G env σ s K) E s
section
variable {G:Stc} {C:Cal} {sc:Scope} {d:Nat}
theorem jx.here {env:Env} {σ:St} {s:Shared} {tk:Nat} {K:Fl→Fr→St→Prop} {fl:Fl} {f:Flow} {ρ:Fr} (a:FlR G s.heap fl f) (q:K fl ρ σ) (F:FR G σ env ρ s.heap) (R:Rel G σ s.heap):jx G env σ s K f { s with toks:=tk } :=
 ⟨fl,ρ,σ,s.heap,tk,rfl,a,q,F,R,Evo.refl _ _ _⟩
theorem jx.sv {env:Env} {σ:St} {s:Shared} {K:Fl→Fr→St→Prop} {fl:Fl} {f:Flow} {ρ:Fr} (a:FlR G s.heap fl f) (q:K fl ρ σ) (F:FR G σ env ρ s.heap) (R:Rel G σ s.heap):jx G env σ s K f s :=
 ⟨fl,ρ,σ,s.heap,s.toks,rfl,a,q,F,R,Evo.refl _ _ _⟩
theorem oK:ya G C sc d .nil []:=fun A E env ρ σ K s ao es eo F R h=>wpAny_execs_nil (jx.sv .next h F R)
theorem kI {st:Stm} {r:jf} {x:Stmt} {xs:List Stmt} (h₁:rz G C sc d st x) (h₂:ya G C sc d r xs):ya G C sc d (.cons st r) (x::xs):=fun A E env ρ σ K s ao es eo F R h =>
 lq (ay (h₁ A E env ρ σ _ s ao es eo F R h) (fun f s' l=>by
  obtain⟨fl,ρ',σ',h',tk,rfl,a,q,F',R',x'⟩:=l
  cases a with
  | next=>exact ay (h₂ A E env ρ' σ' K _ ao es eo F' R' q) (fun _ _ l=>jx.back x' l) fun _ _ x=>x
  | brk=>exact⟨.brk,ρ',σ',h',tk,rfl,.brk,q,F',R',x'⟩
  | cont=>exact⟨.cont,ρ',σ',h',tk,rfl,.cont,q,F',R',x'⟩
  | ret v=>exact⟨_,ρ',σ',h',tk,rfl,.ret v,q,F',R',x'⟩) fun _ _ x=>x)
theorem qR {pos:Pos}:rz G C sc d .pass (.Pass pos):=fun A E env ρ σ K s ao es eo F R h=>wpAny_Pass (jx.sv .next h F R)
theorem vB {pos:Pos}:rz G C sc d .brk (.Break pos):=fun A E env ρ σ K s ao es eo F R h=>by
 show wpAny G.M A (do standAt pos;pure Flow.brk) _ _ s
 exact ab (dt (ae (jx.sv .brk h F R)))
theorem rD {pos:Pos}:rz G C sc d .cont (.Continue pos):=fun A E env ρ σ K s ao es eo F R h=>by
 show wpAny G.M A (do standAt pos;pure Flow.cont) _ _ s
 exact ab (dt (ae (jx.sv .cont h F R)))
theorem rB {x:Stmt}:rz G C sc d .dead x:=fun A E env ρ σ K s ao es eo F R h=>h.elim
theorem oG {x:Expr}:cp G C sc d .dead x:=fun A E env ρ σ K s ao es eo F R h=>h.elim
theorem oF {x:Expr}:mr G C sc d .dead x:=fun A E env ρ σ K s ao es eo F R h=>h.elim
theorem uS {e:Ex} {x:Expr} {pos:Pos} (he:cp G C sc d e x):rz G C sc d (.ret e) (.Return (some x) pos):=fun A E env ρ σ K s ao es eo F R h =>
 wpAny_Return_some (ju (he A E env ρ σ _ s ao es eo F R h) fun v σ₁ h₁ tk w q vr r x=>⟨.ret v,ρ,σ₁,h₁,tk,rfl,.ret vr,q,F.evo x,r,x.wide env⟩)
theorem qQ {pos:Pos}:rz G C sc d (.ret .none) (.Return none pos):=fun A E env ρ σ K s ao es eo F R h =>
 wpAny_Return_none (jx.sv (.ret .none) h F R)
noncomputable def tj (x:Expr):Bool:=!(zj 8 x||(zj 9 x||zj 10 x))
theorem uy {e:Expr} (h:tj e=true) (t:Option Expr) (n:Nat) (env:Env):swapsWith e t n env=pure false:=by
 cases e<;>first | rfl | exact Bool.noConfusion h
theorem qZ {e:Ex} {x:Expr} {pos:Pos} (he:cp G C sc d e x) (hc:tj x=true):rz G C sc d (.expr e) (.Expr x pos):=fun A E env ρ σ K s ao es eo F R h =>
 wpAny_Expr (ju (he A E env ρ σ _ s ao es eo F R h) fun v σ₁ h₁ tk w q vr r x=>by
  obtain⟨rfl,q⟩:=q
  obtain rfl:=vr
  exact⟨.next,ρ,σ₁,h₁,tk,rfl,.next,q,F.evo x,r,x.wide env⟩) (by unfold interactive;rw [eo.kind];rfl) (uy hc _ _ _)
theorem rE {c:Ex} {t e:jf} {x:Expr} {xs ys:List Stmt} {pos:Pos} (hc:mr G C sc d c x) (ht:ya G C sc d t xs) (he:ya G C sc d e ys):rz G C sc d (.cond c t e) (.If x xs ys pos):=fun A E env ρ σ K s ao es eo F R h =>
 wpAny_If (eE (hc A E env ρ σ _ s ao es eo F R h) fun b σ₁ h₁ tk q r x=>by
  cases b with
  | true=>exact ay (ht A E env ρ σ₁ K _ ao es eo (F.evo x) r q) (fun _ _ l=>jx.back (x.wide env) l) fun _ _ x=>x
  | false=>exact ay (he A E env ρ σ₁ K _ ao es eo (F.evo x) r q) (fun _ _ l=>jx.back (x.wide env) l) fun _ _ x=>x)
theorem qY {c:Ex} {b:jf} {x:Expr} {xs:List Stmt} {pos:Pos} (hc:mr G C sc d c x) (hb:ya G C sc d b xs):rz G C sc d (.loop c b) (.While x xs [] pos):=fun A E env ρ σ K s ao es eo F R h=>by
 obtain⟨n,h⟩:=h
 refine wpAny_While (codeAny_whileLoop (fun n s'=>∃ ρ' σ' h' tk,s'={ s with heap:=h',toks:=tk }∧n6 (fun again ρ σ=>wpT C c ρ σ fun t σ=>if t then dk C b ρ σ (qo again K) else K .next ρ σ) n ρ' σ'∧FR G σ' env ρ' h'∧Rel G σ' h'∧Evo (envX env) σ s.heap σ' h') ?_ n ⟨ρ,σ,s.heap,s.toks,rfl,h,F,R,Evo.refl _ _ _⟩)
 rintro n s' ⟨ρ',σ',h',tk,rfl,hl,F',R',x'⟩
 cases n with
 | zero=>exact hl.elim
 | succ n =>
  refine eE (hc A _ env ρ' σ' _ { s with heap:=h',toks:=tk } ao es eo F' R' hl) fun t σ₁ h₁ tk₁ q r y=>?_
  cases t with
  | false=>exact wpAny_execs_nil ⟨.next,ρ',σ₁,h₁,tk₁,rfl,.next,q,F'.evo y,r,x'.trans (y.wide env)⟩
  | true =>
   refine ay (hb A _ env ρ' σ₁ _ _ ao es eo (F'.evo y) r q) (fun f s₂ l=>?_) fun _ _ x=>x
   obtain⟨fl,ρ₂,σ₂,h₂,tk₂,rfl,a,q₂,F₂,R₂,x₂⟩:=l
   have x3:=x'.trans ((y.wide env).trans x₂)
   cases a with
   | next=>exact⟨n,Nat.lt_succ_self n,ρ₂,σ₂,h₂,tk₂,rfl,q₂,F₂,R₂,x3⟩
   | cont=>exact⟨n,Nat.lt_succ_self n,ρ₂,σ₂,h₂,tk₂,rfl,q₂,F₂,R₂,x3⟩
   | brk=>exact⟨.next,ρ₂,σ₂,h₂,tk₂,rfl,.next,q₂,F₂,R₂,x3⟩
   | ret v=>exact⟨_,ρ₂,σ₂,h₂,tk₂,rfl,.ret v,q₂,F₂,R₂,x3⟩
end
end MP
end
section
set_option tactic.hygienic true
namespace MP
open PySem PyProof.Rows
noncomputable def LU (G:Stc) (env:Env) (σ:St) (s:Shared) (K:Fr→St→Prop):Unit→Shared→Prop:=fun _ s'=>fQ G env σ s K s'
noncomputable def aZ (G:Stc) (C:Cal) (sc:Scope) (d:Nat) (t:Tgt) (x:Expr):Prop :=
 ∀ (A:Around) (E:Value→Shared→Prop) (env:Env) (ρ:Fr) (σ:St) (K:Fr→St→Prop) (s:Shared) (v:V) (w:Value),AOk A d→env.scope=sc→gr env→FR G σ env ρ s.heap→Rel G σ s.heap→VR G s.heap v w →
  xT C t v ρ σ K→wpAny G.M A (assign x env w) (LU G env σ s K) E s
section
variable {G:Stc} {C:Cal} {sc:Scope} {d:Nat}
theorem Rel.keeps {σ:St} {h h':Heap} (R:Rel G σ h) (hk:∀ b o,h.get? b=some o→h'.get? b=some o):Rel G σ h':=R.same (fun b o e _=>hk b o e) (fun b o e _=>hk b o e) fun b o e=>hk b o (R.base b o e)
theorem Evo.keeps {σ:St} {X:List Addr} {h h':Heap} (hk:∀ b o,h.get? b=some o→h'.get? b=some o):Evo X σ h σ h':=⟨fun b o e _ _=>hk b o e,fun b o e _=>hk b o e,fun b d=>.inl d,fun b o e=>⟨o,hk b o e⟩⟩
theorem aP {h h':Heap} (x:Heap.ExtBut h.objs.size h h'):∀ b o,h.get? b=some o→h'.get? b=some o:=fun b o e=>x b o (jk (ek e)) e
theorem mL {i:Nat} {x:Str} {k:NameKind} {pos:Pos} (hi:sc.names[i]?=some (x,k)) (hk:rn k=true):aZ G C sc d (.var i) (.Name x pos):=fun A E env ρ σ K s v w ao es eo F R vr h =>
 assign_Name (qi eo F R (by rw [es];exact hi) hk vr fun h' tk F' R' x=>⟨_,σ,h',tk,rfl,h,F',R',x⟩)
theorem iM {A:Around} {E:Value→Shared→Prop} {s:Shared} {σ:St} {a dd:Addr} {f:Nat→Option V} {i:Nat} {name:Str} {u:V} {w:Value} {Q:Unit→Shared→Prop} (K:GOk G) (R:Rel G σ s.heap) (hI:σ.I a=some (dd,f)) (hn:G.attrs[i]?=some name) (vr:VR G s.heap u w)
  (k:∀ h' tk,Rel G (σ.fj a dd (upd f i u)) h'→Evo [] σ s.heap (σ.fj a dd (upd f i u)) h'→Q () { s with heap:=h',toks:=tk }):wpAny G.M A (setAttr (.ref a) name w) Q E s:=by
 obtain⟨N,mN,X,hga,hgt,hsa,hat⟩:=K.cls
 have I:=R.I a dd f hI
 obtain⟨m,hm,hv,hout⟩:=I.ns
 obtain⟨hh,g,dr,t,os⟩:=s
 obtain⟨nm,q,bs,sn,sub,col,d2,k0,k1,k2,k3,k5,hC⟩:=(X.keeps R.base).obj
 have hmem:=cu hn
 have hxC:a≠G.cS:=by
  rintro rfl
  obtain⟨_,_,_,_,_,_,_,_,_,_,_,_,hC0⟩:=X.obj
  have:=R.new _ (.inr (.inr (.inr (.inl (by rw [hI];rfl)))))
  rw [hC0] at this;cases this
 have hw:Within m G.attrs:=fun y hy=>by
  by_cases h:y∈G.attrs
  ·exact h
  ·exact absurd (hout y h) hy
 refine store_attr PySem.F.store_object hC (X.keeps R.base).ns hsa (hat name hmem).1 (hat name hmem).2 hxC (I.inst hm) (fun h' tk' I' hk hsame=>?_) hw (nk K.len (by decide))
 obtain⟨o,ho,hc,hd,hnc⟩:=I.here
 obtain⟨o₁,e₁,c₁,dt₁,sl₁,dk₁⟩:=hsame o ho
 have eo:o₁=o:=by
  obtain⟨oc,od,odt,osl⟩:=o
  obtain⟨oc₁,od₁,odt₁,osl₁⟩:=o₁
  simp only at c₁ dt₁ sl₁ hd
  subst c₁;subst dt₁;subst sl₁
  have:=dk₁ dd hd
  simp only at this
  rw [hd,this]
 subst eo
 have hns':h'.Ns1 dd (fun y=>if y=name then some w else m y):=by
  obtain⟨o',e',_,_,hd'⟩:=I'
  obtain rfl:=af (e₁.symm.trans e')
  rcases hd' with ⟨hn0,_⟩ | ⟨d',hd',_,hns'⟩
  ·rw [hd] at hn0;cases hn0
  ·obtain rfl:=af (hd.symm.trans hd');exact hns'
 have at':At dd hh h':=by
  obtain⟨od,es,ep,hod,hdd,_⟩:=hm
  obtain⟨od',es',ep',hod',_⟩:=hns'
  refine⟨fun b ob hb e=>?_,⟨od',hod'⟩,fun o' e=>?_⟩
  ·by_cases hba:b=a
   ·subst hba
    rw [ho] at e;cases e;exact e₁
   ·exact hk b ob hba (fun o₀ d' e₀ ed=>by
     obtain rfl:=af (ho.symm.trans e₀);obtain rfl:=af (hd.symm.trans ed);exact hb) e
  ·obtain rfl:=af (hod.symm.trans e);exact mq hdd
 have hI':vp G h' a dd (upd f i u):=by
  refine⟨⟨_,e₁,hc,hd,hnc⟩,⟨_,hns',fun j y hj=>?_,fun y hy=>?_⟩,I.ne⟩
  ·by_cases hij:j=i
   ·subst hij
    rw [hn] at hj;cases hj
    simp only [bp,sg]
    exact vr.mono at'.frz
   ·have hxy:y≠name:=fun e=>by
     subst e
     have hlt:j<G.attrs.length:=(bb.mp hj).1
     exact hij ((List.getElem?_inj hlt K.nd).mp (hj.trans hn.symm))
    simp only [cn hij,hxy,fy]
    exact(hv j y hj).mono at'.frz
  ·have:y≠name:=fun e=>hy (e▸hmem)
   simp only [this,fy]
   exact hout y hy
 exact k h' tk' (R.zC hI at' hI') (Evo.zC _ hI at')
theorem qG {o:Ex} {i:Nat} {x:Expr} {name:Str} {pos:Pos} (K:GOk G) (ho:cp G C sc d o x) (hn:G.attrs[i]?=some name):aZ G C sc d (.attr o i) (.Attribute x name pos):=fun A E env ρ σ Kt s v w ao es eo F R vr h=>by
 rw [assign_Attribute]
 refine ab (bh (ju (ho A E env ρ σ _ s ao es eo F R h) fun u σ₁ h₁ tk w₁ q vr₁ r x=>?_))
 obtain⟨a,dd,f,rfl,hI,q⟩:=q
 obtain rfl:=vr₁
 refine ab (dt (ab (bh (iM (s:={ s with heap:=h₁,toks:=tk }) K r hI hn (vr.mono x.frz) fun h' tk' R' x'=>wpAny_release ?_))))
 exact⟨ρ,_,h',tk',rfl,q,(F.evo x).evo x',R',(x.trans x').wide env⟩
theorem fH {A:Around} {E:Value→Shared→Prop} {it l:Addr} {items:Array Value} (hne:l≠it):∀ (n i:Nat) (s:Shared) (Q:List Value→Shared→Prop),s.heap.IsListIter it l i→s.heap.IsList l items→i+n≤items.size →
  (∀ h',h'.IsListIter it l (i+n)→Heap.SameBut it s.heap h'→Q ((items.toList.drop i).take n) { s with heap:=h' })→wpAny G.M A (draw (.ref it) n) Q E s
 | 0,i,s,Q,hit,hl,hn,hQ=>by
  rw [draw]
  exact ae (by simpa using hQ s.heap hit (.refl ..))
 | n+1,i,s,Q,hit,hl,hn,hQ=>by
  rw [draw]
  have hx:items[i]?=some items[i]:=Array.getElem?_eq_getElem (by(exact Ar.a1 [] [_,_,_] (.l .v0 .v1) [[1,1]] (.k (.a .v0 (.a .v2 .n1)) .v1) hn))
  refine ab (wpAny_pyNext_list_item hit hl hx fun h₁ hit₁ hs₁=>?_)
  have hl₁:h₁.IsList l items:=by obtain⟨o,ho,r⟩:=hl;exact⟨o,by rw [hs₁.2 l hne];exact ho,r⟩
  refine ab (bh (fH hne n (i+1) _ _ hit₁ hl₁ (by(exact Ar.a1 [] [_,_,_] (.k (.a (.a .v0 .n1) .v1) .v2) [[1,1]] (.k (.a .v0 (.a .v1 .n1)) .v2) hn)) fun h₂ hit₂ hs₂=>ae ?_))
  have hd:items.toList.drop i=items[i]::items.toList.drop (i+1):=by
   rw [gw (by simpa using (by(exact Ar.a1 [] [_,_,_] (.l .v0 .v1) [[1,1]] (.k (.a .v0 (.a .v2 .n1)) .v1) hn):i<items.size))];simp
  have:=hQ h₂ (by rw [show i+(n+1)=i+1+n by(exact Ar.a0 [] [_,_] (.e (.a .v0 (.a .v1 .n1)) (.a (.a .v0 .n1) .v1)) [[1],[1]])];exact hit₂) (hs₁.trans hs₂)
  rw [hd,List.take_succ_cons] at this
  exact this
theorem bU {A:Around} {E:Value→Shared→Prop} {s:Shared} {t:Addr} {items:Array Value} {Q:List Value→Shared→Prop} (hh:A.handled=none) (ht:s.heap.IsList t items)
  (hQ:∀ h',Heap.ExtBut s.heap.objs.size s.heap h'→Q items.toList { s with heap:=h' }):wpAny G.M A (unpackItems (.ref t) items.size none) Q E s:=by
 have hlt:t≠s.heap.objs.size:=by obtain⟨o,ho,_⟩:=ht;exact jk (ek ho)
 unfold unpackItems
 refine ab ?_
 ·unfold notIterableAtAll
  refine ab (wpAny_specialOf ht.typeIs slot_list_iter.lookup ?_)
  refine ae ?_
  simp only [ct,fy]
  refine ab (bh (wpAny_pyIter_list ht ?_))
  have hp:(s.heap.push { cls:=.type "list_iterator",data:=.fields #[.ref t,.int 0 0] }).IsList t items:=by obtain⟨o,ho,r⟩:=ht;exact⟨o,au _ ho,r⟩
  refine ab (bh (fH hlt items.size 0 _ _ ⟨_,cg _ rfl,rfl,rfl⟩ hp (by(exact Ar.a0 [] [_] (.k (.a .n0 .v0) .v0) [[1]])) fun h₁ hit₁ hs₁=>?_))
  have hall:List.take items.size (List.drop 0 items.toList)=items.toList:=by
   rw [wd];exact List.take_of_length_le (by simp)
  rw [hall]
  rw [aw (by simp)]
  have ht₁:h₁.IsList t items:=by obtain⟨o,ho,r⟩:=hp;exact⟨o,by rw [hs₁.2 t hlt];exact ho,r⟩
  refine ab (bh (wpAny_pyNext_list_end hh hit₁ ht₁ (by simp) fun h₂ he₂=>?_))
  simp only [pv,ct,fy]
  refine ae (hQ h₂ fun b o hb e=>he₂ b o hb (hs₁.extBut b o hb (au _ e)))
noncomputable def pT (G:Stc):Prop:=∀ (A:Around) (E:Value→Shared→Prop) (s:Shared) (t:Addr) (ws:List Value) (n:Nat) (dd:Option Addr) (Q:List Value→Shared→Prop),A.handled=none→(∀ b o,G.hb.get? b=some o→s.heap.get? b=some o) →
 s.heap.get? t=some { cls:=.ref G.cM,dict:=dd,data:=.seq ws.toArray n,slots:=#[] } →
 (∀ h',Heap.ExtBut s.heap.objs.size s.heap h'→Q ws { s with heap:=h' })→wpAny G.M A (unpackItems (.ref t) ws.length none) Q E s
theorem pk {A:Around} {E:Value→Shared→Prop} {s:Shared} {σ:St} {v:V} {w:Value} {vs:List V} {Q:List Value→Shared→Prop} (U:pT G) (hh:A.handled=none) (R:Rel G σ s.heap) (vr:VR G s.heap v w) (e:uF v σ=some vs)
  (k:∀ ws h',VRs G h' vs ws→Rel G σ h'→(∀ b o,s.heap.get? b=some o→h'.get? b=some o)→Q ws { s with heap:=h' }):wpAny G.M A (unpackItems w vs.length none) Q E s:=by
 have fin:∀ ws h',VRs G s.heap vs ws→Heap.ExtBut s.heap.objs.size s.heap h'→Q ws { s with heap:=h' }:=fun ws h' r x =>
  k ws h' (r.mono fun b o e _=>aP x b o e) (R.keeps (aP x)) (aP x)
 cases v
 case lst =>
  obtain rfl:=vr
  obtain⟨ws,n,hl,hv⟩:=R.L _ _ e
  have:=bU (G:=G) (A:=A) (E:=E) (Q:=Q) hh hl.isList fun h' x=>fin ws h' hv x
  rw [bg,← hv.length] at this
  exact this
 case tup =>
  obtain⟨a,ws,n,rfl,g,r⟩:=vr
  obtain rfl:=af e
  have:=PyProof.Rows.unpackItems_tuple (prog:=G.prog) (w:=G.w) (A:=A) (E:=E) (Q:=Q) hh ⟨_,g,rfl,_,rfl⟩ fun h' x=>fin _ h' r x
  rw [bg,← r.length] at this
  exact this
 case mt =>
  obtain⟨a,ws,n,dd,rfl,g,r⟩:=vr
  obtain rfl:=af e
  have:=U A E s _ _ _ _ Q hh R.base g fun h' x=>fin _ h' r x
  rw [← r.length] at this
  exact this
 all_goals exact et e
theorem any_some {α:Type} {a:Option α} {f:α→Bool} (h:a.any f=true):∃ x,a=some x∧f x=true:=by
 cases a with
 | none=>exact Bool.noConfusion h
 | some x=>exact⟨x,rfl,h⟩
noncomputable def xg (sc:Scope) (i:Nat):Str:=(sc.names[i]?.map (·.1)).getD ""
noncomputable def kindAt (k:NameKind→Bool) (sc:Scope) (i:Nat):Bool:=sc.names[i]?.any fun y=>k y.2&&fe y.1
theorem ou {p:NameKind→Bool} {i:Nat} (h:kindAt p sc i=true):∃ k,sc.names[i]?=some (xg sc i,k)∧p k=true∧fe (xg sc i)=true:=by
 obtain⟨y,e,h⟩:=any_some h
 have e':xg sc i=y.1:=by unfold xg;rw [e];rfl
 exact⟨y.2,e'▸e,(band h).1,e'▸(band h).2⟩
noncomputable def lz (sc:Scope):List Nat→List Expr→List Expr
 | []=>fun _=>[]
 | i::is=>fun l=>.Name (xg sc i) (l.headD default).pos::lz sc is l.tail
noncomputable def gK (sc:Scope) (is:List Nat):Bool:=is.all (kindAt rn sc)
theorem aM {env:Env}:(is:List Nat)→(l:List Expr)→(assignEach (lz sc is l) env).length=is.length
 | [],_=>rfl
 | _::is,l=>bu (·+1) (aM is l.tail)
theorem yk {env:Env}:(is:List Nat)→(l:List Expr)→(assignEach (lz sc is l) env).findIdx? (·.1)=none
 | [],_=>rfl
 | _::is,l=>by
  have e:=yk (env:=env) is l.tail
  show List.findIdx? _ ((false,_)::assignEach (lz sc is l.tail) env)=none
  rw [List.findIdx?_cons,e];rfl
noncomputable def mM (elts:List Expr):List Str:=elts.filterMap fun x=>bif zj 23 x then some (gp x) else none
theorem uz {A:Around} {E:Value→Shared→Prop} {env:Env} {X:List Addr} (hsc:env.scope=sc) (eo:gr env) (hXl:env.locals∈X) {σ:St}:(is:List Nat)→(l:List Expr)→{vs:List V}→{ws:List Value}→{ρ:Fr}→{s:Shared}→{Q:Unit→Shared→Prop}→gK sc is=true→is.length=vs.length→(∀ y∈mM (lz sc is l),∀ c,env.cells.lookup y=some c→c∈X) →
  FR G σ env ρ s.heap→Rel G σ s.heap→VRs G s.heap vs ws→(∀ h' tk,FR G σ env (ez is vs ρ) h'→Rel G σ h'→Evo X σ s.heap σ h'→Q () { s with heap:=h',toks:=tk }) →
  wpAny G.M A (assignInOrder ((assignEach (lz sc is l) env).map (·.2)) ws) Q E s
 | [],_,_,ws,_,s,_,_,_,_,F,R,_,k=>by
  show wpAny G.M A (assignInOrder [] ws) _ E s
  exact ae (k s.heap s.toks F R (Evo.refl _ _ _))
 | _::_,_,[],_,_,_,_,_,hl,_,_,_,_,_=>nomatch hl
 | i::is,l,v::vs,_,ρ,s,Q,hn,hl,hX,F,R,⟨w,us,e,va,vr⟩,k=>by
  subst e
  obtain⟨kk,hi,hk,_⟩:=ou (band hn).1
  show wpAny G.M A (do holding us (assign (.Name (xg sc i) (l.headD default).pos) env w);assignInOrder ((assignEach (lz sc is l.tail) env).map (·.2)) us) Q E s
  refine ab (bh (assign_Name (yg eo F R (by rw [hsc];exact hi) hk va hXl (hX _ (.head _)) fun h' tk F' R' x'=>?_)))
  exact uz hsc eo hXl is l.tail (s:={ s with heap:=h',toks:=tk }) (band hn).2 (Nat.succ.inj hl) (fun y hy=>hX y (.tail _ hy)) F' R' (vr.mono x'.frz) fun h2 tk2 F2 R2 x2=>k h2 tk2 F2 R2 (x'.trans x2)
theorem kA {A:Around} {E:Value→Shared→Prop} {env:Env} (hsc:env.scope=sc) (eo:gr env) {σ:St} {is:List Nat} {l:List Expr} {vs:List V} {ws:List Value} {ρ:Fr} {s:Shared} {Q:Unit→Shared→Prop} (h1:gK sc is=true) (h2:is.length=vs.length)
  (F:FR G σ env ρ s.heap) (R:Rel G σ s.heap) (vr:VRs G s.heap vs ws) (k:∀ h' tk,FR G σ env (ez is vs ρ) h'→Rel G σ h'→Evo (envX env) σ s.heap σ h'→Q () { s with heap:=h',toks:=tk }) :
  wpAny G.M A (assignInOrder ((assignEach (lz sc is l) env).map (·.2)) ws) Q E s :=
 uz hsc eo (.head _) is l h1 h2 (fun y _ c hc=>.tail _ (dh.mpr ⟨(y,c),mem_of_lookup hc,rfl⟩)) F R vr k
theorem uG {is:List Nat} {l:List Expr} {k:Nat} {pos:Pos} (U:pT G) (hn:gK sc is=true):aZ G C sc d (.tup is) (.Tuple (lz sc is l) k pos):=fun A E env ρ σ K s v w ao es eo F R vr h=>by
 obtain⟨vs,e,hl,q⟩:=h
 rw [assign_Tuple]
 refine ab (dt ?_)
 unfold unpack
 rw [aM,yk,hl]
 refine ab (bh (pk U ao.handled R vr e fun ws h' vrs R' hk=>?_))
 refine kA es eo hn hl (F.evo (Evo.keeps hk)) R' vrs fun h2 tk2 F2 R2 x2=>?_
 exact⟨_,σ,h2,tk2,rfl,q,F2,R2,(Evo.keeps hk).trans x2⟩
theorem uH {o i:Ex} {x y:Expr} {pos:Pos} (ho:cp G C sc d o x) (hi:cp G C sc d i y):aZ G C sc d (.sub o i) (.Subscript x y pos):=fun A E env ρ σ K s v w ao es eo F R vr h=>by
 rw [arm_assign_Subscript]
 refine ab (bh (ju (ho A E env ρ σ _ s ao es eo F R h) fun u σ₁ h₁ tk w₁ q vr₁ r x=>?_))
 refine ab (bh (ju (hi A E env ρ σ₁ _ { s with heap:=h₁,toks:=tk } ao es eo (F.evo x) r q) fun j σ₂ h₂ tk₂ w₂ q₂ vr₂ r₂ x₂=>?_))
 refine ab (dt (ab (bh ?_)))
 have hvw:VR G h₂ v w:=(vr.mono x.frz).mono x₂.frz
 obtain⟨a,rfl,es',kk,e,hkey,hz,q₂⟩:=zg (v:=u) q₂
 obtain rfl:=vr₁
 obtain⟨ds,hd,hv⟩:=r₂.D _ _ e
 refine wpAny_setItem_pairs (s:={ s with heap:=h₂,toks:=tk₂ }) (key_is hkey vr₂) hd (fun h' hd' hs'=>wpAny_release ?_) (by rw [← hv.length];exact jt (by(exact Ar.a1 [] [_,_] (.k .v0 .v1) [[1,1]] (.l .v0 .v1) hz)))
 obtain⟨R',x'⟩:=AN (s:={ s with heap:=h₂,toks:=tk₂ }) r₂ e hs' hd' (hv.put hvw) (nk (bC _ _ _) (by(exact Ar.a1 [] [_,_] (.k (.a .v0 .n1) .v1) [[1,1]] (.l .v0 .v1) hz)))
 exact⟨ρ,_,h',_,rfl,q₂,((F.evo x).evo x₂).evo x',R',((x.trans x₂).trans x').wide env⟩
end
end MP
end
section
set_option tactic.hygienic true
namespace MP
open PySem PyProof.Rows
noncomputable def qd (sc:Scope) (ts:List Expr):List Str:=ts.filterMap fun
 | .Name id pos=>if sc.names.lookup id==some .local&&pos.line==(ts.head?.map (·.pos.line)).getD 0 then some id else none
 | _=>none
noncomputable def CF (x:Expr):Option (Option (List Expr)):=bif zj 25 x then some (some (kids x)) else bif zj 24 x then none else some none
noncomputable def tgK:List Expr→Option (Option (List Expr))
 | []=>some none
 | x::r=>bif r.isEmpty then CF x else some none
noncomputable def tupK (x:Expr):Option (List Expr):=bif zj 25 x then some (kids x) else none
noncomputable def AR (sc:Scope) (ts vs:List Expr):Option (Option (List Str)) :=
 bif !(ts.length==2||ts.length==3)||vs.length != ts.length then some none
 else bif vs.any isStar then some none
 else bif (qd sc ts).length != ts.length||(qd sc ts).eraseDups.length != (qd sc ts).length then some none
 else bif vs.all (foldedForSure 8) then some none
 else bif vs.all (constantsAlone 8) then none
 else some (some (qd sc ts))
noncomputable def swp (sc:Scope) (targets:List Expr) (value:Expr):Option (Option (List Str)) :=
 (tgK targets).bind fun o=>o.elim (some none) fun ts=>(tupK value).elim (some none) (AR sc ts)
theorem qI {targets:List Expr} (h:tgK targets=some none) (value:Expr) (env:Env):swappedStores targets value env=pure none:=by
 cases targets with
 | nil=>rfl
 | cons x r =>
  cases r with
  | nil=>cases x<;>first | rfl | exact et (af h).symm | exact et h
  | cons y r=>cases x<;>rfl
theorem qH {targets:List Expr} {ts:List Expr} (h:tgK targets=some (some ts)):∃ k p,targets=[.Tuple ts k p]:=by
 cases targets with
 | nil=>exact et (af h)
 | cons x r =>
  cases r with
  | nil =>
   cases x
   case Tuple=>obtain rfl:=af (af h);exact⟨_,_,rfl⟩
   all_goals first | exact et (af h) | exact et h
  | cons y r=>exact et (af h)
theorem o8 {value:Expr} (h:tupK value=none) (ts:List Expr) (k:Nat) (p:Pos) (env:Env):swappedStores [.Tuple ts k p] value env=pure none:=by
 cases value<;>first | rfl | exact et h.symm
theorem o7 {value:Expr} {vs:List Expr} (h:tupK value=some vs):∃ k p,value=.Tuple vs k p:=by
 cases value
 case Tuple=>obtain rfl:=af h;exact⟨_,_,rfl⟩
 all_goals exact et h
theorem zr {α:Type} {b:Bool} {x y:Option (Option α)} {r:Option α} {t u:Sem (Option α)} (h:(bif b then x else y)=some r) (h1:x=some r→t=pure r) (h2:y=some r→u=pure r):(if b=true then t else u)=pure r:=by
 cases b with
 | true=>exact h1 h
 | false=>exact h2 h
theorem gA {sc:Scope} {targets:List Expr} {value:Expr} {r:Option (List Str)} {env:Env} (h:swp sc targets value=some r) (hs:env.scope=sc) (hk:env.blockKind=.function):swappedStores targets value env=pure r:=by
 obtain⟨o,h1,h⟩:=cq.mp h
 cases o with
 | none=>obtain rfl:=af h;exact qI h1 value env
 | some ts =>
  obtain⟨k,p,rfl⟩:=qH h1
  have h:(tupK value).elim (some none) (AR sc ts)=some r:=h
  cases h2:tupK value with
  | none=>rw [h2] at h;obtain rfl:=af h;exact o8 h2 ts k p env
  | some vs =>
   rw [h2] at h
   obtain⟨k',p',rfl⟩:=o7 h2
   subst hs
   have e:swappedStores [.Tuple ts k p] (.Tuple vs k' p') env=(if (!(ts.length==2||ts.length==3)||vs.length != ts.length||env.blockKind != .function)=true then pure none
    else if vs.any isStar=true then pure none
    else if ((qd env.scope ts).length != ts.length||(qd env.scope ts).eraseDups.length != (qd env.scope ts).length)=true then pure none
    else if vs.all (foldedForSure 8)=true then pure none
    else if vs.all (constantsAlone 8)=true then (do unsupported "assign.tuple-of-constant-expressions:order-of-the-stores";pure (some (qd env.scope ts)))
    else pure (some (qd env.scope ts))):=rfl
   rw [e,hk,show(ScopeKind.function != ScopeKind.function)=false from rfl,yv]
   exact zr h (fun h=>af h▸rfl) fun h=>zr h (fun h=>af h▸rfl) fun h=>zr h (fun h=>af h▸rfl) fun h=>zr h (fun h=>af h▸rfl) fun h=>zr h (fun h=>et h) fun h=>af h▸rfl
theorem pj {value:Expr} (h:tj value=true) (targets:List Expr) (n:Nat) (env:Env):swapsWithSole targets value n env=pure false:=by
 cases targets with
 | nil=>rfl
 | cons t r =>
  cases r with
  | nil=>exact uy h _ _ _
  | cons=>rfl
section
variable {G:Stc} {C:Cal} {sc:Scope} {d:Nat}
inductive xf (G:Stc) (C:Cal) (sc:Scope) (d:Nat):List Tgt→List Expr→Prop
 | nil:xf G C sc d [] []
 | cons {t:Tgt} {x:Expr} {ts:List Tgt} {xs:List Expr}:aZ G C sc d t x→(∀ env,assignEach (x::xs) env=(false,assign x env)::assignEach xs env)→xf G C sc d ts xs→xf G C sc d (t::ts) (x::xs)
theorem mS {A:Around} {E:Value→Shared→Prop} {env:Env} (ao:AOk A d) (es:env.scope=sc) (eo:gr env) {ts:List Tgt} {xs:List Expr} (ht:xf G C sc d ts xs):∀ {ρ:Fr} {σ:St} {K:Fr→St→Prop} {s:Shared} {v:V} {w:Value},FR G σ env ρ s.heap→Rel G σ s.heap→VR G s.heap v w →
  aF C ts v ρ σ K→wpAny G.M A (assignAll w ((assignEach xs env).map (·.2))) (LU G env σ s K) E s:=by
 induction ht with
 | nil =>
  intro ρ σ K s v w F R vr h
  exact ae ⟨ρ,σ,s.heap,s.toks,rfl,h,F,R,Evo.refl _ _ _⟩
 | @cons t x ts xs hx he hr ih =>
  intro ρ σ K s v w F R vr h
  rw [he]
  have go:wpAny G.M A (holding [w] (assign x env w)>>=fun _=>assignAll w ((assignEach xs env).map (·.2))) (LU G env σ s K) E s:=by
   refine ab (bh (ay (hx A E env ρ σ _ s v w ao es eo F R vr h) (fun _ s' l=>?_) fun _ _ x=>x))
   obtain⟨ρ',σ',h',tk,rfl,q,F',R',x'⟩:=l
   exact ay (ih F' R' (vr.mono x'.frz) q) (fun _ _ l=>fQ.back x' l) fun _ _ x=>x
  cases hr with
  | nil =>
   show wpAny G.M A (assign x env w) (LU G env σ s K) E s
   refine ay (hx A E env ρ σ _ s v w ao es eo F R vr h) (fun _ s' l=>?_) fun _ _ x=>x
   exact l
  | cons a b c =>
   rw [b env] at go ⊢
   exact go
theorem kH {ts:List Tgt} {e:Ex} {xs:List Expr} {x:Expr} {pos:Pos} (ht:xf G C sc d ts xs) (he:cp G C sc d e x) (hc:tj x=true) (hw:swp sc xs x=some none):rz G C sc d (.assign ts e) (.Assign xs x pos):=fun A E env ρ σ K s ao es eo F R h=>by
 rw [exec_Assign]
 refine ab (dt ?_)
 rw [pj hc]
 refine ab (ae ?_)
 rw [aw (by decide)]
 refine ab (ju (he A E env ρ σ _ s ao es eo F R h) fun v σ₁ h₁ tk w q vr r x=>?_)
 rw [gA hw es (by unfold Env.blockKind;rw [eo.kind];rfl)]
 refine ab (ae ?_)
 show wpAny G.M A (do assignAll w _;pure Flow.next) _ _ _
 refine ab (ay (mS (s:={ s with heap:=h₁,toks:=tk }) ao es eo ht (F.evo x) r vr q) (fun _ s' l=>ae ?_) fun _ _ x=>x)
 obtain⟨ρ',σ',h',tk',rfl,q',F',R',x'⟩:=l
 exact⟨.next,ρ',σ',h',tk',rfl,.next,q',F',R',(x.wide env).trans x'⟩
theorem xt:∀ (xs:List Nat) (vs:List V) (x:Nat) (v:V) (ρ:Fr),xs.length=vs.length→ez (xs++[x]) (vs++[v]) ρ=upd (ez xs vs ρ) x v
 | [],[],_,_,_,_=>rfl
 | [],_::_,_,_,_,h=>absurd h.symm (aA _)
 | _::_,[],_,_,_,h=>absurd h (aA _)
 | y::xs,u::vs,x,v,ρ,h=>by
  exact xt xs vs x v _ (Nat.succ.inj h)
theorem qB {α:Type} {f:Nat→Option α} {i j:Nat} {a b:α} (h:i≠j):upd (upd f i a) j b=upd (upd f j b) i a:=by
 funext k
 unfold upd
 by_cases h1:k=j<;>by_cases h2:k=i<;>simp_all
theorem cK:∀ (xs:List Nat) (vs:List V) (x:Nat) (v:V) (ρ:Fr),x∉xs→ez xs vs (upd ρ x v)=upd (ez xs vs ρ) x v
 | [],_,_,_,_,_=>rfl
 | _::_,[],_,_,_,_=>rfl
 | y::xs,u::vs,x,v,ρ,h=>by
  show ez xs vs (upd (upd ρ x v) y u)=upd (ez xs vs (upd ρ y u)) x v
  have h:=fU h
  rw [qB h.1,cK xs vs x v _ h.2]
theorem vd:∀ (xs:List Nat) (vs:List V) (ρ:Fr),xs.length=vs.length→xs.Nodup→ez xs.reverse vs.reverse ρ=ez xs vs ρ
 | [],[],_,_,_=>rfl
 | [],_::_,_,h,_=>absurd h.symm (aA _)
 | _::_,[],_,h,_=>absurd h (aA _)
 | x::xs,v::vs,ρ,h,hn=>by
  have hn:=pg.mp hn
  have h:xs.length=vs.length:=Nat.succ.inj h
  rw [yf,yf,xt _ _ _ _ _ (by rw [List.length_reverse,List.length_reverse];exact h),vd xs vs ρ h hn.2]
  exact(cK xs vs x v ρ hn.1).symm
noncomputable def B3 (sc:Scope) (is:List Nat) (xs:List Str):Bool:=decide (xs=is.map (xg sc))&&gK sc is
theorem b9 {A:Around} {E:Value→Shared→Prop} {env:Env} (hsc:env.scope=sc) (eo:gr env) {σ:St}:(is:List Nat)→{vs:List V}→{ws:List Value}→{ρ:Fr}→{s:Shared}→{Q:Unit→Shared→Prop}→gK sc is=true→is.length=vs.length →
  FR G σ env ρ s.heap→Rel G σ s.heap→VRs G s.heap vs ws→(∀ h' tk,FR G σ env (ez is vs ρ) h'→Rel G σ h'→Evo (envX env) σ s.heap σ h'→Q () { s with heap:=h',toks:=tk }) →
  wpAny G.M A (assignInOrder ((is.map (xg sc)).map fun n=>bindName env n) ws) Q E s
 | [],_,ws,_,s,_,_,_,F,R,_,k=>by
  show wpAny G.M A (assignInOrder [] ws) _ E s
  exact ae (k s.heap s.toks F R (Evo.refl _ _ _))
 | _::_,[],_,_,_,_,_,hl,_,_,_,_=>nomatch hl
 | i::is,v::vs,_,ρ,s,Q,hn,hl,F,R,⟨w,us,e,va,vr⟩,k=>by
  subst e
  obtain⟨kk,hi,hk,_⟩:=ou (band hn).1
  show wpAny G.M A (do holding us (bindName env (xg sc i) w);assignInOrder ((is.map (xg sc)).map fun n=>bindName env n) us) Q E s
  refine ab (bh (wpAny_bindName (qi eo F R (by rw [hsc];exact hi) hk va fun h' tk F' R' x'=>?_)))
  exact b9 hsc eo is (s:={ s with heap:=h',toks:=tk }) (band hn).2 (Nat.succ.inj hl) F' R' (vr.mono x'.frz) fun h2 tk2 F2 R2 x2=>k h2 tk2 F2 R2 (x'.trans x2)
theorem snd_swap {is:List Nat} {e:Ex} {xs:List Expr} {x:Expr} {pos:Pos} {names:List Str} (U:pT G) (he:cp G C sc d e x) (hc:tj x=true) (hw:swp sc xs x=some (some names)) (hn:B3 sc is names=true) (hnd:is.Nodup):rz G C sc d (.assign [.tup is] e) (.Assign xs x pos):=fun A E env ρ σ K s ao es eo F R h=>by
 rw [exec_Assign]
 refine ab (dt ?_)
 rw [pj hc]
 refine ab (ae ?_)
 rw [aw (by decide)]
 refine ab (ju (he A E env ρ σ _ s ao es eo F R h) fun v σ₁ h₁ tk w q vr r x=>?_)
 rw [gA hw es (by unfold Env.blockKind;rw [eo.kind];rfl)]
 refine ab (ae ?_)
 obtain⟨vs,ev,hl,q⟩:=q
 show wpAny G.M A (do rule "assign.swapped-stores";let items←unpackItems w names.length none;assignInOrder (names.reverse.map fun n=>bindName env n) items.reverse;pure Flow.next) _ _ _
 refine ab (wpAny_rule (ab ?_))
 obtain rfl:=az (band hn).1
 rw [ax,hl,← List.map_reverse]
 refine pk (s:={ s with heap:=h₁,toks:=tk }) U ao.handled r vr ev fun ws h' vrs R' hk=>?_
 refine ab (b9 es eo is.reverse (by unfold gK;rw [List.all_reverse];exact(band hn).2) (by simpa using hl) ((F.evo x).evo (Evo.keeps hk)) R' vrs.reverse fun h2 tk2 F2 R2 x2=>ae ?_)
 rw [vd _ _ _ hl hnd] at F2
 exact⟨.next,_,_,h2,tk2,rfl,.next,q,F2,R2,(x.wide env).trans ((Evo.keeps hk).trans x2)⟩
end
end MP
end
section
namespace MP
open PySem PyProof.Rows
theorem bI:typeLookup (.type "list") (dunderI "add")=pure (some (.builtin "list.__iadd__")):=by rw [er,dg];kernel_rfl
theorem lF:fillsInplaceSlot (.type "list") "add" (Operator.Add==.Add)=pure false:=by
 unfold fillsInplaceSlot
 show(typeLookup (.type "list") (dunderI "add")>>=fun fi=>pure (fi.isSome&&!isSeqSlot fi))=pure false
 rw [bI];first | rfl | kernel_rfl
theorem t4:seqSlot? (.type "list") (dunderI "add")=pure (some (.builtin "list.__iadd__")):=by
 unfold seqSlot?
 rw [bI];first | rfl | kernel_rfl
section
variable {G:Stc} {A:Around} {E:Value→Shared→Prop} {s:Shared} {σ:St}
theorem lE {a b:Value} {Q:Value→Shared→Prop} (ha:s.TypeIs a "list") (hb:s.TypeIs b "list") (hc:wpAny G.M A (call (.builtin "list.__iadd__") [a,b]) Q E s):wpAny G.M A (inplaceOp .Add a b) Q E s:=by
 unfold inplaceOp
 refine bh ?_
 refine ab (yr ha (ab (cx lF ?_)))
 show wpAny _ A (if false=true then _ else _) Q E s
 rw [aw kz]
 refine ab (wpAny_binaryOp1_none (nm:="add") ha hb noFill_list_add ?_)
 refine ab (cx t4 ?_)
 exact ab (wpAny_rule hc)
theorem rI {op:Bop} {a b:V} {x y:Value} {Q:V→St→Prop} (hop:op=.add∨op=.sub) (R:Rel G σ s.heap) (va:VR G s.heap a x) (vb:VR G s.heap b y) (h:xZ op a b σ Q):wpAny G.M A (inplaceOp (binOp op) x y) (ew G [] σ s Q) E s:=by
 cases a with
 | lst a =>
  obtain rfl:=va
  obtain⟨b,rfl,h⟩:=qe (v:=b) h
  obtain rfl:=vb
  rcases hop with rfl | rfl
  ·obtain⟨xs,ys,hne,e1,e2,hz,q⟩:=h
   obtain⟨us,n,hl,hv⟩:=R.L _ _ e1
   obtain⟨ts,m,hl',hv'⟩:=R.L _ _ e2
   have hlen:=hv.length;have hlen':=hv'.length
   have hz1:us.length+ts.length≤sizeLine:=by rw [← hlen,← hlen'];exact jt hz
   refine lE ⟨_,hl,rfl⟩ ⟨_,hl',rfl⟩ (a9 PySem.F.slot_list_iadd ⟨_,hl,rfl⟩ PySem.F.entry_list_iadd (PySem.F.args_list_iadd_2 _ _) (AutoSeq1.list___iadd___list_list_0 _ _ _ _ _ _ ?_ (by simp only [bg];(exact Ar.a1 [] [_,_,_] (.k .v0 .v1) [[1,1]] (.k (.a .v0 .v2) .v1) hz1)) (by simp only [bg];(exact Ar.a1 [] [_,_,_] (.k (.a .v0 .v1) (.a .v2 .n1)) [[1,1]] (.k (.a .v0 .v1) .v2) hz1))) ⟨hl,hl',?_⟩)
   ·simp only [bg,Builtin.List.listTooLong];rw [show sizeLine=16777216 from rfl] at hz1;simp;intro _;first | omega | (unfold sizeLine;(exact Ar.a1 [] [_,_] (.k (.a .v0 .v1) (.n (2^24))) [[1,1]] (.k (.a .v0 .v1) (.n 16777216)) hz1))
   ·obtain⟨r',x'⟩:=qC (f:=fun x=>x++ts.toArray) R e1 hl (hv.append hv') (by simpa using hz) (by simp)
    exact⟨.lst _,_,_,_,rfl,q,.lst _,r',x'⟩
  ·exact False.elim h
 | int a =>
  obtain⟨t,rfl⟩:=va
  obtain⟨b,rfl,h⟩:=my (v:=b) h
  obtain⟨u,rfl⟩:=vb
  rcases hop with rfl | rfl
  ·exact P.iadd_int (ew.here h (.int _ _) R)
  ·exact P.isub_int (ew.here h (.int _ _) R)
 | _=>exact False.elim h
theorem vH {C:Cal} {sc:Scope} {d:Nat} {op:Bop} {i:Nat} {e:Ex} {x:Str} {k:NameKind} {y:Expr} {pos pos':Pos} (hop:op=.add∨op=.sub) (he:cp G C sc d e y) (hi:sc.names[i]?=some (x,k)) (hk:rn k=true) (hx:fe x=true) :
  rz G C sc d (.aug i op e) (.AugAssign (.Name x pos') (binOp op) y pos):=fun A E env ρ σ K s ao es eo F R h=>by
 obtain⟨v,hv,h⟩:=h
 have hkv:isVar k=true:=by cases k<;>first | rfl | exact Bool.noConfusion hk
 refine wpAny_AugAssign_Name (zb eo F (by rw [es];exact hi) hkv hx hv fun w vr=>?_)
 refine ju (he A E env ρ σ _ s ao es eo F R h) fun u σ₁ h₁ tk w₁ q vr₁ r x=>?_
 refine ay (rI (s:={ s with heap:=h₁,toks:=tk }) hop r (vr.mono x.frz) vr₁ q) (fun w' s' l=>?_) fun _ _ x=>x
 obtain⟨v',σ',h',tk',rfl,q',vr',r',x'⟩:=l
 refine qi (s:={ s with heap:=h',toks:=tk' }) eo ((F.evo x).evo x') r' (by rw [es];exact hi) hk vr' fun h2 tk2 F2 R2 x2=>?_
 exact⟨.next,_,σ',h2,tk2,rfl,.next,q',F2,R2,((x.trans x').wide env).trans x2⟩
end
end MP
end
section
namespace MP
set_option genInjectivity false
open PySem PyProof.Rows
theorem FR.but {G:Stc} {own:List Addr} {σ:St} {env:Env} {ρ:Fr} {h h':Heap} (F:FR G σ env ρ h) (hk:∀ b o,b∉own→h.get? b=some o→h'.get? b=some o) (hf:fc h h') (hX:∀ b∈own,b∉envX env):FR G σ env ρ h':=by
 obtain⟨m,⟨o,es,ep,ho,r⟩,hm⟩:=F.ns
 have ho':=hk _ _ (fun q=>hX _ q (.head _)) ho
 refine⟨⟨m,⟨o,es,ep,ho',r⟩,fun i y e=>(hm i y e).mono hf⟩,fun i y k e hkk=>?_,F.inj,F.loc,fun o'' e=>?_,F.new,fun p hp=>?_⟩
 ·obtain⟨c,w,h1,⟨oc,hoc,hd⟩,h3,h4,h5⟩:=F.cells i y k e hkk
  exact⟨c,w,h1,⟨oc,hk _ _ (fun q=>hX _ q (.tail _ (dh.mpr ⟨(y,c),mem_of_lookup h1,rfl⟩))) hoc,hd⟩,h3.mono hf,h4,h5⟩
 ·rw [ho'] at e;cases e;exact F.notfrz o ho
 ·obtain⟨o,e⟩:=F.allc p hp
  exact⟨o,hk _ _ (fun q=>hX _ q (.tail _ (dh.mpr ⟨p,hp,rfl⟩))) e⟩
theorem Evo.but {X own:List Addr} {σ σ':St} {h₀ h h':Heap} (x:Evo X σ h₀ σ' h) (hk:∀ b o,b∉own→h.get? b=some o→h'.get? b=some o) (hnew:∀ b∈own,h₀.get? b=none):Evo X σ h₀ σ' h':=by
 have out:∀ b o,h₀.get? b=some o→b∉own:=fun b o e q=>by rw [hnew b q] at e;cases e
 exact⟨fun b o e nd nx=>hk b o (out b o e) (x.keep b o e nd nx),fun b o e f=>hk b o (out b o e) (x.frz b o e f),x.dom,fun b o e=>by obtain⟨o₁,e₁⟩:=x.there b o e;exact⟨o₁,hk b o₁ (out b o e) e₁⟩⟩
structure Itr (G:Stc) where
 it:Addr
 own:List Addr
 vs:List V
 Gd:St→Prop
 tup:Bool
 pos:Nat→Heap→Prop
 keep:∀ i h h',pos i h→(∀ b∈own,∀ o,h.get? b=some o→h'.get? b=some o)→fc h h'→pos i h'
 there:∀ i h,pos i h→∀ b∈own,∃ o,h.get? b=some o
 self:∀ (A:Around) (E:Value→Shared→Prop) (s:Shared) (i:Nat) (Q:Value→Shared→Prop),pos i s.heap→Q (.ref it) s→wpAny G.M A (pyIter (.ref it)) Q E s
 nofrz:∀ i h,pos i h→∀ b∈own,∀ o,h.get? b=some o→¬ Frz o
 next:∀ (A:Around) (E:Value→Shared→Prop) (s:Shared) (σ:St) (i:Nat) (v:V) (target:Expr) (Q:Value→Shared→Prop),A.handled=none→Rel G σ s.heap→Gd σ→pos i s.heap→vs[i]?=some v→(tup=true→∃ es k p,target=.Tuple es k p) →
  (∀ w h' tk,VR G h' v w→pos (i+1) h'→(∀ b o,b∉own→s.heap.get? b=some o→h'.get? b=some o)→Q w { s with heap:=h',toks:=tk }) →
  wpAny G.M A (pyNext (.ref it)) (fun r s₁=>match r with | none=>False | some w=>wpAny G.M A (letOwnedTupleGo target (.ref it) w) (fun _ s₂=>Q w s₂) E s₁) E s
 stop:∀ (A:Around) (E:Value→Shared→Prop) (s:Shared) (σ:St) (i:Nat) (Q:Option Value→Shared→Prop),A.handled=none→Rel G σ s.heap→Gd σ→pos i s.heap→vs[i]?=none →
  (∀ h' tk,(∀ b o,b∉own→s.heap.get? b=some o→h'.get? b=some o)→Q none { s with heap:=h',toks:=tk })→wpAny G.M A (pyNext (.ref it)) Q E s
section
variable {G:Stc} {C:Cal} {sc:Scope} {d:Nat}
theorem Itr.frz (I:Itr G) {h h':Heap} {i:Nat} (hp:I.pos i h) (hk:∀ b o,b∉I.own→h.get? b=some o→h'.get? b=some o):fc h h':=fun b o e f=>hk b o (fun hb=>I.nofrz i h hp b hb o e f) e
theorem Itr.rel (I:Itr G) {σ:St} {h h':Heap} {i:Nat} (hp:I.pos i h) (R:Rel G σ h) (hd:∀ b∈I.own,¬ σ.dom b) (hb:∀ b∈I.own,G.hb.get? b=none) (hk:∀ b o,b∉I.own→h.get? b=some o→h'.get? b=some o):Rel G σ h' :=
 R.same (fun b o e dm=>hk b o (fun q=>hd b q dm) e) (fun b o e f=>hk b o (fun q=>I.nofrz i h hp b q o e f) e) fun b o e=>hk b o (fun q=>by rw [hb b q] at e;cases e) (R.base b o e)
inductive tX (G:Stc) (σ:St) (s:Shared) (tupled:Bool) (P:List V→(St→Prop)→St→Prop) (itv:Value) (s':Shared):Prop
 | mk (I:Itr G) (σ':St) (h':Heap) (tk:Nat):s'={ s with heap:=h',toks:=tk }→itv=.ref I.it→(I.tup=true→tupled=true)→P I.vs I.Gd σ'→I.pos 0 h'→Rel G σ' h'→Evo [] σ s.heap σ' h'→(∀ b∈I.own,s.heap.get? b=none)→(∀ b∈I.own,¬ σ'.dom b)→tX G σ s tupled P itv s'
noncomputable def vo (G:Stc) (C:Cal) (sc:Scope) (d:Nat) (tupled:Bool) (it:It) (x:Expr):Prop :=
 ∀ (A:Around) (E:Value→Shared→Prop) (env:Env) (ρ:Fr) (σ:St) (P:List V→(St→Prop)→St→Prop) (s:Shared),AOk A d→env.scope=sc→gr env→FR G σ env ρ s.heap→Rel G σ s.heap →
  nZ C it ρ σ P→wpAny G.M A (eval x env) (fun v s₁=>wpAny G.M A (pyIter v) (tX G σ s tupled P) E s₁) E s
noncomputable def nT (G:Stc) (C:Cal) (sc:Scope) (d:Nat) (t:Tg) (x:Expr):Prop :=
 ∀ (A:Around) (E:Value→Shared→Prop) (env:Env) (ρ:Fr) (σ:St) (K:Fr→Prop) (s:Shared) (v:V) (w:Value),AOk A d→env.scope=sc→gr env→FR G σ env ρ s.heap→Rel G σ s.heap→VR G s.heap v w →
  mj t v σ ρ K→wpAny G.M A (assign x env w) (fun _ s'=>∃ ρ' h' tk,s'={ s with heap:=h',toks:=tk }∧K ρ'∧FR G σ env ρ' h'∧Rel G σ h'∧Evo (envX env) σ s.heap σ h') E s
noncomputable def isTup (x:Expr):Bool:=zj 25 x
noncomputable def yx (x:Expr):List Str:=bif zj 23 x then [gp x] else bif zj 25 x then mM (kids x) else []
noncomputable def rd (G:Stc) (C:Cal) (sc:Scope) (d:Nat) (t:Tg) (x:Expr):Prop :=
 ∀ (A:Around) (E:Value→Shared→Prop) (X:List Addr) (env:Env) (ρ:Fr) (σ:St) (K:Fr→Prop) (s:Shared) (v:V) (w:Value),env.locals∈X→(∀ y∈yx x,∀ c,env.cells.lookup y=some c→c∈X)→AOk A d→env.scope=sc→gr env→FR G σ env ρ s.heap→Rel G σ s.heap→VR G s.heap v w →
  mj t v σ ρ K→wpAny G.M A (assign x env w) (fun _ s'=>∃ ρ' h' tk,s'={ s with heap:=h',toks:=tk }∧K ρ'∧FR G σ env ρ' h'∧Rel G σ h'∧Evo X σ s.heap σ h') E s
theorem rd.plain {t:Tg} {x:Expr} (h:rd G C sc d t x):nT G C sc d t x:=fun A E env ρ σ K s v w=>h A E (envX env) env ρ σ K s v w (.head _) fun y _ c hc=>.tail _ (dh.mpr ⟨(y,c),mem_of_lookup hc,rfl⟩)
theorem uI {i:Nat} {x:Str} {k:NameKind} {pos:Pos} (hi:sc.names[i]?=some (x,k)) (hk:rn k=true):rd G C sc d (.var i) (.Name x pos):=fun A E X env ρ σ K s v w hXl hXc ao es eo F R vr h =>
 assign_Name (yg eo F R (by rw [es];exact hi) hk vr hXl (hXc x (.head _)) fun h' tk F' R' x=>⟨_,h',tk,rfl,h,F',R',x⟩)
theorem uJ {is:List Nat} {l:List Expr} {k:Nat} {pos:Pos} (U:pT G) (hn:gK sc is=true):rd G C sc d (.tup is) (.Tuple (lz sc is l) k pos):=fun A E X env ρ σ K s v w hXl hXc ao es eo F R vr h=>by
 obtain⟨vs,e,hl,q⟩:=h
 rw [assign_Tuple]
 refine ab (dt ?_)
 unfold unpack
 rw [aM,yk,hl]
 refine ab (bh (pk U ao.handled R vr e fun ws h' vrs R' hk=>?_))
 refine uz es eo hXl is l hn hl hXc (F.evo (Evo.keeps hk)) R' vrs fun h2 tk2 F2 R2 x2=>?_
 exact⟨_,h2,tk2,rfl,q,F2,R2,(Evo.keeps hk).trans x2⟩
inductive dY (I:Itr G) (env:Env) (σ:St) (s:Shared) (T:V→Fr→St→(Fr→St→Prop)→Prop) (K:Fr→St→Prop) (n:Nat) (s':Shared):Prop
 | mk (i:Nat) (σ':St) (ρ':Fr) (h':Heap) (tk':Nat):n=I.vs.length-i→s'={ s with heap:=h',toks:=tk' }→I.pos i h'→FR G σ' env ρ' h'→Rel G σ' h'→Evo (envX env) σ s.heap σ' h'→(∀ b∈I.own,¬ σ'.dom b)→lG (I.vs.drop i) I.Gd T ρ' σ' K→dY I env σ s T K n s'
theorem dY.next {I:Itr G} {env:Env} {σ:St} {s:Shared} {T:V→Fr→St→(Fr→St→Prop)→Prop} {K:Fr→St→Prop} {i tk:Nat} {σ':St} {ρ':Fr} {h':Heap} (lt:i<I.vs.length) (hp:I.pos (i+1) h') (F:FR G σ' env ρ' h') (R:Rel G σ' h') (x:Evo (envX env) σ s.heap σ' h') (hd:∀ b∈I.own,¬ σ'.dom b) (q:lG (I.vs.drop (i+1)) I.Gd T ρ' σ' K) :
  ∃ m,m<I.vs.length-i∧dY I env σ s T K m { s with heap:=h',toks:=tk }:=⟨_,by(exact Ar.a2 [] [_,_,_,_] (.l .v0 .v1) [[1,1,-1]] (.e (.a .v0 (.a .v2 .n1)) .v3) (.e (.a .v1 .v2) .v3) (aa (Ar.a1 [] [_,_] (.k (.a .v0 .n1) .v1) [[1,1]] (.l .v0 .v1) lt)) (aa (Ar.a1 [] [_,_] (.k .v0 .v1) [[1,1]] (.l .v0 .v1) lt))),i+1,σ',ρ',h',tk,rfl,rfl,hp,F,R,x,hd,q⟩
theorem Itr.qL {I:Itr G} {Y:List Addr} {σa σb:St} {ha hb:Heap} {j:Nat} (hX:∀ b∈I.own,b∉Y) (hp:I.pos j ha) (hd:∀ c∈I.own,¬ σa.dom c) (x:Evo Y σa ha σb hb):I.pos j hb∧∀ c∈I.own,¬ σb.dom c :=
 ⟨I.keep _ _ _ hp (fun c hc o e=>x.keep c o e (hd c hc) (hX c hc)) x.frz,fun c hc dm=>(x.dom c dm).elim (hd c hc) fun q=>by obtain⟨o,e⟩:=I.there _ _ hp c hc;rw [e] at q;cases q⟩
theorem nL {l:List V} {i:Nat} {v:V} (e:l[i]?=some v):i<l.length∧l.drop i=v::l.drop (i+1):=by
 have h:=bb.mp e
 refine⟨h.1,?_⟩
 rw [gw h.1,h.2]
theorem jF {x:Expr} (h:isTup x=true):∃ es k p,x=.Tuple es k p:=by
 cases x<;>first | exact⟨_,_,_,rfl⟩ | exact Bool.noConfusion h
theorem gJ {σ:St} {env:Env} {ρ:Fr} {h:Heap} {own:List Addr} (F:FR G σ env ρ h) (hn:∀ b∈own,h.get? b=none):∀ b∈own,b∉envX env:=fun b hb hm=>by
 rcases br.mp hm with rfl | hm
 ·obtain⟨m,⟨o,es',ep,ho,_⟩,_⟩:=F.ns
  rw [hn _ hb] at ho;cases ho
 ·obtain⟨p,hp,rfl⟩:=dh.mp hm
  obtain⟨o,ho⟩:=F.allc p hp
  rw [hn _ hb] at ho;cases ho
theorem sC {σ:St} {h:Heap} {own:List Addr} (R:Rel G σ h) (hn:∀ b∈own,h.get? b=none):∀ b∈own,G.hb.get? b=none:=fun b hb=>by
 cases hq:G.hb.get? b with
 | none=>rfl
 | some o=>have:=R.base b o hq;rw [hn b hb] at this;cases this
theorem pI {t:Tg} {b:jf} {x:Expr} {ys:List Stmt} (ht:nT G C sc d t x) (hb:ya G C sc d b ys) {A:Around} {E:Value→Shared→Prop} {env:Env} {I:Itr G} {σ₀ σ:St} {s:Shared} {ρ:Fr} {K:Fl→Fr→St→Prop} {i tk:Nat} {h:Heap} {v:V} {w:Value} (ao:AOk A d) (es:env.scope=sc) (eo:gr env)
  (hX:∀ b∈I.own,b∉envX env) (lt:i<I.vs.length) (F:FR G σ env ρ h) (R:Rel G σ h) (x0:Evo (envX env) σ₀ s.heap σ h) (hp:I.pos (i+1) h) (hd:∀ b∈I.own,¬ σ.dom b) (vr:VR G h v w)
  (hf:mj t v σ ρ fun ρ=>dk C b ρ σ (qo (fun ρ σ=>lG (I.vs.drop (i+1)) I.Gd (fun v ρ σ k=>mj t v σ ρ fun ρ=>dk C b ρ σ (qo k K)) ρ σ fun ρ σ=>K .next ρ σ) K))
  {Qp:Flow→Shared→Prop} (h1:∀ s',(∃ m,m<I.vs.length-i∧dY I env σ₀ s (fun v ρ σ k=>mj t v σ ρ fun ρ=>dk C b ρ σ (qo k K)) (fun ρ σ=>K .next ρ σ) m s')→Qp .next s'∧Qp .cont s') (h2:∀ s',jx G env σ₀ s K .next s'→Qp .brk s') (h3:∀ w s',jx G env σ₀ s K (.ret w) s'→Qp (.ret w) s') :
  wpAny G.M A (assign x env w) (fun _ s₃=>wpAny G.M A (execs ys env) Qp E s₃) E { s with heap:=h,toks:=tk }:=by
 refine ay (ht A _ env ρ σ _ { s with heap:=h,toks:=tk } v w ao es eo F R vr hf) (fun _ s₃ l=>?_) fun _ _ x=>x
 obtain⟨ρ₃,h₃,tk₃,rfl,q₃,F₃,R₃,x₃⟩:=l
 obtain⟨hp3,hnd3⟩:=I.qL hX hp hd x₃
 refine ay (hb A _ env ρ₃ σ _ _ ao es eo F₃ R₃ q₃) (fun f s₄ l=>?_) fun _ _ x=>x
 obtain⟨fl,ρ₄,σ₄,h₄,tk₄,rfl,a,q₄,F₄,R₄,x₄⟩:=l
 obtain⟨hp4,hnd4⟩:=I.qL hX hp3 hnd3 x₄
 have x5:=(x0.trans x₃).trans x₄
 cases a with
 | next=>exact(h1 _ (dY.next lt hp4 F₄ R₄ x5 hnd4 q₄)).1
 | cont=>exact(h1 _ (dY.next lt hp4 F₄ R₄ x5 hnd4 q₄)).2
 | brk=>exact h2 _ ⟨.next,ρ₄,σ₄,h₄,tk₄,rfl,.next,q₄,F₄,R₄,x5⟩
 | ret v=>exact h3 _ _ ⟨_,ρ₄,σ₄,h₄,tk₄,rfl,.ret v,q₄,F₄,R₄,x5⟩
theorem rA {t:Tg} {it:It} {b:jf} {x y:Expr} {ys:List Stmt} {pos:Pos} (ht:nT G C sc d t x) (hi:vo G C sc d (isTup x) it y) (hb:ya G C sc d b ys) (hs:∀ env v,foldedSetIterable y env v=pure v) :
  rz G C sc d (.each t it b) (.For x y ys [] pos):=fun A E env ρ σ K s ao es eo F R h=>by
 refine wpAny_For (ay (hi A E env ρ σ _ s ao es eo F R h) (fun v s₁ h₁=>ay h₁ (fun itv s₂ l=>?_) fun _ _ x=>x) fun _ _ x=>x) (hs env)
 obtain⟨I,σ₁,h₁,tk,rfl,rfl,htup,hf,hp,r,x₁,hnew,hnd⟩:=l
 have hbase:=sC R hnew
 have hX:=gJ F hnew
 refine codeAny_forLoop_any (dY I env σ s (fun v ρ σ k=>mj t v σ ρ fun ρ=>dk C b ρ σ (qo k K)) fun ρ σ=>K .next ρ σ) ?_ (I.vs.length-0)
  ⟨0,σ₁,ρ,h₁,tk,rfl,rfl,hp,F.evo x₁,r,x₁.wide env,hnd,hf⟩
 rintro n s' ⟨i,σ',ρ',h',tk',rfl,rfl,hp',F',R',x',hnd',hf'⟩
 cases hq:I.vs[i]? with
 | none =>
  rw [List.drop_eq_nil_of_le (xn.mp hq)] at hf'
  refine I.stop A _ { s with heap:=h',toks:=tk' } σ' i _ ao.handled R' hf'.1 hp' hq fun h2 tk2 hk2=>?_
  exact wpAny_execs_nil ⟨.next,ρ',σ',h2,tk2,rfl,.next,hf'.2,F'.but hk2 (I.frz hp' hk2) hX,I.rel hp' R' hnd' hbase hk2,x'.but hk2 hnew⟩
 | some v =>
  obtain⟨hlt,hcons⟩:=nL hq
  rw [hcons] at hf'
  refine ay (I.next A _ { s with heap:=h',toks:=tk' } σ' i v x ?Q ao.handled R' hf'.1 hp' hq (fun q=>jF (htup q)) ?k) (fun r s₁ hr=>?m) fun _ _ x=>x
  case m =>
   cases r with
   | none=>exact hr.elim
   | some w=>exact hr
  case k =>
   intro w h2 tk2 vr hp2 hk2
   exact pI ht hb ao es eo hX hlt (F'.but hk2 (I.frz hp' hk2) hX) (I.rel hp' R' hnd' hbase hk2) (x'.but hk2 hnew) hp2 hnd' vr hf'.2 (fun _ q=>⟨q,q⟩) (fun _ q=>q) fun _ _ q=>q
end
end MP
end
section
set_option tactic.hygienic true
namespace MP
open PySem PyProof.Rows
noncomputable def ownsTuple (n:String):Bool:=["enumerate","zip","dict_itemiterator","dict_reverseitemiterator","odict_iterator","itertools.zip_longest","itertools.pairwise"].contains n
section
variable {G:Stc} {A:Around} {E:Value→Shared→Prop} {s:Shared}
theorem qu {it:Addr} {o:Obj} {n:String} {target:Expr} {w:Value} {Q:Unit→Shared→Prop} (ho:s.heap.get? it=some o) (hc:o.cls=.type n) (hn:ownsTuple n=false) (h:Q () s):wpAny G.M A (letOwnedTupleGo target (.ref it) w) Q E s:=by
 have go:wpAny G.M A (do
   let (.ref r,.ref a):=(Value.ref it,w) | return
   let o←load r
   match o.cls,o.data with
   | .type n,.fields vs=>if (ownsTuple n&&vs[0]?==some (rawInt a))=true then do rule "for.unpacks-the-owned-tuple";updateField r 0 .none else pure ()
   | _,_=>pure ():Sem Unit) Q E s:=by
  cases w with
  | ref a =>
   refine ab (rj ho ?_)
   rw [hc]
   cases o.data with
   | fields vs =>
    show wpAny _ _ (if (ownsTuple n&&vs[0]?==some (rawInt a))=true then _ else _) _ _ _
    rw [hn,Bool.false_and,aw (by decide)]
    exact ae h
   | _=>exact ae h
  | _=>exact ae h
 cases target<;>first | exact go | exact ae h
theorem fp {o:Obj} {n:String} {vs:Array Value} (hc:o.cls=.type n) (hd:o.data=.fields vs) (h1:n ≠ "builtin_function_or_method") (h2:n ≠ "method-wrapper"):¬ Frz o:=by
 rintro (⟨_,_,_,h⟩ | ⟨h | h,_⟩ | ⟨_,h⟩)
 ·rw [hd] at h;cases h
 ·rw [hc] at h;injection h with h;exact h1 h
 ·rw [hc] at h;injection h with h;exact h2 h
 ·rw [hd] at h;cases h
noncomputable def wF (G:Stc) (it l:Addr) (hne:l≠it) (xs:List V):Itr G where
 it:=it
 own:=[it]
 vs:=xs
 Gd:=fun τ=>τ.L l=some xs
 tup:=false
 pos:=fun i h=>h.IsListIter it l i
 keep:=fun i h h' zz3 hk _=>by obtain⟨o,ho,r⟩:=zz3;exact⟨o,hk it (.head _) o ho,r⟩
 there:=fun i h zz2 b hb=>by obtain⟨o,ho,r⟩:=zz2;obtain rfl:=aq.mp hb;exact⟨o,ho⟩
 self:=fun A E s i Q hp q=>wpAny_pyIter_listiter hp q
 nofrz:=fun i h zz2 b hb o' e=>by
  obtain⟨o,ho,hc,hd⟩:=zz2
  obtain rfl:=aq.mp hb
  obtain rfl:=af (ho.symm.trans e)
  exact fp hc hd (by decide) (by decide)
 next:=fun A E s σ i v target Q hh R hg hp hv htup k=>by
  obtain⟨ws,n,hl,hvs⟩:=R.L l xs hg
  obtain⟨w,hw,vr⟩:=hvs.get hv
  refine wpAny_pyNext_list_item hp hl.isList (by simpa using hw) fun h' hp' hs=>?_
  obtain⟨o,ho,hc,hd⟩:=id hp'
  have hf:fc s.heap h':=jw hs fun o e=>by
   obtain⟨o',ho',hc',hd'⟩:=id hp
   obtain rfl:=af (ho'.symm.trans e)
   exact fp hc' hd' (by decide) (by decide)
  refine qu ho hc (by decide) (k w h' s.toks (vr.mono hf) hp' fun b o hb e=>?_)
  rw [hs.2 b (fun q=>hb (q▸.head _))];exact e
 stop:=fun A E s σ i Q hh R hg hp hv k=>by
  obtain⟨ws,n,hl,hvs⟩:=R.L l xs hg
  have hlen:=hvs.length
  refine wpAny_pyNext_list_end hh hp hl.isList (by simpa [← hlen] using hv) fun h' he=>?_
  exact k h' s.toks fun b o hb e=>he b o (fun q=>hb (q▸.head _)) e
end
end MP
end
section
namespace MP
open PySem PyProof.Rows
section
variable {G:Stc} {A:Around} {E:Value→Shared→Prop} {s:Shared} {σ:St}
theorem gn {env:Env} {x:Str} {pos:Pos} {v:Value} {Q:Value→Shared→Prop} (K:GOk G) (eo:gr env) (R:Rel G σ s.heap) (hx:env.scope.names.lookup x=some .globalImplicit) (hn:fe x=true) (hv:G.gl x=some v) (h:Q v s):wpAny G.M A (eval (.Name x pos) env) Q E s:=by
 have hx':(x==("__debug__":Str))=false:=by simp only [fe,bz,dw] at hn;exact hn.1
 refine Calls.Name_function_global eo.kind hx ?_ hx'
 obtain⟨mg,mb,hg,hb,e⟩:=K.names
 rw [e] at hv
 have hg':s.heap.Ns env.globals mg:=by rw [eo.globals];exact hg.keeps R.base
 have hb':s.heap.Ns env.builtins mb:=by rw [eo.builtins];exact hb.keeps R.base
 cases hq:mg x with
 | some u=>rw [hq] at hv;cases hv;exact Calls.loadGlobal_global hg' hq h
 | none=>rw [hq] at hv;exact Calls.loadGlobal_builtin hg' hq hb' hv h
end
end MP
end
section
namespace MP
open PySem PyProof.Rows
noncomputable def sY (G:Stc) (it:Addr) (a c:Int) (n:Nat) (xs:List V) (hl:xs.length=n) (hx:∀ i,i<n→xs[i]?=some (.int (a+c*i))):Itr G where
 it:=it
 own:=[it]
 vs:=xs
 Gd:=fun _=>True
 tup:=false
 pos:=fun i h=>i≤n∧IsRangeIter h it (a+c*i) (n-i) c
 keep:=fun i h h' zz3 hk _=>by obtain⟨hi,hp⟩:=zz3;exact⟨hi,hk it (.head _) _ hp⟩
 there:=fun i h zz2 b hb=>by obtain⟨_,hp⟩:=zz2;obtain rfl:=aq.mp hb;exact⟨_,hp⟩
 self:=fun A E s i Q hp q=>wpAny_pyIter_rangeiter hp.2 q
 nofrz:=fun i h zz2 b hb o' e=>by
  obtain⟨_,hp⟩:=zz2
  obtain rfl:=aq.mp hb
  obtain rfl:=af (hp.symm.trans e)
  exact fp rfl rfl (by decide) (by decide)
 next:=fun A E s σ i v target Q hh R hg hp hv htup k=>by
  obtain⟨hi,hp⟩:=hp
  have hlt:i<n:=by rw [← hl];exact(bb.mp hv).1
  obtain rfl:v=.int (a+c*i):=af (hv.symm.trans (hx i hlt))
  refine wpAny_pyNext_range_item hp (by(exact Ar.a1 [] [_,_] (.il .n0 (.s (.t .v0) (.t .v1))) [[1,1]] (.l .v1 .v0) hlt)) fun h' hp' hs=>?_
  have e:a+c*i+c=a+c*((i+1:Nat):Int):=by push_cast;rw [Int.mul_add];(exact Ar.a0 [_,_,_] [] (.ie (.a (.a .v0 .v1) .v2) (.a .v0 (.a .v1 (.r .v2 1)))) [[1],[1]])
  have e2:(n:Int)-i-1=n-((i+1:Nat):Int):=by(exact Ar.a0 [] [_,_] (.ie (.s (.s (.t .v0) (.t .v1)) .n1) (.s (.t .v0) (.t (.a .v1 .n1)))) [[1],[1]])
  rw [e,e2] at hp'
  refine qu hp' rfl (by decide) (k _ h' _ (.int _ _) ⟨hlt,hp'⟩ fun b o hb e=>?_)
  rw [hs.2 b (fun q=>hb (q▸.head _))];exact e
 stop:=fun A E s σ i Q hh R hg hp hv k=>by
  obtain⟨hi,hp⟩:=hp
  have hge:n≤i:=by rw [← hl];exact xn.mp hv
  refine wpAny_pyNext_range_end hh hp (by(exact Ar.a1 [] [_,_] (.ik (.s (.t .v0) (.t .v1)) .n0) [[1,1]] (.k .v0 .v1) hge)) fun h' he=>?_
  exact k h' s.toks fun b o hb e=>he b o (fun q=>hb (q▸.head _)) e
theorem iR {a b c:Int} (ha:a.natAbs<2^40) (hb:b.natAbs<2^40) (hc:0<c) (hc':c<2^40):Builtin.Range.small a b c=true:=by
 have hs:0≤Builtin.Range.rangeSize a b c∧Builtin.Range.rangeSize a b c≤2^42:=by
  unfold Builtin.Range.rangeSize
  rw [bc hc]
  split
  ·rename_i h
   have h0:0≤b-a-1:=by(exact Ar.a1 [_,_] [] (.ik .n0 (.s (.s .v0 .v1) .n1)) [[1,1]] (.il .v1 .v0) h)
   have h1:=Int.ediv_nonneg h0 (Int.le_of_lt hc)
   have h2:=Int.ediv_le_self c h0
   omega
  ·(exact⟨(Ar.a0 [] [] (.ik .n0 .n0) [[1]]),(Ar.a0 [] [] (.ik .n0 (.n (2^42))) [[1]])⟩)
 unfold Builtin.Range.small Builtin.Range.rangeFitsLong
 rw [bc hc]
 simp only [bz,ph,yc]
 refine⟨⟨⟨⟨by(exact⟨((Ar.nab _).elim (fun q1=>(Ar.a1 [_] [] (.ik (.g (.n (2^63))) .v0) [[1,1]] (.ik .n0 .v0) q1.1)) fun q1=>(Ar.a2 [_] [_] (.ik (.g (.n (2^63))) .v0) [[1,1,-1]] (.l .v0 (.n (2^40))) (.ie (.t .v0) (.g .v0)) ha q1.2)),((Ar.nab _).elim (fun q1=>(Ar.a2 [_] [_] (.il .v0 (.n (2^63))) [[1,1,-1]] (.l .v0 (.n (2^40))) (.ie (.t .v0) .v0) ha q1.2)) fun q1=>(Ar.a1 [_] [] (.il .v0 (.n (2^63))) [[1,1]] (.ik .v0 .n0) q1.1))⟩),by(exact⟨((Ar.nab _).elim (fun q1=>(Ar.a1 [_] [] (.ik (.g (.n (2^63))) .v0) [[1,1]] (.ik .n0 .v0) q1.1)) fun q1=>(Ar.a2 [_] [_] (.ik (.g (.n (2^63))) .v0) [[1,1,-1]] (.l .v0 (.n (2^40))) (.ie (.t .v0) (.g .v0)) hb q1.2)),((Ar.nab _).elim (fun q1=>(Ar.a2 [_] [_] (.il .v0 (.n (2^63))) [[1,1,-1]] (.l .v0 (.n (2^40))) (.ie (.t .v0) .v0) hb q1.2)) fun q1=>(Ar.a1 [_] [] (.il .v0 (.n (2^63))) [[1,1]] (.ik .v0 .n0) q1.1))⟩)⟩,by(exact⟨(Ar.a1 [_] [] (.ik (.g (.n (2^63))) .v0) [[1,1]] (.il .n0 .v0) hc),(Ar.a1 [_] [] (.il .v0 (.n (2^63))) [[1,1]] (.il .v0 (.n (2^40))) hc')⟩)⟩,by(exact⟨(Ar.a1 [_] [] (.ik (.g (.n (2^63))) .v0) [[1,1]] (.ik .n0 .v0) hs.1),(Ar.a1 [_] [] (.il .v0 (.n (2^63))) [[1,1]] (.ik .v0 (.n (2^42))) hs.2)⟩)⟩,.inr (by(exact⟨((Ar.nab _).elim (fun q1=>(Ar.a2 [_,_] [] (.ik (.g (.n (2^63))) (.a .v0 (.s .v1 .n1))) [[1,1,1]] (.il .n0 .v1) (.ik .n0 .v0) hc q1.1)) fun q1=>(Ar.a3 [_,_] [_] (.ik (.g (.n (2^63))) (.a .v0 (.s .v1 .n1))) [[1,1,1,-1]] (.l .v0 (.n (2^40))) (.il .n0 .v1) (.ie (.t .v0) (.g .v0)) hb hc q1.2)),((Ar.nab _).elim (fun q1=>(Ar.a3 [_,_] [_] (.il (.a .v0 (.s .v1 .n1)) (.n (2^63))) [[1,1,1,-1]] (.l .v0 (.n (2^40))) (.il .v1 (.n (2^40))) (.ie (.t .v0) .v0) hb hc' q1.2)) fun q1=>(Ar.a2 [_,_] [] (.il (.a .v0 (.s .v1 .n1)) (.n (2^63))) [[1,1,1]] (.il .v1 (.n (2^40))) (.ik .v0 .n0) hc' q1.1))⟩))⟩
theorem gH (a b c:Int) (hc:0<c):Builtin.Range.rangeSize a b c=(((b-a+c-1)/c).toNat:Int):=by
 unfold Builtin.Range.rangeSize
 rw [bc hc]
 split
 ·rename_i h
  have e:b-a+c-1=(b-a-1)+c*1:=by(exact Ar.a0 [_,_,_] [] (.ie (.s (.a (.s .v0 .v1) .v2) .n1) (.a (.s (.s .v0 .v1) .n1) (.r .v2 1))) [[1],[1]])
  rw [e,Int.add_mul_ediv_left _ _ (by(exact Ar.a1 [_] [] (.iu .v0 .n0) [[1,1]] (.il .n0 .v0) hc))]
  have:=Int.ediv_nonneg (show 0≤b-a-1 by(exact Ar.a1 [_,_] [] (.ik .n0 (.s (.s .v0 .v1) .n1)) [[1,1]] (.il .v1 .v0) h)) (Int.le_of_lt hc)
  (exact(Ar.ton _).elim (fun q1=>(Ar.a1 [_] [_] (.ie (.a .v0 .n1) (.t .v0)) [[1,1],[1,-1]] (.ie (.t .v0) (.a .v0 .n1)) q1.2)) fun q1=>(Ar.a3 [_] [_] (.ie (.a .v0 .n1) (.t .v0)) [[1,1,0,1],[1,0,1,0]] (.ik .n0 .v0) (.ik (.a .v0 .n1) .n0) (.e .v0 .n0) this q1.1 q1.2))
 ·rename_i h
  have:(b-a+c-1)/c≤0:=by
   have h1:(b-a+c-1)/c<1:=Int.ediv_lt_of_lt_mul hc (by(exact Ar.a1 [_,_,_] [] (.il (.s (.a (.s .v0 .v1) .v2) .n1) (.m 1 .v2)) [[1,1]] (.ig .v1 .v0) h))
   (exact Ar.a1 [_] [] (.ik .v0 .n0) [[1,1]] (.il .v0 .n1) h1)
  (exact(Ar.ton _).elim (fun q1=>(Ar.a2 [_] [_] (.ie .n0 (.t .v0)) [[1,1,1],[1,0,0]] (.ik .v0 .n0) (.ie (.t .v0) .v0) this q1.2)) fun q1=>(Ar.a1 [] [_] (.ie .n0 (.t .v0)) [[1,1],[1,0]] (.e .v0 .n0) q1.2))
section
variable {G:Stc} {C:Cal} {sc:Scope} {d:Nat}
theorem kh {A:Around} {E:Value→Shared→Prop} {s:Shared} {env:Env} {ρ:Fr} {σ:St} {x:Str} {T:String} {es:Exs} {args:List Expr} {p pos:Pos} {P:List V→St→Prop} {Q:Value→Shared→Prop} (K:GOk G) (hs:noStar args=true) (hes:iy G C sc d es args) (hx:sc.names.lookup x=some .globalImplicit) (hn:fe x=true) (hv:G.gl x=some (.type T))
  (ao:AOk A d) (hsc:env.scope=sc) (eo:gr env) (F:FR G σ env ρ s.heap) (R:Rel G σ s.heap) (h:nz C es ρ σ P)
  (k:∀ vs σ₁ h₁ tk ws,P vs σ₁→VRs G h₁ vs ws→Rel G σ₁ h₁→Evo [] σ s.heap σ₁ h₁→wpAny G.M A (call (.type T) ws) Q E { s with heap:=h₁,toks:=tk }) :
  wpAny G.M A (eval (.Call (.Name x p) args [] pos) env) Q E s :=
 Call_ (gn K eo R (by rw [hsc];exact hx) hn hv (nh (fg hs pos env) (ix (fg hs pos env) (eD (hes A E env ρ σ P s pos ao hsc eo F R h) k))))
theorem cH {A:Around} {E:Value→Shared→Prop} {s:Shared} {env:Env} {ρ:Fr} {σ:St} {x:Str} {id:String} {es:Exs} {args:List Expr} {p pos:Pos} {P:List V→St→Prop} {Q:Value→Shared→Prop} (K:GOk G) (hs:noStar args=true) (hes:iy G C sc d es args) (hx:sc.names.lookup x=some .globalImplicit) (hn:fe x=true) (hv:G.gl x=some (.builtin id))
  (ao:AOk A d) (hsc:env.scope=sc) (eo:gr env) (F:FR G σ env ρ s.heap) (R:Rel G σ s.heap) (h:nz C es ρ σ P)
  (k:∀ vs σ₁ h₁ tk ws,P vs σ₁→VRs G h₁ vs ws→Rel G σ₁ h₁→Evo [] σ s.heap σ₁ h₁→wpAny G.M A (call (.builtin id) ws) Q E { s with heap:=h₁,toks:=tk }) :
  wpAny G.M A (eval (.Call (.Name x p) args [] pos) env) Q E s :=
 Call_ (gn K eo R (by rw [hsc];exact hx) hn hv (lr hs hes ao hsc eo F R h fun vs σ₁ h₁ tk ws q vr r x=>k vs σ₁ h₁ tk ws q vr r x))
theorem yh {A:Around} {E:Value→Shared→Prop} {σ₀ σ:St} {s₀:Shared} {a b c:Int} {t u v:Tok} {xs:List V} {n:Nat} {P:List V→(St→Prop)→St→Prop} {tupled:Bool} {tk:Nat} {h₁:Heap} (R:Rel G σ h₁) (x:Evo [] σ₀ s₀.heap σ h₁) (ha:a.natAbs<2^40) (hb:b.natAbs<2^40) (hc:0<c) (hc':c<2^40)
  (hsz:Builtin.Range.rangeSize a b c=n) (hl:xs.length=n) (hx:∀ i,i<n→xs[i]?=some (.int (a+c*i))) (q:P xs (fun _=>True) σ) :
  wpAny G.M A (pyIter (.ref h₁.objs.size)) (tX G σ₀ s₀ tupled P) E { s₀ with heap:=h₁.push { cls:=.type "range",data:=.fields #[.int a t,.int b u,.int c v] },toks:=tk }:=by
 refine wpAny_pyIter_range (IsRange.new ..) (iR ha hb hc hc') ?_
 have hk:∀ z o,h₁.get? z=some o→((h₁.push { cls:=.type "range",data:=.fields #[.int a t,.int b u,.int c v] }).push { cls:=.type "range_iterator",data:=.fields #[rawInt a,rawInt (Builtin.Range.rangeSize a b c),rawInt c] }).get? z=some o:=fun z o e=>au _ (au _ e)
 have hsz1:(h₁.push { cls:=.type "range",data:=.fields #[.int a t,.int b u,.int c v] }).objs.size=h₁.objs.size+1:=dz ..
 have hnone:h₁.get? (h₁.objs.size+1)=none:=we (by(exact Ar.a0 [] [_] (.k .v0 (.a .v0 .n1)) [[1]]))
 refine⟨sY G (h₁.objs.size+1) a c n xs hl hx,σ,_,tk,rfl,by rw [← hsz1];rfl,fun h=>(nomatch h),q,⟨ba _,?_⟩,R.keeps hk,x.trans (Evo.keeps hk),fun z hz=>?_,fun z hz dm=>?_⟩
 ·rw [← hsz1]
  have:=cg (h₁.push { cls:=.type "range",data:=.fields #[.int a t,.int b u,.int c v] }) (o:={ cls:=.type "range_iterator",data:=.fields #[rawInt a,rawInt (Builtin.Range.rangeSize a b c),rawInt c] }) rfl
  show IsRangeIter _ _ (a+c*((0:Nat):Int)) ((n:Int)-((0:Nat):Int)) c
  rw [show a+c*((0:Nat):Int)=a by simp,show(n:Int)-((0:Nat):Int)=n by simp,← hsz]
  exact this
 ·obtain rfl:=aq.mp hz
  cases hq:s₀.heap.get? (h₁.objs.size+1) with
  | none=>rfl
  | some o=>obtain⟨o',e'⟩:=x.there _ _ hq;rw [hnone] at e';cases e'
 ·obtain rfl:=aq.mp hz
  obtain⟨o,e⟩:=R.kj dm
  rw [hnone] at e;cases e
theorem d6 (a b:Int) (n:Nat) (hn:n=(b-a).toNat):(mi a b).length=n∧∀ i,i<n→(mi a b)[i]?=some (.int (a+1*i)):=by
 subst hn
 refine⟨by simp [mi],fun i hi=>?_⟩
 unfold mi
 rw [bq,List.getElem?_range hi]
 simp
theorem lD (a b c:Int) (hc:0<c) (n:Nat) (hn:n=((b-a+c-1)/c).toNat):(aO a b c).length=n∧∀ i,i<n→(aO a b c)[i]?=some (.int (a+c*i)):=by
 subst hn
 refine⟨by simp [aO,hc],fun i hi=>?_⟩
 unfold aO
 rw [bc hc,bq,List.getElem?_range hi]
 simp
theorem wJ {tupled:Bool} {e:Ex} {x:Str} {y:Expr} {p pos:Pos} (K:GOk G) (he:cp G C sc d e y) (hst:noStar [y]=true) (hx:sc.names.lookup x=some .globalImplicit) (hn:fe x=true) (hv:G.gl x=some (.type "range")) :
  vo G C sc d tupled (.rng1 e) (.Call (.Name x p) [y] [] pos):=fun A E env ρ σ P s ao es eo F R h=>by
 have hes:iy G C sc d (.cons e .nil) [y]:=du he ip (cj hst).1
 refine kh (P:=fun vs σ=>on1 vs fun v=>∃ n:Int,v=.int n∧n.natAbs<2^40∧P (mi 0 n) (fun _=>True) σ) K hst hes hx hn hv ao es eo F R h fun vs σ₁ h₁ tk ws q vr r x₁=>?_
 obtain⟨v,rfl,n,rfl,hb,q⟩:=bD (vs:=vs) q
 obtain⟨w,rfl,t,rfl⟩:=vr.one
 obtain⟨g1,g2⟩:=d6 0 n _ rfl
 exact call_range_1 (yh r x₁ (by decide) hb (by decide) (by decide) (by rw [rangeSize_nat]) g1 g2 q)
theorem wI {tupled:Bool} {e f:Ex} {x:Str} {y z:Expr} {p pos:Pos} (K:GOk G) (he:cp G C sc d e y) (hf:cp G C sc d f z) (hst:noStar [y,z]=true) (hx:sc.names.lookup x=some .globalImplicit) (hn:fe x=true) (hv:G.gl x=some (.type "range")) :
  vo G C sc d tupled (.rng2 e f) (.Call (.Name x p) [y,z] [] pos):=fun A E env ρ σ P s ao es eo F R h=>by
 have hes:iy G C sc d (.cons e (.cons f .nil)) [y,z]:=du he (du hf ip (cj (cj hst).2).1) (cj hst).1
 refine kh (P:=fun vs σ=>on2 vs fun v u=>∃ m n:Int,v=.int m∧u=.int n∧m.natAbs<2^40∧n.natAbs<2^40∧P (mi m n) (fun _=>True) σ) K hst hes hx hn hv ao es eo F R h fun vs σ₁ h₁ tk ws q vr r x₁=>?_
 obtain⟨v,u,rfl,m,n,rfl,rfl,ha,hb,q⟩:=cO (vs:=vs) q
 obtain⟨w,w',rfl,⟨t,rfl⟩,⟨t',rfl⟩⟩:=vr.two
 obtain⟨g1,g2⟩:=d6 m n _ rfl
 exact call_range_2 (yh r x₁ ha hb (by decide) (by decide) (by rw [rangeSize_nat]) g1 g2 q)
theorem VRs.three {h:Heap} {v u z:V} {ws:List Value} (x:VRs G h [v,u,z] ws):∃ w w' w'',ws=[w,w',w'']∧VR G h v w∧VR G h u w'∧VR G h z w'':=by
 obtain⟨w,us,e,a,r⟩:=x
 obtain⟨w',w'',e',b,c⟩:=VRs.two r
 exact⟨w,w',w'',e.trans (bu (w::·) e'),a,b,c⟩
theorem wH {tupled:Bool} {e f g:Ex} {x:Str} {y z o:Expr} {p pos:Pos} (K:GOk G) (he:cp G C sc d e y) (hf:cp G C sc d f z) (hg:cp G C sc d g o) (hst:noStar [y,z,o]=true) (hx:sc.names.lookup x=some .globalImplicit) (hn:fe x=true) (hv:G.gl x=some (.type "range")) :
  vo G C sc d tupled (.rng3 e f g) (.Call (.Name x p) [y,z,o] [] pos):=fun A E env ρ σ P s ao es eo F R h=>by
 have hes:iy G C sc d (.cons e (.cons f (.cons g .nil))) [y,z,o]:=du he (du hf (du hg ip (cj (cj (cj hst).2).2).1) (cj (cj hst).2).1) (cj hst).1
 refine kh (P:=fun vs σ=>on3 vs fun v u z=>∃ m n k:Int,v=.int m∧u=.int n∧z=.int k∧m.natAbs<2^40∧n.natAbs<2^40∧0<k∧k<2^40∧P (aO m n k) (fun _=>True) σ) K hst hes hx hn hv ao es eo F R h fun vs σ₁ h₁ tk ws q vr r x₁=>?_
 obtain⟨v,u,z,rfl,m,n,k,rfl,rfl,rfl,ha,hb,hc,hc',q⟩:=y3 (vs:=vs) q
 obtain⟨w,w',w'',rfl,⟨t,rfl⟩,⟨t',rfl⟩,⟨t'',rfl⟩⟩:=vr.three
 obtain⟨g1,g2⟩:=lD m n k hc _ rfl
 exact call_range_3 (by(exact Ar.a1 [_] [] (.iu .v0 .n0) [[1,1]] (.il .n0 .v0) hc)) (yh r x₁ ha hb hc hc' (by rw [gH _ _ _ hc]) g1 g2 q) (.inl (yu (log2_lt_of (by(exact(Ar.nab _).elim (fun q1=>(Ar.a2 [_] [_] (.l .v0 (.n (2^60))) [[1,1,1]] (.il .v0 (.n (2^40))) (.ie (.t .v0) .v0) hc' q1.2)) fun q1=>(Ar.a2 [_] [_] (.l .v0 (.n (2^60))) [[1,1,1]] (.il .n0 .v0) (.ie (.t .v0) (.g .v0)) hc q1.2))))))
end
end MP
end
section
namespace MP
open PySem PyProof.Rows
noncomputable def zR (G:Stc) (it t:Addr) (xs:List V):Itr G where
 it:=it
 own:=[it]
 vs:=xs
 Gd:=fun _=>True
 tup:=false
 pos:=fun i h=>IsTupIter h it t i∧t≠it∧∃ ws n,IsT h t ws.toArray n∧VRs G h xs ws
 keep:=fun i h h' zz3 hk hf=>by obtain⟨⟨o,ho,r⟩,hne,ws,n,ht,vr⟩:=zz3;exact⟨⟨o,hk it (.head _) o ho,r⟩,hne,ws,n,hf t _ (show h.get? t=some { cls:=.type "tuple",dict:=none,data:=.seq ws.toArray n,slots:=#[] } from ht) (.inl ⟨show Value.type "tuple" ≠ .type "list" by decide,_,_,rfl⟩),vr.mono hf⟩
 there:=fun i h zz2 b hb=>by obtain⟨⟨o,ho,r⟩,_⟩:=zz2;obtain rfl:=aq.mp hb;exact⟨o,ho⟩
 self:=fun A E s i Q hp q=>wpAny_pyIter_tupleiter hp.1 q
 nofrz:=fun i h zz2 b hb o' e=>by
  obtain⟨⟨o,ho,hc,hd⟩,_⟩:=zz2
  obtain rfl:=aq.mp hb
  obtain rfl:=af (ho.symm.trans e)
  exact fp hc hd (by decide) (by decide)
 next:=fun A E s σ i v target Q hh R hg hp hv htup k=>by
  obtain⟨hp,hne,ws,n,ht,vrs⟩:=hp
  obtain⟨w,hw,vr⟩:=vrs.get hv
  refine next_tuple_item hp ⟨_,ht,rfl,n,rfl⟩ (by simpa using hw) fun h' hp' hs=>?_
  obtain⟨o,ho,hc,hd⟩:=id hp'
  have hf:fc s.heap h':=jw hs fun o e=>by
   obtain⟨o',ho',hc',hd'⟩:=id hp
   obtain rfl:=af (ho'.symm.trans e)
   exact fp hc' hd' (by decide) (by decide)
  refine qu ho hc (by decide) (k w h' s.toks (vr.mono hf) ⟨hp',hne,ws,n,by rw [IsT,hs.2 _ hne];exact ht,vrs.mono hf⟩ fun b o hb e=>?_)
  rw [hs.2 b (fun q=>hb (q▸.head _))];exact e
 stop:=fun A E s σ i Q hh R hg hp hv k=>by
  obtain⟨hp,hne,ws,n,ht,vrs⟩:=hp
  have hlen:=vrs.length
  refine next_tuple_end hh hp ⟨_,ht,rfl,n,rfl⟩ (by simpa [← hlen] using hv) fun h' he=>?_
  exact k h' s.toks fun b o hb e=>he b o (fun q=>hb (q▸.head _)) e
section
variable {G:Stc} {C:Cal} {sc:Scope} {d:Nat}
theorem zS {tupled:Bool} {e:Ex} {y:Expr} (he:cp G C sc d e y):vo G C sc d tupled (.seq e) y:=fun A E env ρ σ P s ao es eo F R h=>by
 refine ju (he A E env ρ σ _ s ao es eo F R h) fun v σ₁ h₁ tk w q vr r x=>?_
 have hnone:h₁.get? h₁.objs.size=none:=none_at_size h₁
 have hnew:s.heap.get? h₁.objs.size=none:=by
  cases hq:s.heap.get? h₁.objs.size with
  | none=>rfl
  | some o=>obtain⟨o',e'⟩:=x.there _ _ hq;rw [hnone] at e';cases e'
 have hdom:¬ σ₁.dom h₁.objs.size:=fun dm=>by obtain⟨o,e⟩:=r.kj dm;rw [hnone] at e;cases e
 cases v with
 | lst a =>
  obtain rfl:=vr
  obtain⟨xs,e,q⟩:=q
  obtain⟨ws,n,hl,hv⟩:=r.L _ _ e
  have hne:=jk (ek hl)
  refine wpAny_pyIter_list (s:={ s with heap:=h₁,toks:=tk }) hl.isList ?_
  exact⟨wF G h₁.objs.size _ hne xs,σ₁,_,tk,rfl,rfl,fun h=>(nomatch h),q,⟨_,cg _ rfl,rfl,rfl⟩,r.push _,x.trans (Evo.push _ _ _ _),fun z hz=>by obtain rfl:=aq.mp hz;exact hnew,fun z hz=>by obtain rfl:=aq.mp hz;exact hdom⟩
 | tup xs =>
  obtain⟨a,ws,n,rfl,g,vrs⟩:=vr
  have hne:=jk (ek g)
  refine iter_tuple (s:={ s with heap:=h₁,toks:=tk }) ⟨_,g,rfl,_,rfl⟩ ?_
  exact⟨zR G h₁.objs.size _ _,σ₁,_,tk,rfl,rfl,fun h=>(nomatch h),q,⟨⟨_,cg _ rfl,rfl,rfl⟩,hne,_,_,g.push _,vrs.mono fun _ _ e _=>au _ e⟩,r.push _,x.trans (Evo.push _ _ _ _),fun z hz=>by obtain rfl:=aq.mp hz;exact hnew,fun z hz=>by obtain rfl:=aq.mp hz;exact hdom⟩
 | _=>exact False.elim q
end
end MP
end
section
namespace MP
open PySem PyProof.Rows
noncomputable def wG (G:Stc) (e it l:Addr) (hle:l≠e) (hli:l≠it) (hei:e≠it) (xs:List V):Itr G where
 it:=e
 own:=[e,it]
 vs:=xs.zipIdx.map fun p=>V.tup [.int p.2,p.1]
 Gd:=fun τ=>τ.L l=some xs
 tup:=true
 pos:=fun i h=>(∃ old,IsEnum h e it i old)∧h.IsListIter it l i
 keep:=fun i h h' zz3 hk _=>by obtain⟨⟨old,he⟩,⟨o,ho,r⟩⟩:=zz3;exact⟨⟨old,hk e (.head _) _ he⟩,⟨o,hk it (.tail _ (.head _)) o ho,r⟩⟩
 there:=fun i h zz2 b hb=>by
  obtain⟨⟨old,he⟩,⟨o,ho,r⟩⟩:=zz2
  rcases br.mp hb with rfl | hb
  ·exact⟨_,he⟩
  ·obtain rfl:=aq.mp hb;exact⟨o,ho⟩
 self:=fun A E s i Q hp q=>by obtain⟨⟨old,he⟩,_⟩:=hp;exact wpAny_pyIter_enum he q
 nofrz:=fun i h zz2 b hb o' eo=>by
  obtain⟨⟨old,he⟩,⟨o,ho,hc,hd⟩⟩:=zz2
  rcases br.mp hb with rfl | hb
  ·obtain rfl:=af (he.symm.trans eo)
   exact fp rfl rfl (by decide) (by decide)
  ·obtain rfl:=aq.mp hb
   obtain rfl:=af (ho.symm.trans eo)
   exact fp hc hd (by decide) (by decide)
 next:=fun A E s σ i v target Q hh R hg hp hv htup k=>by
  obtain⟨⟨old,he⟩,hit⟩:=hp
  obtain⟨ws,n,hl,hvs⟩:=R.L l xs hg
  rw [bq,List.getElem?_zipIdx] at hv
  cases hxi:xs[i]? with
  | none=>rw [hxi] at hv;cases hv
  | some u =>
   rw [hxi] at hv
   simp only [Option.map_some,cz,ku] at hv
   subst hv
   obtain⟨w,hw,vr⟩:=hvs.get hxi
   obtain⟨es,kk,p,rfl⟩:=htup rfl
   refine wpAny_pyNext_enum_item he hit hl.isList (by simpa using hw) hei fun h' heo hit' htp hz hk=>?_
   refine wpAny_letOwnedTupleGo_enum heo fun h₂ he₂ hs₂=>?_
   have old':∀ b o,b∉[e,it]→s.heap.get? b=some o→h₂.get? b=some o:=fun b o hb eb=>by
    have hbe:b≠e:=fun q=>hb (q▸.head _)
    rw [hs₂.2 b hbe]
    exact hk b o hbe (fun q=>hb (q▸.tail _ (.head _))) eb
   have hf:fc s.heap h₂:=fun b o eb f=>old' b o (fun hb=>by
    rcases br.mp hb with rfl | hb
    ·obtain rfl:=af (he.symm.trans eb)
     exact fp rfl rfl (by decide) (by decide) f
    ·obtain rfl:=aq.mp hb
     obtain⟨o',ho',hc',hd'⟩:=hit
     obtain rfl:=af (ho'.symm.trans eb)
     exact fp hc' hd' (by decide) (by decide) f) eb
   have hne:s.heap.objs.size≠e:=fun q=>gc e (Nat.lt_of_lt_of_eq (ek he) q)
   have htp2:IsT h₂ s.heap.objs.size [Value.int i s.toks,w].toArray 0:=by
    show h₂.get? _=_
    rw [hs₂.2 _ hne];exact htp
   refine k _ h₂ _ (.tup htp2 (.cons (.int _ _) (.cons (vr.mono hf) .nil))) ⟨⟨_,by exact_mod_cast he₂⟩,?_⟩ old'
   obtain⟨o,ho,r⟩:=hit'
   exact⟨o,by rw [hs₂.2 _ hei.symm];exact ho,r⟩
 stop:=fun A E s σ i Q hh R hg hp hv k=>by
  obtain⟨⟨old,he⟩,hit⟩:=hp
  obtain⟨ws,n,hl,hvs⟩:=R.L l xs hg
  have hlen:=hvs.length
  have hx:xs[i]?=none:=by
   rw [bq,List.getElem?_zipIdx] at hv
   cases hxi:xs[i]? with
   | none=>rfl
   | some u=>rw [hxi] at hv;cases hv
  refine wpAny_pyNext_enum_end hh he hit hl.isList (by simpa [← hlen] using hx) fun h' hx'=>?_
  exact k h' s.toks fun b o hb e=>hx' b o (fun q=>hb (q▸.tail _ (.head _))) e
section
variable {G:Stc} {C:Cal} {sc:Scope} {d:Nat}
theorem wK {e:Ex} {x:Str} {y:Expr} {p pos:Pos} (K:GOk G) (he:cp G C sc d e y) (hst:noStar [y]=true) (hx:sc.names.lookup x=some .globalImplicit) (hn:fe x=true) (hv:G.gl x=some (.type "enumerate")) :
  vo G C sc d true (.enum e) (.Call (.Name x p) [y] [] pos):=fun A E env ρ σ P s ao es eo F R h=>by
 have hes:iy G C sc d (.cons e .nil) [y]:=du he ip (cj hst).1
 refine kh (P:=fun vs σ=>on1 vs fun v=>∃ (a:Addr) (xs:List V),v=.lst a∧σ.L a=some xs∧P (xs.zipIdx.map fun p:V × Nat=>V.tup [.int p.2,p.1]) (fun τ=>τ.L a=some xs) σ) K hst hes hx hn hv ao es eo F R h fun vs σ₁ h₁ tk ws q vr r x₁=>?_
 obtain⟨v,rfl,a,xs,rfl,e1,q⟩:=bD (vs:=vs) q
 obtain⟨w,rfl,rfl⟩:=vr.one
 obtain⟨us,n,hl,hvs⟩:=r.L _ _ e1
 have hlt:=ek hl
 refine call_enumerate_list (s:={ s with heap:=h₁,toks:=tk }) hl.isList fun h' hE hI hz hk=>?_
 refine wpAny_pyIter_enum (s:={ s with heap:=h',toks:=tk }) hE ?_
 have fresh:∀ z,h₁.objs.size≤z→h₁.get? z=none:=fun z hz=>we hz
 refine⟨wG G (h₁.objs.size+1) h₁.objs.size a (jk (Nat.lt_succ_of_lt hlt)) (jk hlt) (Nat.succ_ne_self _) xs,σ₁,h',tk,rfl,rfl,fun _=>rfl,q,⟨⟨_,hE⟩,hI⟩,r.keeps hk,x₁.trans (Evo.keeps hk),fun z hz=>?_,fun z hz dm=>?_⟩
 ·have hzz:h₁.objs.size≤z:=by
   rcases br.mp hz with rfl | hz
   ·(exact Ar.a0 [] [_] (.k .v0 (.a .v0 .n1)) [[1]])
   ·obtain rfl:=aq.mp hz;(exact Ar.a0 [] [_] (.k .v0 .v0) [[1]])
  cases hq:s.heap.get? z with
  | none=>rfl
  | some o=>obtain⟨o',e'⟩:=x₁.there _ _ hq;rw [fresh z hzz] at e';cases e'
 ·have hzz:h₁.objs.size≤z:=by
   rcases br.mp hz with rfl | hz
   ·(exact Ar.a0 [] [_] (.k .v0 (.a .v0 .n1)) [[1]])
   ·obtain rfl:=aq.mp hz;(exact Ar.a0 [] [_] (.k .v0 .v0) [[1]])
  obtain⟨o,e⟩:=r.kj dm
  rw [fresh z hzz] at e;cases e
end
end MP
end
section
namespace MP
open PySem PyProof.Rows
theorem fh:∀ (names:List (Str × NameKind)) (n:Nat) (acc:List (Str × Addr)),cellsFrom n names acc=cellsFrom n names []++acc
 | [],_,_=>by simp [cellsFrom]
 | (x,k)::r,n,acc=>by
  unfold cellsFrom
  split
  ·rw [fh r (n+1) ((x,n)::acc),fh r (n+1) [(x,n)]];simp
  ·exact fh r n acc
theorem rx:∀ (names:List (Str × NameKind)) (n:Nat) (x:Str) (c:Addr),(x,c)∈cellsFrom n names []→(x,NameKind.cell)∈names
 | [],_,_,_,h=>by simp [cellsFrom] at h
 | (y,k)::r,n,x,c,h=>by
  unfold cellsFrom at h
  split at h
  ·rename_i hk
   rw [fh] at h
   rcases cy.mp h with h | h
   ·exact .tail _ (rx r _ x c h)
   ·obtain⟨rfl,rfl⟩:=iz (aq.mp h)
    rw [pq] at hk;subst hk;exact .head _
  ·exact .tail _ (rx r _ x c h)
theorem ry:∀ (names:List (Str × NameKind)) (n:Nat) (x:Str),(x,NameKind.cell)∈names→∃ c,(x,c)∈cellsFrom n names []
 | [],_,_,h=>by cases h
 | (y,k)::r,n,x,h=>by
  unfold cellsFrom
  split
  ·rw [fh]
   rcases br.mp h with e | h
   ·obtain⟨rfl,_⟩:=iz e
    exact⟨n,fo _ (.head _)⟩
   ·obtain⟨c,hc⟩:=ry r (n+1) x h
    exact⟨c,fq _ hc⟩
  ·rename_i hk
   rcases br.mp h with e | h
   ·obtain⟨_,rfl⟩:=iz e;simp at hk
   ·exact ry r n x h
theorem qt {α:Type} {l:List (Str × α)} {x:Str} {c:α} (h:(x,c)∈l):∃ c',l.lookup x=some c':=by
 cases hq:l.lookup x with
 | some c'=>exact⟨c',rfl⟩
 | none=>rw [qc] at hq;have:=hq _ h;simp at this
theorem yl {α:Type} {l r:List (Str × α)} {x:Str} {c:α} (h:l.lookup x=some c):(l++r).lookup x=some c:=by
 rw [List.lookup_append,h];rfl
theorem xi {α:Type} {l r:List (Str × α)} {x:Str} (h:l.lookup x=none):(l++r).lookup x=r.lookup x:=by
 rw [List.lookup_append,h];rfl
theorem jD {names:List (Str × NameKind)} (nd:(names.map (·.1)).Nodup) {x:Str} {k k':NameKind} (h:(x,k)∈names) (h':(x,k')∈names):k=k':=by
 obtain⟨i,hi,e⟩:=e8.mp h
 obtain⟨j,hj,e'⟩:=e8.mp h'
 have h1:names[i]?=some (x,k):=by rw [cf hi,e]
 have h2:names[j]?=some (x,k'):=by rw [cf hj,e']
 have:=zh nd h1 h2
 subst this
 rw [h1] at h2;cases h2;rfl
structure tZ (G:Stc) (σ:St) (h:Heap) (names:List (Str × NameKind)) (cl:List (Str × Addr)) (ρf:Fr):Prop where
 free:∀ (i:Nat) (x:Str),names[i]?=some (x,.free)→∃ c w,cl.lookup x=some c∧h.IsCell c w∧OV G h (ρf i) w∧¬ σ.dom c∧G.hb.get? c=none
 inj:∀ (i j:Nat) (x y:Str) (c:Addr),names[i]?=some (x,.free)→names[j]?=some (y,.free)→cl.lookup x=some c→cl.lookup y=some c→i=j
 all:∀ p∈cl,∃ o,h.get? p.2=some o
 other:∀ (i:Nat) (x:Str) (k:NameKind),names[i]?=some (x,k)→k≠.free→ρf i=none
theorem dA {G:Stc} {σ:St} {h:Heap} {names:List (Str × NameKind)} {cl:List (Str × Addr)} {ρf:Fr} {env:Env} {T:String} (R:Rel G σ h) (nd:(names.map (·.1)).Nodup) (K:tZ G σ h names cl ρf)
  (hl:env.locals=h.objs.size) (hc:env.cells=cellsFrom (h.objs.size+1) names cl) (hk:∀ (i:Nat) (x:Str) (k':NameKind),env.scope.names[i]?=some (x,k')→∃ k,names[i]?=some (x,k)∧(k'=k∨(k=.free∧k'=.cell))) :
  FR G σ env ρf (pushCells (h.push { cls:=.type T,data:=.dict #[] }) names)∧(∀ b o,h.get? b=some o→(pushCells (h.push { cls:=.type T,data:=.dict #[] }) names).get? b=some o):=by
 have keep:∀ b o,h.get? b=some o→(pushCells (h.push { cls:=.type T,data:=.dict #[] }) names).get? b=some o:=fun b o e=>pushCells_keeps _ _ b o (au _ e)
 have frz:fc h (pushCells (h.push { cls:=.type T,data:=.dict #[] }) names):=fun b o e _=>keep b o e
 have ok:=cellsFrom_ok names (h.push { cls:=.type T,data:=.dict #[] }) (h.objs.size+1) [] ⟨fun _ _ hm=>(nomatch hm),List.Pairwise.nil⟩ (by rw [dz];exact aj _)
 rw [dz] at ok
 have nodom:∀ c,h.objs.size≤c→¬ σ.dom c:=fun c hc d=>by obtain⟨o,e⟩:=R.kj d;exact absurd (ek e) (nj.mpr hc)
 have nobase:∀ c,h.objs.size≤c→G.hb.get? c=none:=fun c hc=>by
  cases hq:G.hb.get? c with
  | none=>rfl
  | some o=>exact absurd (ek (R.base c o hq)) (nj.mpr hc)
 have locObj:(pushCells (h.push { cls:=.type T,data:=.dict #[] }) names).get? h.objs.size=some { cls:=.type T,data:=.dict #[] }:=pushCells_keeps _ _ _ _ (cg _ rfl)
 have cellAt:∀ (i:Nat) (x:Str),names[i]?=some (x,.cell)→∃ c,env.cells.lookup x=some c∧(x,c)∈cellsFrom (h.objs.size+1) names []:=fun i x e=>by
  obtain⟨c,hm⟩:=ry names (h.objs.size+1) x (cu e)
  obtain⟨c',hl'⟩:=qt hm
  exact⟨c',by rw [hc,fh];exact yl hl',mem_of_lookup hl'⟩
 have freeAt:∀ (i:Nat) (x:Str),names[i]?=some (x,.free)→env.cells.lookup x=cl.lookup x:=fun i x e=>by
  rw [hc,fh]
  refine xi ?_
  cases hq:(cellsFrom (h.objs.size+1) names []).lookup x with
  | none=>rfl
  | some c=>have:=jD nd (rx _ _ _ _ (mem_of_lookup hq)) (cu e);cases this
 refine⟨⟨⟨_,by rewrite [hl];exact(Heap.Ns.new h (.type T)).keeps (pushCells_keeps _ _),fun i x e=>?_⟩,fun i x k' e hk'=>?_,fun i j x y k k' c ei ej hki hkj lx ly=>?_,by rw [hl];exact nodom _ (aj _),fun o e=>?_,by rw [hl];exact nobase _ (aj _),fun p hp=>?_⟩,keep⟩
 ·obtain⟨k,e',hkk⟩:=hk i x _ e
  have:ρf i=none:=K.other i x k e' (by rcases hkk with h | ⟨_,h⟩;exact h▸(by decide);cases h)
  rw [this];trivial
 ·obtain⟨k,e',hkk⟩:=hk i x _ e
  have hk2:k=.cell∨k=.free:=by rcases hkk with h | ⟨h,_⟩;exact h▸hk';exact .inr h
  rcases hk2 with rfl | rfl
  ·obtain⟨c,hlk,hm⟩:=cellAt i x e'
   have hce:=ok.empty x c hm
   refine⟨c,none,hlk,hce.1,by rewrite [K.other i x _ e' (by decide)];trivial,nodom c (Nat.le_of_succ_le hce.2),by rewrite [hl];exact Nat.ne_of_gt (Nat.lt_of_succ_le hce.2),nobase c (Nat.le_of_succ_le hce.2)⟩
  ·obtain⟨c,w,h1,h2,h3,h4,h5⟩:=K.free i x e'
   refine⟨c,w,by rw [freeAt i x e'];exact h1,h2.keeps keep,h3.mono frz,h4,?_,h5⟩
   rw [hl];exact jk h2.lt
 ·obtain⟨k1,e1,hk1⟩:=hk i x _ ei
  obtain⟨k2,e2,hk2⟩:=hk j y _ ej
  have hk1':k1=.cell∨k1=.free:=by rcases hk1 with h | ⟨h,_⟩;exact h▸hki;exact .inr h
  have hk2':k2=.cell∨k2=.free:=by rcases hk2 with h | ⟨h,_⟩;exact h▸hkj;exact .inr h
  have low:∀ (i:Nat) (x:Str) (c:Addr),names[i]?=some (x,.free)→env.cells.lookup x=some c→c<h.objs.size:=fun i x c e l=>by
   obtain⟨c',w,h1,h2,_⟩:=K.free i x e
   rw [freeAt i x e,h1] at l;cases l;exact h2.lt
  have high:∀ (i:Nat) (x:Str) (c:Addr),names[i]?=some (x,.cell)→env.cells.lookup x=some c→h.objs.size<c∧(x,c)∈cellsFrom (h.objs.size+1) names []:=fun i x c e l=>by
   obtain⟨c',h1,h2⟩:=cellAt i x e
   rw [h1] at l;cases l
   exact⟨(ok.empty x c h2).2,h2⟩
  rcases hk1' with rfl | rfl<;>rcases hk2' with rfl | rfl
  ·obtain⟨_,m1⟩:=high i x c e1 lx
   obtain⟨_,m2⟩:=high j y c e2 ly
   have:=name_of_addr ok.apart m1 m2
   subst this
   exact zh nd e1 e2
  ·have:=(high i x c e1 lx).1;have:=low j y c e2 ly;exact absurd ‹c<h.objs.size› (nj.mpr (kx ‹h.objs.size<c›))
  ·have:=(high j y c e2 ly).1;have:=low i x c e1 lx;exact absurd ‹c<h.objs.size› (nj.mpr (kx ‹h.objs.size<c›))
  ·exact K.inj i j x y c e1 e2 (by rw [← freeAt i x e1];exact lx) (by rw [← freeAt j y e2];exact ly)
 ·rw [hl,locObj] at e;cases e;exact mq rfl
 ·rw [hc,fh] at hp
  rcases cy.mp hp with hp | hp
  ·obtain⟨⟨o,ho,_⟩,_⟩:=ok.empty p.1 p.2 hp;exact⟨o,ho⟩
  ·obtain⟨o,ho⟩:=K.all p hp;exact⟨o,keep _ _ ho⟩
section
variable {G:Stc} {A:Around} {E:Value→Shared→Prop}
theorem fO {env:Env} {σ:St} (eo:gr env) (f:Str × Value→PUnit→Sem (ForInStep PUnit)) (hf:∀ n v u,f (n,v) u=(do storeName env n v;pure (.yield ⟨⟩))) :
  ∀ (j:Nat) (ns:List Str) (vs:List V) (ws:List Value) (ρ:Fr) (s:Shared) (Q:PUnit→Shared→Prop),ns.length=ws.length→(∀ (i:Nat) (x:Str),ns[i]?=some x→∃ k,env.scope.names[j+i]?=some (x,k)∧rn k=true) →
   FR G σ env ρ s.heap→Rel G σ s.heap→VRs G s.heap vs ws →
   (∀ h' tk ρ',(∀ i,ρ' i=if i<j then ρ i else if i<j+vs.length then vs[i-j]? else ρ i)→FR G σ env ρ' h'→Rel G σ h'→Evo (envX env) σ s.heap σ h'→Q ⟨⟩ { s with heap:=h',toks:=tk }) →
   wpAny G.M A (forIn (ns.zip ws) ⟨⟩ f) Q E s
 | j,[],vs,ws,ρ,s,Q,hl,hn,F,R,vr,q=>by
  cases ws with
  | cons _ _=>simp at hl
  | nil =>
   cases vs with
   | cons _ _=>obtain⟨_,_,e,_⟩:=vr;cases e
   | nil =>
    rw [List.zip_nil_left,iq]
    refine ae (q s.heap s.toks ρ (fun i=>?_) F R (Evo.refl _ _ _))
    by_cases h:i<j
    ·simp [h]
    ·simp [h]
 | j,x::ns,vs,ws,ρ,s,Q,hl,hn,F,R,vr,q=>by
  cases vs with
  | nil=>obtain rfl:=vr;cases hl
  | cons v vs =>
   obtain⟨w,ws,rfl,va,vr⟩:=vr
   rw [List.zip_cons_cons,ji,hf]
   obtain⟨k,hi,hk⟩:=hn 0 x rfl
   refine ab (ab (qi eo F R hi hk va fun h' tk F' R' x'=>ae ?_))
   refine fO eo f hf (j+1) ns vs ws _ { s with heap:=h',toks:=tk } Q (by simpa using hl) (fun i y e=>?_) F' R' (vr.mono x'.frz) fun h2 tk2 ρ' hρ F2 R2 x2=>?_
   ·obtain⟨k,hi,hk⟩:=hn (i+1) y (by simpa using e)
    exact⟨k,by rw [show j+1+i=j+(i+1) by(exact Ar.a0 [] [_,_] (.e (.a (.a .v0 .n1) .v1) (.a .v0 (.a .v1 .n1))) [[1],[1]])];exact hi,hk⟩
   ·refine q h2 tk2 ρ' (fun i=>?_) F2 R2 (x'.trans x2)
    rw [hρ i]
    simp only [fu,Nat.add_zero]
    by_cases h1:i<j
    ·rw [bc (by(exact Ar.a1 [] [_,_] (.l .v0 (.a .v1 .n1)) [[1,1]] (.l .v0 .v1) h1)),bc h1,cn (by(exact Ar.a1 [] [_,_] (.u .v0 .v1) [[-1,1]] (.l .v0 .v1) h1))]
    ·rw [aw h1]
     by_cases h2:i=j
     ·subst h2
      rw [bc (by(exact Ar.a0 [] [_] (.l .v0 (.a .v0 .n1)) [[1]])),bc (by(exact Ar.a0 [] [_,_] (.l .v0 (.a .v0 (.a .v1 .n1))) [[1]])),bp];simp
     ·rw [aw (by(exact(ak h2).elim (fun q1=>(Ar.a2 [] [_,_] (.g .v0 (.a .v1 .n1)) [[0,1,1]] (.g .v0 .v1) (.l .v0 .v1) h1 q1)) fun q1=>(Ar.a1 [] [_,_] (.g .v0 (.a .v1 .n1)) [[1,1]] (.l .v1 .v0) q1)))]
      by_cases h3:i<j+1+vs.length
      ·rw [bc h3,bc (by(exact Ar.a1 [] [_,_,_] (.l .v0 (.a .v1 (.a .v2 .n1))) [[1,1]] (.l .v0 (.a (.a .v1 .n1) .v2)) h3)),show i-j=(i-(j+1))+1 by(exact Ar.sub _ _ (fun q1 p1=>(Ar.a2 [] [_,_,_,_] (.e .v0 (.a .v1 .n1)) [[1,-1,1],[1,1,-1]] (.e (.a .v0 .v2) .v3) (.e (.a .v1 (.a .v2 .n1)) .v3) (aa (Ar.a1 [] [_,_] (.k .v0 .v1) [[1,1]] (.g .v1 .v0) h1)) p1)) fun q1 p1=>((ak h2).elim (fun q2=>(Ar.a4 [] [_,_,_,_] (.e .v0 (.a .v1 .n1)) [[0,1,0,0,1],[1,0,1,1,0]] (.g .v2 .v3) (.e (.a .v0 .v3) .v2) (.k .v2 (.a .v3 .n1)) (.l .v2 .v3) h1 (aa (Ar.a1 [] [_,_] (.k .v0 .v1) [[1,1]] (.g .v1 .v0) h1)) q1 q2)) fun q2=>(Ar.a4 [] [_,_,_,_] (.e .v0 (.a .v1 .n1)) [[1,-1,0,1,1],[1,1,1,0,0]] (.e (.a .v0 .v2) .v3) (.k .v3 (.a .v2 .n1)) (.e .v1 .n0) (.l .v2 .v3) (aa (Ar.a1 [] [_,_] (.k .v0 .v1) [[1,1]] (.g .v1 .v0) h1)) q1 p1 q2)))];simp
      ·rw [aw h3,aw (by(exact Ar.a1 [] [_,_,_] (.g .v0 (.a .v1 (.a .v2 .n1))) [[1,1]] (.g .v0 (.a (.a .v1 .n1) .v2)) h3)),cn h2]
end
end MP
end
section
namespace MP
open PySem PyProof.Rows
noncomputable def lj:List Str→List (Str × NameKind)→Bool
 | [],_=>true
 | x::xs,(y,k)::r=>x==y&&rn k&&lj xs r
 | _::_,[]=>false
theorem bG:∀ {xs:List Str} {r:List (Str × NameKind)},lj xs r=true→∀ (i:Nat) (x:Str),xs[i]?=some x→∃ k,r[i]?=some (x,k)∧rn k=true
 | [],_,_,i,x,e=>by simp at e
 | _::_,[],h,_,_,_=>by simp [lj] at h
 | x::xs,(y,k)::r,h,0,z,e=>by
  simp only [lj,bz,pq] at h
  simp at e;subst e
  exact⟨k,by simp [h.1.1],h.1.2⟩
 | x::xs,(y,k)::r,h,i+1,z,e=>by
  simp only [lj,bz] at h
  simpa using bG h.2 i z (by simpa using e)
structure FnAt (G:Stc) (a:Addr) (n:Nat) (dflt:List V) (sc:Scope) (body:List Stmt):Prop where
 lim:G.hb.NoLimit
 kind:sc.kind=.function
 co:sc.isCoroutine=false
 gen:sc.isGenerator=false
 nd:(sc.names.map (·.1)).Nodup
 gQ:∀ (i:Nat) (x:Str),sc.names[i]?≠some (x,.free)
 here:∃ o fd,G.hb.get? a=some o∧o.data=.func fd∧fd.scope=sc∧fd.body=.stmts body∧fd.closure=[]∧fd.globals=mainGlobals∧fd.builtins=builtinsNs∧G.hb.CodeRec fd.code fd.qualname ∧
  wo fd.params=true∧lj (fd.params.args.map (·.arg)) sc.names=true∧fd.params.args.length=n ∧
  ((fd.defaults=.none∧dflt=[])∨∃ t ot ds m,fd.defaults=.ref t∧G.hb.get? t=some ot∧ot.data=.seq (ds.toArray) m∧VRs G G.hb dflt ds)∧dflt.length≤n
section
variable {G:Stc} {A:Around} {E:Value→Shared→Prop} {s:Shared} {σ:St}
theorem AOk.deep {d:Nat} (h:AOk A (d+1)) (env:Env):AOk (A.deeper env) d :=
 ⟨h.handled,by have:=h.depth;show A.depth+1+3*d+20<_;(exact Ar.a1 [] [_,_,_] (.l (.a (.a (.a .v0 .n1) (.m 3 .v1)) (.n 20)) .v2) [[1,1]] (.l (.a (.a .v0 (.m 3 (.a .v1 .n1))) (.n 20)) .v2) this),by have:=h.units;show A.units+3+30*d+300<_;(exact Ar.a1 [] [_,_,_] (.l (.a (.a (.a .v0 (.n 3)) (.m 30 .v1)) (.n 300)) .v2) [[1,1]] (.l (.a (.a .v0 (.m 30 (.a .v1 .n1))) (.n 300)) .v2) this)⟩
theorem fJ {a:Addr} {n d:Nat} {dflt:List V} {sc:Scope} {body:List Stmt} {b:jf} {vs:List V} {ws:List Value} {Q:V→St→Prop} (K:FnAt G a n dflt sc body)
  (hb:∀ (A':Around) (E':Value→Shared→Prop) (env:Env) (s':Shared),AOk A' d→env.scope=sc→gr env→FR G σ env (frameOf ⟨n,dflt,b⟩ vs) s'.heap→Rel G σ s'.heap→wpAny G.M A' (execs body env) (jx G env σ s' (rT Q)) E' s')
  (ao:AOk A (d+1)) (R:Rel G σ s.heap) (vr:VRs G s.heap vs ws)
  (h1:vs.length≤n) (h2:n≤vs.length+dflt.length):codeAny G.M A (.call (.ref a) ⟨ws,[]⟩) (wants (ew G [] σ s Q) E) s:=by
 obtain⟨o,fd,ho,hd,hsc,hbody,hclo,hgl,hbu,hcode,hpl,hpar,hn,hdf,hdl⟩:=K.here
 subst hsc
 have hlen:=vr.length
 obtain⟨ds,hds,hvd⟩:∃ ds,(∀ (A:Around) (E:Value→Shared→Prop) (Q:Option (Array Value)→Shared→Prop),(∀ o,(o.getD #[]).toList=ds→Q o s)→wpAny G.M A (seqItems? fd.defaults) Q E s)∧VRs G s.heap dflt ds:=by
  rcases hdf with ⟨e1,e2⟩ | ⟨t,ot,ds,m,e1,e2,e3,e4⟩
  ·refine⟨[],fun A E Q q=>?_,by subst e2;exact .nil⟩
   rw [e1]
   show wpAny G.M A (do notAStandIn .none;pure none) Q E s
   exact cx (by rfl) (q none rfl)
  ·refine⟨ds,fun A E Q q=>?_,e4.mono fun b o e _=>R.base b o e⟩
   rw [e1]
   show wpAny G.M A (do match (← load t).data with | .seq xs _=>pure (some xs) | _=>pure none) Q E s
   refine ab (rj (R.base _ _ e2) ?_)
   rw [e3]
   exact ae (q _ (by simp))
 have hdlen:=hvd.length
 have hnd:(fd.params.args.map (·.arg)).Nodup:=by
  have hp:∀ {xs:List Str} {r:List (Str × NameKind)},lj xs r=true→∃ ys,r.map (·.1)=xs++ys:=by
   intro xs
   induction xs with
   | nil=>intro r _;exact⟨_,rfl⟩
   | cons x xs ih =>
    intro r h
    cases r with
    | nil=>simp [lj] at h
    | cons p r =>
     simp only [lj,bz,pq] at h
     obtain⟨ys,e⟩:=ih h.2
     exact⟨ys,by simp [e,h.1.1]⟩
  obtain⟨ys,e⟩:=hp hpar
  have:=K.nd
  rw [e] at this
  exact(List.nodup_append.mp this).1
 refine codeAny_call_function (by have:=ao.depth;(exact Ar.a1 [] [_,_,_] (.l .v0 .v1) [[1,1]] (.l (.a (.a .v0 (.m 3 (.a .v2 .n1))) (.n 20)) .v1) this)) (R.base _ _ ho) hd K.co K.gen hbody (hcode.keeps R.base) ?_
 refine lY (ds:=ds) hpl (hds _ _) hnd (by rw [hn,← hlen];exact h1) (by rw [hn,← hlen,← hdlen];exact h2) (by rw [hn,← hdlen];exact hdl) ?_
 rw [hn,hclo,hgl,hbu]
 simp only [newFunctionEnv,pv,ct,fy]
 refine ab (wpAny_alloc ?_)
 refine ab (wpAny_layCells _ (fun name kind cells=>by cases hkc:kind==NameKind.cell<;>simp [hkc]) _ _ _ _ ?_)
 rw [show({ s with heap:=s.heap.push { cls:=.type "frame",data:=.dict #[] } }:Shared).heap.objs.size=s.heap.objs.size+1 from dz ..]
 have clo:tZ G σ s.heap fd.scope.names [] (fun _=>none):=⟨fun i x e=>absurd e (K.gQ i x),fun i j x y c e=>absurd e (K.gQ i x),fun p hp=>(nomatch hp),fun _ _ _ _ _=>rfl⟩
 obtain⟨F₀,hk₀⟩:=dA (T:="frame") (env:=newEnv fd.scope s.heap.objs.size mainGlobals (cellsFrom (s.heap.objs.size+1) fd.scope.names []) (fd.qualname ++ ".<locals>.") (some a) fd.code none builtinsNs) R K.nd clo rfl rfl fun i x k' e=>⟨k',e,.inl rfl⟩
 have eo:gr (newEnv fd.scope s.heap.objs.size mainGlobals (cellsFrom (s.heap.objs.size+1) fd.scope.names []) (fd.qualname ++ ".<locals>.") (some a) fd.code none builtinsNs):=⟨K.kind,K.nd,rfl,rfl⟩
 have x₀:Evo [] σ s.heap σ (pushCells (s.heap.push { cls:=.type "frame",data:=.dict #[] }) fd.scope.names):=Evo.keeps hk₀
 have hall:VRs G s.heap (vm ⟨n,dflt,b⟩ vs) (ws++ds.drop (ds.length-(n-ws.length))):=by
  unfold vm
  rw [← hdlen,← hlen]
  exact vr.append (hvd.drop _)
 refine ab (fO eo _ (fun _ _ _=>rfl) 0 (fd.params.args.map (·.arg)) (vm ⟨n,dflt,b⟩ vs) _ (fun _=>none) { s with heap:=pushCells (s.heap.push { cls:=.type "frame",data:=.dict #[] }) fd.scope.names } _ ?_ (fun i x e=>?_) F₀ (R.keeps hk₀) (hall.mono fun b o e _=>hk₀ b o e) fun h' tk ρ' hρ F' R' x'=>?_)
 ·rw [ax,bx,fk,hn];(exact Ar.sub _ _ (fun q1 p1=>(Ar.sub _ _ (fun q2 p2=>(Ar.sub _ _ (fun q3 p3=>(Ar.a3 [] [_,_,_,_,_,_] (.e .v0 (.a .v1 .v2)) [[1,1,-1,1],[1,-1,1,-1]] (.e (.a .v2 .v3) .v4) (.e (.a .v3 .v5) .v4) (.e (.a .v5 .v1) .v0) p1 p2 p3)) fun q3 p3=>(Ar.a6 [] [_,_,_,_,_,_,_] (.e .v0 (.a .v1 .v2)) [[1,1,-1,1,-1,0,1],[1,0,0,0,0,1,0]] (.k .v3 .v0) (.e .v3 .v1) (.e (.a .v2 .v4) .v5) (.e (.a .v4 .v6) .v5) (.k .v0 .v1) (.e .v6 .n0) h1 hlen p1 p2 q3 p3))) fun q2 p2=>(Ar.sub _ _ (fun q3 p3=>(Ar.a7 [] [_,_,_,_,_,_,_,_] (.e .v0 (.a .v1 .v2)) [[1,0,0,0,1,1,0,1],[1,1,1,1,-1,0,1,0]] (.k .v0 (.a .v3 .v4)) (.e .v3 .v1) (.e .v4 .v5) (.e (.a .v2 .v6) .v5) (.k .v5 .v7) (.e .v6 .n0) (.e (.a .v7 .v1) .v0) h2 hlen hdlen p1 q2 p2 p3)) fun q3 p3=>(Ar.a8 [] [_,_,_,_,_,_,_,_] (.e .v0 (.a .v1 .v2)) [[1,1,0,-1,0,1,1,0,1],[1,0,1,1,1,-1,0,1,0]] (.k .v3 .v0) (.k .v0 (.a .v3 .v4)) (.e .v3 .v1) (.e .v4 .v5) (.e (.a .v2 .v6) .v5) (.k .v5 .v7) (.e .v6 .n0) (.e .v7 .n0) h1 h2 hlen hdlen p1 q2 p2 p3)))) fun q1 p1=>(Ar.sub _ _ (fun q2 p2=>(Ar.sub _ _ (fun q3 p3=>(Ar.a6 [] [_,_,_,_,_,_,_] (.e .v0 (.a .v1 .v2)) [[1,1,-1,0,1,0,0],[1,0,0,1,0,1,-1]] (.k .v3 .v0) (.e .v3 .v1) (.k .v4 .v5) (.e .v2 .n0) (.e (.a .v5 .v6) .v4) (.e (.a .v6 .v1) .v0) h1 hlen q1 p1 p2 p3)) fun q3 p3=>(Ar.a4 [] [_,_,_,_] (.e .v0 (.a .v1 .v2)) [[1,1,-1,1,0],[1,0,0,0,1]] (.k .v3 .v0) (.e .v3 .v1) (.e .v2 .n0) (.k .v0 .v1) h1 hlen p1 q3))) fun q2 p2=>(Ar.a7 [] [_,_,_,_,_,_,_] (.e .v0 (.a .v1 .v2)) [[1,1,0,-1,0,0,1,0],[1,0,1,1,1,1,0,1]] (.k .v3 .v0) (.k .v0 (.a .v3 .v4)) (.e .v3 .v1) (.e .v4 .v5) (.k .v5 .v6) (.e .v2 .n0) (.e .v6 .n0) h1 h2 hlen hdlen q1 p1 p2)))
 ·rw [ku];exact bG hpar i x e
 ·refine ae ⟨(K.lim.keeps R'.base),codeAny_func ?_⟩
  have hρ':ρ'=frameOf ⟨n,dflt,b⟩ vs:=by
   funext i
   rw [hρ i]
   unfold frameOf
   simp only [jh,fy,ku,Nat.sub_zero]
   split
   ·rfl
   ·rename_i hge
    rw [List.getElem?_eq_none (by(exact Ar.a1 [] [_,_] (.k .v0 .v1) [[1,1]] (.g .v1 .v0) hge))]
  subst hρ'
  refine ay (hb _ _ _ { s with heap:=h',toks:=tk } (ao.deep _) rfl eo F' R') (fun f s' l=>?_) fun _ _ x=>x
  obtain⟨fl,ρ₂,σ₂,h₂,tk₂,rfl,fr,q,F₂,R₂,x₂⟩:=l
  have hX:∀ z∈envX (newEnv fd.scope s.heap.objs.size mainGlobals (cellsFrom (s.heap.objs.size+1) fd.scope.names []) (fd.qualname ++ ".<locals>.") (some a) fd.code none builtinsNs),s.heap.get? z=none:=fun z hz=>by
   rcases br.mp hz with rfl | hz
   ·exact none_at_size _
   ·obtain⟨p,hp,rfl⟩:=dh.mp hz
    have ok:=cellsFrom_ok fd.scope.names (s.heap.push { cls:=.type "frame",data:=.dict #[] }) (s.heap.objs.size+1) [] ⟨fun _ _ hm=>(nomatch hm),List.Pairwise.nil⟩ (by rw [dz];exact aj _)
    rw [dz] at ok
    exact we (Nat.le_of_succ_le (ok.empty p.1 p.2 hp).2)
  have x3:Evo [] σ s.heap σ₂ h₂:=((x₀.more (fun _ h=>nomatch h)).trans (x'.trans x₂)).less fun z hz=>.inr (hX z hz)
  cases fr with
  | next=>exact⟨.none,σ₂,h₂,tk₂,rfl,q,.none,R₂,x3⟩
  | ret v=>exact⟨_,σ₂,h₂,tk₂,rfl,q,v,R₂,x3⟩
  | brk=>exact q.elim
  | cont=>exact q.elim
theorem fL {a:Addr} {n d:Nat} {dflt:List V} {sc:Scope} {body:List Stmt} {b:jf} {vs:List V} {ws:List Value} {Q:V→St→Prop} (K:FnAt G a n dflt sc body)
  (hb:∀ (A':Around) (E':Value→Shared→Prop) (env:Env) (s':Shared),AOk A' d→env.scope=sc→gr env→FR G σ env (frameOf ⟨n,dflt,b⟩ vs) s'.heap→Rel G σ s'.heap→wpAny G.M A' (execs body env) (jx G env σ s' (rT Q)) E' s')
  (ao:AOk A (d+1)) (R:Rel G σ s.heap) (vr:VRs G s.heap vs ws)
  (h1:vs.length≤n) (h2:n≤vs.length+dflt.length):wpAny G.M A (call (.ref a) ws) (ew G [] σ s Q) E s:=pf (fJ K hb ao R vr h1 h2)
theorem xK {C:Cal} {a:Addr} {n d:Nat} {dflt:List V} {sc:Scope} {body:List Stmt} {b:jf} {vs:List V} {ws:List Value} {Q:V→St→Prop} (K:FnAt G a n dflt sc body) (hb:ya G C sc d b body) (ao:AOk A (d+1)) (R:Rel G σ s.heap) (vr:VRs G s.heap vs ws)
  (h1:vs.length≤n) (h2:n≤vs.length+dflt.length) (h:dk C b (frameOf ⟨n,dflt,b⟩ vs) σ (rT Q)):wpAny G.M A (call (.ref a) ws) (ew G [] σ s Q) E s :=
 fL (b:=b) K (fun A' E' env s' ao' es eo F' R'=>hb A' E' env _ σ _ s' ao' es eo F' R' h) ao R vr h1 h2
noncomputable def zw (G:Stc) (fa:Nat→Option Addr) (C:Cal) (d:Nat):Prop:=∀ (k:Nat) (a:Addr),fa k=some a→(∃ o fd,G.hb.get? a=some o∧o.data=.func fd)∧∀ (A:Around) (E:Value→Shared→Prop) (vs:List V) (ws:List Value) (σ:St) (Q:V→St→Prop) (s:Shared),AOk A d→Rel G σ s.heap→VRs G s.heap vs ws →
 C k vs σ Q→wpAny G.M A (call (.ref a) ws) (ew G [] σ s Q) E s
theorem bB {C:Cal} {sc:Scope} {d:Nat} {env:Env} {ρ:Fr} {f:Addr} {o:Obj} {fd:FuncData} {first:List Value} {es:Exs} {args:List Expr} {pos:Pos} {P:List V→St→Prop} {Q:Value→Shared→Prop} (hf:G.hb.get? f=some o) (hfd:o.data=.func fd) (hs:noStar args=true) (hes:iy G C sc d es args)
  (ao:AOk A d) (hsc:env.scope=sc) (eo:gr env) (F:FR G σ env ρ s.heap) (R:Rel G σ s.heap) (h:nz C es ρ σ P)
  (k:∀ vs σ₁ h₁ tk ws,P vs σ₁→VRs G h₁ vs ws→Rel G σ₁ h₁→Evo [] σ s.heap σ₁ h₁→wpAny G.M A (call (.ref f) (first++ws)) Q E { s with heap:=h₁,toks:=tk }) :
  wpAny G.M A (callWith pos (.ref f) first (backTo pos (starEach args env)) []) Q E s :=
 Calls.callWith_function (o:=o) (fd:=fd) (ix (fg hs pos env) (eD (hes A E env ρ σ P s pos ao hsc eo F R h) fun vs σ₁ h₁ tk ws q vr r x=>⟨⟨r.base _ _ hf,hfd⟩,k vs σ₁ h₁ tk ws q vr r x⟩))
theorem rF {fa:Nat→Option Addr} {C:Cal} {sc:Scope} {d:Nat} {k:Nat} {f:Addr} {x:Str} {es:Exs} {args:List Expr} {p pos:Pos} (K:GOk G) (CO:zw G fa C d) (hk:fa k=some f) (hes:iy G C sc d es args) (hs:noStar args=true) (hx:sc.names.lookup x=some .globalImplicit) (hn:fe x=true) (hv:G.gl x=some (.ref f)) :
  cp G C sc d (.call k es) (.Call (.Name x p) args [] pos):=fun A E env ρ σ Q s ao ess eo F R h=>by
 obtain⟨⟨o,fd,ho,hd⟩,hc⟩:=CO k f hk
 refine Call_ (gn K eo R (by rw [ess];exact hx) hn hv (bB ho hd hs hes ao ess eo F R h fun vs σ₁ h₁ tk ws q vr r x=>?_))
 exact ay (hc A E vs ws σ₁ Q { s with heap:=h₁,toks:=tk } ao r vr q) (fun _ _ l=>ew.back x l) fun _ _ x=>x
end
end MP
end
section
namespace MP
open PySem PyProof.Rows
structure MethAt (G:Stc) (name:Str) (f:Addr):Prop where
 here:∃ N mN of fd,ClsAt G.hb G.cS N mN∧mN "__getattribute__"=none∧mN "__getattr__"=none∧mN name=some (.ref f)∧G.hb.get? f=some of∧of.cls=.type "function"∧of.data=.func fd
 out:name∉G.attrs
 lk:∃ y,typeLookup (.type "object") name=pure y
section
variable {G:Stc} {A:Around} {E:Value→Shared→Prop} {s:Shared} {σ:St} {fa:Nat→Option Addr} {C:Cal} {sc:Scope} {d:Nat}
theorem iN {a:Addr} {name:Str} {f:Addr} {pl:Sem Bool} {Q:Value × List Value→Shared→Prop} (M:MethAt G name f) (R:Rel G σ s.heap) (hI:(σ.I a).isSome) (q:Q (.ref f,[.ref a]) s):wpAny G.M A (getMethod (.ref a) name pl) Q E s:=by
 obtain⟨N,mN,of,fd,X,hga,hgt,hf,hfo,hfc,_⟩:=M.here
 obtain⟨y,hB⟩:=M.lk
 obtain⟨⟨dd,g⟩,hI⟩:=bw.mp hI
 have I:=R.I a dd g hI
 obtain⟨m,hm,hv,hout⟩:=I.ns
 obtain⟨hh,gg,dr,t,os⟩:=s
 obtain⟨nm,q',bs,sn,sub,col,d2,k0,k1,k2,k3,k5,hC⟩:=(X.keeps R.base).obj
 exact method_of hC (X.keeps R.base).ns hga hgt hf (R.base _ _ hfo) hfc hB (I.inst hm) (hout name M.out) q
theorem qW {e:Ex} {k:Nat} {f:Addr} {name:Str} {es:Exs} {o:Expr} {args:List Expr} {apos pos:Pos} (CO:zw G fa C d) (hk:fa k=some f) (M:MethAt G name f) (ha:cp G C sc d e o) (hes:iy G C sc d es args) (hb:mh o=true) (hs:noStar args=true) (hlen:args.length<30) (hline:(apos.endLine==pos.line)=true) :
  cp G C sc d (.meth e k es) (.Call (.Attribute o name apos) args [] pos):=fun A E env ρ σ Q s ao ess eo F R h=>by
 refine lu hb hs hlen hline (ju (ha A E env ρ σ _ s ao ess eo F R h) fun v σ₁ h₁ tk w q vr r x pl=>?_)
 obtain⟨a,rfl,hI,q⟩:=q
 obtain rfl:=vr
 obtain⟨⟨of,fd,ho,hd⟩,hc⟩:=CO k f hk
 refine iN (s:={ s with heap:=h₁,toks:=tk }) M r hI (bB (s:={ s with heap:=h₁,toks:=tk }) ho hd hs hes ao ess eo (F.evo x) r q fun vs σ₂ h₂ tk₂ ws q₂ vrs r₂ x₂=>?_)
 exact ay (hc A E _ _ σ₂ Q { s with heap:=h₂,toks:=tk₂ } ao r₂ (.cons (.obj a) vrs) q₂) (fun _ _ l=>ew.back (x.trans x₂) l) fun _ _ x=>x
structure iD (G:Stc) (f:Addr):Prop where
 here:∃ N mN of,ClsAt G.hb G.cS N mN∧mN "__init__"=some (.ref f)∧G.hb.get? f=some of∧of.cls=.type "function"
theorem kS (C:Addr) (ws:List Value):(Code.builtin "type.__call__" ⟨.ref C::ws,[]⟩).cUnits≤10:=by
 show 1+3*(Code.frames (.builtin "type.__call__" ⟨.ref C::ws,[]⟩))≤10
 exact cm rfl
theorem AOk.make (h:AOk A (d+1)) (C:Addr) (ws:List Value):AOk (A.under (.builtin "type.__call__" ⟨.ref C::ws,[]⟩)) d :=
 ⟨h.handled,by have:=h.depth;show A.depth+1+3*d+20<_;(exact Ar.a1 [] [_,_,_] (.l (.a (.a (.a .v0 .n1) (.m 3 .v1)) (.n 20)) .v2) [[1,1]] (.l (.a (.a .v0 (.m 3 (.a .v1 .n1))) (.n 20)) .v2) this),by have:=h.units;have:=kS C ws;show A.units+(Code.cUnits _)+30*d+300<_;(rename_i z1;exact Ar.a2 [] [_,_,_,_] (.l (.a (.a (.a .v0 .v1) (.m 30 .v2)) (.n 300)) .v3) [[1,1,1]] (.l (.a (.a .v0 (.m 30 (.a .v2 .n1))) (.n 300)) .v3) (.k .v1 (.n 10)) z1 this)⟩
theorem AOk.less {d':Nat} (h:AOk A d) (hd:d'≤d):AOk A d':=⟨h.handled,by have:=h.depth;(exact Ar.a2 [] [_,_,_,_] (.l (.a (.a .v0 (.m 3 .v1)) (.n 20)) .v2) [[1,3,1]] (.k .v1 .v3) (.l (.a (.a .v0 (.m 3 .v3)) (.n 20)) .v2) hd this),by have:=h.units;(exact Ar.a2 [] [_,_,_,_] (.l (.a (.a .v0 (.m 30 .v1)) (.n 300)) .v2) [[1,30,1]] (.k .v1 .v3) (.l (.a (.a .v0 (.m 30 .v3)) (.n 300)) .v2) hd this)⟩
theorem qT {f:Addr} {x:Str} {es:Exs} {args:List Expr} {p pos:Pos} (K:GOk G) (CO:zw G fa C (d-1)) (hd:1≤d) (hk:fa 0=some f) (M:iD G f) (hes:iy G C sc d es args) (hs:noStar args=true) (hne:args≠[]) (hx:sc.names.lookup x=some .globalImplicit) (hn:fe x=true) (hv:G.gl x=some (.ref G.cS)) :
  cp G C sc d (.newM es) (.Call (.Name x p) args [] pos):=fun A E env ρ σ Q s ao ess eo F R h=>by
 obtain⟨N,mN,of,X,hi,hfo,hfc⟩:=M.here
 obtain⟨_,hc⟩:=CO 0 f hk
 have ao':AOk A (d-1+1):=by rw [aa hd];exact ao
 refine Call_ (gn K eo R (by rw [ess];exact hx) hn hv ?_)
 have go:∀ vs σ₁ h₁ tk ws,(∀ a dd,σ₁.I a=none→C 0 (.obj a::vs) (σ₁.fj a dd fun _=>none) fun v σ=>v=.none∧Q (.obj a) σ)→VRs G h₁ vs ws→Rel G σ₁ h₁→Evo [] σ s.heap σ₁ h₁→wpAny G.M A (call (.ref G.cS) ws) (ew G [] σ s Q) E { s with heap:=h₁,toks:=tk }:=fun vs σ₁ h₁ tk ws q vr r x=>by
  obtain⟨nm,q',bs,sn,sub,col,d2,k0,k1,k2,k3,k5,hC⟩:=(X.keeps r.base).obj
  refine wpAny_call_obj_init PySem.F.objNew hC (X.keeps r.base).ns hi (r.base _ _ hfo) hfc fun h' xx dx made=>?_
  have hnoI:σ₁.I xx=none:=by
   cases hq:σ₁.I xx with
   | none=>rfl
   | some y=>obtain⟨o,e⟩:=r.kj (.inr (.inr (.inr (.inl (by rw [hq];rfl)))));rw [made.newX] at e;cases e
  have hI:vp G h' xx dx fun _=>none:=by
   obtain⟨o,ho,hcls,hnc,hd⟩:=made.inst
   have hdd:=made.dict o ho
   rcases hd with ⟨hn0,_⟩ | ⟨d',hd',hne,hns⟩
   ·rw [hdd] at hn0;cases hn0
   ·rw [hdd] at hd';cases hd'
    exact⟨⟨o,ho,hcls,hdd,hnc⟩,⟨_,hns,fun _ _ _=>trivial,fun _ _=>rfl⟩,hne⟩
  have r':=r.zJ made.newX made.newD hI.ne made.keeps hI
  have x':Evo [] σ₁ h₁ (σ₁.fj xx dx fun _=>none) h':=Evo.zJ _ made.newX made.newD made.keeps
  refine ay (hc _ E _ _ _ _ { s with heap:=h',toks:=tk } (ao'.make _ _) r' (.cons (.obj xx) (vr.mono x'.frz)) (q xx dx hnoI)) (fun w s' l=>?_) fun _ _ x=>x
  obtain⟨v,σ₂,h₂,tk₂,rfl,⟨rfl,q₂⟩,vr₂,r₂,x₂⟩:=l
  cases vr₂
  exact⟨rfl,.obj xx,σ₂,h₂,tk₂,rfl,q₂,.obj xx,r₂,x.trans (x'.trans x₂)⟩
 cases args with
 | nil=>exact absurd rfl hne
 | cons e rest =>
  refine callWith_cls X (eD (hes A E env ρ σ _ s pos ao ess eo F R h) fun vs σ₁ h₁ tk ws q vr r x=>⟨r.base,go vs σ₁ h₁ tk ws q vr r x⟩) ((cj hs).1 env) (fg (cj hs).2 pos env)
theorem zw.more {d':Nat} (h:zw G fa C d) (hd:d≤d'):zw G fa C d':=fun k a hk=>⟨(h k a hk).1,fun A E vs ws σ Q s ao=>(h k a hk).2 A E vs ws σ Q s (ao.less hd)⟩
end
end MP
end
section
set_option tactic.hygienic true
namespace MP
open PySem PyProof.Rows
theorem cJ:Slot "method_descriptor" "__get__" "method_descriptor.__get__" :=
 .of (owner:="method_descriptor") (n:="__get__") (by rw [er,dg];kernel_rfl) (by decide +kernel) (by decide +kernel) (by decide +kernel)
  (by first | exact .inl (by decide +kernel) | exact .inr (by decide +kernel)) (by rw [gz];kernel_rfl)
theorem jM:entryFor table "method_descriptor.__get__"=some Builtin.«method_descriptor.__get__»:=uv (by kernel_rfl)
theorem mB (a b c:Value):argsOk "method_descriptor.__get__" ⟨[a,b,c],[]⟩:=by unfold argsOk;kernel_rfl
theorem sL:typeLookup (.type "method_descriptor") "__set__"=pure none:=by rw [er,dg];kernel_rfl
theorem sM:typeLookup (.type "method_descriptor") "__delete__"=pure none:=by rw [er,dg];kernel_rfl
structure fT (T:String) (name:Str) (id nm:String):Prop where
 lk:typeLookup (.type T) name=pure (some (.builtin id))
 ty:typeOf (.builtin id)=pure (.type "method_descriptor")
 own:(kfb_private% "ownerAndName") id=(T,nm)
 told:Manifest.toldItsClass.contains id=false
 sub:isSubtype (.type T) (.type T)=pure true
 nm1:(["__module__","__name__","__qualname__","__doc__","__annotations__"]:List Str).contains name=false
 tp1:(Value.type T==Value.type "module")=false
theorem tS:fT "dict" "get" "dict.get" "get" where
 lk:=PySem.F.slot_dict_get.lookup
 ty:=PySem.F.type_dict_get
 own:=by first | decide +kernel | kernel_rfl
 told:=by first | decide +kernel | kernel_rfl
 sub:=by rw [gz];kernel_rfl
 nm1:=by decide +kernel
 tp1:=by decide +kernel
theorem tR:fT "set" "__contains__" "set.__contains__" "__contains__" where
 lk:=by rw [er,dg];kernel_rfl
 ty:=by show builtinType _=_;rw [builtinType_eq_fast];kernel_rfl
 own:=by first | decide +kernel | kernel_rfl
 told:=by first | decide +kernel | kernel_rfl
 sub:=by rw [gz];kernel_rfl
 nm1:=by decide +kernel
 tp1:=by decide +kernel
noncomputable def aX (id:String) (a:Addr):Obj:={ cls:=.type "builtin_function_or_method",data:=.fields #[.builtin id,.ref a] }
section
variable {prog:Program} {w:World} {A:Around} {E:Value→Shared→Prop} {s:Shared}
theorem oP {T:String} {name:Str} {id nm:String} {a:Addr} {o:Obj} {P:Fin→Shared→Prop} (B:fT T name id nm) (hx:s.heap.get? a=some o) (hc:o.cls=.type T) (h:P (.done (.ret (.ref s.heap.objs.size))) { s with heap:=s.heap.push (aX id a) }) :
  wpAny (model prog w) A (Builtin.«method_descriptor.__get__» ⟨[.builtin id,.ref a,.type T],[]⟩) P E s:=by
 have hT:s.TypeIs (.ref a) T:=⟨_,hx,hc⟩
 unfold Builtin.«method_descriptor.__get__»
 refine ab (cx (a:=(.builtin id,some (.ref a),some (.type T))) (by first | rfl | kernel_rfl) ?_)
 simp only [B.told]
 show wpAny _ _ (do
  (do
   let (owner,name):=(kfb_private% "ownerAndName") id
   if !(← isInstance (.ref a) (.type owner)) then
    rule "descr.get.wrong-instance"
    raiseError "TypeError" s!"descriptor '{(Str.ofString name).toString}' for '{← typeName (.type owner)}' objects doesn't apply to a '{← typeNameOf (.ref a)}' object":Sem Unit)
  ret (← newFields "builtin_function_or_method" [.builtin id,.ref a])) _ _ _
 rw [B.own]
 dsimp only
 unfold isInstance
 have hsub:=B.sub
 refine ab (ab ?_)
 refine ab (yr hT ?_)
 refine cx B.sub ?_
 refine ae ?_
 refine ab ?_
 unfold newFields
 exact gy (ae h)
theorem lW {T:String} {name:Str} {id nm:String} {a:Addr} {o:Obj} {Q:Value→Shared→Prop} (B:fT T name id nm) (hx:s.heap.get? a=some o) (hc:o.cls=.type T) (h:Q (.ref s.heap.objs.size) { s with heap:=s.heap.push (aX id a) }) :
  wpAny (model prog w) A (call (.builtin "method_descriptor.__get__") [.builtin id,.ref a,.type T]) Q E s :=
 jg cJ B.ty jM (oP B hx hc ⟨_,rfl,h⟩) (mB _ _ _)
theorem rS {T:String} {name:Str} {id nm:String} {a:Addr} {o:Obj} {tk:Tok} {P:Fin→Shared→Prop} (B:fT T name id nm) (hx:s.heap.get? a=some o) (hc:o.cls=.type T) (hd:o.dict=none) (hnc:∀ c,o.data≠.cls c) (h:P (.done (.ret (.ref s.heap.objs.size))) { s with heap:=s.heap.push (aX id a) }) :
  wpAny (model prog w) A (Builtin.«object.__getattribute__» ⟨[.ref a,.str name tk],[]⟩) P E s:=by
 obtain⟨hh,g,d,t,os⟩:=s
 have hT:(⟨hh,g,d,t,os⟩:Shared).TypeIs (.ref a) T:=⟨_,hx,hc⟩
 have hT5:(⟨hh,g,d,t,os⟩:Shared).TypeIs (.builtin id) "method_descriptor":=B.ty
 have f4:=B.lk
 have f5:=B.ty
 have f6:=cJ.lookup
 have f7:=sL
 have f8:=sM
 have hnm:=B.nm1
 unfold Builtin.«object.__getattribute__»
 repeat (any_goals (first | assumption | wp_step))
 split
 ·rename_i c e;exact absurd e (hnc c)
 ·unfold instanceDict
  repeat (any_goals (first | assumption | (with_reducible refine jy hx ?_;rw [hc]) | with_reducible refine wpAny_loadHead hx ?_ | wp_step))
  rw [hd]
  repeat (any_goals (first | assumption | wp_step))
  rw [aw (by rw [hnm];decide)]
  refine ae ?_
  repeat (any_goals (first | assumption | ((with_reducible show wpAny _ _ (call (Value.builtin "method_descriptor.__get__") _ _) _ _ _);refine lW B hx hc ?_) | wp_step))
theorem bJ {T:String} {name:Str} {id nm ga:String} {a:Addr} {o:Obj} {expr:Bool} {Q:Value→Shared→Prop} (B:fT T name id nm) (sl:Slot T "__getattribute__" ga) (en:entryFor table ga=some Builtin.«object.__getattribute__») (ar:∀ x y,argsOk ga ⟨[x,y],[]⟩)
  (hx:s.heap.get? a=some o) (hc:o.cls=.type T) (hd:o.dict=none) (hnc:∀ c,o.data≠.cls c) (h:Q (.ref s.heap.objs.size) { s with heap:=s.heap.push (aX id a),toks:=s.toks+1 }) :
  wpAny (model prog w) A (getAttr (.ref a) name expr) Q E s:=by
 obtain⟨hh,g,d,t,os⟩:=s
 obtain⟨c,dct,dat,slt⟩:=o
 simp only at hc hd hnc
 subst hc;subst hd
 have hT:∀ tk',(⟨hh,g,d,tk',os⟩:Shared).TypeIs (.ref a) T:=fun _=>⟨_,hx,rfl⟩
 have f3:=sl.lookup
 have f4:=sl.bind (.ref a)
 unfold getAttr getAttrBy
 repeat (any_goals (first | assumption | exact hT _ | ((with_reducible show wpAny _ _ (call (Value.builtin ga) _ _) _ _ _);refine jg sl (hT _) en (rS B (s:=⟨hh,g,d,t+1,os⟩) hx rfl rfl hnc ⟨_,rfl,?_⟩) (ar _ _)) | wp_step))
 have e:(expr&&onTheHeap (Value.builtin ga))=false:=by cases expr<;>rfl
 rw [aw (by rw [e];decide)]
 unfold boundAndCalled
 refine ab (cx f4 ?_)
 refine jg sl (hT _) en (rS B (s:=⟨hh,g,d,t+1,os⟩) hx rfl rfl hnc ⟨_,rfl,?_⟩) (ar _ _)
 exact ae h
theorem gY {a:Addr} {o:Obj} {expr:Bool} {Q:Value→Shared→Prop} (hx:s.heap.get? a=some o) (hc:o.cls=.type "dict") (hd:o.dict=none) (hnc:∀ c,o.data≠.cls c) (h:Q (.ref s.heap.objs.size) { s with heap:=s.heap.push (aX "dict.get" a),toks:=s.toks+1 }) :
  wpAny (model prog w) A (getAttr (.ref a) "get" expr) Q E s :=
 bJ tS PySem.F.slot_dict_getattribute am_entry_dict_getattribute PySem.F.args_dict_getattribute_2 hx hc hd hnc h
theorem entry_set_ga:entryFor table "set.__getattribute__"=some Builtin.«object.__getattribute__» :=
 entryFor_alias (id':="object.__getattribute__") (by kernel_rfl) (by first | rfl | decide +kernel) (by decide +kernel) (by kernel_rfl)
theorem gX {a:Addr} {o:Obj} {expr:Bool} {Q:Value→Shared→Prop} (hx:s.heap.get? a=some o) (hc:o.cls=.type "set") (hd:o.dict=none) (hnc:∀ c,o.data≠.cls c) (h:Q (.ref s.heap.objs.size) { s with heap:=s.heap.push (aX "set.__contains__" a),toks:=s.toks+1 }) :
  wpAny (model prog w) A (getAttr (.ref a) "__contains__" expr) Q E s :=
 bJ tR PySem.F.slot_set_getattribute entry_set_ga PySem.F.args_set_getattribute_2 hx hc hd hnc h
theorem i3 {pos:Pos} {u a:Addr} {id:String} {first:List Value} {o:Obj} {args:List (Bool × Sem Value)} {Q:Value→Shared→Prop} (hplain:args.any (·.1)=false) (hcl:o.cls=.type "builtin_function_or_method") (hdt:o.data=.fields #[.builtin id,.ref a])
  (h:wpAny (model prog w) A (evalArgs (.ref u) true args []) (fun x s₁=>s₁.heap.get? u=some o∧wpAny (model prog w) A (call (.ref u) (first++x.pos) x.kw) Q E s₁) E s):wpAny (model prog w) A (callWith pos (.ref u) first args []) Q E s:=by
 unfold callWith
 refine ab (bh (ay h (fun x s₁ h₁=>ab (dt ?_)) fun _ _ x=>x))
 obtain⟨ho,hcall⟩:=h₁
 simp only [hplain,List.any_nil,yv]
 refine ab (m:=keeperOf (.ref u)) ?_
 unfold keeperOf
 refine ab (rj ho ?_)
 simp only [hcl,hdt,show(Value.type "builtin_function_or_method" != Value.type "method")=true by decide,show(Value.type "builtin_function_or_method" == Value.type "builtin_function_or_method" || Value.type "builtin_function_or_method" == Value.type "method-wrapper")=true by decide,sg]
 refine ae ?_
 exact ab (ay hcall (fun r s₂ hr=>ab (bh (wpAny_point (ae hr)))) fun _ _ x=>x)
theorem tM {u a:Addr} {id:String} {o:Obj} {b:Builtin} {args:List Value} {Q:Value→Shared→Prop} (ho:s.heap.get? u=some o) (hcl:o.cls=.type "builtin_function_or_method") (hdt:o.data=.fields #[.builtin id,.ref a])
  (hck:∀ (A:Around) (E:Value→Shared→Prop) (Q:Unit→Shared→Prop),Q () s→wpAny (model prog w) A (checkBoundCall id ⟨.ref a::args,[]⟩) Q E s) (hq:id.startsWith "lifetime."=false) (he:entryFor table id=some b)
  (h:∀ A':Around,wpAny (model prog w) A' (b ⟨.ref a::args,[]⟩) (fun fin s'=>∃ v,fin=.done (.ret v)∧Q v s') E s):wpAny (model prog w) A (call (.ref u) args) Q E s:=by
 refine pf (xk ?_)
 show wpAny _ A.in1 (callAny (.ref u) ⟨args,[]⟩) _ _ s
 simp only [callAny]
 refine ab (rj ho ?_)
 simp only [hcl,hdt,show(Value.type "builtin_function_or_method" == Value.type "method" || Value.type "builtin_function_or_method" == Value.type "builtin_function_or_method" || Value.type "builtin_function_or_method" == Value.type "method-wrapper")=true by decide,sg]
 show wpAny _ _ (do checkBoundCall id ⟨.ref a::args,[]⟩;again (.builtin id ⟨.ref a::args,[]⟩)) _ _ s
 refine ab (hck _ _ _ (ae ⟨Code.quiet_builtin _ hq,codeAny_builtin he ?_⟩))
 refine ay (h _) (fun fin s' h'=>?_) fun _ _ x=>x
 obtain⟨v,rfl,hv⟩:=h'
 exact hv
theorem tJ (a b c:Value):(match Manifest.signature? "dict.get" with | some sig=>Bind.checkArgs "dict.get" { sig with full:=s!"{Bind.lastOf "dict"}.{Bind.lastOf "dict.get"}" } ⟨[a,b,c],[]⟩ | none=>pure ())=pure ():=by
 rw [bY (id:="dict.get") (n:=['t','e','g']) (o:=['t','c','i','d']) (by kernel_rfl) PySem.F.owner_dict];kernel_rfl
theorem tI (a b:Value):(match Manifest.signature? "set.__contains__" with | some sig=>Bind.checkArgs "set.__contains__" { sig with full:=s!"{Bind.lastOf "set"}.{Bind.lastOf "set.__contains__"}" } ⟨[a,b],[]⟩ | none=>pure ())=pure ():=by
 rw [bY (id:="set.__contains__") (n:=['_','_','s','n','i','a','t','n','o','c','_','_']) (o:=['t','e','s']) (by kernel_rfl) PySem.F.owner_set];kernel_rfl
theorem jW {T id:String} {a:Addr} {o:Obj} {rest:List Value} {Q:Unit→Shared→Prop} (hx:s.heap.get? a=some o) (hc:o.cls=.type T) (hnc:∀ c,o.data≠.cls c) (hk:builtinKind id=some .method) (hm:isSubtype (.type T) (.type "module")=pure false) (hv:Manifest.varargsMethods.contains id=false)
  (hF:(match Manifest.signature? id with | some sig=>Bind.checkArgs id { sig with full:=s!"{Bind.lastOf T}.{Bind.lastOf id}" } ⟨.ref a::rest,[]⟩ | none=>pure ())=pure ()) (h:Q () s):wpAny (model prog w) A (checkBoundCall id ⟨.ref a::rest,[]⟩) Q E s:=by
 have hT:s.TypeIs (.ref a) T:=⟨_,hx,hc⟩
 unfold checkBoundCall
 cases hsig:Manifest.signature? id with
 | none=>exact ae h
 | some sig =>
  rw [hsig] at hF
  dsimp only at hF ⊢
  rw [hk]
  dsimp only
  rw [aw (by decide)]
  unfold isInstance
  refine ab (ab (yr hT ?_))
  refine cx hm ?_
  rw [hv,aw (by decide)]
  have hnot:∀ Q':Bool→Shared→Prop,Q' false s→wpAny (model prog w) A (isType (.ref a)) Q' E s:=fun Q' q=>by
   unfold isType loadHead
   refine ab (zx hx (ae ?_))
   split
   ·rename_i c e;exact absurd e (hnc c)
   ·exact q
  refine ab (hnot _ ?_)
  rw [aw (by decide)]
  refine ab (yr hT ?_)
  exact cx hF h
theorem pD:builtinKind "dict.get"=some .method:=by kernel_rfl
theorem pC:builtinKind "set.__contains__"=some .method:=by kernel_rfl
theorem yT:isSubtype (.type "dict") (.type "module")=pure false:=by rw [gz];kernel_rfl
theorem yS:isSubtype (.type "set") (.type "module")=pure false:=by rw [gz];kernel_rfl
theorem uB:Manifest.varargsMethods.contains "dict.get"=false:=by decide +kernel
theorem uA:Manifest.varargsMethods.contains "set.__contains__"=false:=by decide +kernel
theorem xH {a:Addr} {o:Obj} {x y:Value} {Q:Unit→Shared→Prop} (hx:s.heap.get? a=some o) (hc:o.cls=.type "dict") (hnc:∀ c,o.data≠.cls c) (h:Q () s):wpAny (model prog w) A (checkBoundCall "dict.get" ⟨[.ref a,x,y],[]⟩) Q E s :=
 jW hx hc hnc pD yT uB (tJ _ _ _) h
theorem xG {a:Addr} {o:Obj} {x:Value} {Q:Unit→Shared→Prop} (hx:s.heap.get? a=some o) (hc:o.cls=.type "set") (hnc:∀ c,o.data≠.cls c) (h:Q () s):wpAny (model prog w) A (checkBoundCall "set.__contains__" ⟨[.ref a,x],[]⟩) Q E s :=
 jW (T:="set") (id:="set.__contains__") (rest:=[x]) hx hc hnc pC yS uA (tI (.ref a) x) h
end
end MP
end
section
namespace MP
open PySem PyProof.Rows
theorem kM:plainId "dict.get"=true:=PySem.F.slot_dict_get.plain
theorem oY:("dict.get":String).startsWith "lifetime."=false:=by decide +kernel
theorem oX:("set.__contains__":String).startsWith "lifetime."=false:=by decide +kernel
section
variable {prog:Program} {w:World} {A:Around} {E:Value→Shared→Prop} {s:Shared}
theorem pQ {u a:Addr} {id:String} {o:Obj} {b:Builtin} {args:List Value} {S:PySem.Spec} {Q:Value→Shared→Prop} (ho:s.heap.get? u=some o) (hcl:o.cls=.type "builtin_function_or_method") (hdt:o.data=.fields #[.builtin id,.ref a])
  (hck:∀ (A:Around) (E:Value→Shared→Prop) (Q:Unit→Shared→Prop),Q () s→wpAny (model prog w) A (checkBoundCall id ⟨.ref a::args,[]⟩) Q E s) (hq:id.startsWith "lifetime."=false) (he:entryFor table id=some b) (hp:plainId id=true)
  (g:MeetsIn prog w (b ⟨.ref a::args,[]⟩) S) (h:S A (wants Q E) s):wpAny (model prog w) A (call (.ref u) args) Q E s:=by
 refine pf (xk ?_)
 show wpAny _ A.in1 (callAny (.ref u) ⟨args,[]⟩) _ _ s
 simp only [callAny]
 refine ab (rj ho ?_)
 simp only [hcl,hdt,show(Value.type "builtin_function_or_method" == Value.type "method" || Value.type "builtin_function_or_method" == Value.type "builtin_function_or_method" || Value.type "builtin_function_or_method" == Value.type "method-wrapper")=true by decide,sg]
 show wpAny _ _ (do checkBoundCall id ⟨.ref a::args,[]⟩;again (.builtin id ⟨.ref a::args,[]⟩)) _ _ s
 refine ab (hck _ _ _ (ae ⟨Code.quiet_builtin _ hq,codeAny_builtin he ?_⟩))
 rw [Around.under_plainId hp]
 exact g A (wants Q E) s h
theorem e9 {K:Type} [DecidableEq K] {knd:KeyKind prog w K} {a:Addr} {k:K} {key:Value} {S:K→Bool} {n:Nat} {Q:Value→Shared→Prop} (hkey:knd.is k key=true) (hsc:key.scannable=true) (hS:s.heap.SetOf knd a S n)
  (h:Q (.bool (S k)) { s with toks:=s.toks+1 }):wpAny (model prog w) A (Builtin.«frozenset.__contains__» ⟨[.ref a,key],[]⟩) (fun fin s'=>∃ v,fin=.done (.ret v)∧Q v s') E s:=by
 unfold Builtin.«frozenset.__contains__» Builtin.Frozenset.oneOther
 simp only [List.isEmpty_nil,bind_assoc]
 unfold Builtin.Frozenset.addrOf Builtin.Frozenset.withSetAsKey setContains
 refine ab (ae ?_)
 try dsimp only
 refine ab (ae ?_)
 try dsimp only
 refine ab (wpAny_tryCatch ?_)
 refine bh ?_
 refine ab (knd.pyHash hkey ?_)
 refine ab (wpAny_setFind_of (s:={ s with toks:=s.toks+1 }) hkey hsc hS fun r hr=>?_)
 refine ae ?_
 show wpAny _ _ (ret (Value.bool r.isSome)) _ _ _
 rw [hr]
 exact ae ⟨_,rfl,h⟩
end
section
variable {G:Stc} {C:Cal} {sc:Scope} {d:Nat}
theorem kF {e:Ex} {x:Expr} {pos:Pos} (he:cp G C sc d e x) (hb:mh x=true):cp G C sc d (.dgetOf e) (.Attribute x "get" pos):=fun A E env ρ σ Q s ao es eo F R h =>
 Attribute_any_ (ju (he A E env ρ σ _ s ao es eo F R h) fun v σ₁ h₁ tk w q vr r x=>by
  obtain⟨a,rfl,hD,q⟩:=q
  obtain rfl:=vr
  obtain⟨es',e⟩:=bw.mp hD
  obtain⟨ds,hd,_⟩:=r.D _ _ e
  have hnd:=hd.mapOf.noDict a rfl
  obtain⟨o,ees,ep,ho,hc,hdt,_⟩:=id hd
  obtain⟨o',ho',hdn⟩:=hnd
  obtain rfl:=af (ho.symm.trans ho')
  refine gY (s:={ s with heap:=h₁,toks:=tk }) ho hc.1 hdn (fun c q=>by rw [hdt] at q;cases q) ?_
  exact⟨.yo a,σ₁,_,_,rfl,q,.yo (cg _ rfl) rfl rfl,r.push _,x.trans (Evo.push _ _ _ _)⟩) (by rw [arm_eval_Attribute,ua hb])
theorem kC {e:Ex} {x:Expr} {pos:Pos} (he:cp G C sc d e x) (hb:mh x=true):cp G C sc d (.shasOf e) (.Attribute x "__contains__" pos):=fun A E env ρ σ Q s ao es eo F R h =>
 Attribute_any_ (ju (he A E env ρ σ _ s ao es eo F R h) fun v σ₁ h₁ tk w q vr r x=>by
  obtain⟨a,rfl,hD,q⟩:=q
  obtain rfl:=vr
  obtain⟨es',e⟩:=bw.mp hD
  have hd:=r.S _ _ e
  obtain⟨o',ho',hdn⟩:=hd.noDict (s:={ s with heap:=h₁,toks:=tk }) a rfl
  obtain⟨o,ees,ep,t,ho,hc,hdt,_⟩:=id hd
  obtain rfl:=af (ho.symm.trans ho')
  refine gX (s:={ s with heap:=h₁,toks:=tk }) ho hc.1 hdn (fun c q=>by rw [hdt] at q;cases q) ?_
  exact⟨.zd a,σ₁,_,_,rfl,q,.zd (cg _ rfl) rfl rfl,r.push _,x.trans (Evo.push _ _ _ _)⟩) (by rw [arm_eval_Attribute,ua hb])
theorem fK {A:Around} {E:Value→Shared→Prop} {s:Shared} {σ:St} {env:Env} {ρ:Fr} {u a:Addr} {id:String} {o:Obj} {es:Exs} {args:List Expr} {pos:Pos} {P:List V→St→Prop} {Q:Value→Shared→Prop} (ho:s.heap.get? u=some o) (hcl:o.cls=.type "builtin_function_or_method") (hdt:o.data=.fields #[.builtin id,.ref a]) (hs:noStar args=true) (hes:iy G C sc d es args)
  (ao:AOk A d) (hsc:env.scope=sc) (eo:gr env) (F:FR G σ env ρ s.heap) (R:Rel G σ s.heap) (h:nz C es ρ σ P)
  (k:∀ vs σ₁ h₁ tk ws,P vs σ₁→VRs G h₁ vs ws→Rel G σ₁ h₁→Evo [] σ s.heap σ₁ h₁→h₁.get? u=some o→wpAny G.M A (call (.ref u) ws) Q E { s with heap:=h₁,toks:=tk }) :
  wpAny G.M A (callWith pos (.ref u) [] (backTo pos (starEach args env)) []) Q E s :=
 i3 (o:=o) (fg hs pos env) hcl hdt (ix (fg hs pos env) (eD (hes A E env ρ σ P s pos ao hsc eo F R h) fun vs σ₁ h₁ tk ws q vr r x=>by
  have hu:=x.frz _ _ ho (.inr (.inl ⟨.inl hcl,_,hdt⟩))
  exact⟨hu,k vs σ₁ h₁ tk ws q vr r x hu⟩))
theorem eU {f:Nat} {es:Exs} {x:Str} {kd:NameKind} {args:List Expr} {p pos:Pos} (K:GOk G) (hi:sc.names[f]?=some (x,kd)) (hk:isVar kd=true) (hx:fe x=true) (hes:iy G C sc d es args) (hs:noStar args=true):cp G C sc d (.callv f es) (.Call (.Name x p) args [] pos):=fun A E env ρ σ Q s ao ess eo F R h=>by
 obtain⟨v,hv,h⟩:=h
 have hx':(x==("__debug__":Str))=false:=by simp only [fe,bz,dw] at hx;exact hx.1
 refine Call_ (wpAny_Name (zb eo F (by rw [ess];exact hi) hk hx hv fun w vr=>?_) hx')
 have no:(∀ vs σ,¬ AD v vs C 1000 σ Q)→wpAny G.M A (callWith pos w [] (backTo pos (starEach args env)) []) (ew G [] σ s Q) E s:=fun hno=>by
  unfold callWith
  exact ab (bh (ix (fg hs pos env) (eD (hes A E env ρ σ _ s pos ao ess eo F R h) fun vs σ₁ h₁ tk ws q vr r x=>(hno _ _ q).elim)))
 cases v with
 | yo a =>
  obtain⟨q,o,rfl,ho,hcl,hdt⟩:=vr
  refine fK ho hcl hdt hs hes ao ess eo F R h fun vs σ₁ h₁ tk ws q₁ vrs r x₁ hu=>?_
  obtain⟨k,dd,rfl,es',kk,e,hkey,q₁⟩:=cO (vs:=vs) q₁
  obtain⟨wa,wb,rfl,va,vb⟩:=vrs.two
  obtain⟨ds,hd,hvd⟩:=r.D _ _ e
  obtain⟨od,ees,ep,hod,hcd,hdd,_⟩:=id hd
  have hl:=hvd.look kk
  refine pQ (s:={ s with heap:=h₁,toks:=tk }) hu hcl hdt (fun A E Q q=>xH (s:={ s with heap:=h₁,toks:=tk }) hod hcd.1 (fun c q=>by rw [hdd] at q;cases q) q) oY PySem.F.entry_dict_get kM (meets_dict_get_default G.kk _ (key_is hkey va) (c6 (s:={ s with heap:=h₁,toks:=tk }) K r (.inr (.inl (by rw [e];rfl)))) _) ⟨_,hd.mapOf,?_⟩
  exact⟨_,σ₁,h₁,_,rfl,q₁,hl.getD vb,r,x₁⟩
 | zd a =>
  obtain⟨q,o,rfl,ho,hcl,hdt⟩:=vr
  refine fK ho hcl hdt hs hes ao ess eo F R h fun vs σ₁ h₁ tk ws q₁ vrs r x₁ hu=>?_
  obtain⟨k,rfl,ks,kk,e,hkey,q₁⟩:=bD (vs:=vs) q₁
  obtain⟨wa,rfl,va⟩:=vrs.one
  have hS:=r.S _ _ e
  obtain⟨od,ees,ep,t,hod,hcd,hdd,_⟩:=id hS
  refine tM (s:={ s with heap:=h₁,toks:=tk }) hu hcl hdt (fun A E Q q=>xG (s:={ s with heap:=h₁,toks:=tk }) hod hcd.1 (fun c q=>by rw [hdd] at q;cases q) q) oX PySem.entry_set_contains fun A'=>?_
  refine e9 (s:={ s with heap:=h₁,toks:=tk }) (key_is hkey va) (sU hkey va) hS ?_
  exact⟨_,σ₁,h₁,_,rfl,q₁,.bool _,r,x₁⟩
 | clo _ _=>exact vr.elim
 | _=>exact no fun _ _ q=>q
end
end MP
end
section
namespace MP
open PySem PyProof.Rows
theorem At.grow {h h':Heap} {a:Addr} {o:Obj} (hn:h.get? a=none) (hk:∀ b o,h.get? b=some o→h'.get? b=some o) (ha:h'.get? a=some o):At a h h' :=
 ⟨fun b o _ e=>hk b o e,⟨_,ha⟩,fun o e=>by rw [hn] at e;cases e⟩
section
variable {G:Stc} {C:Cal} {sc:Scope} {d:Nat}
theorem oW {X:List Addr} {σ σ₁:St} {s:Shared} {h₁ h₂:Heap} {tk:Nat} {Q:V→St→Prop} {vs:List V} {ws:List Value} {a n:Nat} (r:Rel G σ₁ h₁) (x:Evo X σ s.heap σ₁ h₁) (hn:h₁.get? a=none) (hk:∀ b o,h₁.get? b=some o→h₂.get? b=some o) (hl:IsL h₂ a ws.toArray n) (vrs:VRs G h₁ vs ws) (hz:vs.length≤av)
  (q:∀ c,σ₁.L c=none→Q (.lst c) (σ₁.cw c vs)):ew G X σ s Q (.ref a) { s with heap:=h₂,toks:=tk }:=by
 have at':At a h₁ h₂:=At.grow hn hk hl
 have hL:σ₁.L a=none:=by
  cases hq:σ₁.L a with
  | none=>rfl
  | some ys=>obtain⟨o,ho,_⟩:=r.hZ hq;rw [hn] at ho;cases ho
 exact⟨.lst _,_,_,tk,rfl,q _ hL,.lst _,r.putL at' (fun _=>hn) hl vrs hz,x.trans (Evo.putL at' (fun _=>hn) _)⟩
theorem uX {e:Ex} {x:Str} {y:Expr} {p pos:Pos} (K:GOk G) (he:cp G C sc d e y) (hst:noStar [y]=true) (hx:sc.names.lookup x=some .globalImplicit) (hn:fe x=true) (hv:G.gl x=some (.builtin "len")) :
  cp G C sc d (.bf .len (.cons e .nil)) (.Call (.Name x p) [y] [] pos):=fun A E env ρ σ Q s ao es eo F R h=>by
 have hes:iy G C sc d (.cons e .nil) [y]:=du he ip (cj hst).1
 refine cH K hst hes hx hn hv ao es eo F R h fun vs σ₁ h₁ tk ws q vr r x₁=>?_
 obtain⟨v,rfl,q⟩:=bD (vs:=vs) q
 obtain⟨w,rfl,va⟩:=vr.one
 cases v with
 | lst a =>
  obtain rfl:=va
  obtain⟨xs,e,q⟩:=q
  obtain⟨us,n,hl,hvs⟩:=r.L _ _ e
  rw [hvs.length] at q
  exact PySem.Calls.call_len_list (s:={ s with heap:=h₁,toks:=tk }) hl.isList (oZ (dX r e hvs)) ⟨_,σ₁,h₁,_,rfl,q,.int _ _,r,x₁⟩
 | tup xs =>
  obtain⟨a,us,n,rfl,g,rr⟩:=va
  obtain⟨hz,q⟩:=q
  rw [rr.length] at q hz
  exact PyProof.Rows.len_tuple (s:={ s with heap:=h₁,toks:=tk }) ⟨_,g,rfl,_,rfl⟩ (oZ hz) ⟨_,σ₁,h₁,_,rfl,q,.int _ _,r,x₁⟩
 | ro ns =>
  obtain⟨a,us,n,rfl,g,rr⟩:=va
  obtain⟨hz,q⟩:=q
  rw [← rr.length] at q hz
  exact PySem.Calls.call_len_list (s:={ s with heap:=h₁,toks:=tk }) (IsL.isList (r.base _ _ g)) (oZ hz) ⟨_,σ₁,h₁,_,rfl,q,.int _ _,r,x₁⟩
 | dct a =>
  obtain rfl:=va
  obtain⟨es',e,q⟩:=q
  obtain⟨ds,hd,hvd⟩:=r.D _ _ e
  have hlen:=hvd.length
  have hz:=r.Dl _ _ e
  unfold av at hz
  refine call_len_dict (s:={ s with heap:=h₁,toks:=tk }) (c6 (s:={ s with heap:=h₁,toks:=tk }) K r (.inr (.inl (by rw [e];rfl)))) hd (by(exact Ar.a2 [] [_,_] (.il (.t .v0) (.n (2^63))) [[1,-1,1]] (.e .v1 .v0) (.k .v1 (.n 1000000)) hlen hz)) ?_
  rw [hlen] at q
  exact⟨_,σ₁,h₁,_,rfl,q,.int _ _,r,x₁⟩
 | _=>exact False.elim q
theorem gD {k:BF} {id:String} {W:Int→Int→St→(V→St→Prop)→Prop} {e f:Ex} {x:Str} {y z:Expr} {p pos:Pos} (K:GOk G) (he:cp G C sc d e y) (hf:cp G C sc d f z) (hst:noStar [y,z]=true) (hx:sc.names.lookup x=some .globalImplicit) (hn:fe x=true) (hv:G.gl x=some (.builtin id))
  (hk:∀ vs σ Q,o6 k vs σ Q→on2 vs fun v u=>oz v fun i=>oz u fun j=>W i j σ Q)
  (hc:∀ (A:Around) (E:Value→Shared→Prop) (σ:St) (s:Shared) (i j:Int) (t u:Tok) (Q:V→St→Prop),AOk A d→Rel G σ s.heap→W i j σ Q→wpAny G.M A (call (.builtin id) [.int i t,.int j u]) (ew G [] σ s Q) E s) :
  cp G C sc d (.bf k (.cons e (.cons f .nil))) (.Call (.Name x p) [y,z] [] pos):=fun A E env ρ σ Q s ao es eo F R h=>by
 have hes:iy G C sc d (.cons e (.cons f .nil)) [y,z]:=du he (du hf ip (cj (cj hst).2).1) (cj hst).1
 refine cH (P:=fun vs σ=>o6 k vs σ Q) K hst hes hx hn hv ao es eo F R h fun vs σ₁ h₁ tk ws q vr r x₁=>?_
 have q1:=hk vs σ₁ Q q
 clear q
 obtain⟨v,u,rfl,q2⟩:=cO (vs:=vs) q1
 obtain⟨i,rfl,q3⟩:=my (v:=v) q2
 obtain⟨j,rfl,q⟩:=my (v:=u) q3
 obtain⟨w,w',rfl,⟨t,rfl⟩,⟨t',rfl⟩⟩:=vr.two
 exact ay (hc A E σ₁ { s with heap:=h₁,toks:=tk } i j t t' Q ao r q) (fun _ _ l=>ew.back x₁ l) fun _ _ x=>x
theorem qU {e f:Ex} {x:Str} {y z:Expr} {p pos:Pos} (K:GOk G) (he:cp G C sc d e y) (hf:cp G C sc d f z) (hst:noStar [y,z]=true) (hx:sc.names.lookup x=some .globalImplicit) (hn:fe x=true) (hv:G.gl x=some (.builtin "min")) :
  cp G C sc d (.bf .min (.cons e (.cons f .nil))) (.Call (.Name x p) [y,z] [] pos):=gD K he hf hst hx hn hv (fun _ _ _=>id) fun A E σ s i j t u Q ao r q=>by
 refine min_two_ints ao.handled fun h' tk' hk=>?_
 refine⟨_,σ,h',tk',rfl,q,?_,r.keeps hk,Evo.keeps hk⟩
 split
 ·rw [Int.min_eq_right (by(rename_i z1;exact Ar.a1 [_,_] [] (.ik .v0 .v1) [[1,1]] (.il .v0 .v1) z1))];exact .int _ _
 ·rw [Int.min_eq_left (by(rename_i z1;exact Ar.a1 [_,_] [] (.ik .v0 .v1) [[1,1]] (.ig .v1 .v0) z1))];exact .int _ _
theorem qX {e f:Ex} {x:Str} {y z:Expr} {p pos:Pos} (K:GOk G) (he:cp G C sc d e y) (hf:cp G C sc d f z) (hst:noStar [y,z]=true) (hx:sc.names.lookup x=some .globalImplicit) (hn:fe x=true) (hv:G.gl x=some (.builtin "max")) :
  cp G C sc d (.bf .max (.cons e (.cons f .nil))) (.Call (.Name x p) [y,z] [] pos):=gD K he hf hst hx hn hv (fun _ _ _=>id) fun A E σ s i j t u Q ao r q=>by
 refine max_two_ints ao.handled fun h' tk' hk=>?_
 refine⟨_,σ,h',tk',rfl,q,?_,r.keeps hk,Evo.keeps hk⟩
 split
 ·rw [Int.max_eq_right (by(rename_i z1;exact Ar.a1 [_,_] [] (.ik .v0 .v1) [[1,1]] (.il .v0 .v1) z1))];exact .int _ _
 ·rw [Int.max_eq_left (by(rename_i z1;exact Ar.a1 [_,_] [] (.ik .v0 .v1) [[1,1]] (.ig .v1 .v0) z1))];exact .int _ _
theorem kE {e f:Ex} {x:Str} {y z:Expr} {p pos:Pos} (K:GOk G) (he:cp G C sc d e y) (hf:cp G C sc d f z) (hst:noStar [y,z]=true) (hx:sc.names.lookup x=some .globalImplicit) (hn:fe x=true) (hv:G.gl x=some (.builtin "divmod")) :
  cp G C sc d (.bf .divmod (.cons e (.cons f .nil))) (.Call (.Name x p) [y,z] [] pos):=gD K he hf hst hx hn hv (fun _ _ _=>id) fun A E σ s i j t u Q ao r zz11=>by
 obtain⟨h0,hb,q⟩:=zz11
 refine divmod_int h0 ?_ (.inl (yu (log2_lt_of hb)))
 exact⟨_,σ,_,_,rfl,q,.tup (IsT.new _ _) (.cons (.int _ _) (.cons (.int _ _) .nil)),r.push _,Evo.push _ _ _ _⟩
theorem qP {x:Str} {p pos:Pos} (K:GOk G) (hx:sc.names.lookup x=some .globalImplicit) (hn:fe x=true) (hv:G.gl x=some (.type "set")) :
  cp G C sc d (.bf .set .nil) (.Call (.Name x p) [] [] pos):=fun A E env ρ σ Q s ao es eo F R h=>by
 refine kh (P:=fun vs σ=>o6 .set vs σ Q) K rfl ip hx hn hv ao es eo F R h fun vs σ₁ h₁ tk ws q vr r x₁=>?_
 obtain⟨rfl,q⟩:=n3 (vs:=vs) q
 obtain rfl:=vr
 ·refine call_set_0 (s:={ s with heap:=h₁,toks:=tk }) fun led=>?_
  have hno:σ₁.S h₁.objs.size=none:=r.zV
  have at':At h₁.objs.size h₁ (h₁.push { cls:=.type "set",dict:=none,data:=.set #[] 0 (.fresh 0 0 led) }):=At.push h₁
  have hS:(h₁.push { cls:=.type "set",dict:=none,data:=.set #[] 0 (.fresh 0 0 led) }).SetOf G.kk h₁.objs.size (fun k=>decide (k∈([]:List Key))) ([]:List Key).length :=
   ⟨_,#[],0,_,cg _ rfl,⟨rfl,rfl,rfl⟩,rfl,fun e he=>by simp at he,fun k=>by simp,by decide,by rfl,by rfl⟩
  exact⟨.set _,_,_,_,rfl,q _ hno,.set _,r.zB at' (fun _=>none_at_size _) hS,x₁.trans (Evo.zB at' (fun _=>none_at_size _) _)⟩
theorem kD {e:Ex} {x x':Str} {y:Expr} {p p' pos pos':Pos} (K:GOk G) (he:cp G C sc d e y) (hst:noStar [y]=true) (hx:sc.names.lookup x=some .globalImplicit) (hn:fe x=true) (hv:G.gl x=some (.type "list"))
  (hx':sc.names.lookup x'=some .globalImplicit) (hn':fe x'=true) (hv':G.gl x'=some (.type "range")) :
  cp G C sc d (.bf .lrange (.cons e .nil)) (.Call (.Name x p) [.Call (.Name x' p') [y] [] pos'] [] pos):=fun A E env ρ σ Q s ao es eo F R h=>by
 have hes:iy G C sc d (.cons e .nil) [y]:=du he ip (cj hst).1
 refine Call_ (gn K eo R (by rw [es];exact hx) hn hv (nh (fg (args:=[.Call (.Name x' p') [y] [] pos']) rfl pos env) (ix (fg (args:=[.Call (.Name x' p') [y] [] pos']) rfl pos env) (spliced_more ?_ rfl))))
 refine kh (P:=fun vs σ=>o6 .lrange vs σ Q) K hst hes hx' hn' hv' ao es eo F R h fun vs σ₁ h₁ tk ws q vr r x₁=>?_
 obtain⟨v,rfl,q⟩:=bD (vs:=vs) q
 obtain⟨n,rfl,h0,hz,q⟩:=my (v:=v) q
 obtain⟨w,rfl,t,rfl⟩:=vr.one
 have hz':=hz
 unfold av at hz
 refine call_range_1 (s:={ s with heap:=h₁,toks:=tk }) (tg ?_)
 have r':=r.push { cls:=.type "range",data:=.fields #[.int 0 tk,.int n t,.int 1 (tk+1)] }
 have x':Evo [] σ s.heap σ₁ (h₁.push { cls:=.type "range",data:=.fields #[.int 0 tk,.int n t,.int 1 (tk+1)] }):=x₁.trans (Evo.push _ _ _ _)
 refine call_list_range (s:={ s with heap:=h₁.push { cls:=.type "range",data:=.fields #[.int 0 tk,.int n t,.int 1 (tk+1)] },toks:=tk+1+1 }) (n:=n.toNat) ao.handled (IsRange.new ..) (iR (by decide) (by(exact(Ar.nab _).elim (fun q1=>(Ar.a2 [_] [_] (.l .v0 (.n (2^40))) [[1,1,1]] (.ik .v0 (.t (.n 1000000))) (.ie (.t .v0) .v0) hz q1.2)) fun q1=>(Ar.a2 [_] [_] (.l .v0 (.n (2^40))) [[1,1,1]] (.ik .n0 .v0) (.ie (.t .v0) (.g .v0)) h0 q1.2))) (by decide) (by decide)) (by rw [rangeSize_nat];simp) (by(exact(Ar.ton _).elim (fun q1=>(Ar.a2 [_] [_] (.k .v0 (.n (2^24))) [[1,1,1]] (.ik .v0 (.t (.n 1000000))) (.ie (.t .v0) .v0) hz q1.2)) fun q1=>(Ar.a1 [] [_] (.k .v0 (.n (2^24))) [[1,1]] (.e .v0 .n0) q1.2))) fun h' tk' acc' c' hk hS' hacc=>?_
 refine oW (ws:=acc'.toList) (vs:=(List.range n.toNat).map fun i:Nat=>V.int i) r' x' (none_at_size _) hk (n:=c') (by show h'.get? _=_;rw [hS']) ?_ (by simp;(exact Ar.a1 [_] [_] (.ik .v0 (.t .v0)) [[1,1]] (.ik .v0 (.t .v0)) hz')) q
 have hlen:acc'.size=n.toNat:=hacc.1
 have key:∀ (m:Nat) (l:List Value),l.length=m→(∀ (i:Nat) (v:Value),l[i]?=some v→∃ t,v=Value.int (((n.toNat-m)+i:Nat):Int) t)→m≤n.toNat→VRs G (h₁.push { cls:=.type "range",data:=.fields #[.int 0 tk,.int n t,.int 1 (tk+1)] }) ((List.range' (n.toNat-m) m).map fun i:Nat=>V.int i) l:=by
  intro m
  induction m with
  | zero=>intro l hl _ _;obtain rfl:=List.length_eq_zero_iff.mp hl;exact .nil
  | succ m ih =>
   intro l hl hh hm
   cases l with
   | nil=>simp at hl
   | cons w l =>
    obtain⟨t0,rfl⟩:=hh 0 w rfl
    rw [List.range'_succ,gm]
    refine .cons (.int _ _) ?_
    have e:n.toNat-(m+1)+1=n.toNat-m:=by(exact Ar.a2 [] [_,_,_,_] (.e (.a .v0 .n1) .v1) [[1,-1,1],[1,1,-1]] (.e (.a .v0 (.a .v2 .n1)) .v3) (.e (.a .v1 .v2) .v3) (aa (Ar.a1 [] [_,_] (.k (.a .v0 .n1) .v1) [[1,1]] (.k (.a .v0 .n1) .v1) hm)) (aa (Ar.a1 [] [_,_] (.k .v0 .v1) [[1,1]] (.k (.a .v0 .n1) .v1) hm)))
    rw [e]
    refine ih l (by simpa using hl) (fun i v e=>?_) (by(exact Ar.a1 [] [_,_] (.k .v0 .v1) [[1,1]] (.k (.a .v0 .n1) .v1) hm))
    obtain⟨t1,rfl⟩:=hh (i+1) v (by simpa using e)
    exact⟨t1,by congr 1;(rename_i z1;exact Ar.a1 [] [_,_,_] (.ie (.t (.a .v0 (.a .v1 .n1))) (.t (.a .v2 .v1))) [[1,-1],[1,1]] (.e (.a .v0 .n1) .v2) z1)⟩
 have:=key n.toNat acc'.toList (by simpa using hlen) (fun i v e=>by
  obtain⟨t1,rfl⟩:=hacc.2 i v (by simpa using e)
  exact⟨t1,by congr 1;simp⟩) (aj _)
 rw [Nat.sub_self,← List.range_eq_range'] at this
 exact this
end
end MP
end
section
namespace MP
open PySem PyProof.Rows
noncomputable def Tg.vars:Tg→List Nat
 | .var x=>[x]
 | .tup xs=>xs
noncomputable def Gens.vars:Gens→List Nat
 | .elt _=>[]
 | .cons _ t _ more=>t.vars++more.vars
theorem cL:∀ (xs:List Nat) (vs:List V) (ρ:Fr) (i:Nat),i∉xs→ez xs vs ρ i=ρ i
 | [],_,_,_,_=>rfl
 | _::_,[],_,_,_=>rfl
 | x::xs,v::vs,ρ,i,h=>by
  have h:=fU h
  exact(cL xs vs _ i h.2).trans (cn h.1)
theorem lZ {t:Tg} {v:V} {σ:St} {ρ:Fr} {K:Fr→Prop} (h:mj t v σ ρ K):mj t v σ ρ fun ρ'=>K ρ'∧∀ i,i∉t.vars→ρ' i=ρ i:=by
 cases t with
 | var x=>exact⟨h,fun i hi=>cn (by simpa [Tg.vars] using hi)⟩
 | tup xs =>
  obtain⟨vs,e,hl,h⟩:=h
  exact⟨vs,e,hl,h,fun i hi=>cL _ _ _ _ hi⟩
theorem Rel.AE {G:Stc} {σ:St} {h:Heap} {a:Addr} {xs:List V} {ws:List Value} {n:Nat} (R:Rel G σ h) (hd:¬ σ.dom a) (hb:G.hb.get? a=none) (hl:IsL h a ws.toArray n) (hv:VRs G h xs ws) (hz:xs.length≤av):Rel G (σ.cw a xs) h:=by
 refine⟨fun b ys e=>?_,R.D,R.S,R.I,R.Z,fun b ys e=>?_,R.Dl,R.inj,R.apart,R.sep,fun b d=>?_,R.base⟩
 ·by_cases hba:b=a
  ·subst hba
   simp only [St.cw,bp,cz] at e
   subst e
   exact⟨ws,n,hl,hv⟩
  ·simp only [St.cw,cn hba] at e
   exact R.L b ys e
 ·by_cases hba:b=a
  ·subst hba
   simp only [St.cw,bp,cz] at e
   exact e▸hz
  ·simp only [St.cw,cn hba] at e
   exact R.Ll b ys e
 ·rcases tc d with d | rfl
  ·exact R.new b d
  ·exact hb
inductive nV (G:Stc) (env:Env) (D:Addr) (X:List Addr) (tv:List Nat) (ρ:Fr) (σ:St) (s:Shared) (K:Fr→List V→St→Prop) (s':Shared):Prop
 | mk (ρ':Fr) (acc':List V) (σ':St) (h':Heap) (tk:Nat) (ws:List Value) (n:Nat):s'={ s with heap:=h',toks:=tk }→K ρ' acc' σ'→FR G σ' env ρ' h'→Rel G σ' h'→IsL h' D ws.toArray n→VRs G h' acc' ws→acc'.length≤av→¬ σ'.dom D→Evo (D::X) σ s.heap σ' h'→(∀ i,i∉tv→ρ' i=ρ i)→nV G env D X tv ρ σ s K s'
structure uj (G:Stc) (env:Env) (D:Addr) (σ:St) (h:Heap) (acc:List V):Prop where
 here:∃ ws n,IsL h D ws.toArray n∧VRs G h acc ws
 len:acc.length≤av
 out:¬ σ.dom D
 off:D∉envX env
 base:G.hb.get? D=none
theorem uj.evo {G:Stc} {env:Env} {D:Addr} {σ σ':St} {h h':Heap} {acc:List V} {X:List Addr} (a:uj G env D σ h acc) (x:Evo X σ h σ' h') (hX:D∉X):uj G env D σ' h' acc:=by
 obtain⟨ws,n,hl,hv⟩:=a.here
 exact⟨⟨ws,n,x.keep _ _ hl a.out hX,hv.mono x.frz⟩,a.len,fun d=>(x.dom D d).elim a.out fun q=>(by rw [show h.get? D=_ from hl] at q;cases q),a.off,a.base⟩
noncomputable def oj (elt:Expr) (gens:List Comprehension) (scope:Scope) (pos:Pos) (depth:Nat) (acc:Value) (env:Env):Sem Unit :=
 match gens[depth+1]? with
 | some g'=>eval g'.iter env>>=fun x=>standAt g'.iter.pos>>=fun _=>foldedSetIterable g'.iter env x>>=fun x=>holding [x] (pyIter x)>>=fun i =>
  runOwn (.compStart (.ListComp elt gens scope pos) (depth+1) i acc env) env>>=fun _=>pure ()
 | none=>eval elt env>>=fun x=>call (.builtin "list.append") [acc,x]>>=fun _=>pure ()
noncomputable def tests (ifs:List Expr) (env:Env):Sem Bool:=forIn ifs true fun c r=>if r=true then do let ok←isTrue c env (eval c env);pure (ForInStep.yield ok) else pure (ForInStep.yield r)
theorem jS {elt:Expr} {gens:List Comprehension} {scope:Scope} {pos:Pos} {depth:Nat} {it acc:Value} {env:Env} {target iter:Expr} {ifs:List Expr} (hg:gens[depth]?=some ⟨target,iter,ifs,0⟩) (hg':∀ g',gens[depth+1]?=some g'→g'.is_async=0) :
  compTurn (.ListComp elt gens scope pos) depth it acc env=(standAt iter.pos>>=fun _=>pyNext it>>=fun r=>match r with
   | none=>pure (.done .next)
   | some v=>letOwnedTupleGo target it v>>=fun _=>assign target env v>>=fun _=>tests ifs env>>=fun ok =>
    if ok=true then oj elt gens scope pos depth acc env>>=fun _=>again (.compLoop (.ListComp elt gens scope pos) depth it acc env) else again (.compLoop (.ListComp elt gens scope pos) depth it acc env)):=by
 unfold compTurn
 simp only [hg]
 unfold oj tests
 cases hq:gens[depth+1]? with
 | none=>first | rfl | simp
 | some g' =>
  have:=hg' g' hq
  simp [this]
  congr 1
section
variable {prog:Program} {w:World} {A:Around} {R:Result→Shared→Prop} {s:Shared}
theorem zq {elt:Expr} {gens:List Comprehension} {scope:Scope} {pos:Pos} {depth:Nat} {it acc:Value} {env:Env} {target iter:Expr} {ifs:List Expr} (hg:gens[depth]?=some ⟨target,iter,ifs,0⟩)
  (h0:codeAny (model prog w) A (.compLoop (.ListComp elt gens scope pos) depth it acc env) R s)
  (h:wpAny (model prog w) A (pyIter it) (fun it' s'=>codeAny (model prog w) A (.compLoop (.ListComp elt gens scope pos) depth it' acc env) R s') (notedBy (model prog w) A env fun x s'=>R (.error x) s') s) :
  codeAny (model prog w) A (.compStart (.ListComp elt gens scope pos) depth it acc env) R s:=by
 refine xk ?_
 show wpAny _ A ((compStart (.ListComp elt gens scope pos) depth it acc env).onRaise (fun x=>do noteFrame x env;standAt theWindowsPlace)) _ _ s
 refine wpAny_notedAt ?_
 unfold compStart
 have e:clausesOf (.ListComp elt gens scope pos)=gens:=rfl
 simp only [e,hg]
 show wpAny _ A (ask>>=_) _ _ s
 refine ab (wpAny_askSetting (wpAny_ite ?_))
 split
 ·first
   | exact ab (ae (ae (And.intro rfl h0)))
   | exact ae (And.intro rfl h0)
 ·exact ab (wpAny_rule (ab (dt (ab (ay h (fun it' s' h'=>ae (And.intro rfl h')) fun _ _ x=>x)))))
theorem jT {elt:Expr} {gens:List Comprehension} {scope:Scope} {pos:Pos} {depth:Nat} {it acc:Value} {env:Env} {target iter:Expr} {ifs:List Expr} (hg:gens[depth]?=some ⟨target,iter,ifs,0⟩) (hg':∀ g',gens[depth+1]?=some g'→g'.is_async=0) (I:Nat→Shared→Prop)
  (turn:∀ n s,I n s→wpAny (model prog w) A (pyNext it) (fun r s₁=>match r with
   | none=>R (.ok .next) s₁
   | some v=>wpAny (model prog w) A (letOwnedTupleGo target it v) (fun _ s₁'=>wpAny (model prog w) A (assign target env v) (fun _ s₂ =>
     wpAny (model prog w) A (tests ifs env) (fun ok s₃=>if ok=true then wpAny (model prog w) A (oj elt gens scope pos depth acc env) (fun _ s₄=>∃ m,m<n∧I m s₄) (notedBy (model prog w) A env fun e s'=>R (.error e) s') s₃ else ∃ m,m<n∧I m s₃)
      (notedBy (model prog w) A env fun e s'=>R (.error e) s') s₂) (notedBy (model prog w) A env fun e s'=>R (.error e) s') s₁') (notedBy (model prog w) A env fun e s'=>R (.error e) s') s₁) (notedBy (model prog w) A env fun e s'=>R (.error e) s') s)
  (n:Nat) (h:I n s):codeAny (model prog w) A (.compLoop (.ListComp elt gens scope pos) depth it acc env) R s:=by
 refine codeAny_loop rfl I (fun n s hI=>?_) n h
 show wpAny _ A ((compTurn (.ListComp elt gens scope pos) depth it acc env).onRaise (fun x=>do noteFrame x env;theTreesLotGoes x)) _ _ s
 refine wpAny_noted ?_
 rw [jS hg hg']
 refine ab (dt (ab (ay (turn n s hI) (fun r s₁ h₁=>?_) fun _ _ h'=>h')))
 cases r with
 | none=>exact ae h₁
 | some v =>
  refine ab (ay h₁ (fun _ s₁' h₁'=>ab (ay h₁' (fun _ s₂ h₂=>ab (ay h₂ (fun ok s₃ h₃=>?_) fun _ _ h'=>h')) fun _ _ h'=>h')) fun _ _ h'=>h')
  cases ok with
  | false=>exact ae ⟨rfl,h₃⟩
  | true=>exact ab (ay h₃ (fun _ s₄ h₄=>ae ⟨rfl,h₄⟩) fun _ _ h'=>h')
end
section
variable {G:Stc} {C:Cal} {sc:Scope} {d:Nat}
noncomputable def lp (G:Stc) (C:Cal) (sc:Scope) (d:Nat) (cs:Exs) (ifs:List Expr):Prop :=
 ∀ (A:Around) (E:Value→Shared→Prop) (env:Env) (ρ:Fr) (σ:St) (Q:Bool→St→Prop) (s:Shared),AOk A d→env.scope=sc→gr env→FR G σ env ρ s.heap→Rel G σ s.heap →
  ti C cs ρ σ Q→wpAny G.M A (tests ifs env) (gq G [] σ s Q) E s
theorem b8 {A:Around} {E:Value→Shared→Prop} {env:Env} {s:Shared} {Q:Bool→Shared→Prop} (f:Expr→Bool→Sem (ForInStep Bool)) (hf:∀ c,f c false=pure (.yield false)) (h:Q false s):∀ ifs:List Expr,wpAny G.M A (forIn ifs false f) Q E s
 | []=>by rw [iq];exact ae h
 | c::r=>by
  rw [ji,hf]
  exact ab (ae (b8 (env:=env) f hf h r))
theorem pN:lp G C sc d .nil []:=fun A E env ρ σ Q s ao es eo F R h=>by
 unfold tests
 rw [iq]
 exact ae (gq.here h R)
theorem lS {c:Ex} {cs:Exs} {x:Expr} {xs:List Expr} (hc:mr G C sc d c x) (hr:lp G C sc d cs xs):lp G C sc d (.cons c cs) (x::xs):=fun A E env ρ σ Q s ao es eo F R h=>by
 unfold tests
 rw [ji]
 rw [bc rfl]
 refine ab (ab (eE (hc A E env ρ σ _ s ao es eo F R h) fun b σ₁ h₁ tk q r x=>ae ?_))
 cases b with
 | true=>exact ay (hr A E env ρ σ₁ Q _ ao es eo (F.evo x) r q) (fun _ _ l=>gq.back x l) fun _ _ x=>x
 | false=>exact b8 (env:=env) _ (fun c=>by simp) (gq.back (tk:=tk) x (gq.here q r)) xs
structure XOk (env:Env) (X:List Addr) (gens:List Comprehension):Prop where
 loc:env.locals∈X
 cells:∀ g∈gens,∀ y∈yx g.target,∀ c,env.cells.lookup y=some c→c∈X
 sub:∀ b∈X,b∈envX env
noncomputable def nc (G:Stc) (C:Cal) (sc:Scope) (d:Nat) (more:Gens) (elt:Expr) (gens:List Comprehension) (scope:Scope) (pos:Pos) (depth:Nat):Prop :=
 ∀ (A:Around) (E:Value→Shared→Prop) (env:Env) (ρ:Fr) (σ:St) (acc:List V) (K:Fr→List V→St→Prop) (s:Shared) (D:Addr) (X:List Addr),XOk env X gens→AOk A d→env.scope=sc→gr env→FR G σ env ρ s.heap→Rel G σ s.heap→uj G env D σ s.heap acc →
  c9 C more ρ acc σ K→wpAny G.M A (oj elt gens scope pos depth (.ref D) env) (fun _ s'=>nV G env D X more.vars ρ σ s K s') E s
theorem pS {e:Ex} {elt:Expr} {gens:List Comprehension} {scope:Scope} {pos:Pos} {depth:Nat} (he:cp G C sc d e elt) (hg:gens[depth+1]?=none):nc G C sc d (.elt e) elt gens scope pos depth:=fun A E env ρ σ acc K s D X xo ao es eo F R a h=>by
 unfold oj
 rw [hg]
 refine ab (ju (he A E env ρ σ _ s ao es eo F R h) fun v σ₁ h₁ tk w q vr r x=>?_)
 have a₁:=a.evo x (by simp)
 obtain⟨ws,n,hl,hv⟩:=a₁.here
 have hlen:=hv.length
 have hz:=q.1
 refine ab (a9 (s:={ s with heap:=h₁,toks:=tk }) yt ⟨_,hl,rfl⟩ PySem.F.entry_list_append (PySem.F.args_list_append_2 _ _) (list_append _ _ _ _ (by simp only [bg];rw [← hlen];exact jt (by(exact Ar.a1 [] [_,_] (.k .v0 .v1) [[1,1]] (.l .v0 .v1) q.1)))) ⟨hl,ae ?_⟩)
 have hu:=hl.update (fun x=>x.push w)
 have e2:ws.toArray.push w=(ws++[w]).toArray:=by simp
 rw [e2] at hu
 have hs:Heap.SameBut D h₁ (h₁.update D (Obj.mapSeq fun x=>x.push w)):=qh ..
 have hf:fc h₁ (h₁.update D (Obj.mapSeq fun x=>x.push w)):=jw hs fun o eo=>by
  obtain rfl:=af (eo.symm.trans hl);exact rk rfl rfl
 have hk:∀ b o,b∉[D]→h₁.get? b=some o→(h₁.update D (Obj.mapSeq fun x=>x.push w)).get? b=some o:=fun b o hb e=>by rw [hs.2 b (fun q=>hb (q▸.head _))];exact e
 refine⟨ρ,acc++[v],σ₁,_,tk,ws++[w],_,rfl,q.2,(F.evo x).but hk hf (fun b hb=>by obtain rfl:=aq.mp hb;exact a.off),r.frame (o':=default) hs a₁.out a.base hf,hu,(hv.mono hf).append (.cons (vr.mono hf) .nil),by simp;(exact Ar.a1 [] [_,_] (.k (.a .v0 .n1) .v1) [[1,1]] (.l .v0 .v1) q.1),a₁.out,?_,fun _ _=>rfl⟩
 exact(x.more fun _ h=>nomatch h).trans (Evo.frame hs hu (.head _) hf)
noncomputable def eR (C:Cal) (t:Tg) (cs:Exs) (more:Gens) (v:V) (ρ:Fr) (acc:List V) (σ:St) (K:Fr→List V→St→Prop):Prop:=mj t v σ ρ fun ρ'=>ti C cs ρ' σ fun ok σ=>if ok then c9 C more ρ' acc σ K else K ρ' acc σ
inductive bQ (I:Itr G) (env:Env) (σ₀:St) (s₀:Shared) (D:Addr) (X:List Addr) (vs:List Nat) (ρ:Fr) (T:V→Fr→List V→St→(Fr→List V→St→Prop)→Prop) (K:Fr→List V→St→Prop) (n:Nat) (s':Shared):Prop
 | mk (i:Nat) (σ':St) (ρ':Fr) (acc':List V) (h':Heap) (tk':Nat):n=I.vs.length-i→s'={ s₀ with heap:=h',toks:=tk' }→I.pos i h'→FR G σ' env ρ' h'→Rel G σ' h'→uj G env D σ' h' acc'→Evo (D::X) σ₀ s₀.heap σ' h'→(∀ b∈I.own,¬ σ'.dom b)→(∀ j,j∉vs→ρ' j=ρ j)→eG (I.vs.drop i) I.Gd T ρ' acc' σ' K→bQ I env σ₀ s₀ D X vs ρ T K n s'
theorem bQ.next {I:Itr G} {env:Env} {σ₀:St} {s₀:Shared} {D:Addr} {X:List Addr} {vs:List Nat} {ρ:Fr} {T:V→Fr→List V→St→(Fr→List V→St→Prop)→Prop} {K:Fr→List V→St→Prop} {i tk:Nat} {σ':St} {ρ':Fr} {acc':List V} {h':Heap} (lt:i<I.vs.length) (hp:I.pos (i+1) h') (F:FR G σ' env ρ' h') (R:Rel G σ' h') (a:uj G env D σ' h' acc') (x:Evo (D::X) σ₀ s₀.heap σ' h') (hd:∀ b∈I.own,¬ σ'.dom b) (ag:∀ j,j∉vs→ρ' j=ρ j) (q:eG (I.vs.drop (i+1)) I.Gd T ρ' acc' σ' K) :
  ∃ m,m<I.vs.length-i∧bQ I env σ₀ s₀ D X vs ρ T K m { s₀ with heap:=h',toks:=tk }:=⟨_,by(exact Ar.a2 [] [_,_,_,_] (.l .v0 .v1) [[1,1,-1]] (.e (.a .v0 (.a .v2 .n1)) .v3) (.e (.a .v1 .v2) .v3) (aa (Ar.a1 [] [_,_] (.k (.a .v0 .n1) .v1) [[1,1]] (.l .v0 .v1) lt)) (aa (Ar.a1 [] [_,_] (.k .v0 .v1) [[1,1]] (.l .v0 .v1) lt))),i+1,σ',ρ',acc',h',tk,rfl,rfl,hp,F,R,a,x,hd,ag,q⟩
theorem uj.kept {env:Env} {D:Addr} {σ:St} {h h':Heap} {acc:List V} {own:List Addr} (a:uj G env D σ h acc) (hD:D∉own) (hk:∀ b o,b∉own→h.get? b=some o→h'.get? b=some o) (fz:fc h h'):uj G env D σ h' acc:=by
 obtain⟨ws,m,hl,hv⟩:=a.here
 exact⟨⟨ws,m,hk _ _ hD hl,hv.mono fz⟩,a.len,a.out,a.off,a.base⟩
theorem yR {t:Tg} {cs:Exs} {more:Gens} {elt:Expr} {gens:List Comprehension} {scope:Scope} {pos:Pos} {depth:Nat} {target:Expr} {ifs:List Expr} (ht:rd G C sc d t target) (hcs:lp G C sc d cs ifs) (haf:nc G C sc d more elt gens scope pos depth)
  {A:Around} {E:Value→Shared→Prop} {env:Env} {ρ₀ ρ:Fr} {σ₀ σ:St} {acc:List V} {K:Fr→List V→St→Prop} {s₀:Shared} {h:Heap} {tk i:Nat} {D:Addr} {X:List Addr} {I:Itr G} {v:V} {w:Value} (xo:XOk env X gens) (hcell:∀ y∈yx target,∀ c,env.cells.lookup y=some c→c∈X) (ao:AOk A d) (es:env.scope=sc) (eo:gr env)
  (hX:∀ b∈I.own,b∉envX env) (hD:D∉I.own) (lt:i<I.vs.length) (F:FR G σ env ρ h) (R:Rel G σ h) (a:uj G env D σ h acc) (x0:Evo (D::X) σ₀ s₀.heap σ h) (hp:I.pos (i+1) h) (hd:∀ b∈I.own,¬ σ.dom b) (ag:∀ j,j∉t.vars++more.vars→ρ j=ρ₀ j) (vr:VR G h v w)
  (hf:eR C t cs more v ρ acc σ fun ρ acc σ=>eG (I.vs.drop (i+1)) I.Gd (eR C t cs more) ρ acc σ K) :
  wpAny G.M A (assign target env w) (fun _ s₂=>wpAny G.M A (tests ifs env) (fun ok s₃=>if ok=true then wpAny G.M A (oj elt gens scope pos depth (.ref D) env) (fun _ s₄=>∃ m,m<I.vs.length-i∧bQ I env σ₀ s₀ D X (t.vars++more.vars) ρ₀ (eR C t cs more) K m s₄) E s₃
   else ∃ m,m<I.vs.length-i∧bQ I env σ₀ s₀ D X (t.vars++more.vars) ρ₀ (eR C t cs more) K m s₃) E s₂) E { s₀ with heap:=h,toks:=tk }:=by
 have ownX:∀ c∈I.own,c∉X:=fun c hc q=>hX c hc (xo.sub c q)
 refine ay (ht A _ X env ρ σ _ { s₀ with heap:=h,toks:=tk } v w xo.loc hcell ao es eo F R vr (lZ hf)) (fun _ s₃ l=>?_) fun _ _ x=>x
 obtain⟨ρ₃,h₃,tk₃,rfl,⟨q₃,hag₃⟩,F₃,R₃,x₃⟩:=l
 obtain⟨hp3,hnd3⟩:=I.qL ownX hp hd x₃
 have a3:=a.evo x₃ fun q=>a.off (xo.sub D q)
 refine eE (hcs A _ env ρ₃ σ _ { s₀ with heap:=h₃,toks:=tk₃ } ao es eo F₃ R₃ q₃) fun ok σ₄ h₄ tk₄ q₄ R₄ x₄=>?_
 obtain⟨hp4,hnd4⟩:=I.qL (fun c _=>sf) hp3 hnd3 x₄
 have a4:=a3.evo x₄ sf
 have F4:=F₃.evo x₄
 have x5:Evo (D::X) σ₀ s₀.heap σ₄ h₄:=(x0.trans (x₃.more fun b hb=>.tail _ hb)).trans (x₄.more fun _ h=>nomatch h)
 have ag4:∀ j,j∉t.vars++more.vars→ρ₃ j=ρ₀ j:=fun j hj=>(hag₃ j (fun q=>hj (fq _ q))).trans (ag j hj)
 cases ok with
 | false =>
  rw [aw kz]
  exact bQ.next lt hp4 F4 R₄ a4 x5 hnd4 ag4 q₄
 | true =>
  rw [bc rfl]
  refine ay (haf A _ env ρ₃ σ₄ acc _ { s₀ with heap:=h₄,toks:=tk₄ } D X xo ao es eo F4 R₄ a4 q₄) (fun _ s₆ l=>?_) fun _ _ x=>x
  obtain⟨ρ₆,acc₆,σ₆,h₆,tk₆,ws₆,n₆,rfl,q₆,F₆,R₆,hl₆,hv₆,hz₆,hd₆,x₆,hag₆⟩:=l
  obtain⟨hp6,hnd6⟩:=I.qL (fun c hc q=>(br.mp q).elim (fun e=>by rw [e] at hc;exact hD hc) (ownX c hc)) hp4 hnd4 x₆
  exact bQ.next lt hp6 F₆ R₆ ⟨⟨ws₆,n₆,hl₆,hv₆⟩,hz₆,hd₆,a.off,a.base⟩ (x5.trans x₆) hnd6 (fun j hj=>(hag₆ j (fun q=>hj (fo _ q))).trans (ag4 j hj)) q₆
theorem y9 {t:Tg} {cs:Exs} {more:Gens} {elt:Expr} {gens:List Comprehension} {scope:Scope} {pos:Pos} {depth:Nat} {target iter:Expr} {ifs:List Expr} (ht:rd G C sc d t target) (hcs:lp G C sc d cs ifs) (haf:nc G C sc d more elt gens scope pos depth) (hg:gens[depth]?=some ⟨target,iter,ifs,0⟩) (hg':∀ g',gens[depth+1]?=some g'→g'.is_async=0)
  {A:Around} {env:Env} {ρ:Fr} {σ₀ σ:St} {acc:List V} {K:Fr→List V→St→Prop} {s₀:Shared} {h:Heap} {tk:Nat} {D:Addr} {X:List Addr} {R:Result→Shared→Prop} (I:Itr G) (hI:I.tup=true→isTup target=true) (xo:XOk env X gens) (ao:AOk A d) (es:env.scope=sc) (eo:gr env) (F:FR G σ env ρ h) (Rl:Rel G σ h) (a:uj G env D σ h acc)
  (hp:I.pos 0 h) (x₀:Evo (D::X) σ₀ s₀.heap σ h) (hnew:∀ b∈I.own,s₀.heap.get? b=none) (hX:∀ b∈I.own,b∉envX env) (hnd:∀ b∈I.own,¬ σ.dom b) (hD:D∉I.own) (hbase:∀ b∈I.own,G.hb.get? b=none)
  (hf:eG I.vs I.Gd (eR C t cs more) ρ acc σ K)
  (hR:∀ s',nV G env D X (t.vars++more.vars) ρ σ₀ s₀ K s'→R (.ok .next) s') :
  codeAny G.M A (.compLoop (.ListComp elt gens scope pos) depth (.ref I.it) (.ref D) env) R { s₀ with heap:=h,toks:=tk }:=by
 refine jT hg hg' (bQ I env σ₀ s₀ D X (t.vars++more.vars) ρ (eR C t cs more) K) ?_ (I.vs.length-0)
  ⟨0,σ,ρ,acc,h,tk,rfl,rfl,hp,F,Rl,a,x₀,hnd,fun _ _=>rfl,hf⟩
 rintro n s' ⟨i,σ',ρ',acc',h',tk',rfl,rfl,hp',F',R',a',x',hnd',hag,hf'⟩
 cases hq:I.vs[i]? with
 | none =>
  rw [List.drop_eq_nil_of_le (xn.mp hq)] at hf'
  refine I.stop A _ { s₀ with heap:=h',toks:=tk' } σ' i _ ao.handled R' hf'.1 hp' hq fun h2 tk2 hk2=>?_
  have fz:=I.frz hp' hk2
  obtain⟨ws,m,hl,hv⟩:=(a'.kept hD hk2 fz).here
  exact hR _ ⟨ρ',acc',σ',h2,tk2,ws,m,rfl,hf'.2,F'.but hk2 fz hX,I.rel hp' R' hnd' hbase hk2,hl,hv,a'.len,a'.out,x'.but hk2 hnew,hag⟩
 | some v =>
  obtain⟨hlt,hcons⟩:=nL hq
  rw [hcons] at hf'
  refine ay (I.next A _ { s₀ with heap:=h',toks:=tk' } σ' i v target ?Q ao.handled R' hf'.1 hp' hq (fun q=>jF (hI q)) ?k) (fun r s₁ hr=>?m) fun _ _ x=>x
  case m =>
   cases r with
   | none=>exact hr.elim
   | some w=>exact hr
  case k =>
   intro w h2 tk2 vr hp2 hk2
   have fz:=I.frz hp' hk2
   exact yR ht hcs haf xo (xo.cells _ (cu hg)) ao es eo hX hD hlt (F'.but hk2 fz hX) (I.rel hp' R' hnd' hbase hk2) (a'.kept hD hk2 fz) (x'.but hk2 hnew) hp2 hnd' hag vr hf'.2
theorem mC {it:It} {t:Tg} {cs:Exs} {more:Gens} {elt:Expr} {gens:List Comprehension} {scope:Scope} {pos:Pos} {depth:Nat} {target iter:Expr} {ifs:List Expr} (hit:vo G C sc d (isTup target) it iter) (ht:rd G C sc d t target) (hcs:lp G C sc d cs ifs) (haf:nc G C sc d more elt gens scope pos (depth+1))
  (hg:gens[depth+1]?=some ⟨target,iter,ifs,0⟩) (hg':∀ g',gens[depth+1+1]?=some g'→g'.is_async=0) (hs:∀ env v,foldedSetIterable iter env v=pure v):nc G C sc d (.cons it t cs more) elt gens scope pos depth:=fun A E env ρ σ acc K s D X xo ao es eo F R a h=>by
 unfold oj
 rw [hg]
 refine ab (ay (hit A E env ρ σ _ s ao es eo F R h) (fun v s₁ h₁=>?_) fun _ _ x=>x)
 refine ab (dt (ab (cx (hs env v) (ab (bh (ay h₁ (fun itv s₂ l=>?_) fun _ _ x=>x))))))
 obtain⟨I,σ₁,h₁,tk,rfl,rfl,htup,hf,hp,r,x₁,hnew,hnd⟩:=l
 have hbase:∀ b∈I.own,G.hb.get? b=none:=fun b hb=>by
  cases hq:G.hb.get? b with
  | none=>rfl
  | some o=>have:=R.base b o hq;rw [hnew b hb] at this;cases this
 have hD:D∉I.own:=fun q=>by
  obtain⟨ws,n,hl,_⟩:=a.here
  have:=hnew D q
  rw [show s.heap.get? D=_ from hl] at this;cases this
 have x₁':Evo (D::X) σ s.heap σ₁ h₁:=x₁.more fun _ h=>nomatch h
 have loop:∀ {R':Result→Shared→Prop},(∀ s',nV G env D X (t.vars++more.vars) ρ σ s K s'→R' (.ok .next) s')→codeAny G.M A (.compLoop (.ListComp elt gens scope pos) (depth+1) (.ref I.it) (.ref D) env) R' { s with heap:=h₁,toks:=tk }:=fun hR =>
  y9 ht hcs haf hg hg' I htup xo ao es eo (F.evo x₁) r (a.evo x₁ (by simp)) hp x₁' hnew (gJ F hnew) hnd hD hbase hf hR
 refine ab (wpAny_runOwn (zq hg (loop fun s' l=>ae l) (I.self _ _ _ _ _ hp (loop fun s' l=>ae l))))
end
end MP
end
section
set_option tactic.hygienic true
namespace MP
open PySem PyProof.Rows
noncomputable def je (cells:List (Str × Addr)):List (Str × NameKind)→List (Str × Addr)→List (Str × Addr)
 | [],acc=>acc
 | (n,k)::r,acc=>if k==.free then je cells r ((n,(cells.lookup n).getD 0)::acc) else je cells r acc
theorem vl {env:Env} (f:Str × NameKind→List (Str × Addr)→Sem (ForInStep (List (Str × Addr))))
  (hf:∀ n k cs,f (n,k) cs=if k==.free then (do let c←cellOf env n;pure (.yield ((n,c)::cs))) else pure (.yield cs)) :
  ∀ (names:List (Str × NameKind)) (acc:List (Str × Addr)),(∀ n,(n,NameKind.free)∈names→(env.cells.lookup n).isSome=true)→forIn names acc f=pure (je env.cells names acc)
 | [],acc,_=>by rw [iq];rfl
 | (n,k)::r,acc,h=>by
  have hr:=fun acc=>vl f hf r acc fun m hm=>h m (.tail _ hm)
  rw [ji,hf]
  unfold je
  split
  ·rename_i hk
   rw [pq] at hk
   subst hk
   obtain⟨c,hc⟩:=bw.mp (h n (.head _))
   have e:cellOf env n=pure c:=by unfold cellOf;rw [hc]
   rw [e,hc]
   exact hr _
  ·exact hr acc
theorem eJ {scope:Scope} {env:Env} (h:∀ n,(n,NameKind.free)∈scope.names→(env.cells.lookup n).isSome=true):closureFor scope env=pure (je env.cells scope.names []):=by
 have e:closureFor scope env=(forIn scope.names [] (fun(x:Str × NameKind) (cs:List (Str × Addr))=>if x.2==.free then (do let c←cellOf env x.1;pure (ForInStep.yield ((x.1,c)::cs))) else pure (ForInStep.yield cs))>>=fun cs=>pure cs):=by
  unfold closureFor
  first | rfl | simp
 rw [e,vl _ (fun n k cs=>rfl) scope.names [] h]
 rfl
theorem td (cells:List (Str × Addr)):∀ (names:List (Str × NameKind)) (acc:List (Str × Addr)),je cells names acc=je cells names []++acc
 | [],_=>by simp [je]
 | (n,k)::r,acc=>by
  unfold je
  split
  ·rw [td cells r ((n,(cells.lookup n).getD 0)::acc),td cells r [(n,(cells.lookup n).getD 0)]];simp
  ·exact td cells r acc
theorem kl (cells:List (Str × Addr)):∀ (names:List (Str × NameKind)) (x:Str) (c:Addr),(x,c)∈je cells names []→(x,NameKind.free)∈names∧c=(cells.lookup x).getD 0
 | [],_,_,h=>by simp [je] at h
 | (n,k)::r,x,c,h=>by
  unfold je at h
  split at h
  ·rename_i hk
   rw [td] at h
   rcases cy.mp h with h | h
   ·exact⟨.tail _ (kl cells r x c h).1,(kl cells r x c h).2⟩
   ·obtain⟨rfl,rfl⟩:=iz (aq.mp h)
    rw [pq] at hk;subst hk;exact⟨.head _,rfl⟩
  ·exact⟨.tail _ (kl cells r x c h).1,(kl cells r x c h).2⟩
theorem aW (cells:List (Str × Addr)):∀ (names:List (Str × NameKind)) (x:Str),(x,NameKind.free)∈names→(x,(cells.lookup x).getD 0)∈je cells names []
 | [],_,h=>by cases h
 | (n,k)::r,x,h=>by
  unfold je
  split
  ·rw [td]
   rcases br.mp h with e | h
   ·obtain⟨rfl,_⟩:=iz e;exact fo _ (.head _)
   ·exact fq _ (aW cells r x h)
  ·rename_i hk
   rcases br.mp h with e | h
   ·obtain⟨_,rfl⟩:=iz e;simp at hk
   ·exact aW cells r x h
theorem tx {cells:List (Str × Addr)} {names:List (Str × NameKind)} {x:Str} (h:(x,NameKind.free)∈names):(je cells names []).lookup x=some ((cells.lookup x).getD 0):=by
 obtain⟨c,hc⟩:=qt (aW cells names x h)
 rw [hc]
 rw [(kl cells names x c (mem_of_lookup hc)).2]
noncomputable def lh (scope sc:Scope):Scope :=
 { scope with names:=scope.names.map fun(n,k)=>if (k==.free&&sc.kind==.function&&sc.names.lookup n==some .cell) then (n,.cell) else (n,k) }
theorem rU {scope:Scope} {env:Env}:relabel scope env=lh scope env.scope:=rfl
noncomputable def gN (sc:Scope) (fv:List (Nat × Nat)) (i:Nat):Str × NameKind→Bool
 | (x,.free)=>match fv.lookup i with
  | some j=>match sc.names[j]? with
   | some (y,k)=>x==y&&(k==.cell||k==.free)
   | none=>false
  | none=>false
 | (_,_)=>(fv.lookup i).isNone
noncomputable def gO (sc:Scope) (fv:List (Nat × Nat)):Nat→List (Str × NameKind)→Bool
 | _,[]=>true
 | i,p::r=>gN sc fv i p&&gO sc fv (i+1) r
theorem gM {sc:Scope} {fv:List (Nat × Nat)}:∀ {names:List (Str × NameKind)} {i:Nat},gO sc fv i names=true→∀ (j:Nat) (p:Str × NameKind),names[j]?=some p→gN sc fv (i+j) p=true
 | [],_,_,j,p,e=>by simp at e
 | q::r,i,h,0,p,e=>by
  simp only [gO,bz] at h
  simp at e;subst e;exact h.1
 | q::r,i,h,j+1,p,e=>by
  simp only [gO,bz] at h
  have:=gM h.2 j p (by simpa using e)
  rw [show i+(j+1)=i+1+j by(exact Ar.a0 [] [_,_] (.e (.a .v0 (.a .v1 .n1)) (.a (.a .v0 .n1) .v1)) [[1],[1]])];exact this
noncomputable def ownIn (scope:Scope) (y:Str):Bool:=match scope.names.lookup y with
 | some .local=>true
 | some .cell=>true
 | _=>false
noncomputable def gL (scope:Scope) (gens:List Comprehension):Bool:=gens.all fun g=>(yx g.target).all (ownIn scope)
theorem Evo.adopt {X:List Addr} {σ σ':St} {h h':Heap} {D:Addr} (xs:List V) (x:Evo X σ h σ' h') (hn:h.get? D=none):Evo X σ h (σ'.cw D xs) h' :=
 ⟨x.keep,x.frz,fun b d=>(tc d).elim (x.dom b) fun e=>.inr (e▸hn),x.there⟩
section
variable {G:Stc} {C:Cal} {sc:Scope} {d:Nat}
theorem tH {σ:St} {env:Env} {ρ:Fr} {h:Heap} {scope:Scope} {fv:List (Nat × Nat)} (F:FR G σ env ρ h) (es:env.scope=sc) (nd:(scope.names.map (·.1)).Nodup) (hfv:gO sc fv 0 scope.names=true) :
  (∀ n,(n,NameKind.free)∈scope.names→(env.cells.lookup n).isSome=true)∧tZ G σ h scope.names (je env.cells scope.names []) (aV fv ρ):=by
 have at':∀ (i:Nat) (x:Str),scope.names[i]?=some (x,.free)→∃ j k,fv.lookup i=some j∧env.scope.names[j]?=some (x,k)∧(k=.cell∨k=.free):=fun i x e=>by
  have:=gM hfv i _ e
  rw [ku] at this
  simp only [gN] at this
  split at this
  ·rename_i j hj
   split at this
   ·rename_i y k hy
    simp only [bz,pq,ph] at this
    exact⟨j,k,hj,by rw [es,hy,this.1],this.2⟩
   ·cases this
  ·cases this
 have cellAt:∀ (i:Nat) (x:Str),scope.names[i]?=some (x,.free)→∃ j k c w,fv.lookup i=some j∧env.scope.names[j]?=some (x,k)∧(k=.cell∨k=.free)∧env.cells.lookup x=some c∧h.IsCell c w∧OV G h (ρ j) w∧¬ σ.dom c∧c≠env.locals∧G.hb.get? c=none:=fun i x e=>by
  obtain⟨j,k,h1,h2,h3⟩:=at' i x e
  obtain⟨c,w,g1,g2,g3,g4,g5,g6⟩:=F.cells j x k h2 h3
  exact⟨j,k,c,w,h1,h2,h3,g1,g2,g3,g4,g5,g6⟩
 have idx:∀ n,(n,NameKind.free)∈scope.names→∃ i:Nat,scope.names[i]?=some (n,NameKind.free):=fun n hn=>List.getElem?_of_mem hn
 refine⟨fun n hn=>?_,⟨fun i x e=>?_,fun i j x y c ei ej lx ly=>?_,fun p hp=>?_,fun i x k e hk=>?_⟩⟩
 ·obtain⟨i,e⟩:=idx n hn
  obtain⟨j,k,c,w,_,_,_,hc,_⟩:=cellAt i n e
  rw [hc];rfl
 ·obtain⟨j,k,c,w,h1,h2,h3,g1,g2,g3,g4,g5,g6⟩:=cellAt i x e
  refine⟨c,w,by rw [tx (cu e),g1];rfl,g2,?_,g4,g6⟩
  unfold aV
  rw [h1]
  exact g3
 ·obtain⟨a,ka,ca,wa,a1,a2,a3,a4,_⟩:=cellAt i x ei
  obtain⟨b,kb,cb,wb,b1,b2,b3,b4,_⟩:=cellAt j y ej
  rw [tx (cu ei),a4] at lx
  rw [tx (cu ej),b4] at ly
  have lx':ca=c:=by simpa using lx
  have ly':cb=c:=by simpa using ly
  have hab:=F.inj a b x y ka kb c a2 b2 a3 b3 (lx'▸a4) (ly'▸b4)
  subst hab
  rw [a2] at b2
  obtain⟨rfl,_⟩:=iz (af b2)
  exact zh nd ei ej
 ·obtain⟨hm,hc⟩:=kl _ _ p.1 p.2 hp
  obtain⟨i,e⟩:=idx _ hm
  obtain⟨j,k,c,w,_,_,_,g1,⟨o,ho,_⟩,_⟩:=cellAt i _ e
  rw [g1] at hc
  exact⟨o,by rw [hc];exact ho⟩
 ·have:=gM hfv i _ e
  rw [ku] at this
  unfold aV
  cases k<;>first | exact absurd rfl hk | (simp only [gN,nu] at this;rw [this];rfl)
noncomputable def oh (scope:Scope) (env:Env) (cells:List (Str × Addr)) (L:Addr):Env :=
 { scope:=relabel scope env,locals:=L,globals:=env.globals,cells:=cells,qual:=env.qual,func:=none,code:=env.code,frame:=env.frame,builtins:=env.builtins }
theorem jR {fv:List (Nat × Nat)} {it:It} {t:Tg} {cs:Exs} {more:Gens} {elt target iter:Expr} {ifs:List Expr} {rest:List Comprehension} {scope:Scope} {pos p0:Pos} {use:Option (Value→Sem Unit)} (hit:vo G C sc d (isTup target) it iter) (ht:rd G C (lh scope sc) d t target) (hcs:lp G C (lh scope sc) d cs ifs)
  (haf:nc G C (lh scope sc) d more elt (⟨target,iter,ifs,0⟩::rest) scope pos 0) (hs:∀ env v,foldedSetIterable iter env v=pure v) (hkind:scope.kind=.function) (nd:(scope.names.map (·.1)).Nodup) (hfv:gO sc fv 0 scope.names=true) (hgo:gL scope (⟨target,iter,ifs,0⟩::rest)=true) (hasy:∀ g'∈rest,g'.is_async=0)
  {A:Around} {E:Value→Shared→Prop} {env:Env} {ρ:Fr} {σ:St} {Q:V→St→Prop} {s:Shared} {P:Value→Shared→Prop} (ao:AOk A d) (es:env.scope=sc) (eo:gr env) (F:FR G σ env ρ s.heap) (R:Rel G σ s.heap) (h:wpE C (.comp fv it t cs more) ρ σ Q)
  (hP:∀ (v:V) (σ':St) (h':Heap) (tk:Nat) (w:Value) (L:Addr),Q v σ'→VR G h' v w→Rel G σ' h'→Evo [] σ s.heap σ' h'→s.heap.get? L=none→¬ σ'.dom L→(∃ m,h'.Ns L m)→compPost G.M A E use P w L (.ok .next) { s with heap:=h',toks:=tk }) :
  wpAny G.M A (comprehension (.ListComp elt (⟨target,iter,ifs,0⟩::rest) scope pos) scope env p0 (newList []) false (eval iter env) use) P E s:=by
 obtain⟨hsome,_⟩:=tH F es nd hfv
 refine wpAny_comprehension_free rfl (hs env) (eJ hsome) hkind (fun x hx hl=>?_) (ay (hit A E env ρ σ _ s ao es eo F R h) (fun v s₁ h₁=>ay h₁ (fun itv s₂ l=>?_) fun _ _ x=>x) fun _ _ x=>x)
 ·obtain⟨i,e⟩:=List.getElem?_of_mem hx
  obtain⟨y,k⟩:=x
  simp only at hl
  subst hl
  exact oq nd e
 obtain⟨I,σ₁,h₁,tk,rfl,rfl,htup,hf,hp,r,x₁,hnew,hnd⟩:=l
 have F₁:=F.evo x₁
 refine gy (?_:wpAny G.M A _ _ E _) (by show([]:List Value).toArray.size≤sizeLine;simp)
 have F₂:FR G σ₁ env ρ (h₁.push { cls:=.type "list",data:=.seq ([]:List Value).toArray }):=F₁.evo (Evo.push [] σ₁ h₁ { cls:=.type "list",data:=.seq ([]:List Value).toArray })
 have r₂:=r.push { cls:=.type "list",data:=.seq ([]:List Value).toArray }
 have hD₂:(h₁.push { cls:=.type "list",data:=.seq ([]:List Value).toArray }).get? h₁.objs.size=some { cls:=.type "list",data:=.seq ([]:List Value).toArray }:=cg _ rfl
 have x₂:Evo [] σ s.heap σ₁ (h₁.push { cls:=.type "list",data:=.seq ([]:List Value).toArray }):=x₁.trans (Evo.push _ _ _ _)
 have I₂:I.pos 0 (h₁.push { cls:=.type "list",data:=.seq ([]:List Value).toArray }):=I.keep _ _ _ hp (fun b _ o e=>au _ e) fun b o e _=>au _ e
 generalize hH2:h₁.push { cls:=.type "list",data:=.seq ([]:List Value).toArray }=H at *
 have hHs:H.objs.size=h₁.objs.size+1:=by rw [← hH2];exact dz ..
 obtain⟨_,clo⟩:=tH F₂ es nd hfv
 have hrel:∀ (i:Nat) (x:Str) (k':NameKind),(relabel scope env).names[i]?=some (x,k')→∃ k,scope.names[i]?=some (x,k)∧(k'=k∨(k=.free∧k'=.cell)):=fun i x k' e=>by
  simp only [relabel,bq] at e
  cases hq:scope.names[i]? with
  | none=>rw [hq] at e;cases e
  | some p =>
   obtain⟨y,k⟩:=p
   rw [hq] at e
   simp only [Option.map_some,cz] at e
   split at e
   ·rename_i hc
    obtain⟨rfl,rfl⟩:=iz e
    simp only [bz,pq] at hc
    exact⟨k,rfl,.inr ⟨hc.1.1,rfl⟩⟩
   ·obtain⟨rfl,rfl⟩:=iz e
    exact⟨k,rfl,.inl rfl⟩
 obtain⟨F₃,keep⟩:=dA (T:="dict") (env:=oh scope env (cellsFrom (H.objs.size+1) scope.names (je env.cells scope.names [])) H.objs.size) r₂ nd clo rfl rfl hrel
 have eo₃:gr (oh scope env (cellsFrom (H.objs.size+1) scope.names (je env.cells scope.names [])) H.objs.size):=by
  refine⟨hkind,?_,eo.globals,eo.builtins⟩
  have e:(relabel scope env).names.map (·.1)=scope.names.map (·.1):=by
   simp only [relabel,ky]
   refine List.map_congr_left fun p _=>?_
   obtain⟨y,k⟩:=p
   simp only [Function.comp]
   split<;>rfl
  show((relabel scope env).names.map (·.1)).Nodup
  rw [e];exact nd
 have ok:=cellsFrom_ok scope.names (H.push { cls:=.type "dict",data:=.dict #[] }) (H.objs.size+1) [] ⟨fun _ _ hm=>(nomatch hm),List.Pairwise.nil⟩ (by rw [dz];exact aj _)
 rw [dz] at ok
 simp only [newFunctionEnv,Option.isSome_some,sg]
 refine ab (wpAny_alloc ?_)
 refine ab (wpAny_layCells _ (fun name kind cells=>by cases hkc:kind==NameKind.cell<;>simp [hkc]) _ _ _ _ ?_)
 rw [show(H.push { cls:=.type "dict",data:=.dict #[] }).objs.size=H.objs.size+1 from dz ..]
 rw [iq]
 refine ab (ae (ae ?_))
 generalize hH3:pushCells (H.push { cls:=.type "dict",data:=.dict #[] }) scope.names=H3 at *
 have r₃:=r₂.keeps keep
 have fz:fc H H3:=fun b o e _=>keep b o e
 have x₃:Evo [] σ s.heap σ₁ H3:=x₂.trans (Evo.keeps keep)
 have I₃:I.pos 0 H3:=I.keep _ _ _ I₂ (fun b _ o e=>keep b o e) fz
 have sNone:∀ b,h₁.objs.size≤b→s.heap.get? b=none:=fun b hb=>by
  cases hq:s.heap.get? b with
  | none=>rfl
  | some o=>obtain⟨o',e'⟩:=x₁.there _ _ hq;exact absurd (ek e') (nj.mpr hb)
 have ownLt:∀ b∈I.own,b<h₁.objs.size:=fun b hb=>by obtain⟨o,e⟩:=I.there _ _ hp b hb;exact ek e
 have hXe:∀ b∈I.own,b∉envX (oh scope env (cellsFrom (H.objs.size+1) scope.names (je env.cells scope.names [])) H.objs.size):=fun b hb hm=>by
  have hlt:=ownLt b hb
  rcases br.mp hm with rfl | hm
  ·exact absurd hlt (nj.mpr (by show h₁.objs.size≤H.objs.size;(exact Ar.a1 [] [_,_] (.k .v0 .v1) [[1,-1]] (.e .v1 (.a .v0 .n1)) hHs)))
  ·obtain⟨p,hp',rfl⟩:=dh.mp hm
   have hp2:p∈cellsFrom (H.objs.size+1) scope.names (je env.cells scope.names []):=hp'
   rw [fh] at hp2
   rcases cy.mp hp2 with h1 | h1
   ·have:=(ok.empty p.1 p.2 h1).2
    exact gc _ (wc hlt (by(exact Ar.a2 [] [_,_,_] (.k .v0 .v1) [[1,-1,1]] (.e .v2 (.a .v0 .n1)) (.k (.a .v2 .n1) .v1) hHs this):h₁.objs.size≤p.2))
   ·obtain⟨hm1,hm2⟩:=kl _ _ p.1 p.2 h1
    obtain⟨c,hc⟩:=bw.mp (hsome _ hm1)
    rw [hc] at hm2
    simp only [Option.getD_some] at hm2
    obtain⟨o,ho⟩:=F.allc (p.1,c) (mem_of_lookup hc)
    have:=hnew p.2 hb
    rw [hm2] at this
    rw [show s.heap.get? c=some o from ho] at this
    cases this
 have hDe:h₁.objs.size∉envX (oh scope env (cellsFrom (H.objs.size+1) scope.names (je env.cells scope.names [])) H.objs.size):=fun hm=>by
  rcases br.mp hm with e | hm
  ·have:h₁.objs.size=H.objs.size:=e
   (exact Ar.a2 [] [_,_] .ff [[0,-1,-1]] (.e .v0 (.a .v1 .n1)) (.e .v1 .v0) hHs this)
  ·obtain⟨p,hp',e⟩:=dh.mp hm
   have hp2:p∈cellsFrom (H.objs.size+1) scope.names (je env.cells scope.names []):=hp'
   rw [fh] at hp2
   rcases cy.mp hp2 with h1 | h1
   ·have:=(ok.empty p.1 p.2 h1).2;(exact Ar.a3 [] [_,_,_] .ff [[0,-1,1,1]] (.e .v0 (.a .v1 .n1)) (.e .v2 .v1) (.k (.a .v0 .n1) .v2) hHs e this)
   ·obtain⟨hm1,hm2⟩:=kl _ _ p.1 p.2 h1
    obtain⟨c,hc⟩:=bw.mp (hsome _ hm1)
    rw [hc] at hm2
    obtain⟨o,ho⟩:=F.allc (p.1,c) (mem_of_lookup hc)
    have:=sNone c (by rw [← show p.2=c from hm2,e];exact aj _)
    rw [show s.heap.get? c=some o from ho] at this
    cases this
 have baseNone:∀ b,h₁.objs.size≤b→G.hb.get? b=none:=fun b hb=>by
  cases hq:G.hb.get? b with
  | none=>rfl
  | some o=>exact absurd (ek (r.base b o hq)) (nj.mpr hb)
 have domNone:∀ b,h₁.objs.size≤b→¬ σ₁.dom b:=fun b hb dm=>by obtain⟨o,e⟩:=r.kj dm;exact absurd (ek e) (nj.mpr hb)
 have acc₀:uj G (oh scope env (cellsFrom (H.objs.size+1) scope.names (je env.cells scope.names [])) H.objs.size) h₁.objs.size σ₁ H3 [] :=
  ⟨⟨[],0,keep _ _ hD₂,.nil⟩,ba _,domNone _ (aj _),hDe,baseNone _ (aj _)⟩
 have xo:XOk (oh scope env (cellsFrom (H.objs.size+1) scope.names (je env.cells scope.names [])) H.objs.size) (H.objs.size::(cellsFrom (H.objs.size+1) scope.names []).map (·.2)) (⟨target,iter,ifs,0⟩::rest):=by
  refine⟨.head _,fun g hg y hy c hc=>?_,fun b hb=>?_⟩
  ·have hown:=gi.mp (gi.mp hgo g hg) y hy
   have hc':(cellsFrom (H.objs.size+1) scope.names (je env.cells scope.names [])).lookup y=some c:=hc
   rw [fh] at hc'
   rcases cy.mp (mem_of_lookup hc') with h1 | h1
   ·exact .tail _ (dh.mpr ⟨_,h1,rfl⟩)
   ·obtain⟨hm1,_⟩:=kl _ _ y c h1
    obtain⟨i,e⟩:=List.getElem?_of_mem hm1
    have:=oq nd e
    unfold ownIn at hown
    rw [this] at hown
    cases hown
  ·rcases br.mp hb with rfl | hb
   ·exact .head _
   ·obtain⟨p,hp',rfl⟩:=dh.mp hb
    refine .tail _ (dh.mpr ⟨p,?_,rfl⟩)
    show p∈cellsFrom (H.objs.size+1) scope.names (je env.cells scope.names [])
    rw [fh];exact fq _ hp'
 have hg':∀ g',(⟨target,iter,ifs,0⟩::rest:List Comprehension)[0+1]?=some g'→g'.is_async=0:=fun g' e=>hasy g' (cu (by simpa using e))
 have loop:codeAny G.M A (.compLoop (.ListComp elt (⟨target,iter,ifs,0⟩::rest) scope pos) 0 (.ref I.it) (.ref h₁.objs.size) (oh scope env (cellsFrom (H.objs.size+1) scope.names (je env.cells scope.names [])) H.objs.size)) (compPost G.M A E use P (.ref h₁.objs.size) H.objs.size) { s with heap:=H3,toks:=tk }:=by
  refine y9 (s₀:=s) (σ₀:=σ) ht hcs haf rfl hg' I htup xo ao (by show relabel scope env=_;rw [rU,es]) eo₃ F₃ r₃ acc₀ I₃ (x₃.more fun _ h=>nomatch h) hnew hXe hnd (fun q=>absurd (ownLt _ q) (gc _)) (fun b hb=>?_) hf fun s' l=>?_
  ·cases hq:G.hb.get? b with
   | none=>rfl
   | some o=>have:=R.base b o hq;rw [hnew b hb] at this;cases this
  ·obtain⟨ρ',acc',σ',h',tk',ws,n,rfl,q,F',R',hl,hv,hz,hd,x',_⟩:=l
   have hb0:=baseNone h₁.objs.size (aj _)
   have hL:σ'.L h₁.objs.size=none:=by
    cases hq:σ'.L h₁.objs.size with
    | none=>rfl
    | some y=>exact absurd (.inl (by rw [hq];rfl)) hd
   have R'':=R'.AE hd hb0 hl hv hz
   have hXnone:∀ z∈(h₁.objs.size::H.objs.size::(cellsFrom (H.objs.size+1) scope.names []).map (·.2)),s.heap.get? z=none:=fun z hz=>by
    rcases br.mp hz with rfl | hz
    ·exact sNone _ (aj _)
    rcases br.mp hz with rfl | hz
    ·exact sNone _ (by(exact Ar.a1 [] [_,_] (.k .v0 .v1) [[1,-1]] (.e .v1 (.a .v0 .n1)) hHs))
    ·obtain⟨p,hp',rfl⟩:=dh.mp hz
     have:=(ok.empty p.1 p.2 hp').2
     exact sNone _ (by(exact Ar.a2 [] [_,_,_] (.k .v0 .v1) [[1,-1,1]] (.e .v2 (.a .v0 .n1)) (.k (.a .v2 .n1) .v1) hHs this))
   have x'':Evo [] σ s.heap (σ'.cw h₁.objs.size acc') h':=(x'.adopt acc' (sNone _ (aj _))).less fun z hz=>.inr (hXnone z hz)
   obtain⟨m,hm,_⟩:=F'.ns
   have hlocD:¬ (σ'.cw h₁.objs.size acc').dom H.objs.size:=fun dm=>by
    rcases tc dm with dm | e
    ·exact F'.loc dm
    ·have e':H.objs.size=h₁.objs.size:=e
     (exact Ar.a2 [] [_,_] .ff [[0,-1,1]] (.e .v0 (.a .v1 .n1)) (.e .v0 .v1) hHs e)
   exact hP (.lst h₁.objs.size) _ h' tk' _ H.objs.size (q _ hL) (.lst _) R'' x'' (sNone _ (by(exact Ar.a1 [] [_,_] (.k .v0 .v1) [[1,-1]] (.e .v1 (.a .v0 .n1)) hHs))) hlocD ⟨m,hm⟩
 exact zq rfl loop (I.self _ _ _ _ _ I₃ loop)
theorem iP {fv:List (Nat × Nat)} {it:It} {t:Tg} {cs:Exs} {more:Gens} {elt target iter:Expr} {ifs:List Expr} {rest:List Comprehension} {scope:Scope} {pos:Pos} (hit:vo G C sc d (isTup target) it iter) (ht:rd G C (lh scope sc) d t target) (hcs:lp G C (lh scope sc) d cs ifs)
  (haf:nc G C (lh scope sc) d more elt (⟨target,iter,ifs,0⟩::rest) scope pos 0) (hs:∀ env v,foldedSetIterable iter env v=pure v) (hkind:scope.kind=.function) (nd:(scope.names.map (·.1)).Nodup) (hfv:gO sc fv 0 scope.names=true) (hgo:gL scope (⟨target,iter,ifs,0⟩::rest)=true) (hasy:∀ g'∈rest,g'.is_async=0) :
  cp G C sc d (.comp fv it t cs more) (.ListComp elt (⟨target,iter,ifs,0⟩::rest) scope pos):=fun A E env ρ σ Q s ao es eo F R h=>by
 rw [eval_ListComp]
 refine jR (use:=none) hit ht hcs haf hs hkind nd hfv hgo hasy ao es eo F R h fun v σ' h' tk w L q vr R' x hL hd hm=>?_
 obtain⟨m,hm⟩:=hm
 refine⟨m,hm,fun h2 hs2=>?_⟩
 obtain⟨o,ees,ep,ho,hdt,_⟩:=id hm
 have hf:fc h' h2:=jw hs2 fun o' e=>by obtain rfl:=af (ho.symm.trans e);exact mq hdt
 have hb:G.hb.get? L=none:=by
  cases hq:G.hb.get? L with
  | none=>rfl
  | some o=>have:=R.base L o hq;rw [hL] at this;cases this
 exact⟨v,σ',h2,tk,rfl,q,vr.mono hf,R'.frame (o':=default) hs2 hd hb hf,x.but (own:=[L]) (fun b o hb e=>by rw [hs2.2 b (fun q=>hb (q▸.head _))];exact e) fun b hb=>by obtain rfl:=aq.mp hb;exact hL⟩
theorem cI {i:Nat} {fv:List (Nat × Nat)} {it:It} {t:Tg} {cs:Exs} {more:Gens} {elt target iter:Expr} {ifs:List Expr} {rest:List Comprehension} {scope:Scope} {x:Str} {kd:NameKind} {px pos spos:Pos} (hi:sc.names[i]?=some (x,kd)) (hk:rn kd=true) (hit:vo G C sc d (isTup target) it iter) (ht:rd G C (lh scope sc) d t target) (hcs:lp G C (lh scope sc) d cs ifs)
  (haf:nc G C (lh scope sc) d more elt (⟨target,iter,ifs,0⟩::rest) scope pos 0) (hs:∀ env v,foldedSetIterable iter env v=pure v) (hkind:scope.kind=.function) (nd:(scope.names.map (·.1)).Nodup) (hfv:gO sc fv 0 scope.names=true) (hgo:gL scope (⟨target,iter,ifs,0⟩::rest)=true) (hasy:∀ g'∈rest,g'.is_async=0) :
  rz G C sc d (.assign [.var i] (.comp fv it t cs more)) (.Assign [.Name x px] (.ListComp elt (⟨target,iter,ifs,0⟩::rest) scope pos) spos):=fun A E env ρ σ K s ao es eo F R h=>by
 have plain:cp G C sc d (.comp fv it t cs more) (.ListComp elt (⟨target,iter,ifs,0⟩::rest) scope pos):=iP hit ht hcs haf hs hkind nd hfv hgo hasy
 by_cases hsw:(env.blockKind==.function&&env.kindOf x==some .local&&px.line==pos.line&&!(scope.names.any fun(n,k)=>n==x&&(k==.local||k==.cell)))=true
 ·have hsw':swapsWith (.ListComp elt (⟨target,iter,ifs,0⟩::rest) scope pos) (some (.Name x px)) spos.line env=pure true:=by
   show(pure _:Sem Bool)=_
   exact bu pure hsw
  rw [exec_Assign_Name_used _ _ _ _ hsw']
  refine ab (dt (ab ?_))
  show wpAny G.M A (comprehension _ scope env _ (newList []) false (eval iter env) (some (assign (.Name x px) env))>>=fun _=>pure ()) _ E s
  refine ab ?_
  refine jR (use:=some (assign (.Name x px) env)) (Q:=fun v σ=>aF C [.var i] v ρ σ fun ρ σ=>K .next ρ σ) hit ht hcs haf hs hkind nd hfv hgo hasy ao es eo F R h fun v σ' h' tk w L q vr R' x' hL hd hm=>?_
  obtain⟨m,hm⟩:=hm
  show wpAny G.M A (assign (.Name x px) env w) _ E _
  refine assign_Name (qi (s:={ s with heap:=h',toks:=tk }) eo (F.evo x') R' (by rw [es];exact hi) hk vr fun h2 tk2 F2 R2 x2=>?_)
  have hLX:L∉envX env:=gJ (own:=[L]) F (fun b hb=>by obtain rfl:=aq.mp hb;exact hL) L (.head _)
  obtain⟨o,ees,ep,ho,hdt,hrest⟩:=id hm
  have ho2:=x2.keep _ _ ho hd hLX
  refine⟨m,⟨o,ees,ep,ho2,hdt,hrest⟩,fun h3 hs3=>ae (ae ?_)⟩
  have hf:fc h2 h3:=jw hs3 fun o' e=>by obtain rfl:=af (ho2.symm.trans e);exact mq hdt
  have hb:G.hb.get? L=none:=by
   cases hq:G.hb.get? L with
   | none=>rfl
   | some o=>have:=R.base L o hq;rw [hL] at this;cases this
  have hk3:∀ b o,b∉[L]→h2.get? b=some o→h3.get? b=some o:=fun b o hb e=>by rw [hs3.2 b (fun q=>hb (q▸.head _))];exact e
  exact⟨.next,_,σ',h3,tk2,rfl,.next,q,F2.but hk3 hf (fun b hb=>by obtain rfl:=aq.mp hb;exact hLX),R2.frame (o':=default) hs3 hd hb hf,((x'.wide env).trans x2).but (own:=[L]) hk3 fun b hb=>by obtain rfl:=aq.mp hb;exact hL⟩
 ·have hsw':swapsWith (.ListComp elt (⟨target,iter,ifs,0⟩::rest) scope pos) (some (.Name x px)) spos.line env=pure false:=by
   show(pure _:Sem Bool)=_
   exact bu pure (Bool.eq_false_iff.mpr hsw)
  rw [exec_Assign]
  refine ab (dt ?_)
  have e1:swapsWithSole [.Name x px] (.ListComp elt (⟨target,iter,ifs,0⟩::rest) scope pos) spos.line env=pure false:=hsw'
  rw [e1]
  refine ab (ae ?_)
  rw [aw (by decide)]
  refine ab (ju (plain A E env ρ σ (fun v σ=>aF C [.var i] v ρ σ fun ρ σ=>K .next ρ σ) s ao es eo F R h) fun v σ₁ h₁ tk w q vr r x=>?_)
  rw [gA (sc:=sc) (r:=none) rfl es (by unfold Env.blockKind;rw [eo.kind];rfl)]
  refine ab (ae ?_)
  show wpAny G.M A (do assignAll w _;pure Flow.next) _ _ _
  refine ab (ay (mS (s:={ s with heap:=h₁,toks:=tk }) ao es eo (.cons (mL hi hk) (fun _=>rfl) .nil) (F.evo x) r vr q) (fun _ s' l=>ae ?_) fun _ _ x=>x)
  obtain⟨ρ',σ',h',tk',rfl,q',F',R',x'⟩:=l
  exact⟨.next,ρ',σ',h',tk',rfl,.next,q',F',R',(x.wide env).trans x'⟩
end
end MP
end
section
namespace MP
open PySem PyProof.Rows PySem.W
noncomputable def ends {α:Type} (n:Nat) (lt:Nat→Nat→Bool):KasT α→(α→Prop)→Prop
 | .ret a,Q=>Q a
 | .ask i j k,Q=>i<n∧j<n∧ends n lt (k (lt i j)) Q
theorem gf {α:Type} {n:Nat} {lt:Nat→Nat→Bool} {Q Q':α→Prop} (hq:∀ a,Q a→Q' a):∀ {t:KasT α},ends n lt t Q→ends n lt t Q'
 | .ret a,h=>hq a h
 | .ask i j k,h=>⟨h.1,h.2.1,gf hq (t:=k (lt i j)) h.2.2⟩
theorem qk {α β:Type} {n:Nat} {lt:Nat→Nat→Bool} {f:α→KasT β} {Q:β→Prop}:∀ {t:KasT α},ends n lt t (fun a=>ends n lt (f a) Q)→ends n lt (t.bind f) Q
 | .ret a,h=>h
 | .ask i j k,h=>⟨h.1,h.2.1,qk (t:=k (lt i j)) h.2.2⟩
theorem nK {α:Type} {n:Nat} {lt:Nat→Nat→Bool} {cmp:Nat→Nat→(Bool→Shared→Prop)→Shared→Prop} {s:Shared} (hc:∀ i j (C:Bool→Shared→Prop),i<n→j<n→C (lt i j) s→cmp i j C s) {Q:α→Shared→Prop}:∀ {t:KasT α},ends n lt t (fun a=>Q a s)→t.kasWp cmp Q s
 | .ret a,h=>h
 | .ask i j k,h=>hc i j _ h.1 h.2.1 (nK hc (t:=k (lt i j)) h.2.2)
structure zu (lt:Nat→Nat→Bool):Prop where
 asym:∀ a b,lt a b=true→lt b a=false
 tr:∀ a b c,lt b a=false→lt c b=false→lt c a=false
section
variable {n:Nat} {lt:Nat→Nat→Bool}
noncomputable abbrev at0 (p:Array Nat) (i:Nat):Nat:=p.getD i 0
noncomputable def yq (lt:Nat→Nat→Bool) (p:Array Nat) (k:Nat):Prop:=∀ i j,i<j→j<k→lt (at0 p j) (at0 p i)=false
noncomputable def eO (lt:Nat→Nat→Bool) (p:Array Nat) (k:Nat):Prop:=∀ i j,i<j→j<k→lt (at0 p i) (at0 p j)=false
structure pb (n:Nat) (p:Array Nat):Prop where
 perm:p.Perm (List.toArray (List.range n))
theorem pb.size {p:Array Nat} (h:pb n p):p.size=n:=by have:=h.perm.size_eq;simpa using this
theorem pb.low {p:Array Nat} (h:pb n p) (hn:0<n) (i:Nat):at0 p i<n:=by
 unfold at0
 by_cases hi:i<p.size
 ·have e:p.getD i 0=p[i]:=by simp [Array.getD,hi]
  rw [e]
  have hm:p[i]∈p.toList:=by simp
  have:=(wg.mp h.perm).mem_iff.mp hm
  simpa using this
 ·have e:p.getD i 0=0:=by simp [Array.getD,hi]
  rw [e];exact hn
theorem pb.step {p q:Array Nat} (h:pb n p) (hq:q.Perm p):pb n q:=⟨hq.trans h.perm⟩
theorem zt {p:Array Nat} (i:Nat):at0 p i=(p[i]?).getD 0:=by
 unfold at0
 by_cases hi:i<p.size<;>simp [Array.getD,hi]
theorem yq.le (L:zu lt) {p:Array Nat} {k:Nat} (h:yq lt p k) {i j:Nat} (hij:i≤j) (hj:j<k):lt (at0 p j) (at0 p i)=false:=by
 rcases vv hij with h1 | rfl
 ·exact h i j h1 hj
 ·cases hq:lt (at0 p i) (at0 p i) with
  | false=>rfl
  | true=>have:=L.asym _ _ hq;rw [hq] at this;cases this
theorem zu.irr (L:zu lt) (a:Nat):lt a a=false:=by
 cases hq:lt a a with
 | false=>rfl
 | true=>have:=L.asym _ _ hq;rw [hq] at this;cases this
theorem dR (L:zu lt) (hn:0<n) {p:Array Nat} (hp:pb n p):∀ (f m:Nat),1≤m→ends n lt (kas_asc p f m) fun r=>m≤r∧r≤m+f∧(yq lt p m→yq lt p r)
 | 0,m,h1=>⟨aj _,by(exact Ar.a0 [] [_] (.k .v0 (.a .v0 .n0)) [[1]]),fun h=>h⟩
 | f+1,m,h1=>by
  refine⟨hp.low hn _,hp.low hn _,?_⟩
  cases hc:lt (at0 p m) (at0 p (m-1)) with
  | true=>exact⟨aj _,by(exact Ar.a0 [] [_,_] (.k .v0 (.a .v0 (.a .v1 .n1))) [[1]]),fun h=>h⟩
  | false =>
   show ends n lt (kas_asc p f (m+1)) _
   refine gf (fun r hr=>⟨by(exact Ar.a1 [] [_,_] (.k .v0 .v1) [[1,1]] (.k (.a .v0 .n1) .v1) hr.1),by(exact Ar.a1 [] [_,_,_] (.k .v0 (.a .v1 (.a .v2 .n1))) [[1,1]] (.k .v0 (.a (.a .v1 .n1) .v2)) hr.2.1),fun hu=>hr.2.2 fun i j hij hj=>?_⟩) (dR L hn hp f (m+1) (by(exact Ar.a0 [] [_] (.k .n1 (.a .v0 .n1)) [[1]])))
   rcases vv (ye hj) with h | rfl
   ·exact hu i j hij h
   ·exact L.tr _ (at0 p (j-1)) _ (hu.le L (by(exact Ar.a2 [] [_,_,_] (.k .v0 .v1) [[1,1,-1]] (.l .v0 .v2) (.e (.a .v1 .n1) .v2) hij (aa (Ar.a1 [] [_] (.k .n1 .v0) [[1,1]] (.k .n1 .v0) h1)))) (by(exact Ar.a1 [] [_,_] (.l .v0 .v1) [[1,1]] (.e (.a .v0 .n1) .v1) (aa (Ar.a1 [] [_] (.k .n1 .v0) [[1,1]] (.k .n1 .v0) h1))))) hc
theorem vf {p:Array Nat} {i j:Nat} (hj:j≤p.size) (k:Nat):at0 (kas_rev p i j) k=if i≤k∧k<j then at0 p (i+j-1-k) else at0 p k:=by
 unfold kas_rev
 rw [zt,getElem?_mirror_all hj]
 split<;>rw [zt]
theorem eO.le (L:zu lt) {p:Array Nat} {k:Nat} (h:eO lt p k) {i j:Nat} (hij:i≤j) (hj:j<k):lt (at0 p i) (at0 p j)=false:=by
 rcases vv hij with h1 | rfl
 ·exact h i j h1 hj
 ·exact L.irr _
noncomputable def Flat (lt:Nat→Nat→Bool) (p:Array Nat) (m q:Nat):Prop:=q+1≤m∧∀ i j,m-(q+1)≤i→i<m→m-(q+1)≤j→j<m→lt (at0 p i) (at0 p j)=false
theorem tF (L:zu lt) {p:Array Nat} {m q:Nat} (hm:m≤p.size) (h:eO lt p m) (hq:Flat lt p m q):eO lt (kas_rev p (m-(q+1)) m) m:=fun i j hij hj=>by
 rw [vf hm,vf hm]
 obtain⟨h1,h2⟩:=hq
 split<;>split
 ·exact h2 _ _ (by(exact Ar.sub _ _ (fun q1 p1=>(Ar.sub _ _ (fun q2 p2=>(Ar.a4 [] [_,_,_,_,_,_] (.k .v0 .v1) [[1,1,1,-1,-1]] (.l .v2 .v3) (.l .v3 .v4) (.e (.a .v5 .n1) (.a .v0 .v4)) (.e (.a .v1 .v2) .v5) hij hj p1 p2)) fun q2 p2=>(Ar.a4 [] [_,_,_,_,_,_] (.k .v0 .v1) [[1,1,1,-1,1]] (.l .v2 .v3) (.l .v3 .v4) (.e (.a .v5 .n1) (.a .v0 .v4)) (.k .v5 .v2) hij hj p1 q2))) fun q1 p1=>(Ar.a2 [] [_,_,_,_] (.k .v0 .v1) [[1,1,1]] (.l .v2 .v3) (.k (.a .v0 .v3) .n1) hj q1))) (by(rename_i z2 z1;exact Ar.sub _ _ (fun q1 p1=>(Ar.sub _ _ (fun q2 p2=>(Ar.a3 [] [_,_,_,_,_] (.l .v0 .v1) [[1,1,1,1]] (.k .v2 .v3) (.e (.a .v0 .v3) .v4) (.e (.a .v4 .n1) (.a .v2 .v1)) z2.1 p1 p2)) fun q2 p2=>(Ar.a3 [] [_,_,_,_,_] (.l .v0 .v1) [[1,1,1,1]] (.l .v2 .v1) (.e (.a .v0 .v3) .v4) (.e .v4 .n0) hj p1 p2))) fun q1 p1=>(Ar.a2 [] [_,_,_] (.l .v0 .v1) [[1,1,1]] (.l .v2 .v1) (.e .v0 .n0) hj p1))) (by(exact Ar.sub _ _ (fun q1 p1=>(Ar.sub _ _ (fun q2 p2=>(Ar.a3 [] [_,_,_,_,_] (.k .v0 .v1) [[1,1,-1,-1]] (.l .v2 .v3) (.e (.a .v4 .n1) (.a .v0 .v3)) (.e (.a .v1 .v2) .v4) hj p1 p2)) fun q2 p2=>(Ar.a3 [] [_,_,_,_,_] (.k .v0 .v1) [[1,1,-1,1]] (.l .v2 .v3) (.e (.a .v4 .n1) (.a .v0 .v3)) (.k .v4 .v2) hj p1 q2))) fun q1 p1=>(Ar.a2 [] [_,_,_,_] (.k .v0 .v1) [[1,1,1]] (.l .v2 .v3) (.k (.a .v0 .v3) .n1) hj q1))) (by(rename_i z2 z1;exact Ar.sub _ _ (fun q1 p1=>(Ar.sub _ _ (fun q2 p2=>(Ar.a4 [] [_,_,_,_,_,_] (.l .v0 .v1) [[1,1,1,1,1]] (.l .v2 .v3) (.k .v4 .v2) (.e (.a .v0 .v3) .v5) (.e (.a .v5 .n1) (.a .v4 .v1)) hij z2.1 p1 p2)) fun q2 p2=>(Ar.a3 [] [_,_,_,_,_] (.l .v0 .v1) [[1,1,1,1]] (.l .v2 .v1) (.e (.a .v0 .v3) .v4) (.e .v4 .n0) z2.2 p1 p2))) fun q1 p1=>(Ar.a2 [] [_,_,_] (.l .v0 .v1) [[1,1,1]] (.l .v2 .v1) (.e .v0 .n0) hj p1)))
 ·(rename_i z2 z1;exact False.elim ((ah.mp z1).elim (fun q1=>(Ar.a3 [] [_,_,_] .ff [[0,1,1,1]] (.l .v0 .v1) (.k .v2 .v0) (.j .v2 .v1) hij z2.1 q1)) fun q1=>(Ar.a2 [] [_,_] .ff [[0,1,1]] (.l .v0 .v1) (.g .v0 .v1) hj q1)))
 ·exact h _ _ (by(rename_i z2 z1;exact Ar.sub _ _ (fun q1 p1=>((ah.mp z2).elim (fun q2=>(Ar.sub _ _ (fun q3 p3=>(Ar.a4 [] [_,_,_,_,_,_] (.l .v0 .v1) [[1,1,-1,1,-1]] (.l .v2 .v3) (.e (.a .v4 .n1) (.a .v5 .v3)) (.j .v5 .v0) (.e (.a .v1 .v2) .v4) hj p1 q2 p3)) fun q3 p3=>(Ar.a4 [] [_,_,_,_,_,_] (.l .v0 .v1) [[0,1,-1,1,1]] (.l .v2 .v3) (.e (.a .v4 .n1) (.a .v5 .v3)) (.j .v5 .v0) (.k .v4 .v2) hj p1 q2 q3))) fun q2=>(Ar.a3 [] [_,_,_,_] (.l .v0 .v1) [[0,1,1,1]] (.l .v0 .v2) (.l .v2 .v3) (.g .v0 .v3) hij hj q2))) fun q1 p1=>(Ar.a3 [] [_,_,_,_,_] (.l .v0 .v1) [[0,1,1,1]] (.l .v0 .v2) (.l .v2 .v3) (.k (.a .v4 .v3) .n1) hij hj q1))) (by(rename_i z1;exact Ar.sub _ _ (fun q1 p1=>(Ar.sub _ _ (fun q2 p2=>(Ar.a3 [] [_,_,_,_,_] (.l .v0 .v1) [[1,1,1,1]] (.k .v2 .v3) (.e (.a .v0 .v3) .v4) (.e (.a .v4 .n1) (.a .v2 .v1)) z1.1 p1 p2)) fun q2 p2=>(Ar.a3 [] [_,_,_,_,_] (.l .v0 .v1) [[1,1,1,1]] (.k (.a .v2 .n1) .v1) (.e (.a .v0 .v3) .v4) (.e .v4 .n0) h1 p1 p2))) fun q1 p1=>(Ar.a2 [] [_,_,_] (.l .v0 .v1) [[1,1,1]] (.l .v2 .v1) (.e .v0 .n0) hj p1)))
 ·exact h _ _ hij hj
theorem xd (L:zu lt) (hn:0<n):∀ (f:Nat) (p:Array Nat) (m q:Nat),pb n p→1≤m→m+f≤n→eO lt p m→Flat lt p m q →
  ends n lt (kas_desc f p m q) fun r=>pb n r.1∧m≤r.2.1∧r.2.1≤m+f∧eO lt r.1 r.2.1∧Flat lt r.1 r.2.1 r.2.2
 | 0,p,m,q,hp,h1,hf,hd,hq=>⟨hp,aj _,by simp,hd,hq⟩
 | f+1,p,m,q,hp,h1,hf,hd,hq=>by
  refine⟨hp.low hn _,hp.low hn _,?_⟩
  have hsz:=hp.size
  have grow:∀ {p:Array Nat},eO lt p m→lt (at0 p (m-1)) (at0 p m)=false→eO lt p (m+1):=fun {p} hd hc i j hij hj=>by
   rcases vv (ye hj) with h | rfl
   ·exact hd i j hij h
   ·have:=hd.le L (i:=i) (j:=j-1) (by(exact Ar.a2 [] [_,_,_] (.k .v0 .v1) [[1,1,-1]] (.l .v0 .v2) (.e (.a .v1 .n1) .v2) hij (aa (Ar.a1 [] [_] (.k .n1 .v0) [[1,1]] (.k .n1 .v0) h1)))) (by(exact Ar.a1 [] [_,_] (.l .v0 .v1) [[1,1]] (.e (.a .v0 .n1) .v1) (aa (Ar.a1 [] [_] (.k .n1 .v0) [[1,1]] (.k .n1 .v0) h1))))
    exact L.tr _ (at0 p (j-1)) _ hc this
  cases hc:lt (at0 p m) (at0 p (m-1)) with
  | true =>
   have ha:=L.asym _ _ hc
   show ends n lt (if q>0 then kas_desc f (kas_rev p (m-(q+1)) m) (m+1) 0 else kas_desc f p (m+1) 0) _
   split
   ·have hp':pb n (kas_rev p (m-(q+1)) m):=hp.step (mirror_perm _ _ _ _)
    have hd':=tF L (by(exact Ar.a2 [] [_,_,_,_] (.k .v0 .v1) [[1,1,-1]] (.k (.a .v0 (.a .v2 .n1)) .v3) (.e .v1 .v3) hf hsz)) hd hq
    have e1:at0 (kas_rev p (m-(q+1)) m) m=at0 p m:=by rw [vf (by(exact Ar.a2 [] [_,_,_,_] (.k .v0 .v1) [[1,1,-1]] (.k (.a .v0 (.a .v2 .n1)) .v3) (.e .v1 .v3) hf hsz)),aw (by(exact fun q1=>(Ar.a1 [] [_] .ff [[0,1]] (.l .v0 .v0) q1.2)))]
    have e2:lt (at0 (kas_rev p (m-(q+1)) m) (m-1)) (at0 p m)=false:=by
     obtain⟨g1,g2⟩:=hq
     rw [vf (by(exact Ar.a2 [] [_,_,_,_] (.k .v0 .v1) [[1,1,-1]] (.k (.a .v0 (.a .v2 .n1)) .v3) (.e .v1 .v3) hf hsz)),bc (by(exact⟨(Ar.a2 [] [_,_,_,_] (.k .v0 .v1) [[1,1,-1]] (.e (.a .v0 (.a .v2 .n1)) .v3) (.e (.a .v1 .n1) .v3) (aa (Ar.a1 [] [_,_] (.k (.a .v0 .n1) .v1) [[1,1]] (.k (.a .v0 .n1) .v1) g1)) (aa (Ar.a1 [] [_] (.k .n1 .v0) [[1,1]] (.k .n1 .v0) h1))),(Ar.a1 [] [_,_] (.l .v0 .v1) [[1,1]] (.e (.a .v0 .n1) .v1) (aa (Ar.a1 [] [_] (.k .n1 .v0) [[1,1]] (.k .n1 .v0) h1)))⟩))]
     exact L.tr _ (at0 p (m-1)) _ ha (g2 _ _ (by(exact Ar.sub _ _ (fun q1 p1=>(Ar.sub _ _ (fun q2 p2=>(Ar.sub _ _ (fun q3 p3=>(Ar.a3 [] [_,_,_,_,_] (.k .v0 .v1) [[1,-1,1,-1]] (.e (.a .v2 .n1) (.a .v0 .v3)) (.e (.a .v4 .n1) .v3) (.e (.a .v1 .v4) .v2) p1 p2 p3)) fun q3 p3=>(Ar.a3 [] [_,_,_,_,_] (.k .v0 .v1) [[1,-1,1,1]] (.e (.a .v2 .n1) (.a .v0 .v3)) (.e (.a .v4 .n1) .v3) (.k .v2 .v4) p1 p2 q3))) fun q2 p2=>(Ar.a2 [] [_,_,_,_] (.k .v0 .v1) [[1,1,1]] (.e (.a .v0 (.a .v2 .n1)) .v3) (.k .v3 .n1) (aa (Ar.a1 [] [_,_] (.k (.a .v0 .n1) .v1) [[1,1]] (.k (.a .v0 .n1) .v1) g1)) q2))) fun q1 p1=>(Ar.a2 [] [_,_,_] (.k .v0 .v1) [[1,1,1]] (.k .n1 .v2) (.k (.a .v0 .v2) .n1) h1 q1))) (by(rename_i z1;exact Ar.sub _ _ (fun q1 p1=>(Ar.sub _ _ (fun q2 p2=>(Ar.sub _ _ (fun q3 p3=>(Ar.sub _ _ (fun q4 p4=>(Ar.a4 [] [_,_,_,_,_,_] (.l .v0 .v1) [[1,1,1,-1,1]] (.e (.a .v0 .v2) .v3) (.e (.a .v3 .n1) (.a .v4 .v1)) (.e (.a .v2 .n1) .v1) (.e (.a .v4 (.a .v5 .n1)) .v1) p1 p2 p3 p4)) fun q4 p4=>(Ar.a3 [] [_,_,_,_,_] (.l .v0 .v1) [[1,1,1,1]] (.e (.a .v0 .v2) .v3) (.e (.a .v3 .n1) (.a .v4 .v1)) (.e .v4 .n0) p1 p2 p4))) fun q3 p3=>(Ar.a3 [] [_,_,_] (.l .v0 .v1) [[0,1,1,1]] (.l .n0 .v2) (.k (.a .v2 .n1) .v1) (.k .v1 .n1) z1 g1 q3))) fun q2 p2=>(Ar.a3 [] [_,_,_,_,_] (.l .v0 .v1) [[1,1,1,1]] (.k (.a .v2 .n1) .v1) (.e (.a .v0 .v3) .v4) (.e .v4 .n0) g1 p1 p2))) fun q1 p1=>(Ar.a2 [] [_,_,_] (.l .v0 .v1) [[1,1,1]] (.k (.a .v2 .n1) .v1) (.e .v0 .n0) g1 p1))) (by(exact Ar.a2 [] [_,_,_,_] (.k .v0 .v1) [[1,1,-1]] (.e (.a .v0 (.a .v2 .n1)) .v3) (.e (.a .v1 .n1) .v3) (aa (Ar.a1 [] [_,_] (.k (.a .v0 .n1) .v1) [[1,1]] (.k (.a .v0 .n1) .v1) g1)) (aa (Ar.a1 [] [_] (.k .n1 .v0) [[1,1]] (.k .n1 .v0) h1)))) (by(exact Ar.a1 [] [_,_] (.l .v0 .v1) [[1,1]] (.e (.a .v0 .n1) .v1) (aa (Ar.a1 [] [_,_] (.k .n1 .v0) [[1,1]] (.k (.a .v1 .n1) .v0) g1)))))
    refine gf (fun r hr=>⟨hr.1,by(exact Ar.a1 [] [_,_] (.k .v0 .v1) [[1,1]] (.k (.a .v0 .n1) .v1) hr.2.1),by(exact Ar.a1 [] [_,_,_] (.k .v0 (.a .v1 (.a .v2 .n1))) [[1,1]] (.k .v0 (.a (.a .v1 .n1) .v2)) hr.2.2.1),hr.2.2.2⟩) (xd L hn f _ (m+1) 0 hp' (by(exact Ar.a0 [] [_] (.k .n1 (.a .v0 .n1)) [[1]])) (by(exact Ar.a1 [] [_,_,_] (.k (.a (.a .v0 .n1) .v1) .v2) [[1,1]] (.k (.a .v0 (.a .v1 .n1)) .v2) hf)) (grow hd' (by rw [e1];exact e2)) ⟨by(exact Ar.a0 [] [_] (.k (.a .n0 .n1) (.a .v0 .n1)) [[1]]),fun i j a b c d=>?_⟩)
    have:i=m:=by(exact Ar.a3 [] [_,_,_] (.e .v0 .v1) [[1,1,0,-1],[1,0,1,0]] (.k .v2 .v0) (.l .v0 (.a .v1 .n1)) (.e (.a .v2 (.a .n0 .n1)) (.a .v1 .n1)) a b (aa (Ar.a0 [] [_] (.k (.a .n0 .n1) (.a .v0 .n1)) [[1]])))
    have:j=m:=by(exact Ar.a3 [] [_,_,_] (.e .v0 .v1) [[1,1,0,-1],[1,0,1,0]] (.k .v2 .v0) (.l .v0 (.a .v1 .n1)) (.e (.a .v2 (.a .n0 .n1)) (.a .v1 .n1)) c d (aa (Ar.a0 [] [_] (.k (.a .n0 .n1) (.a .v0 .n1)) [[1]])))
    subst_vars
    exact L.irr _
   ·refine gf (fun r hr=>⟨hr.1,by(exact Ar.a1 [] [_,_] (.k .v0 .v1) [[1,1]] (.k (.a .v0 .n1) .v1) hr.2.1),by(exact Ar.a1 [] [_,_,_] (.k .v0 (.a .v1 (.a .v2 .n1))) [[1,1]] (.k .v0 (.a (.a .v1 .n1) .v2)) hr.2.2.1),hr.2.2.2⟩) (xd L hn f _ (m+1) 0 hp (by(exact Ar.a0 [] [_] (.k .n1 (.a .v0 .n1)) [[1]])) (by(exact Ar.a1 [] [_,_,_] (.k (.a (.a .v0 .n1) .v1) .v2) [[1,1]] (.k (.a .v0 (.a .v1 .n1)) .v2) hf)) (grow hd ha) ⟨by(exact Ar.a0 [] [_] (.k (.a .n0 .n1) (.a .v0 .n1)) [[1]]),fun i j a b c d=>?_⟩)
    have:i=m:=by(exact Ar.a3 [] [_,_,_] (.e .v0 .v1) [[1,1,0,-1],[1,0,1,0]] (.k .v2 .v0) (.l .v0 (.a .v1 .n1)) (.e (.a .v2 (.a .n0 .n1)) (.a .v1 .n1)) a b (aa (Ar.a0 [] [_] (.k (.a .n0 .n1) (.a .v0 .n1)) [[1]])))
    have:j=m:=by(exact Ar.a3 [] [_,_,_] (.e .v0 .v1) [[1,1,0,-1],[1,0,1,0]] (.k .v2 .v0) (.l .v0 (.a .v1 .n1)) (.e (.a .v2 (.a .n0 .n1)) (.a .v1 .n1)) c d (aa (Ar.a0 [] [_] (.k (.a .n0 .n1) (.a .v0 .n1)) [[1]])))
    subst_vars
    exact L.irr _
  | false =>
   refine⟨hp.low hn _,hp.low hn _,?_⟩
   cases hd2:lt (at0 p (m-1)) (at0 p m) with
   | true=>exact⟨hp,aj _,by simp,hd,hq⟩
   | false =>
    show ends n lt (kas_desc f p (m+1) (q+1)) _
    refine gf (fun r hr=>⟨hr.1,by(exact Ar.a1 [] [_,_] (.k .v0 .v1) [[1,1]] (.k (.a .v0 .n1) .v1) hr.2.1),by(exact Ar.a1 [] [_,_,_] (.k .v0 (.a .v1 (.a .v2 .n1))) [[1,1]] (.k .v0 (.a (.a .v1 .n1) .v2)) hr.2.2.1),hr.2.2.2⟩) (xd L hn f p (m+1) (q+1) hp (by(exact Ar.a0 [] [_] (.k .n1 (.a .v0 .n1)) [[1]])) (by(exact Ar.a1 [] [_,_,_] (.k (.a (.a .v0 .n1) .v1) .v2) [[1,1]] (.k (.a .v0 (.a .v1 .n1)) .v2) hf)) (grow hd hd2) ?_)
    obtain⟨g1,g2⟩:=hq
    refine⟨by(exact Ar.a1 [] [_,_] (.k (.a (.a .v0 .n1) .n1) (.a .v1 .n1)) [[1,1]] (.k (.a .v0 .n1) .v1) g1),fun i j a b c d=>?_⟩
    by_cases hi:i=m
    ·by_cases hj:j=m
     ·subst hi;subst hj;exact L.irr _
     ·subst hi
      exact L.tr _ (at0 p (i-1)) _ (g2 _ _ (by(exact Ar.a2 [] [_,_,_,_] (.k .v0 .v1) [[1,1,-1]] (.e (.a .v0 (.a .v2 .n1)) .v3) (.e (.a .v1 .n1) .v3) (aa (Ar.a1 [] [_,_] (.k (.a .v0 .n1) .v1) [[1,1]] (.k (.a .v0 .n1) .v1) g1)) (aa (Ar.a1 [] [_] (.k .n1 .v0) [[1,1]] (.k .n1 .v0) h1)))) (by(exact Ar.a1 [] [_,_] (.l .v0 .v1) [[1,1]] (.e (.a .v0 .n1) .v1) (aa (Ar.a1 [] [_] (.k .n1 .v0) [[1,1]] (.k .n1 .v0) h1)))) (by(exact Ar.a3 [] [_,_,_,_,_] (.k .v0 .v1) [[1,1,-1,1]] (.k .v2 .v1) (.e (.a .v2 (.a (.a .v3 .n1) .n1)) (.a .v4 .n1)) (.e (.a .v0 (.a .v3 .n1)) .v4) c (aa (Ar.a1 [] [_,_] (.k (.a (.a .v0 .n1) .n1) (.a .v1 .n1)) [[1,1]] (.k (.a .v0 .n1) .v1) g1)) (aa (Ar.a1 [] [_,_] (.k (.a .v0 .n1) .v1) [[1,1]] (.k (.a .v0 .n1) .v1) g1)))) (by(exact(ak hj).elim (fun q1=>(Ar.a1 [] [_,_] (.l .v0 .v1) [[1,1]] (.l .v0 .v1) q1)) fun q1=>(Ar.a2 [] [_,_] (.l .v0 .v1) [[0,1,1]] (.l .v0 (.a .v1 .n1)) (.l .v1 .v0) d q1)))) hc
    ·by_cases hj:j=m
     ·subst hj
      exact L.tr _ (at0 p (j-1)) _ hd2 (g2 _ _ (by(exact Ar.a3 [] [_,_,_,_,_] (.k .v0 .v1) [[1,1,-1,1]] (.k .v2 .v1) (.e (.a .v2 (.a (.a .v3 .n1) .n1)) (.a .v4 .n1)) (.e (.a .v0 (.a .v3 .n1)) .v4) a (aa (Ar.a1 [] [_,_] (.k (.a (.a .v0 .n1) .n1) (.a .v1 .n1)) [[1,1]] (.k (.a .v0 .n1) .v1) g1)) (aa (Ar.a1 [] [_,_] (.k (.a .v0 .n1) .v1) [[1,1]] (.k (.a .v0 .n1) .v1) g1)))) (by(exact(ak hi).elim (fun q1=>(Ar.a1 [] [_,_] (.l .v0 .v1) [[1,1]] (.l .v0 .v1) q1)) fun q1=>(Ar.a2 [] [_,_] (.l .v0 .v1) [[0,1,1]] (.l .v0 (.a .v1 .n1)) (.l .v1 .v0) b q1))) (by(exact Ar.a2 [] [_,_,_,_] (.k .v0 .v1) [[1,1,-1]] (.e (.a .v0 (.a .v2 .n1)) .v3) (.e (.a .v1 .n1) .v3) (aa (Ar.a1 [] [_,_] (.k (.a .v0 .n1) .v1) [[1,1]] (.k (.a .v0 .n1) .v1) g1)) (aa (Ar.a1 [] [_] (.k .n1 .v0) [[1,1]] (.k .n1 .v0) h1)))) (by(exact Ar.a1 [] [_,_] (.l .v0 .v1) [[1,1]] (.e (.a .v0 .n1) .v1) (aa (Ar.a1 [] [_] (.k .n1 .v0) [[1,1]] (.k .n1 .v0) h1)))))
     ·exact g2 _ _ (by(exact Ar.a3 [] [_,_,_,_,_] (.k .v0 .v1) [[1,1,-1,1]] (.k .v2 .v1) (.e (.a .v2 (.a (.a .v3 .n1) .n1)) (.a .v4 .n1)) (.e (.a .v0 (.a .v3 .n1)) .v4) a (aa (Ar.a1 [] [_,_] (.k (.a (.a .v0 .n1) .n1) (.a .v1 .n1)) [[1,1]] (.k (.a .v0 .n1) .v1) g1)) (aa (Ar.a1 [] [_,_] (.k (.a .v0 .n1) .v1) [[1,1]] (.k (.a .v0 .n1) .v1) g1)))) (by(exact(ak hi).elim (fun q1=>(Ar.a1 [] [_,_] (.l .v0 .v1) [[1,1]] (.l .v0 .v1) q1)) fun q1=>(Ar.a2 [] [_,_] (.l .v0 .v1) [[0,1,1]] (.l .v0 (.a .v1 .n1)) (.l .v1 .v0) b q1))) (by(exact Ar.a3 [] [_,_,_,_,_] (.k .v0 .v1) [[1,1,-1,1]] (.k .v2 .v1) (.e (.a .v2 (.a (.a .v3 .n1) .n1)) (.a .v4 .n1)) (.e (.a .v0 (.a .v3 .n1)) .v4) c (aa (Ar.a1 [] [_,_] (.k (.a (.a .v0 .n1) .n1) (.a .v1 .n1)) [[1,1]] (.k (.a .v0 .n1) .v1) g1)) (aa (Ar.a1 [] [_,_] (.k (.a .v0 .n1) .v1) [[1,1]] (.k (.a .v0 .n1) .v1) g1)))) (by(exact(ak hi).elim (fun q1=>((ak hj).elim (fun q2=>(Ar.a1 [] [_,_] (.l .v0 .v1) [[1,1]] (.l .v0 .v1) q2)) fun q2=>(Ar.a2 [] [_,_] (.l .v0 .v1) [[0,1,1]] (.l .v0 (.a .v1 .n1)) (.l .v1 .v0) d q2))) fun q1=>(Ar.a2 [] [_,_,_] (.l .v0 .v1) [[0,1,1]] (.l .v2 (.a .v1 .n1)) (.l .v1 .v2) b q1)))
theorem cC (L:zu lt) (hn:0<n) {p:Array Nat} {m nrem:Nat} (hp:pb n p) (h1:1≤m) (hm:m≤nrem) (hr:nrem≤n) (hd:eO lt p m) :
  ends n lt (kas_tail3 m nrem p) fun r=>pb n r.2∧m≤r.1∧r.1≤nrem∧yq lt r.2 r.1:=by
 unfold kas_tail3
 have hsz:=hp.size
 have hp':pb n (kas_rev p 0 m):=hp.step (mirror_perm _ _ _ _)
 refine qk (gf (fun r hr=>⟨hp',hr.1,by(exact Ar.a2 [] [_,_,_,_] (.k .v0 .v1) [[1,1,1]] (.k .v0 (.a .v2 .v3)) (.e (.a .v3 .v2) .v1) hr.2.1 (aa (Ar.a1 [] [_,_] (.k .v0 .v1) [[1,1]] (.k .v0 .v1) hm))),hr.2.2 fun i j hij hj=>?_⟩) (dR L hn hp' (nrem-m) m h1))
 rw [vf (by(rename_i z1;exact Ar.a3 [] [_,_,_,_] (.k .v0 .v1) [[1,1,1,-1]] (.k .v0 .v2) (.k .v2 .v3) (.e .v1 .v3) hm z1 hsz)),vf (by(rename_i z1;exact Ar.a3 [] [_,_,_,_] (.k .v0 .v1) [[1,1,1,-1]] (.k .v0 .v2) (.k .v2 .v3) (.e .v1 .v3) hm z1 hsz)),bc (by(exact⟨(Ar.a0 [] [_] (.k .n0 .v0) [[1]]),(Ar.a1 [] [_,_] (.l .v0 .v1) [[1,1]] (.l .v0 .v1) hj)⟩)),bc (by(exact⟨(Ar.a0 [] [_] (.k .n0 .v0) [[1]]),(Ar.a2 [] [_,_,_] (.l .v0 .v1) [[1,1,1]] (.l .v0 .v2) (.l .v2 .v1) hij hj)⟩))]
 exact hd _ _ (by(exact Ar.sub _ _ (fun q1 p1=>(Ar.sub _ _ (fun q2 p2=>(Ar.sub _ _ (fun q3 p3=>(Ar.a3 [] [_,_,_,_,_] (.l .v0 .v1) [[1,1,-1,1]] (.l .v2 .v3) (.e (.a .v1 .v2) .v4) (.e (.a .v0 .v3) .v4) hij p2 p3)) fun q3 p3=>(Ar.a5 [] [_,_,_,_,_,_] (.l .v0 .v1) [[1,1,1,-1,-1,1]] (.l .v2 .v3) (.l .v3 .v4) (.e (.a .v5 .n1) (.a .n0 .v4)) (.e (.a .v1 .v2) .v5) (.e .v0 .n0) hij hj p1 p2 p3))) fun q2 p2=>(Ar.a4 [] [_,_,_,_,_,_] (.l .v0 .v1) [[0,1,1,-1,1]] (.l .v2 .v3) (.l .v3 .v4) (.e (.a .v5 .n1) (.a .n0 .v4)) (.k .v5 .v2) hij hj p1 q2))) fun q1 p1=>(Ar.a3 [] [_,_,_,_,_] (.l .v0 .v1) [[0,1,1,1]] (.l .v2 .v3) (.l .v3 .v4) (.k (.a .n0 .v4) .n1) hij hj q1))) (by(exact Ar.sub _ _ (fun q1 p1=>(Ar.sub _ _ (fun q2 p2=>(Ar.a2 [] [_,_,_,_] (.l .v0 .v1) [[1,1,1]] (.e (.a .v0 .v2) .v3) (.e (.a .v3 .n1) (.a .n0 .v1)) p1 p2)) fun q2 p2=>(Ar.a3 [] [_,_,_,_,_] (.l .v0 .v1) [[1,1,1,1]] (.l .v2 .v1) (.e (.a .v0 .v3) .v4) (.e .v4 .n0) hj p1 p2))) fun q1 p1=>(Ar.a2 [] [_,_,_] (.l .v0 .v1) [[1,1,1]] (.l .v2 .v1) (.e .v0 .n0) hj p1)))
theorem xy (L:zu lt) (hn:0<n) {p:Array Nat} {m nrem:Nat} (hp:pb n p) (hm:m+1≤nrem) (hr:nrem≤n) (hd:eO lt p (m+1)) (h1:1≤m) :
  ends n lt (kas_descPart m nrem p) fun r=>pb n r.2∧1≤r.1∧r.1≤nrem∧yq lt r.2 r.1:=by
 unfold kas_descPart
 refine qk (gf (fun r hr=>?_) (xd L hn (nrem-(m+1)) p (m+1) 0 hp (by(exact Ar.a0 [] [_] (.k .n1 (.a .v0 .n1)) [[1]])) (by(exact Ar.a2 [] [_,_,_,_] (.k (.a (.a .v0 .n1) .v1) .v2) [[1,1,1]] (.k .v3 .v2) (.e (.a .v1 (.a .v0 .n1)) .v3) hr (aa (Ar.a1 [] [_,_] (.k (.a .v0 .n1) .v1) [[1,1]] (.k (.a .v0 .n1) .v1) hm)))) hd ⟨by(exact Ar.a0 [] [_] (.k (.a .n0 .n1) (.a .v0 .n1)) [[1]]),fun i j a b c d=>?_⟩))
 ·obtain⟨g1,g2,g3,g4,g5⟩:=hr
  have hsz:=g1.size
  split
  ·exact gf (fun r hr=>⟨hr.1,by(exact Ar.a2 [] [_,_,_] (.k .n1 .v0) [[1,1,1]] (.k (.a .v1 .n1) .v2) (.k .v2 .v0) g2 hr.2.1),hr.2.2⟩) (cC L hn (g1.step (mirror_perm _ _ _ _)) (by(exact Ar.a1 [] [_,_] (.k .n1 .v0) [[1,1]] (.k (.a .v1 .n1) .v0) g2)) (by(exact Ar.a2 [] [_,_,_,_] (.k .v0 .v1) [[1,1,1]] (.k .v0 (.a (.a .v2 .n1) .v3)) (.e (.a .v3 (.a .v2 .n1)) .v1) g3 (aa (Ar.a1 [] [_,_] (.k (.a .v0 .n1) .v1) [[1,1]] (.k (.a .v0 .n1) .v1) hm)))) (by(exact Ar.a1 [] [_,_] (.k .v0 .v1) [[1,1]] (.k .v0 .v1) hr)) (tF L (by(exact Ar.a4 [] [_,_,_,_,_,_] (.k .v0 .v1) [[1,1,1,-1,1]] (.k .v2 .v3) (.k .v0 (.a (.a .v4 .n1) .v5)) (.e .v1 .v3) (.e (.a .v5 (.a .v4 .n1)) .v2) hr g3 hsz (aa (Ar.a1 [] [_,_] (.k (.a .v0 .n1) .v1) [[1,1]] (.k (.a .v0 .n1) .v1) hm)))) g4 g5))
  ·exact gf (fun r hr=>⟨hr.1,by(exact Ar.a2 [] [_,_,_] (.k .n1 .v0) [[1,1,1]] (.k (.a .v1 .n1) .v2) (.k .v2 .v0) g2 hr.2.1),hr.2.2⟩) (cC L hn g1 (by(exact Ar.a1 [] [_,_] (.k .n1 .v0) [[1,1]] (.k (.a .v1 .n1) .v0) g2)) (by(exact Ar.a2 [] [_,_,_,_] (.k .v0 .v1) [[1,1,1]] (.k .v0 (.a (.a .v2 .n1) .v3)) (.e (.a .v3 (.a .v2 .n1)) .v1) g3 (aa (Ar.a1 [] [_,_] (.k (.a .v0 .n1) .v1) [[1,1]] (.k (.a .v0 .n1) .v1) hm)))) (by(exact Ar.a1 [] [_,_] (.k .v0 .v1) [[1,1]] (.k .v0 .v1) hr)) g4)
 ·have:i=m:=by(exact Ar.a3 [] [_,_,_] (.e .v0 .v1) [[1,1,0,-1],[1,0,1,0]] (.k .v2 .v0) (.l .v0 (.a .v1 .n1)) (.e (.a .v2 (.a .n0 .n1)) (.a .v1 .n1)) a b (aa (Ar.a0 [] [_] (.k (.a .n0 .n1) (.a .v0 .n1)) [[1]])))
  have:j=m:=by(exact Ar.a3 [] [_,_,_] (.e .v0 .v1) [[1,1,0,-1],[1,0,1,0]] (.k .v2 .v0) (.l .v0 (.a .v1 .n1)) (.e (.a .v2 (.a .n0 .n1)) (.a .v1 .n1)) c d (aa (Ar.a0 [] [_] (.k (.a .n0 .n1) (.a .v0 .n1)) [[1]])))
  subst_vars
  exact L.irr _
theorem k6 (hn:0<n) {p:Array Nat} (hp:pb n p) {Q:Nat→Prop}:∀ (f m:Nat),ends n lt (kas_asc p f m) Q→ends n lt (kas_asc p f m) fun r=>Q r∧(r<m+f→lt (at0 p r) (at0 p (r-1))=true)
 | 0,m,h=>⟨h,fun q=>absurd q (by(exact Ar.a0 [] [_] (.g .v0 (.a .v0 .n0)) [[1]]))⟩
 | f+1,m,h=>by
  obtain⟨h1,h2,h⟩:=h
  refine⟨h1,h2,?_⟩
  cases hc:lt (at0 p m) (at0 p (m-1)) with
  | true =>
   have e:lt (p.getD m 0) (p.getD (m-1) 0)=true:=hc
   rw [e] at h
   exact⟨h,fun _=>hc⟩
  | false =>
   have e:lt (p.getD m 0) (p.getD (m-1) 0)=false:=hc
   rw [e] at h
   show ends n lt (kas_asc p f (m+1)) _
   exact gf (fun r hr=>⟨hr.1,fun q=>hr.2 (by(exact Ar.a1 [] [_,_,_] (.l .v0 (.a (.a .v1 .n1) .v2)) [[1,1]] (.l .v0 (.a .v1 (.a .v2 .n1))) q))⟩) (k6 hn hp f (m+1) h)
theorem lP (L:zu lt) (hn:0<n) {p:Array Nat} (hp:pb n p) {nrem:Nat} (h1:1≤nrem) (hr:nrem≤n):ends n lt (kas_count nrem p) fun r=>pb n r.2∧1≤r.1∧r.1≤nrem∧yq lt r.2 r.1:=by
 unfold kas_count
 have hsz:=hp.size
 refine qk (gf (fun m hm=>?_) (k6 hn hp _ _ (dR L hn hp (nrem-1) 1 (aj _))))
 obtain⟨⟨g1,g2,g3⟩,g4⟩:=hm
 have hu:yq lt p m:=g3 fun i j hij hj=>absurd hj (by(exact Ar.a1 [] [_,_] (.g .v0 .n1) [[1,1]] (.l .v1 .v0) hij))
 by_cases he:m=nrem
 ·rw [bc (by simp [he])]
  exact⟨hp,g1,by(exact Ar.a1 [] [_,_] (.k .v0 .v1) [[1,1]] (.e .v0 .v1) he),hu⟩
 ·rw [aw (by simp [he])]
  have hstep:=g4 (by(exact(ak he).elim (fun q1=>(Ar.a2 [] [_,_,_] (.l .v0 (.a .n1 .v1)) [[1,-1,1]] (.e (.a .v1 .n1) .v2) (.l .v0 .v2) (aa (Ar.a1 [] [_] (.k .n1 .v0) [[1,1]] (.k .n1 .v0) h1)) q1)) fun q1=>(Ar.a3 [] [_,_,_] (.l .v0 (.a .n1 .v1)) [[0,1,1,1]] (.k .v0 (.a .n1 .v1)) (.e (.a .v1 .n1) .v2) (.l .v2 .v0) g2 (aa (Ar.a1 [] [_] (.k .n1 .v0) [[1,1]] (.k .n1 .v0) h1)) q1)))
  split
  ·refine⟨hp.low hn _,hp.low hn _,?_⟩
   cases hc:lt (at0 p 0) (at0 p (m-1)) with
   | true=>exact⟨hp,g1,by(exact Ar.a2 [] [_,_,_] (.k .v0 .v1) [[1,1,1]] (.k .v0 (.a .n1 .v2)) (.e (.a .v2 .n1) .v1) g2 (aa (Ar.a1 [] [_] (.k .n1 .v0) [[1,1]] (.k .n1 .v0) h1))),hu⟩
   | false =>
    show ends n lt (kas_descPart m nrem (kas_rev p 0 m)) _
    have alike:∀ a b,a<m→b<m→lt (at0 p a) (at0 p b)=false:=fun a b ha hb=>by
     have e1:=hu.le L (i:=b) (j:=m-1) (by(exact Ar.a2 [] [_,_,_] (.k .v0 .v1) [[1,1,-1]] (.l .v0 .v2) (.e (.a .v1 .n1) .v2) hb (aa (Ar.a1 [] [_] (.k .n1 .v0) [[1,1]] (.k .n1 .v0) g1)))) (by(exact Ar.a1 [] [_,_] (.l .v0 .v1) [[1,1]] (.e (.a .v0 .n1) .v1) (aa (Ar.a1 [] [_] (.k .n1 .v0) [[1,1]] (.k .n1 .v0) g1))))
     have e2:=hu.le L (i:=0) (j:=a) (by(exact Ar.a0 [] [_] (.k .n0 .v0) [[1]])) (by(exact Ar.a1 [] [_,_] (.l .v0 .v1) [[1,1]] (.l .v0 .v1) ha))
     exact L.tr _ _ _ (L.tr _ _ _ e1 hc) e2
    refine xy L hn (hp.step (mirror_perm _ _ _ _)) (by(exact(ak he).elim (fun q1=>(Ar.a1 [] [_,_] (.k (.a .v0 .n1) .v1) [[1,1]] (.l .v0 .v1) q1)) fun q1=>(Ar.a3 [] [_,_,_] (.k (.a .v0 .n1) .v1) [[0,1,1,1]] (.k .v0 (.a .n1 .v2)) (.e (.a .v2 .n1) .v1) (.l .v1 .v0) g2 (aa (Ar.a1 [] [_] (.k .n1 .v0) [[1,1]] (.k .n1 .v0) h1)) q1))) hr (fun i j hij hj=>?_) (by(exact Ar.a1 [] [_] (.k .n1 .v0) [[1,1]] (.k .n1 .v0) g1))
    rw [vf (by(exact Ar.a4 [] [_,_,_,_,_] (.k .v0 .v1) [[1,1,-1,1,1]] (.k .v2 .v3) (.e .v1 .v3) (.k .v0 (.a .n1 .v4)) (.e (.a .v4 .n1) .v2) hr hsz g2 (aa (Ar.a1 [] [_] (.k .n1 .v0) [[1,1]] (.k .n1 .v0) h1)))),vf (by(exact Ar.a4 [] [_,_,_,_,_] (.k .v0 .v1) [[1,1,-1,1,1]] (.k .v2 .v3) (.e .v1 .v3) (.k .v0 (.a .n1 .v4)) (.e (.a .v4 .n1) .v2) hr hsz g2 (aa (Ar.a1 [] [_] (.k .n1 .v0) [[1,1]] (.k .n1 .v0) h1)))),bc (by(exact⟨(Ar.a0 [] [_] (.k .n0 .v0) [[1]]),(Ar.a2 [] [_,_,_] (.l .v0 .v1) [[1,1,1]] (.l .v0 .v2) (.l .v2 (.a .v1 .n1)) hij hj)⟩))]
    split
    ·exact alike _ _ (by(rename_i z1;exact Ar.sub _ _ (fun q1 p1=>(Ar.sub _ _ (fun q2 p2=>(Ar.a2 [] [_,_,_,_] (.l .v0 .v1) [[1,1,1]] (.e (.a .v0 .v2) .v3) (.e (.a .v3 .n1) (.a .n0 .v1)) p1 p2)) fun q2 p2=>(Ar.a3 [] [_,_,_,_,_] (.l .v0 .v1) [[1,1,1,1]] (.l .v2 .v1) (.e (.a .v0 .v3) .v4) (.e .v4 .n0) z1.2 p1 p2))) fun q1 p1=>(Ar.a2 [] [_,_,_] (.l .v0 .v1) [[1,1,1]] (.l .v2 .v1) (.e .v0 .n0) z1.2 p1))) (by(rename_i z2 z1;exact Ar.sub _ _ (fun q1 p1=>(Ar.sub _ _ (fun q2 p2=>(Ar.a2 [] [_,_,_,_] (.l .v0 .v1) [[1,1,1]] (.e (.a .v0 .v2) .v3) (.e (.a .v3 .n1) (.a .n0 .v1)) p1 p2)) fun q2 p2=>(Ar.a2 [] [_,_] (.l .v0 .v1) [[0,1,1]] (.l .n1 .v1) (.k (.a .n0 .v1) .n1) z2 q2))) fun q1 p1=>(Ar.a2 [] [_,_,_] (.l .v0 .v1) [[1,1,1]] (.l .v2 .v1) (.e .v0 .n0) z1.2 p1)))
    ·have:j=m:=by(rename_i z1;exact(ak he).elim (fun q1=>((Ar.imp g4).elim (fun q2=>(Ar.a4 [] [_,_,_,_] (.e .v0 .v1) [[0,0,-1,1,1],[1,1,0,0,0]] (.l .v0 (.a .v1 .n1)) (.e (.a .v2 .n1) .v3) (.l .v1 .v3) (.g .v1 (.a .n1 .v2)) hj (aa (Ar.a1 [] [_] (.k .n1 .v0) [[1,1]] (.k .n1 .v0) h1)) q1 q2)) fun q2=>((ah.mp z1).elim (fun q3=>(Ar.a2 [] [_,_] (.e .v0 .v1) [[0,0,1],[1,1,0]] (.l .v0 (.a .v1 .n1)) (.j .n0 .v0) hj q3)) fun q3=>(Ar.a2 [] [_,_] (.e .v0 .v1) [[1,0,1],[1,1,0]] (.l .v0 (.a .v1 .n1)) (.g .v0 .v1) hj q3)))) fun q1=>(Ar.a4 [] [_,_,_,_] (.e .v0 .v1) [[0,1,0,1,1],[1,0,1,0,0]] (.k .v1 (.a .n1 .v2)) (.l .v0 (.a .v1 .n1)) (.e (.a .v2 .n1) .v3) (.l .v3 .v1) g2 hj (aa (Ar.a1 [] [_] (.k .n1 .v0) [[1,1]] (.k .n1 .v0) h1)) q1))
     subst this
     exact L.tr _ _ _ (L.asym _ _ hstep) (alike _ _ (by(exact Ar.sub _ _ (fun q1 p1=>(Ar.sub _ _ (fun q2 p2=>(Ar.a2 [] [_,_,_,_] (.l .v0 .v1) [[1,1,1]] (.e (.a .v0 .v2) .v3) (.e (.a .v3 .n1) (.a .n0 .v1)) p1 p2)) fun q2 p2=>(Ar.a3 [] [_,_,_,_] (.l .v0 .v1) [[1,1,1,1]] (.k .n1 .v1) (.e (.a .v0 .v2) .v3) (.e .v3 .n0) g1 p1 p2))) fun q1 p1=>(Ar.a2 [] [_,_] (.l .v0 .v1) [[1,1,1]] (.k .n1 .v1) (.e .v0 .n0) g1 p1))) (by(exact Ar.a1 [] [_,_] (.l .v0 .v1) [[1,1]] (.e (.a .v0 .n1) .v1) (aa (Ar.a1 [] [_] (.k .n1 .v0) [[1,1]] (.k .n1 .v0) g1)))))
  ·have hm1:m=1:=by(rename_i z1;exact Ar.a2 [] [_] (.e .v0 .n1) [[1,1,0],[1,0,1]] (.k .n1 .v0) (.g .n1 .v0) g1 z1)
   subst hm1
   refine xy L hn hp (by(exact(ak he).elim (fun q1=>(Ar.a1 [] [_] (.k (.a .n1 .n1) .v0) [[1,1]] (.l .n1 .v0) q1)) fun q1=>(Ar.a2 [] [_] (.k (.a .n1 .n1) .v0) [[0,1,1]] (.k .n1 .v0) (.l .v0 .n1) h1 q1))) hr (fun i j hij hj=>?_) (by(exact Ar.a0 [] [] (.k .n1 .n1) [[1]]))
   have hi:i=0:=by(exact Ar.a2 [] [_,_] (.e .v0 .n0) [[1,0,0],[1,1,1]] (.l .v0 .v1) (.l .v1 (.a .n1 .n1)) hij hj)
   have hj:j=1:=by(exact Ar.a2 [] [_,_] (.e .v0 .n1) [[1,1,0],[1,0,1]] (.l .v1 .v0) (.l .v0 (.a .n1 .n1)) hij hj)
   subst hi;subst hj
   exact L.asym _ _ hstep
theorem yj (L:zu lt) (hn:0<n) {p:Array Nat} (hp:pb n p) {k:Nat} (hu:yq lt p k):∀ (f l r:Nat),l≤r→r≤k→r-l≤f→(∀ i,i<l→lt (at0 p k) (at0 p i)=false)→(∀ i,r≤i→i<k→lt (at0 p i) (at0 p k)=false) →
  ends n lt (kas_place p k f l r) fun m=>m≤k∧(∀ i,i<m→lt (at0 p k) (at0 p i)=false)∧∀ i,m≤i→i<k→lt (at0 p i) (at0 p k)=false
 | 0,l,r,h1,h2,h3,ha,hb=>⟨by(exact Ar.a2 [] [_,_,_] (.k .v0 .v1) [[1,1,1]] (.k .v0 .v2) (.k .v2 .v1) h1 h2),ha,fun i hi=>hb i (by(exact Ar.a3 [] [_,_,_,_] (.k .v0 .v1) [[1,1,1,-1]] (.k .v2 .n0) (.k .v3 .v1) (.e (.a .v2 .v3) .v0) h3 hi (aa (Ar.a1 [] [_,_] (.k .v0 .v1) [[1,1]] (.k .v0 .v1) h1))))⟩
 | f+1,l,r,h1,h2,h3,ha,hb=>by
  unfold kas_place
  split
  ·exact⟨by(exact Ar.a2 [] [_,_,_] (.k .v0 .v1) [[1,1,1]] (.k .v0 .v2) (.k .v2 .v1) h1 h2),ha,fun i hi=>hb i (by(rename_i z1;exact Ar.a2 [] [_,_,_] (.k .v0 .v1) [[1,1,1]] (.k .v0 .v2) (.k .v2 .v1) z1 hi))⟩
  ·refine⟨hp.low hn _,hp.low hn _,?_⟩
   cases hc:lt (at0 p k) (at0 p ((l+r)/2)) with
   | true =>
    show ends n lt (kas_place p k f l ((l+r)/2)) _
    refine yj L hn hp hu f l _ (by(rename_i z1;exact Ar.a3 [] [_,_,_,_] (.k .v0 .v1) [[2,1,1,-1]] (.j .v2 .v0) (.l .v3 .n2) (.e (.a (.m 2 .v1) .v3) (.a .v0 .v2)) z1 (Ar.aL _ 2 (by decide)).1 (Ar.aL _ 2 (by decide)).2)) (by(rename_i z1;exact Ar.a3 [] [_,_,_,_,_] (.k .v0 .v1) [[2,2,1,1]] (.k .v2 .v1) (.j .v2 .v3) (.e (.a (.m 2 .v0) .v4) (.a .v3 .v2)) h2 z1 (Ar.aL _ 2 (by decide)).2)) (by(rename_i z1;exact Ar.a4 [] [_,_,_,_,_,_,_] (.k .v0 .v1) [[2,1,1,-1,2]] (.k .v2 (.a .v1 .n1)) (.e (.a (.m 2 .v3) .v4) (.a .v5 .v6)) (.e (.a .v2 .v5) .v6) (.e (.a .v0 .v5) .v3) h3 (Ar.aL _ 2 (by decide)).2 (aa (Ar.a1 [] [_,_] (.k .v0 .v1) [[1,1]] (.k .v0 .v1) h1)) (aa (Ar.a3 [] [_,_,_,_] (.k .v0 .v1) [[2,1,1,-1]] (.j .v2 .v0) (.l .v3 .n2) (.e (.a (.m 2 .v1) .v3) (.a .v0 .v2)) z1 (Ar.aL _ 2 (by decide)).1 (Ar.aL _ 2 (by decide)).2)))) ha fun i hi hk=>?_
    exact L.tr _ _ _ (L.asym _ _ hc) (hu.le L hi hk)
   | false =>
    show ends n lt (kas_place p k f ((l+r)/2+1) r) _
    refine yj L hn hp hu f _ r (by(rename_i z1;exact Ar.a2 [] [_,_,_,_] (.k (.a .v0 .n1) .v1) [[2,1,1]] (.j .v1 .v2) (.e (.a (.m 2 .v0) .v3) (.a .v2 .v1)) z1 (Ar.aL _ 2 (by decide)).2)) h2 (by(rename_i z1;exact Ar.a5 [] [_,_,_,_,_,_,_] (.k .v0 .v1) [[2,1,1,-1,-1,2]] (.k .v2 (.a .v1 .n1)) (.l .v3 .n2) (.e (.a (.m 2 .v4) .v3) (.a .v5 .v6)) (.e (.a .v2 .v5) .v6) (.e (.a .v0 (.a .v4 .n1)) .v6) h3 (Ar.aL _ 2 (by decide)).1 (Ar.aL _ 2 (by decide)).2 (aa (Ar.a1 [] [_,_] (.k .v0 .v1) [[1,1]] (.k .v0 .v1) h1)) (aa (Ar.a2 [] [_,_,_,_] (.k (.a .v0 .n1) .v1) [[2,1,1]] (.j .v1 .v2) (.e (.a (.m 2 .v0) .v3) (.a .v2 .v1)) z1 (Ar.aL _ 2 (by decide)).2)))) (fun i hi=>?_) hb
    exact L.tr _ _ _ (hu.le L (i:=i) (j:=(l+r)/2) (by(exact Ar.a1 [] [_,_] (.k .v0 .v1) [[1,1]] (.l .v0 (.a .v1 .n1)) hi)) (by(rename_i z1;exact Ar.a3 [] [_,_,_,_,_] (.l .v0 .v1) [[2,2,1,1]] (.k .v2 .v1) (.j .v2 .v3) (.e (.a (.m 2 .v0) .v4) (.a .v3 .v2)) h2 z1 (Ar.aL _ 2 (by decide)).2))) hc
theorem tO {p:Array Nat} {src d:Nat} (hs:src<p.size) (hd:d≤src) (k:Nat):at0 (bubble p src d) k=if k=src-d then at0 p src else if src-d<k∧k≤src then at0 p (k-1) else at0 p k:=by
 have e:=fun i=>zt (p:=p) i
 rw [zt,getElem?_bubble hs d hd,e src,e (k-1),e k]
 split
 ·rfl
 ·split<;>rfl
theorem jY (L:zu lt) (hn:0<n):∀ (f:Nat) (p:Array Nat) (k:Nat),pb n p→k+f≤n→yq lt p k→ends n lt (kas_bin f p k) fun q=>pb n q∧yq lt q (k+f)
 | 0,p,k,hp,hk,hu=>⟨hp,hu⟩
 | f+1,p,k,hp,hk,hu=>by
  unfold kas_bin
  have hsz:=hp.size
  refine qk (gf (fun l hl=>?_) (yj L hn hp hu k 0 k (ba _) (aj _) (by(exact Ar.a1 [] [_,_] (.k .v0 .v1) [[1,1]] (.e (.a .v0 .n0) .v1) (aa (Ar.a0 [] [_] (.k .n0 .v0) [[1]])))) (fun i hi=>absurd hi (by(exact Ar.a0 [] [_] (.g .v0 .n0) [[1]]))) fun i hi hk=>absurd hk (by(exact Ar.a1 [] [_,_] (.g .v0 .v1) [[1,1]] (.k .v1 .v0) hi))))
  obtain⟨g1,g2,g3⟩:=hl
  refine gf (fun q hq=>⟨hq.1,by rw [show k+(f+1)=k+1+f by(exact Ar.a0 [] [_,_] (.e (.a .v0 (.a .v1 .n1)) (.a (.a .v0 .n1) .v1)) [[1],[1]])];exact hq.2⟩) (jY L hn f (bubble p k (k-l)) (k+1) (hp.step (bubble_perm _ _ _)) (by(exact Ar.a1 [] [_,_,_] (.k (.a (.a .v0 .n1) .v1) .v2) [[1,1]] (.k (.a .v0 (.a .v1 .n1)) .v2) hk)) fun i j hij hj=>?_)
  have e:k-(k-l)=l:=by(exact Ar.sub _ _ (fun q1 p1=>(Ar.sub _ _ (fun q2 p2=>(Ar.a2 [] [_,_,_,_] (.e .v0 .v1) [[1,-1,1],[1,1,-1]] (.e (.a .v0 .v2) .v3) (.e (.a .v2 .v1) .v3) p1 p2)) fun q2 p2=>(Ar.a4 [] [_,_,_,_] (.e .v0 .v1) [[1,1,-1,0,1],[1,0,1,1,0]] (.k .v1 .v2) (.e (.a .v0 .v3) .v2) (.k .v2 .v1) (.e .v3 .n0) g1 p1 q2 p2))) fun q1 p1=>(Ar.sub _ _ (fun q2 p2=>(Ar.a3 [] [_,_,_,_] (.e .v0 .v1) [[1,1,0,1],[1,0,1,0]] (.k .v2 .v3) (.e .v0 .n0) (.e (.a .v3 .v1) .v2) q1 p1 p2)) fun q2 p2=>(Ar.a4 [] [_,_,_,_,_,_] (.e .v0 .v1) [[0,1,1,1,1],[0,1,1,1,1]] (.l .v2 .v3) (.l .v3 (.a .v4 .n1)) (.k .v4 .v5) (.e .v5 .n0) hij hj q1 p2)))
  rw [tO (by(exact Ar.a2 [] [_,_,_,_] (.l .v0 .v1) [[1,1,-1]] (.k (.a .v0 (.a .v2 .n1)) .v3) (.e .v1 .v3) hk hsz)) (by(exact Ar.a1 [] [_,_,_] (.k .v0 .v1) [[1,1]] (.e (.a .v0 .v2) .v1) (aa (Ar.a1 [] [_,_] (.k .v0 .v1) [[1,1]] (.k .v0 .v1) g1)))),tO (by(exact Ar.a2 [] [_,_,_,_] (.l .v0 .v1) [[1,1,-1]] (.k (.a .v0 (.a .v2 .n1)) .v3) (.e .v1 .v3) hk hsz)) (by(exact Ar.a1 [] [_,_,_] (.k .v0 .v1) [[1,1]] (.e (.a .v0 .v2) .v1) (aa (Ar.a1 [] [_,_] (.k .v0 .v1) [[1,1]] (.k .v0 .v1) g1)))),e]
  by_cases hjl:j=l
  ·rw [bc hjl,aw (by(exact Ar.a2 [] [_,_,_] (.u .v0 .v1) [[-1,1,1]] (.l .v0 .v2) (.e .v2 .v1) hij hjl)),aw (by(exact fun q1=>(Ar.a3 [] [_,_,_] .ff [[0,1,1,1]] (.l .v0 .v1) (.e .v1 .v2) (.l .v2 .v0) hij hjl q1.1)))]
   exact g2 i (by(exact Ar.a2 [] [_,_,_] (.l .v0 .v1) [[1,1,1]] (.l .v0 .v2) (.e .v2 .v1) hij hjl))
  ·rw [aw hjl]
   by_cases hjk:l<j∧j≤k
   ·rw [bc hjk]
    by_cases hil:i=l
    ·rw [bc hil]
     exact g3 _ (by(exact Ar.a3 [] [_,_,_,_] (.k .v0 .v1) [[1,1,-1,-1]] (.l .v2 .v3) (.e .v2 .v0) (.e (.a .v1 .n1) .v3) hij hil (aa (Ar.a1 [] [_,_] (.k .n1 .v0) [[1,1]] (.l .v1 .v0) hij)))) (by(exact Ar.a2 [] [_,_,_] (.l .v0 .v1) [[1,1,1]] (.l .v2 (.a .v1 .n1)) (.e (.a .v0 .n1) .v2) hj (aa (Ar.a1 [] [_,_] (.k .n1 .v0) [[1,1]] (.l .v1 .v0) hij))))
    ·rw [aw hil]
     split
     ·exact hu _ _ (by(rename_i z1;exact Ar.a3 [] [_,_,_,_] (.l .v0 .v1) [[1,1,1,-1]] (.l .v2 .v3) (.e (.a .v0 .n1) .v2) (.e (.a .v1 .n1) .v3) hij (aa (Ar.a1 [] [_,_] (.k .n1 .v0) [[1,1]] (.l .v1 .v0) z1.1)) (aa (Ar.a1 [] [_,_] (.k .n1 .v0) [[1,1]] (.l .v1 .v0) hij)))) (by(exact Ar.a2 [] [_,_,_] (.l .v0 .v1) [[1,1,1]] (.l .v2 (.a .v1 .n1)) (.e (.a .v0 .n1) .v2) hj (aa (Ar.a1 [] [_,_] (.k .n1 .v0) [[1,1]] (.l .v1 .v0) hij))))
     ·exact hu _ _ (by(rename_i z1;exact Ar.sub _ _ (fun q1 p1=>((ak hjl).elim (fun q2=>(Ar.a2 [] [_,_,_,_] (.l .v0 .v1) [[0,1,1]] (.l .v2 .v3) (.l .v3 .v2) hjk.1 q2)) fun q2=>((ak hil).elim (fun q3=>(Ar.a3 [] [_,_,_,_] (.l .v0 .v1) [[1,1,-1,1]] (.l .v2 .v3) (.e (.a .v1 .n1) .v3) (.l .v0 .v2) hjk.1 (aa (Ar.a1 [] [_,_] (.k .n1 .v0) [[1,1]] (.l .v1 .v0) hij)) q3)) fun q3=>((ah.mp z1).elim (fun q4=>(Ar.a2 [] [_,_,_] (.l .v0 .v1) [[0,1,1]] (.l .v2 .v0) (.g .v2 .v0) q3 q4)) fun q4=>(Ar.a3 [] [_,_,_,_] (.l .v0 .v1) [[0,1,1,1]] (.l .v0 .v2) (.l .v2 (.a .v3 .n1)) (.j .v0 .v3) hij hj q4))))) fun q1 p1=>(Ar.a3 [] [_,_,_,_,_] (.l .v0 .v1) [[0,1,1,1]] (.l .v2 (.a .v3 .n1)) (.l .v4 .v2) (.k .v3 .v4) hj hjk.1 q1))) (by(exact Ar.a2 [] [_,_,_] (.l .v0 .v1) [[1,1,1]] (.l .v2 (.a .v1 .n1)) (.e (.a .v0 .n1) .v2) hj (aa (Ar.a1 [] [_,_] (.k .n1 .v0) [[1,1]] (.l .v1 .v0) hij))))
   ·rw [aw hjk,aw (by(exact Ar.sub _ _ (fun q1 p1=>((ak hjl).elim (fun q2=>(Ar.a2 [] [_,_,_] (.u .v0 .v1) [[-1,1,1]] (.l .v0 .v2) (.l .v2 .v1) hij q2)) fun q2=>((ah.mp hjk).elim (fun q3=>(Ar.a2 [] [_,_,_] (.u .v0 .v1) [[-1,1,1]] (.l .v0 .v2) (.g .v1 .v2) hij q3)) fun q3=>(Ar.a2 [] [_,_,_,_] (.u .v0 .v1) [[0,1,1]] (.l .v2 (.a .v3 .n1)) (.j .v2 .v3) hj q3)))) fun q1 p1=>(Ar.a3 [] [_,_,_,_] (.u .v0 .v1) [[-1,1,1,1]] (.l .v0 .v2) (.l .v2 (.a .v3 .n1)) (.k .v3 .v1) hij hj q1))),aw (by(exact fun q1=>(Ar.sub _ _ (fun q2 p2=>((ak hjl).elim (fun q3=>(Ar.a3 [] [_,_,_] .ff [[0,1,1,1]] (.l .v0 .v1) (.l .v2 .v0) (.l .v1 .v2) hij q1.1 q3)) fun q3=>((ah.mp hjk).elim (fun q4=>(Ar.a3 [] [_,_,_] .ff [[0,1,1,1]] (.l .v0 .v1) (.l .v2 .v0) (.g .v2 .v1) hij q1.1 q4)) fun q4=>(Ar.a2 [] [_,_] .ff [[0,1,1]] (.l .v0 (.a .v1 .n1)) (.j .v0 .v1) hj q4)))) fun q2 p2=>(Ar.a4 [] [_,_,_,_] .ff [[0,1,1,1,1]] (.l .v0 .v1) (.l .v1 (.a .v2 .n1)) (.l .v3 .v0) (.k .v2 .v3) hij hj q1.1 q2))))]
    exact hu _ _ hij (by(exact(ak hjl).elim (fun q1=>(Ar.a2 [] [_,_,_] (.l .v0 .v1) [[1,1,1]] (.k .v2 .v1) (.l .v0 .v2) g1 q1)) fun q1=>(Ar.sub _ _ (fun q2 p2=>((ah.mp hjk).elim (fun q3=>(Ar.a2 [] [_,_,_] (.l .v0 .v1) [[0,1,1]] (.l .v2 .v0) (.g .v2 .v0) q1 q3)) fun q3=>(Ar.a2 [] [_,_] (.l .v0 .v1) [[0,1,1]] (.l .v0 (.a .v1 .n1)) (.j .v0 .v1) hj q3))) fun q2 p2=>(Ar.a3 [] [_,_,_] (.l .v0 .v1) [[0,1,1,1]] (.l .v0 (.a .v1 .n1)) (.l .v2 .v0) (.k .v1 .v2) hj q1 q2))))
theorem oB (L:zu lt) (hn:0<n):ends n lt (kas_sort n) fun q=>pb n q∧yq lt q n:=by
 unfold kas_sort
 refine qk (gf (fun r hr=>?_) (lP L hn (p:=List.toArray (List.range n)) ⟨Array.Perm.refl _⟩ (by(exact Ar.a1 [] [_] (.k .n1 .v0) [[1,1]] (.l .n0 .v0) hn)) (aj _)))
 obtain⟨g1,g2,g3,g4⟩:=hr
 split
 ·have e:max r.1 1=r.1:=by(exact(Ar.zH _ _).2.2.elim (fun q1=>(Ar.a2 [] [_,_] (.e .v0 .v1) [[1,1,0],[1,0,1]] (.k .v1 .v0) (.k .v0 .v1) (Ar.zH _ _).1 q1)) fun q1=>(Ar.a3 [] [_,_] (.e .v0 .v1) [[1,0,1,0],[1,1,0,1]] (.k .n1 .v1) (.k .v1 .v0) (.k .v0 .n1) g2 (Ar.zH _ _).1 q1))
  rw [e]
  exact gf (fun q hq=>⟨hq.1,by have:=hq.2;rwa [show r.1+(n-r.1)=n by(exact Ar.a1 [] [_,_,_] (.e (.a .v0 .v1) .v2) [[1,-1],[1,1]] (.e (.a .v1 .v0) .v2) (aa (Ar.a1 [] [_,_] (.k .v0 .v1) [[1,1]] (.k .v0 .v1) g3)))] at this⟩) (jY L hn (n-r.1) r.2 r.1 g1 (by(exact Ar.a1 [] [_,_,_] (.k (.a .v0 .v1) .v2) [[1,1]] (.e (.a .v1 .v0) .v2) (aa (Ar.a1 [] [_,_] (.k .v0 .v1) [[1,1]] (.k .v0 .v1) g3)))) g4)
 ·have e:r.1=n:=by(rename_i z1;exact Ar.a2 [] [_,_] (.e .v0 .v1) [[1,0,1],[1,1,0]] (.k .v0 .v1) (.g .v0 .v1) g3 z1)
  exact⟨g1,e▸g4⟩
end
end MP
end
section
namespace MP
open PySem PyProof.Rows
noncomputable def xh (C N:Addr) (nm q:Str) (k0 k2 k3:Option Value):Obj :=
 { cls:=.type "type",dict:=none,data:=.cls { name:=nm,bases:=[.type "tuple"],mro:=[.ref C,.type "tuple",.type "object"],ns:=N,qualname:=q,hasDict:=false,slotNames:=[],subclasses:=[],abstract:=false,collection:=none,hasDel:=false },slots:=#[k0,none,k2,k3,some .none,some (.bool false)] }
noncomputable def sq (C:Addr) (dd:Option Addr) (ws:List Value) (n:Nat):Obj:={ cls:=.ref C,dict:=dd,data:=.seq ws.toArray n,slots:=#[] }
theorem mro_tuple:mroOf (.type "tuple")=pure [.type "tuple",.type "object"]:=by kernel_rfl
section
variable {prog:Program} {w:World} {M:Model} {A:Around} {E:Value→Shared→Prop} {h:Heap} {g:Array GenState} {d:Drawn} {t:Nat} {os:OsState} {C N:Addr} {nm q:Str} {k0 k2 k3:Option Value} {mN:Str→Option Value} {dd:Option Addr}
theorem bH {base:Value} {Q:Bool→Shared→Prop} (hC:h.get? C=some (xh C N nm q k0 k2 k3)) (hq:Q ([Value.ref C,.type "tuple",.type "object"].contains base) ⟨h,g,d,t,os⟩):wpAny M A (isSubtype (.ref C) base) Q E ⟨h,g,d,t,os⟩:=by
 unfold xh at hC
 unfold isSubtype
 repeat (any_goals (first | assumption | wp_step))
theorem w8 {Q:List Value→Shared→Prop} (hC:h.get? C=some (xh C N nm q k0 k2 k3)) (hq:Q [.ref C,.type "tuple",.type "object"] ⟨h,g,d,t,os⟩):wpAny M A (mroOf (.ref C)) Q E ⟨h,g,d,t,os⟩:=by
 unfold xh at hC
 unfold mroOf
 repeat (any_goals (first | assumption | wp_step))
theorem kU {name:Str} {Q:Option Value→Shared→Prop} (hC:h.get? C=some (xh C N nm q k0 k2 k3)) (hn:h.Ns N mN) (hq:Q (mN name) ⟨h,g,d,t,os⟩):wpAny M A (classOwn (.ref C) name) Q E ⟨h,g,d,t,os⟩:=by
 unfold classOwn
 refine ab ?_
 unfold classData
 refine ab (rj hC (ae (wpAny_nsGet hn hq)))
theorem qf {name:Str} {y:Option Value} {Q:Option Value→Shared→Prop} (hC:h.get? C=some (xh C N nm q k0 k2 k3)) (hn:h.Ns N mN) (hB:typeLookup (.type "tuple") name=pure y) (hq:Q ((mN name).or y) ⟨h,g,d,t,os⟩):wpAny M A (typeLookup (.ref C) name) Q E ⟨h,g,d,t,os⟩:=by
 have hrest:lookupAlong [.type "tuple",.type "object"] name=pure y:=by rw [typeLookup_eq,mro_tuple] at hB;exact hB
 rw [typeLookup_eq]
 refine ab (w8 hC ?_)
 rw [lookupAlong_cons]
 refine ab (kU hC hn ?_)
 cases hv:mN name with
 | some v=>rw [hv] at hq;exact ae hq
 | none=>rw [hv] at hq;exact cx hrest hq
theorem rR {it x:Addr} {ox:Obj} {i:Nat} {xs:Array Value} {n:Nat} {v:Value} {Q:Option Value→Shared→Prop} {s:Shared} (hit:IsTupIter s.heap it x i) (hx:s.heap.get? x=some ox) (hd:ox.data=.seq xs n) (hv:xs[i]?=some v)
  (hQ:∀ h',IsTupIter h' it x (i+1)→Heap.SameBut it s.heap h'→Q (some v) { s with heap:=h' }):wpAny (model prog w) A (pyNext (.ref it)) Q E s:=by
 obtain⟨o,ho,hc,hdt⟩:=id hit
 unfold pyNext
 refine ab (wpAny_attempt (dZ (name:=Str.ofString "__next__") hit.typeIs jj (jg jj hit.typeIs iG ?_ (iF _))))
 show wpAny _ _ (field (.ref it) 0>>=_) _ _ s
 refine ab (bS ho hdt (x:=.ref x) rfl ?_)
 show wpAny _ _ (if (Value.ref x==Value.none)=true then _ else _) _ _ s
 rw [aw (show ¬ ((Value.ref x==Value.none)=true) from kz)]
 show wpAny _ _ (field (.ref it) 1>>=_) _ _ s
 refine ab (bS ho hdt (x:=.int i 0) rfl ?_)
 show wpAny _ _ (seqItems? (.ref x)>>=_) _ _ s
 refine ab (pe hx hd ?_)
 simp only [eh,hv]
 refine ab (wpAny_setField ho hdt (by simp) (ae ⟨v,rfl,ae (hQ _ ⟨_,uo _ ho (Obj.isFreed_of_fields (Obj.data_mapFields hdt _)),(Obj.cls_mapFields ..).trans hc,?_⟩ (qh ..))⟩))
 rw [Obj.data_mapFields hdt];simp [rawInt]
theorem vK {it x:Addr} {ox:Obj} {i:Nat} {xs:Array Value} {n:Nat} {Q:Option Value→Shared→Prop} {s:Shared} (hh:A.handled=none) (hit:IsTupIter s.heap it x i) (hx:s.heap.get? x=some ox) (hd:ox.data=.seq xs n) (hv:xs[i]?=none)
  (hQ:∀ h',Heap.ExtBut it s.heap h'→Q none { s with heap:=h' }):wpAny (model prog w) A (pyNext (.ref it)) Q E s:=by
 obtain⟨o,ho,hc,hdt⟩:=id hit
 unfold pyNext
 refine ab (wpAny_attempt (dZ (name:=Str.ofString "__next__") hit.typeIs jj (jg jj hit.typeIs iG ?_ (iF _))))
 show wpAny _ _ (field (.ref it) 0>>=_) _ _ s
 refine ab (bS ho hdt (x:=.ref x) rfl ?_)
 show wpAny _ _ (if (Value.ref x==Value.none)=true then _ else _) _ _ s
 rw [aw (show ¬ ((Value.ref x==Value.none)=true) from kz)]
 show wpAny _ _ (field (.ref it) 1>>=_) _ _ s
 refine ab (bS ho hdt (x:=.int i 0) rfl ?_)
 show wpAny _ _ (seqItems? (.ref x)>>=_) _ _ s
 refine ab (pe hx hd ?_)
 simp only [eh,hv]
 refine ab (wpAny_rule (ab (wpAny_setField ho hdt (by simp) ?_)))
 show wpAny _ _ (newExc (.type "StopIteration") []>>=_) _ _ _
 refine ab ?_
 simp only [newExc,newTuple]
 refine ab (gy ?_ (by size_fits))
 refine ab (m:=firstArgMember _ _) (cx (a:=Value.none) (by first | rfl | (simp only [firstArgMember];rfl)) ?_)
 refine gy ?_ (by size_fits)
 simp only [raiseNew]
 refine ab (wpAny_handled ?_)
 first | rw [show A.in1.handled=none from hh] | rw [hh]
 refine ab (ae (wpAny_throw ?_))
 refine ab (wpAny_isInstance (T:="StopIteration") (b:=true) ⟨_,cg _ rfl,rfl⟩ isSubtype_stop ?_)
 exact ae (hQ _ (((qh ..).extBut.push _).push _))
theorem wA {x:Addr} {ws:List Value} {n:Nat} {id nn:String} {rest:List Value} {Q:Unit→Shared→Prop} (hC:h.get? C=some (xh C N nm q k0 k2 k3)) (hx:h.get? x=some (sq C dd ws n)) (hs:splitId id=some ("tuple",nn)) (hk:builtinKind id=some .slot∨builtinKind id=some .method) (ha:argsOk id ⟨.ref x::rest,[]⟩) (hQ:Q () ⟨h,g,d,t,os⟩) :
  wpAny M A (checkBuiltinCall id ⟨.ref x::rest,[]⟩) Q E ⟨h,g,d,t,os⟩:=by
 have inst:∀ {R:Bool→Shared→Prop},R true ⟨h,g,d,t,os⟩→wpAny M A (isInstance (.ref x) (.type "tuple")) R E ⟨h,g,d,t,os⟩:=fun {R} hr=>by
  unfold isInstance
  unfold sq at hx
  repeat (first | (with_reducible refine jy hx ?_) | (with_reducible refine bH hC ?_) | wp_step)
  exact hr
 rcases hk with hk | hk <;>
 ·simp only [checkBuiltinCall,hk,hs]
  refine ab (inst ?_)
  simp only [si,ct,fy]
  cases hsig:Manifest.signature? id with
  | none=>exact ae hQ
  | some sig =>
   simp only [argsOk,hsig] at ha
   have h2:Bind.checkArgs id sig ⟨.ref x::rest,[]⟩=pure ():=ha
   show wpAny M A (Bind.checkArgs id sig ⟨.ref x::rest,[]⟩) Q E _
   rw [h2];exact ae hQ
theorem kW {x:Addr} {ws:List Value} {n:Nat} {id nn:String} {b:Builtin} {rest:List Value} {Q:Value→Shared→Prop} (hC:h.get? C=some (xh C N nm q k0 k2 k3)) (hx:h.get? x=some (sq C dd ws n)) (hs:splitId id=some ("tuple",nn)) (hk:builtinKind id=some .slot∨builtinKind id=some .method) (hp:plainId id=true) (he:entryFor table id=some b) (ha:argsOk id ⟨.ref x::rest,[]⟩)
  (hc:wpAny (model prog w) A.in1 (b ⟨.ref x::rest,[]⟩) (fun fin s'=>∃ v,fin=.done (.ret v)∧Q v s') E ⟨h,g,d,t,os⟩):wpAny (model prog w) A (call (.builtin id) (.ref x::rest)) Q E ⟨h,g,d,t,os⟩:=by
 refine pf (codeAny_call_builtin hp he (wA hC hx hs hk ha (ay hc (fun fin s' h'=>?_) fun _ _ e=>e)))
 obtain⟨v,rfl,hv⟩:=h'
 exact hv
theorem iL:splitId "tuple.__iter__"=some ("tuple","__iter__"):=by kernel_rfl
theorem kZ:builtinKind "tuple.__iter__"=some .slot:=by kernel_rfl
theorem zP {x:Addr} {ws:List Value} {n:Nat} {Q:Value→Shared→Prop} (hC:h.get? C=some (xh C N nm q k0 k2 k3)) (hn:h.Ns N mN) (hi:mN "__iter__"=none) (hx:h.get? x=some (sq C dd ws n))
  (hQ:Q (.ref h.objs.size) ⟨h.push { cls:=.type "tuple_iterator",data:=.fields #[.ref x,.int 0 0] },g,d,t,os⟩):wpAny (model prog w) A (pyIter (.ref x)) Q E ⟨h,g,d,t,os⟩:=by
 have hl:=PySem.F.slot_tuple_iter.lookup
 have hb:=PySem.F.slot_tuple_iter.bind (.ref x)
 have hx':=hx
 unfold pyIter specialOf
 unfold sq at hx
 repeat (first | (with_reducible refine jy hx ?_) | (with_reducible refine qf hC hn hl ?_;rw [hi]) | wp_step)
 have go:∀ (E:Value→Shared→Prop) (R:Option (Value × List Value)→Shared→Prop),R (some (.builtin "tuple.__iter__",[.ref x])) ⟨h,g,d,t,os⟩→wpAny (model prog w) A (do let r←bindSpecial (Value.builtin "tuple.__iter__") (Value.ref x);pure (some r)) R E ⟨h,g,d,t,os⟩:=fun E R hr=>ab (cx hb (ae hr))
 have fin:wpAny (model prog w) A (call (.builtin "tuple.__iter__") [.ref x]) (fun r s'=>∃ y,r=.ref y∧y=h.objs.size∧s'=⟨h.push { cls:=.type "tuple_iterator",data:=.fields #[.ref x,.int 0 0] },g,d,t,os⟩) E ⟨h,g,d,t,os⟩:=by
  refine kW hC hx' iL (.inl kZ) PySem.F.slot_tuple_iter.plain PySem.F.entry_tuple_iter (PySem.F.args_tuple_iter_1 _) ?_
  show wpAny _ _ (do ret (← newFields "tuple_iterator" [.ref x,rawInt 0])) _ _ _
  exact ab (gy (ae ⟨_,rfl,_,rfl,rfl,rfl⟩))
 have tail:wpAny (model prog w) A (match (some (Value.builtin "tuple.__iter__",[Value.ref x]):Option (Value × List Value)) with
    | some (g,first)=>if (g==Value.none)=true then (do let r←(do rule "iter.none";raiseError "TypeError" s!"'{← typeNameOf (.ref x)}' object is not iterable":Sem Value);pure (some r)) else (do let r←call g first;pure (some r))
    | _=>pure none:Sem (Option Value)) (fun a s'=>wpAny (model prog w) A (match a with
     | some it=>(do match←(do typeLookup (← typeOf it) "__next__":Sem (Option Value)) with
       | none=>(do rule "iter.non-iterator";raiseError "TypeError" s!"iter() returned non-iterator of type '{← typeNameOf it}'":Sem Value)
       | some _=>pure it)
     | none=>(do match←bindSpecialIfBound? (.ref x) "__getitem__" with
       | none=>(do rule "iter.not-iterable";raiseError "TypeError" s!"'{← typeNameOf (.ref x)}' object is not iterable":Sem Value)
       | some _=>(do rule "iter.getitem-fallback";newFields "iterator" [.ref x,← mkInt 0]))) Q E s') E ⟨h,g,d,t,os⟩:=by
  dsimp only
  rw [aw (show ¬ ((Value.builtin "tuple.__iter__" == Value.none)=true) from kz)]
  refine ab (ay fin (fun r s' hr=>?_) fun _ _ e=>e)
  obtain⟨y,rfl,rfl,rfl⟩:=hr
  refine ae ?_
  dsimp only
  refine ab (ab (yr (T:="tuple_iterator") ⟨_,cg _ rfl,rfl⟩ (cx jj.lookup ?_)))
  exact ae hQ
 refine wpAny_askSetting ?_
 split
 ·exact go _ _ tail
 ·exact wpAny_tryCatch (go _ _ tail)
theorem iW {it x:Addr} {ox:Obj} {xs:Array Value} {k:Nat} (hne:x≠it) (hd:ox.data=.seq xs k):∀ (n i:Nat) (s:Shared) (Q:List Value→Shared→Prop),IsTupIter s.heap it x i→s.heap.get? x=some ox→i+n≤xs.size →
  (∀ h',IsTupIter h' it x (i+n)→Heap.SameBut it s.heap h'→Q ((xs.toList.drop i).take n) { s with heap:=h' })→wpAny (model prog w) A (draw (.ref it) n) Q E s
 | 0,i,s,Q,hit,hx,hn,hQ=>by
  rw [draw]
  exact ae (by simpa using hQ s.heap hit (.refl ..))
 | n+1,i,s,Q,hit,hx,hn,hQ=>by
  rw [draw]
  have hv:xs[i]?=some xs[i]:=Array.getElem?_eq_getElem (by(exact Ar.a1 [] [_,_,_] (.l .v0 .v1) [[1,1]] (.k (.a .v0 (.a .v2 .n1)) .v1) hn))
  refine ab (rR hit hx hd hv fun h₁ hit₁ hs₁=>?_)
  refine ab (bh (iW hne hd n (i+1) _ _ hit₁ (by rw [hs₁.2 x hne];exact hx) (by(exact Ar.a1 [] [_,_,_] (.k (.a (.a .v0 .n1) .v1) .v2) [[1,1]] (.k (.a .v0 (.a .v1 .n1)) .v2) hn)) fun h₂ hit₂ hs₂=>ae ?_))
  have hdr:xs.toList.drop i=xs[i]::xs.toList.drop (i+1):=by
   rw [gw (by simpa using (by(exact Ar.a1 [] [_,_,_] (.l .v0 .v1) [[1,1]] (.k (.a .v0 (.a .v2 .n1)) .v1) hn):i<xs.size))];simp
  have:=hQ h₂ (by rw [show i+(n+1)=i+1+n by(exact Ar.a0 [] [_,_] (.e (.a .v0 (.a .v1 .n1)) (.a (.a .v0 .n1) .v1)) [[1],[1]])];exact hit₂) (hs₁.trans hs₂)
  rw [hdr,List.take_succ_cons] at this
  exact this
end
structure mf (G:Stc):Prop where
 here:∃ N mN nm q k0 k2 k3,G.hb.get? G.cM=some (xh G.cM N nm q k0 k2 k3)∧G.hb.Ns N mN∧mN "__iter__"=none∧mN "__lt__"=none∧mN "__len__"=none∧mN "__init__"=none
theorem CD {G:Stc} (K:mf G):pT G:=fun A E s x ws n dd Q hh hbase hx hQ=>by
 obtain⟨N,mN,nm,q,k0,k2,k3,hC,hN,hi,_⟩:=K.here
 have hlt:x≠s.heap.objs.size:=jk (ek hx)
 obtain⟨h,g,d,t,os⟩:=s
 have hC':=hbase _ _ hC
 have hN':=hN.keeps hbase
 have hl:=PySem.F.slot_tuple_iter.lookup
 have hx':h.get? x=some (sq G.cM dd ws n):=hx
 have hx2:h.get? x=some { cls:=.ref G.cM,dict:=dd,data:=.seq ws.toArray n,slots:=#[] }:=hx
 have ni:∀ R:Bool→Shared→Prop,R false ⟨h,g,d,t,os⟩→wpAny G.M A (notIterableAtAll (.ref x)) R E ⟨h,g,d,t,os⟩:=fun R hr=>by
  unfold notIterableAtAll specialOf
  repeat (first | (with_reducible refine jy hx2 ?_) | (with_reducible refine qf hC' hN' hl ?_;rw [hi]) | wp_step)
  exact hr
 unfold unpackItems
 refine ab (ni _ ?_)
 simp only [ct,fy]
 have hp:(h.push { cls:=.type "tuple_iterator",data:=.fields #[.ref x,.int 0 0] }).get? x=some { cls:=.ref G.cM,dict:=dd,data:=.seq ws.toArray n,slots:=#[] }:=au _ hx2
 refine ab (bh (zP hC' hN' hi hx' ?_))
 refine ab (bh (iW (xs:=ws.toArray) (k:=n) hlt rfl ws.length 0 _ _ ⟨_,cg _ rfl,rfl,rfl⟩ hp (by simp) fun h₁ hit₁ hs₁=>?_))
 have hall:List.take ws.length (List.drop 0 ws.toArray.toList)=ws:=by simp
 rw [hall,aw (by simp)]
 have hx₁:h₁.get? x=some { cls:=.ref G.cM,dict:=dd,data:=.seq ws.toArray n,slots:=#[] }:=by rw [hs₁.2 x hlt];exact hp
 refine ab (bh (vK (xs:=ws.toArray) (n:=n) hh hit₁ hx₁ rfl (by simp) fun h₂ he₂=>?_))
 simp only [pv,ct,fy]
 exact ae (hQ h₂ fun b o hb e=>he₂ b o hb (hs₁.extBut b o hb (au _ e)))
end MP
end
section
namespace MP
open PySem PyProof.Rows
noncomputable def ym (ns ms:List Int):Option Fin × Unit:=if ns=ms then (none,()) else (some (.done (.ret (.bool (km ns ms)))),())
theorem cV:∀ ns:List Int,km ns ns=false
 | []=>rfl
 | a::as=>(bc rfl).trans (cV as)
section
variable {prog:Program} {w:World} {M:Model} {A:Around} {E:Value→Shared→Prop} {h:Heap} {g:Array GenState} {d:Drawn} {t:Nat} {os:OsState} {C N:Addr} {nm q:Str} {k0 k2 k3:Option Value} {mN:Str→Option Value} {dd de:Option Addr}
theorem wC {s:Shared} (f:Value × Value→Option Fin × Unit→Sem (ForInStep (Option Fin × Unit)))
  (hf:∀ a b st,f (a,b) st=(do let r←eqBool a b;if (!r)=true then (do rule "tuple.compare.by-the-first-pair-that-differs";let v←richCompare .Lt a b;let z←ret v;pure (.done (some z,()))) else pure (.yield (none,())))) :
  ∀ {ws us:List Value} {ns ms:List Int} {Q:Option Fin × Unit→Shared→Prop},IntsAre ws ns→IntsAre us ms→ns.length=ms.length→Q (ym ns ms) s→wpAny (model prog w) A (forIn (ws.zip us) (none,()) f) Q E s:=by
 intro ws us ns ms Q h1
 induction h1 generalizing us ms Q with
 | nil =>
  intro h2 hl hq
  cases h2 with
  | nil=>rw [List.zip_nil_left,iq];exact ae hq
  | cons=>simp at hl
 | @cons a ta ws ns h1 ih =>
  intro h2 hl hq
  cases h2 with
  | nil=>simp at hl
  | @cons b tb us ms h2 =>
   rw [List.zip_cons_cons,ji,hf]
   refine ab (ab (wpAny_eqBool_int ?_))
   by_cases hab:a=b
   ·subst hab
    simp only [beq_self_eq_true,si,ct,fy]
    refine ae (ih h2 (by simpa using hl) ?_)
    have e:ym (a::ns) (a::ms)=ym ns ms:=by unfold ym;rw [show km (a::ns) (a::ms)=km ns ms from bc rfl];simp
    rw [e] at hq;exact hq
   ·have hne:(a==b)=false:=by simpa using hab
    rw [hne]
    simp only [Bool.not_false,sg]
    have e:ym (a::ns) (b::ms)=(some (.done (.ret (.bool (decide (a<b))))),()):=by unfold ym;rw [show km (a::ns) (b::ms)=decide (a<b) from aw hab,aw fun q=>hab (List.cons.inj q).1]
    rw [e] at hq
    refine ab (wpAny_rule (ab ?_))
    have hlt:∀ R:Value→Shared→Prop,R (.bool (decide (a<b))) s→wpAny (model prog w) A (richCompare .Lt (.int a ta) (.int b tb)) R E s:=fun R hr=>lt_int hr
    exact hlt _ (ab (ae (ae (ae hq))))
theorem wB {x y:Addr} {ox oy:Obj} {ws us:List Value} {ns ms:List Int} {n m:Nat} {P:Fin→Shared→Prop} (hx:h.get? x=some ox) (dx:ox.data=.seq ws.toArray n) (hy:h.get? y=some oy) (dy:oy.data=.seq us.toArray m) (h1:IntsAre ws ns) (h2:IntsAre us ms) (hl:ns.length=ms.length)
  (inst:∀ R:Bool→Shared→Prop,R true ⟨h,g,d,t,os⟩→wpAny (model prog w) A (isInstance (.ref y) (.type "tuple")) R E ⟨h,g,d,t,os⟩) (hP:P (.done (.ret (.bool (km ns ms)))) ⟨h,g,d,t,os⟩):wpAny (model prog w) A (Builtin.«tuple.__lt__» ⟨[.ref x,.ref y],[]⟩) P E ⟨h,g,d,t,os⟩:=by
 unfold Builtin.«tuple.__lt__»
 refine ab (cx (a:=(.ref x,[.ref y])) (by rfl) ?_)
 dsimp only
 refine ab (inst _ ?_)
 simp only [si,ct,fy]
 refine ab (m:=Builtin.Tuple.tupleItemsOf (.ref x)) (ab (pe hx dx (ae ?_)))
 refine ab (m:=Builtin.Tuple.tupleItemsOf (.ref y)) (ab (pe hy dy (ae ?_)))
 refine ab (wC _ (fun a b st=>by rfl) (ws:=ws) (us:=us) h1 h2 hl ?_)
 unfold ym
 by_cases e:ns=ms
 ·rw [bc e]
  subst e
  rw [cV] at hP
  have hlen:ws.toArray.size=us.toArray.size:=by simp [h1.length,h2.length]
  have e2:Builtin.Tuple.tupleCompareSizes .Lt ws.toArray.size us.toArray.size=.bool false:=by unfold Builtin.Tuple.tupleCompareSizes;rw [hlen];simp
  show wpAny _ _ (ret (Builtin.Tuple.tupleCompareSizes .Lt ws.toArray.size us.toArray.size)) _ _ _
  rw [e2]
  exact ae hP
 ·rw [aw e]
  exact ae hP
theorem oU {x y:Addr} {ws us:List Value} {ns ms:List Int} {n m:Nat} {P:Fin→Shared→Prop} (hC:h.get? C=some (xh C N nm q k0 k2 k3)) (hx:h.get? x=some (sq C dd ws n)) (hy:h.get? y=some (sq C de us m)) (h1:IntsAre ws ns) (h2:IntsAre us ms) (hl:ns.length=ms.length)
  (hP:P (.done (.ret (.bool (km ns ms)))) ⟨h,g,d,t,os⟩):wpAny (model prog w) A (Builtin.«tuple.__lt__» ⟨[.ref x,.ref y],[]⟩) P E ⟨h,g,d,t,os⟩:=wB hx rfl hy rfl h1 h2 hl (fun R hr=>by
  unfold isInstance
  unfold sq at hy
  repeat (first | (with_reducible refine jy hy ?_) | (with_reducible refine bH hC ?_) | wp_step)
  exact hr) hP
theorem oA:splitId "tuple.__lt__"=some ("tuple","__lt__"):=by kernel_rfl
theorem sT:builtinKind "tuple.__lt__"=some .slot:=by kernel_rfl
theorem w9 {x y:Addr} {ws us:List Value} {ns ms:List Int} {n m:Nat} {Q:Bool→Shared→Prop} (hu:A.units<cLine) (hC:h.get? C=some (xh C N nm q k0 k2 k3)) (hn:h.Ns N mN) (hlt:mN "__lt__"=none) (hx:h.get? x=some (sq C dd ws n)) (hy:h.get? y=some (sq C de us m)) (h1:IntsAre ws ns) (h2:IntsAre us ms) (hl:ns.length=ms.length)
  (hQ:Q (km ns ms) ⟨h,g,d,t,os⟩):wpAny (model prog w) A (keyLt' oneType' (.ref x) (.ref y)) Q E ⟨h,g,d,t,os⟩:=by
 rw [keyLt'_oneType,oneLt'_eq]
 simp only [sg]
 refine ab (wpAny_cRoomFor hu ?_)
 have hlk:=PySem.F.slot_tuple_lt.lookup
 have hlk':typeLookup (.type "tuple") "__lt__"=pure (some (.builtin "tuple.__lt__")):=hlk
 have hb:=PySem.F.slot_tuple_lt.bind (.ref x)
 have hx2:h.get? x=some { cls:=.ref C,dict:=dd,data:=.seq ws.toArray n,slots:=#[] }:=hx
 have fin:∀ (E:Value→Shared→Prop) (R:Value→Shared→Prop),R (.bool (km ns ms)) ⟨h,g,d,t,os⟩→wpAny (model prog w) A (call (.builtin "tuple.__lt__") [.ref x,.ref y]) R E ⟨h,g,d,t,os⟩:=fun E R hr =>
  kW hC hx oA (.inl sT) PySem.F.slot_tuple_lt.plain PySem.F.entry_tuple_lt (PySem.F.args_tuple_lt_2 _ _) (oU hC hx hy h1 h2 hl ⟨_,rfl,hr⟩)
 have sp:∀ (R:Option (Value × List Value)→Shared→Prop),R (some (.builtin "tuple.__lt__",[.ref x])) ⟨h,g,d,t,os⟩→wpAny (model prog w) A (bindSpecialIfBound? (.ref x) "__lt__") R E ⟨h,g,d,t,os⟩:=fun R hr=>by
  have go:∀ (E:Value→Shared→Prop),wpAny (model prog w) A (do let r←bindSpecial (Value.builtin "tuple.__lt__") (Value.ref x);pure (some r)) R E ⟨h,g,d,t,os⟩:=fun E=>ab (cx hb (ae hr))
  unfold bindSpecialIfBound? specialOf
  repeat (first | (with_reducible refine jy hx2 ?_) | (with_reducible refine qf hC hn hlk' ?_;rw [hlt]) | wp_step)
  refine wpAny_askSetting ?_
  split
  ·exact go _
  ·exact wpAny_tryCatch (go _)
 unfold callSpecialIfBound?
 refine ab (bh (ab (sp _ ?_)))
 refine ab (fin _ _ (ae ?_))
 exact nt hQ
end
end MP
end
section
namespace MP
open PySem PyProof.Rows PySem.W
noncomputable def tl (t:Int × Int × Int):List Int:=[t.1,t.2.1,t.2.2]
theorem n8 (s t:Int × Int × Int):leT s t=!(km (tl t) (tl s)):=rfl
noncomputable def LeT (s t:Int × Int × Int):Prop:=s.1<t.1∨(s.1=t.1∧(s.2.1<t.2.1∨(s.2.1=t.2.1∧s.2.2≤t.2.2)))
theorem qx (s t:Int × Int × Int):leT s t=true↔LeT s t:=by
 rw [n8,dw]
 unfold LeT
 by_cases h1:t.1=s.1
 ·rw [show km (tl t) (tl s)=km [t.2.1,t.2.2] [s.2.1,s.2.2] from bc h1]
  by_cases h2:t.2.1=s.2.1
  ·rw [show km [t.2.1,t.2.2] [s.2.1,s.2.2]=km [t.2.2] [s.2.2] from bc h2]
   by_cases h3:t.2.2=s.2.2
   ·rw [show km [t.2.2] [s.2.2]=false from bc h3]
    exact⟨fun _=>.inr ⟨h1.symm,.inr ⟨h2.symm,uw h3.symm⟩⟩,fun _=>rfl⟩
   ·rw [show km [t.2.2] [s.2.2]=decide (t.2.2<s.2.2) from aw h3,zy]
    (exact⟨fun q1=>(.inr ⟨(Ar.a1 [_,_] [] (.ie .v0 .v1) [[1,1],[1,-1]] (.ie .v1 .v0) h1),(.inr ⟨(Ar.a1 [_,_] [] (.ie .v0 .v1) [[1,1],[1,-1]] (.ie .v1 .v0) h2),(Ar.a1 [_,_] [] (.ik .v0 .v1) [[1,1]] (.ig .v1 .v0) q1)⟩)⟩),fun q1=>((qa h3).elim (fun q2=>(q1.elim (fun q3=>(Ar.a2 [_,_,_,_] [] (.ig .v0 .v1) [[0,1,1]] (.ie .v2 .v3) (.il .v3 .v2) h1 q3)) fun q3=>(q3.2.elim (fun q4=>(Ar.a2 [_,_,_,_] [] (.ig .v0 .v1) [[0,1,1]] (.ie .v2 .v3) (.il .v3 .v2) h2 q4)) fun q4=>(Ar.a1 [_,_] [] (.ig .v0 .v1) [[1,1]] (.ik .v1 .v0) q4.2)))) fun q2=>(Ar.a1 [_,_] [] (.ig .v0 .v1) [[1,1]] (.il .v1 .v0) q2))⟩)
  ·rw [show km [t.2.1,t.2.2] [s.2.1,s.2.2]=decide (t.2.1<s.2.1) from aw h2,zy]
   (exact⟨fun q1=>(.inr ⟨(Ar.a1 [_,_] [] (.ie .v0 .v1) [[1,1],[1,-1]] (.ie .v1 .v0) h1),(.inl ((qa h2).elim (fun q2=>(Ar.a2 [_,_] [] (.il .v0 .v1) [[0,1,1]] (.ig .v1 .v0) (.il .v1 .v0) q1 q2)) fun q2=>(Ar.a1 [_,_] [] (.il .v0 .v1) [[1,1]] (.il .v0 .v1) q2)))⟩),fun q1=>((qa h2).elim (fun q2=>(q1.elim (fun q3=>(Ar.a2 [_,_,_,_] [] (.ig .v0 .v1) [[0,1,1]] (.ie .v2 .v3) (.il .v3 .v2) h1 q3)) fun q3=>(q3.2.elim (fun q4=>(Ar.a1 [_,_] [] (.ig .v0 .v1) [[1,1]] (.il .v1 .v0) q4)) fun q4=>(Ar.a1 [_,_] [] (.ig .v0 .v1) [[1,1]] (.ie .v1 .v0) q4.1)))) fun q2=>(Ar.a1 [_,_] [] (.ig .v0 .v1) [[1,1]] (.il .v1 .v0) q2))⟩)
 ·rw [show km (tl t) (tl s)=decide (t.1<s.1) from aw h1,zy]
  (exact⟨fun q1=>(.inl ((qa h1).elim (fun q2=>(Ar.a2 [_,_] [] (.il .v0 .v1) [[0,1,1]] (.ig .v1 .v0) (.il .v1 .v0) q1 q2)) fun q2=>(Ar.a1 [_,_] [] (.il .v0 .v1) [[1,1]] (.il .v0 .v1) q2))),fun q1=>((qa h1).elim (fun q2=>(q1.elim (fun q3=>(Ar.a1 [_,_] [] (.ig .v0 .v1) [[1,1]] (.il .v1 .v0) q3)) fun q3=>(Ar.a1 [_,_] [] (.ig .v0 .v1) [[1,1]] (.ie .v1 .v0) q3.1))) fun q2=>(Ar.a1 [_,_] [] (.ig .v0 .v1) [[1,1]] (.il .v1 .v0) q2))⟩)
theorem LeT.trans {a b c:Int × Int × Int} (h1:LeT a b) (h2:LeT b c):LeT a c:=by
 unfold LeT at *
 rcases h1 with p | ⟨p,p1⟩
 ·exact .inl (by(exact h2.elim (fun q1=>(Ar.a2 [_,_,_] [] (.il .v0 .v1) [[1,1,1]] (.il .v0 .v2) (.il .v2 .v1) p q1)) fun q1=>(Ar.a2 [_,_,_] [] (.il .v0 .v1) [[1,1,1]] (.il .v0 .v2) (.ie .v2 .v1) p q1.1)))
 ·rcases h2 with q | ⟨q,q1⟩
  ·exact .inl (by(exact Ar.a2 [_,_,_] [] (.il .v0 .v1) [[1,1,1]] (.ie .v0 .v2) (.il .v2 .v1) p q))
  ·refine .inr ⟨p.trans q,?_⟩
   rcases p1 with p | ⟨p,p1⟩
   ·exact .inl (by(exact q1.elim (fun q1=>(Ar.a2 [_,_,_] [] (.il .v0 .v1) [[1,1,1]] (.il .v0 .v2) (.il .v2 .v1) p q1)) fun q1=>(Ar.a2 [_,_,_] [] (.il .v0 .v1) [[1,1,1]] (.il .v0 .v2) (.ie .v2 .v1) p q1.1)))
   ·rcases q1 with q | ⟨q,q1⟩
    ·exact .inl (by(exact Ar.a2 [_,_,_] [] (.il .v0 .v1) [[1,1,1]] (.ie .v0 .v2) (.il .v2 .v1) p q))
    ·exact .inr ⟨p.trans q,Int.le_trans p1 q1⟩
theorem LeT.total (a b:Int × Int × Int):LeT a b∨LeT b a:=by unfold LeT;omega
theorem LeT.CV {a b:Int × Int × Int} (h1:LeT a b) (h2:LeT b a):a=b:=by
 unfold LeT at *
 have e1:a.1=b.1:=by(exact h1.elim (fun q1=>(h2.elim (fun q2=>(Ar.a2 [_,_] [] (.ie .v0 .v1) [[1,0,1],[1,1,0]] (.il .v0 .v1) (.il .v1 .v0) q1 q2)) fun q2=>(Ar.a1 [_,_] [] (.ie .v0 .v1) [[1,1],[1,-1]] (.ie .v1 .v0) q2.1))) fun q1=>(Ar.a1 [_,_] [] (.ie .v0 .v1) [[1,-1],[1,1]] (.ie .v0 .v1) q1.1))
 have e2:a.2.1=b.2.1:=by(exact h1.elim (fun q1=>(Ar.a2 [_,_,_,_] [] (.ie .v0 .v1) [[0,-1,1],[0,-1,1]] (.ie .v2 .v3) (.il .v2 .v3) e1 q1)) fun q1=>(h2.elim (fun q2=>(Ar.a2 [_,_,_,_] [] (.ie .v0 .v1) [[0,1,1],[0,1,1]] (.ie .v2 .v3) (.il .v3 .v2) e1 q2)) fun q2=>(q1.2.elim (fun q3=>(q2.2.elim (fun q4=>(Ar.a2 [_,_] [] (.ie .v0 .v1) [[1,0,1],[1,1,0]] (.il .v0 .v1) (.il .v1 .v0) q3 q4)) fun q4=>(Ar.a1 [_,_] [] (.ie .v0 .v1) [[1,1],[1,-1]] (.ie .v1 .v0) q4.1))) fun q3=>(Ar.a1 [_,_] [] (.ie .v0 .v1) [[1,-1],[1,1]] (.ie .v0 .v1) q3.1))))
 have e3:a.2.2=b.2.2:=by(exact h1.elim (fun q1=>(Ar.a2 [_,_,_,_] [] (.ie .v0 .v1) [[0,-1,1],[0,-1,1]] (.ie .v2 .v3) (.il .v2 .v3) e1 q1)) fun q1=>(h2.elim (fun q2=>(Ar.a2 [_,_,_,_] [] (.ie .v0 .v1) [[0,1,1],[0,1,1]] (.ie .v2 .v3) (.il .v3 .v2) e1 q2)) fun q2=>(q1.2.elim (fun q3=>(Ar.a2 [_,_,_,_] [] (.ie .v0 .v1) [[0,-1,1],[0,-1,1]] (.ie .v2 .v3) (.il .v2 .v3) e2 q3)) fun q3=>(q2.2.elim (fun q4=>(Ar.a2 [_,_,_,_] [] (.ie .v0 .v1) [[0,1,1],[0,1,1]] (.ie .v2 .v3) (.il .v3 .v2) e2 q4)) fun q4=>(Ar.a2 [_,_] [] (.ie .v0 .v1) [[1,0,1],[1,1,0]] (.ik .v0 .v1) (.ik .v1 .v0) q3.2 q4.2)))))
 exact Prod.ext e1 (Prod.ext e2 e3)
theorem xq:∀ {a b:List (Int × Int × Int)},a.Perm b→a.Pairwise LeT→b.Pairwise LeT→a=b
 | [],b,hp,_,_=>by simpa using hp.nil_eq
 | x::a,[],hp,_,_=>by have:=hp.length_eq;simp at this
 | x::a,y::b,hp,ha,hb=>by
  have hx:=pz.mp ha
  have hy:=pz.mp hb
  have hxy:x=y:=by
   have h1:LeT y x:=by
    have:x∈y::b:=hp.mem_iff.mp (.head _)
    rcases br.mp this with rfl | h
    ·unfold LeT;(exact .inr ⟨(Ar.a0 [_] [] (.ie .v0 .v0) [[1],[1]]),(.inr ⟨(Ar.a0 [_] [] (.ie .v0 .v0) [[1],[1]]),(Ar.a0 [_] [] (.ik .v0 .v0) [[1]])⟩)⟩)
    ·exact hy.1 x h
   have h2:LeT x y:=by
    have:y∈x::a:=hp.mem_iff.mpr (.head _)
    rcases br.mp this with rfl | h
    ·unfold LeT;(exact .inr ⟨(Ar.a0 [_] [] (.ie .v0 .v0) [[1],[1]]),(.inr ⟨(Ar.a0 [_] [] (.ie .v0 .v0) [[1],[1]]),(Ar.a0 [_] [] (.ik .v0 .v0) [[1]])⟩)⟩)
    ·exact hx.1 y h
   exact h2.CV h1
  subst hxy
  rw [xq (hp.cons_inv) hx.2 hy.2]
theorem xu (ts:List (Int × Int × Int)):(ts.mergeSort leT).Pairwise LeT:=by
 have h:=List.pairwise_mergeSort (le:=leT) (fun a b c h1 h2=>(qx a c).mpr (((qx a b).mp h1).trans ((qx b c).mp h2))) (fun a b=>by
  rcases LeT.total a b with h | h
  ·rw [(qx a b).mpr h];rfl
  ·rw [(qx b a).mpr h];simp) ts
 exact h.imp fun hab=>(qx _ _).mp hab
noncomputable def cW (ts:List (Int × Int × Int)) (i j:Nat):Bool:=km (tl (ts.getD i (0,0,0))) (tl (ts.getD j (0,0,0)))
theorem tn {ts:List (Int × Int × Int)} {i j:Nat}:cW ts j i=false↔LeT (ts.getD i (0,0,0)) (ts.getD j (0,0,0)):=by
 rw [← qx,n8]
 unfold cW
 cases km (tl (ts.getD j (0,0,0))) (tl (ts.getD i (0,0,0)))<;>simp
theorem wD (ts:List (Int × Int × Int)):zu (cW ts) where
 asym:=fun a b h=>by
  rw [tn]
  have h1:¬ LeT (ts.getD b (0,0,0)) (ts.getD a (0,0,0)):=fun hl=>by rw [← tn] at hl;rw [h] at hl;cases hl
  rcases LeT.total (ts.getD a (0,0,0)) (ts.getD b (0,0,0)) with h2 | h2
  ·exact h2
  ·exact absurd h2 h1
 tr:=fun a b c h1 h2=>by
  rw [tn] at *
  exact h1.trans h2
theorem iT {ts:List (Int × Int × Int)} {p:Array Nat} (hp:pb ts.length p) (hu:yq (cW ts) p ts.length):p.toList.map (fun i=>ts.getD i (0,0,0))=ts.mergeSort leT:=by
 refine xq ?_ ?_ (xu ts)
 ·have h1:(p.toList.map fun i=>ts.getD i (0,0,0)).Perm ((List.range ts.length).map fun i=>ts.getD i (0,0,0)):=(wg.mp hp.perm).map _
  have h2:((List.range ts.length).map fun i=>ts.getD i (0,0,0))=ts:=by
   apply List.ext_getElem
   ·simp
   ·intro i h1 h2;simp at h1;simp [List.getD,h1]
  rw [h2] at h1
  exact h1.trans (List.mergeSort_perm ts leT).symm
 ·rw [nv]
  intro i j hi hj hij
  simp only [ax,Array.length_toList] at hi hj
  have hs:=hp.size
  have:=hu i j hij (by(exact Ar.a2 [] [_,_,_] (.l .v0 .v1) [[1,1,1]] (.l .v0 .v2) (.e .v2 .v1) hj hs))
  rw [tn] at this
  simp only [at0,Array.getD,hi,hj,dite_true] at this
  simpa using this
noncomputable def Mts (C:Addr) (h:Heap):List (Int × Int × Int)→List Value→Prop
 | []=>fun vs=>vs=[]
 | t::ts=>fun vs=>∃ x dd ws n us,vs=.ref x::us∧h.get? x=some (sq C dd ws n)∧IntsAre ws (tl t)∧Mts C h ts us
theorem Mts.length {C:Addr} {h:Heap}:{ts:List (Int × Int × Int)}→{vs:List Value}→Mts C h ts vs→ts.length=vs.length
 | []=>fun e=>e▸rfl
 | _::_=>fun z0=>by obtain⟨_,_,_,_,_,e,_,_,r⟩:=z0;exact e▸bu (·+1) r.length
theorem Mts.at {C:Addr} {h:Heap}:{ts:List (Int × Int × Int)}→{vs:List Value}→Mts C h ts vs→(i:Nat)→i<ts.length→∃ x dd ws n,vs.getD i Value.none=.ref x∧h.get? x=some (sq C dd ws n)∧IntsAre ws (tl (ts.getD i (0,0,0)))
 | [],_,_,i,hi=>absurd hi (jh i)
 | _::_,_,⟨x,dd,ws,n,_,e,g,q,_⟩,0,_=>⟨x,dd,ws,n,e▸rfl,g,q⟩
 | _::_,_,⟨_,_,_,_,_,e,_,_,r⟩,i+1,hi=>by subst e;exact r.at i (Nat.lt_of_succ_lt_succ hi)
theorem Mts.mono {C:Addr} {h h':Heap} (hk:fc h h'):{ts:List (Int × Int × Int)}→{vs:List Value}→Mts C h ts vs→Mts C h' ts vs
 | []=>fun e=>e
 | _::_=>fun z0=>by obtain⟨x,dd,ws,n,us,e,g,q,r⟩:=z0;exact⟨x,dd,ws,n,us,e,hk _ _ g (.inl ⟨fun q=>(nomatch q),_,_,rfl⟩),q,r.mono hk⟩
theorem Mts.of {G:Stc} {h:Heap}:{ts:List (Int × Int × Int)}→{vs:List Value}→VRs G h (ts.map mtV) vs→Mts G.cM h ts vs
 | []=>fun e=>e
 | t::_=>fun z0=>by obtain⟨_,us,e,⟨a,ws,n,dd,e',g,r⟩,rest⟩:=z0;exact⟨a,dd,ws,n,us,e'▸e,g,rp (ns:=tl t) r,Mts.of rest⟩
theorem Mts.vr {G:Stc} {h:Heap}:{ts:List (Int × Int × Int)}→{vs:List Value}→Mts G.cM h ts vs→VRs G h (ts.map mtV) vs
 | []=>fun e=>e
 | t::_=>fun z0=>by obtain⟨x,_,_,_,us,e,g,q,r⟩:=z0;exact⟨.ref x,us,e,.mt g (VRs.ints (ns:=tl t) q),r.vr⟩
theorem Mts.pick {C:Addr} {h:Heap} {ts:List (Int × Int × Int)} {vs:List Value} (m:Mts C h ts vs):(l:List Nat)→(∀ i∈l,i<ts.length)→Mts C h (l.map fun i=>ts.getD i (0,0,0)) (l.map fun i=>vs.getD i Value.none)
 | [],_=>rfl
 | i::l,hl=>by
  obtain⟨x,dd,ws,n,e,g,hi⟩:=m.at i (hl i (.head _))
  exact⟨x,dd,ws,n,l.map fun i=>vs.getD i Value.none,bu (·::_) e,g,hi,m.pick l fun j hj=>hl j (.tail _ hj)⟩
section
variable {G:Stc} {A:Around} {E:Value→Shared→Prop} {s:Shared} {σ:St}
theorem jA (K:mf G) {a:Addr} {ts:List (Int × Int × Int)} {vs:List Value} {n:Nat} {P:Fin→Shared→Prop} (hu:A.units<cLine) (hbase:∀ b o,G.hb.get? b=some o→s.heap.get? b=some o) (hab:G.hb.get? a=none) (ho:IsL s.heap a vs.toArray n) (m:Mts G.cM s.heap ts vs) (h64:ts.length<64)
  (h:∀ h' vs' k,At a s.heap h'→IsL h' a vs'.toArray k→Mts G.cM s.heap (ts.mergeSort leT) vs'→P (.done (.ret .none)) { s with heap:=h' }):wpAny G.M A (Builtin.«list.sort» ⟨[.ref a],[]⟩) P E s:=by
 obtain⟨N,mN,nm,q,k0,k2,k3,hC,hN,hi,hlt,_⟩:=K.here
 have hlen:=m.length
 have ha:a<s.heap.objs.size:=ek ho
 have s1:=qh s.heap a (Obj.mapSeq fun _=>(#[]:Array Value))
 have ho':s.heap.get? a=some (seqObj "list" vs.toArray n):=ho
 obtain⟨e1,ho1⟩:∃ e1,(s.heap.update a (Obj.mapSeq fun _=>(#[]:Array Value))).get? a=some (seqObj "list" #[] e1):=⟨_,get?_update_seq ho' fun _=>#[]⟩
 rw [list_sort_plain]
 refine ab (listItems_at ho' rfl ?_)
 refine ab (listUpdate_at ho' rfl ?_ (by rw [bg,sizeLine_eq];(exact Ar.a2 [] [_,_] (.k .v0 (.n 16777216)) [[1,1,-1]] (.l .v1 (.n 64)) (.e .v1 .v0) h64 hlen)) (ba _))
 refine ab (seqEpoch_at ho1 rfl ?_)
 refine ab (wpAny_newTuple ?_ (by show vs.length≤_;rw [sizeLine_eq];(exact Ar.a2 [] [_,_] (.k .v0 (.n 16777216)) [[1,1,-1]] (.l .v1 (.n 64)) (.e .v1 .v0) h64 hlen)))
 refine ab (wpAny_newList ?_ (ba _))
 refine bh ?_
 show wpAny G.M A _ P E { s with heap:=((s.heap.update a (Obj.mapSeq fun _=>(#[]:Array Value))).push (seqObj "tuple" vs.toArray 0)).push (seqObj "list" #[] 0) }
 dsimp only
 have other:∀ b o,b≠a→s.heap.get? b=some o→(((s.heap.update a (Obj.mapSeq fun _=>(#[]:Array Value))).push (seqObj "tuple" vs.toArray 0)).push (seqObj "list" #[] 0)).get? b=some o:=fun b o hb e =>
  au _ (au _ (by rw [s1.2 b hb];exact e))
 have ho3:(((s.heap.update a (Obj.mapSeq fun _=>(#[]:Array Value))).push (seqObj "tuple" vs.toArray 0)).push (seqObj "list" #[] 0)).get? a=some (seqObj "list" #[] e1):=au _ (au _ ho1)
 generalize hH:((s.heap.update a (Obj.mapSeq fun _=>(#[]:Array Value))).push (seqObj "tuple" vs.toArray 0)).push (seqObj "list" #[] 0)=H at *
 have frz:fc s.heap H:=fun b o e f=>other b o (fun q=>by subst q;rw [show s.heap.get? b=_ from ho] at e;cases e;exact rk rfl rfl f) e
 have mH:=m.mono frz
 have hC':H.get? G.cM=some (xh G.cM N nm q k0 k2 k3):=other _ _ (fun q=>by subst q;rw [hab] at hC;cases hC) (hbase _ _ hC)
 have hN':H.Ns N mN:=by
  obtain⟨o,es,ep,hoN,r⟩:=hN
  exact⟨o,es,ep,other _ _ (fun q=>by subst q;rw [hab] at hoN;cases hoN) (hbase _ _ hoN),r⟩
 have fin:∀ (out:List Value) (hz:out.length<64),Mts G.cM s.heap (ts.mergeSort leT) out→P (.done (.ret .none)) { s with heap:=H.update a (Obj.mapSeq fun _=>out.toArray) }:=fun out hz mo=>by
  obtain⟨c2,hc2⟩:∃ c2,(H.update a (Obj.mapSeq fun _=>out.toArray)).get? a=some (seqObj "list" out.toArray c2):=⟨_,get?_update_seq ho3 fun _=>out.toArray⟩
  have s2:=qh H a (Obj.mapSeq fun _=>out.toArray)
  exact h _ out c2 ⟨fun b o hb e=>by rw [s2.2 b hb];exact other b o hb e,⟨_,hc2⟩,fun o e=>by obtain rfl:=af (e.symm.trans ho);exact rk rfl rfl⟩ hc2 mo
 by_cases h2:vs.toArray.size<2
 ·rw [bc h2,bc h2]
  refine ab (ae ?_)
  rw [StateT.run_pure]
  refine ab (ae ?_)
  dsimp only
  have e:(arrOf (SortSt.mk' general' (vs.toArray.zip vs.toArray) #[] 7 none)).map (·.2)=vs.toArray:=by
   show(vs.toArray.zip vs.toArray).map (·.2)=vs.toArray
   have e0:vs.toArray.zip vs.toArray=(vs.zip vs).toArray:=by simp
   rw [e0,List.map_toArray,List.map_snd_zip (aj _)]
  rw [e]
  refine ab (seqEpoch_at ho3 rfl ?_)
  refine ab (listUpdate_at ho3 rfl ?_ (ba _) (by rw [bg,sizeLine_eq];(exact Ar.a2 [] [_,_] (.k .v0 (.a (.n 16777216) .n1)) [[1,1,-1]] (.l .v1 (.n 64)) (.e .v1 .v0) h64 hlen)))
  simp only [yd,ct,fy]
  refine ae (fin vs (by(exact Ar.a2 [] [_,_] (.l .v0 (.n 64)) [[1,1,-1]] (.l .v1 (.n 64)) (.e .v1 .v0) h64 hlen)) ?_)
  have:ts.mergeSort leT=ts:=by
   simp only [bg] at h2
   match ts,hlen with
   | [],_=>simp
   | [t],_=>simp
   | _::_::_,hlen=>simp at hlen;(exact False.elim (Ar.a2 [] [_,_] .ff [[0,1,1]] (.l .v0 .n2) (.e (.a (.a .v1 .n1) .n1) .v0) h2 hlen))
  rw [this];exact m
 ·rw [aw h2,aw h2]
  simp only [bg] at h2
  refine ab (kas_kind (T:=.ref G.cM) (by(exact Ar.a1 [] [_] (.k .n2 .v0) [[1,1]] (.g .v0 .n2) h2)) (fun v hv=>?_) (by rfl) (by simp) ?_)
  ·obtain⟨i,hi,rfl⟩:=e8.mp hv
   obtain⟨x,dd,ws,k,e,g,_⟩:=mH.at i (by(exact Ar.a2 [] [_,_,_] (.l .v0 .v1) [[1,-1,1]] (.e .v1 .v2) (.l .v0 .v2) hlen hi))
   have e':vs[i]=.ref x:=by rw [← e];simp [List.getD,hi]
   rw [e']
   intro A Q E s' hk hq
   unfold typeOf
   refine ab (zx (hk _ _ g) ?_)
   exact ae hq
  have run:=nK (n:=ts.length) (lt:=cW ts) (cmp:=kas_ask G.prog G.w A oneType' vs) (s:={ s with heap:=H }) (Q:=fun p s'=>s'={ s with heap:=H }∧pb ts.length p∧yq (cW ts) p ts.length) (t:=kas_sort vs.length) (fun i j C hi hj hc=>by
   obtain⟨x,dd,ws,k,e,g,hx⟩:=mH.at i hi
   obtain⟨y,de,us,k',e',g',hy⟩:=mH.at j hj
   unfold kas_ask
   rw [e,e']
   exact w9 hu hC' hN' hlt g g' hx hy rfl hc) (by rw [← hlen];exact gf (fun q hq=>⟨rfl,hq.1,hq.2⟩) (oB (wD ts) (by(exact Ar.a2 [] [_,_] (.l .n0 .v0) [[1,-1,1]] (.e .v0 .v1) (.g .v1 .n2) hlen h2))))
  refine ab (ay (kat_run (ks:=vs) (vs:=vs) (Q:=fun st' s'=>s'={ s with heap:=H }∧∃ p:Array Nat,arrOf st'=p.map (kas_item (vs.toArray.zip vs.toArray))∧failedOf st'=none∧pb ts.length p∧yq (cW ts) p ts.length)
   rfl (by(exact Ar.a1 [] [_] (.k .n2 .v0) [[1,1]] (.g .v0 .n2) h2)) (by(exact Ar.a2 [] [_,_] (.l .v0 (.n 64)) [[1,1,-1]] (.l .v1 (.n 64)) (.e .v1 .v0) h64 hlen)) (fun p st' s' a1 a2 a3 a4=>⟨a4.1,p,a2,a3,a4.2.1,a4.2.2⟩) run) ?_ fun _ _ e=>e)
  rintro ⟨⟨⟩,st'⟩ s' ⟨rfl,p,har,hf,hsh,hup⟩
  dsimp only
  have hout:=kat_snds rfl har
  rw [hout]
  have hps:=hsh.size
  have hol:(p.toList.map fun i=>vs.getD i Value.none).length<64:=by rw [ax,Array.length_toList];(exact Ar.a2 [] [_,_] (.l .v0 (.n 64)) [[1,1,1]] (.l .v1 (.n 64)) (.e .v0 .v1) h64 hps)
  refine ab (seqEpoch_at ho3 rfl ?_)
  refine ab (listUpdate_at ho3 rfl ?_ (ba _) (by rw [bg,sizeLine_eq];(exact Ar.a1 [] [_] (.k .v0 (.a (.n 16777216) .n1)) [[1,1]] (.l .v0 (.n 64)) hol)))
  rw [hf]
  simp only [yd,ct,fy]
  refine ae (fin _ hol ?_)
  rw [← iT hsh hup]
  refine m.pick p.toList fun i hi=>?_
  have:=(wg.mp hsh.perm).mem_iff.mp hi
  simpa using this
theorem qN {C:Cal} {sc:Scope} {d:Nat} {a:Ex} {o:Expr} {apos pos:Pos} (K:mf G) (ha:cp G C sc d a o) (hb:mh o=true) (hline:(apos.endLine==pos.line)=true) :
  cp G C sc d (.bm .sort a .nil) (.Call (.Attribute o "sort" apos) [] [] pos):=fun A E env ρ σ Q s ao ess eo F R h =>
 lu hb rfl (by decide) hline (ju (ha A E env ρ σ _ s ao ess eo F R h) fun v σ₁ h₁ tk w q vr r x pl =>
  eT (k:=.sort) (s:={ s with heap:=h₁,toks:=tk }) r vr q.1 (lr (s:={ s with heap:=h₁,toks:=tk }) rfl ip ao ess eo (F.evo x) r q.2 fun vs σ₂ h₂ tk₂ ws q₂ vrs r₂ x₂=>by
   have vr₂:=vr.mono x₂.frz
   obtain⟨b,rfl,q₃⟩:=qe (v:=v) q₂
   obtain⟨rfl,ts,e,h64,q₃⟩:=n3 (vs:=vs) q₃
   obtain rfl:=vrs
   obtain rfl:=vr₂
   obtain⟨us,n,hl,hv⟩:=r₂.L _ _ e
   have hnb:=r₂.new b (.inl (by rw [e];rfl))
   refine jg PySem.F.slot_list_sort ⟨_,hl,rfl⟩ PyProof.Rows.entry_list_sort (jA (s:={ s with heap:=h₂,toks:=tk₂ }) K (by have:=ao.units;show A.units+1<_;(exact Ar.a1 [] [_,_,_] (.l (.a .v0 .n1) .v1) [[1,1]] (.l (.a (.a .v0 (.m 30 .v2)) (.n 300)) .v1) this)) r₂.base hnb hl (Mts.of hv) h64 fun h' vs' k at' hl' m'=>⟨_,rfl,?_⟩) (PyProof.Rows.args_list_sort _)
   have hz:((ts.mergeSort leT).map mtV).length≤av:=by
    have:=(List.mergeSort_perm ts leT).length_eq
    rw [ax,this];unfold av;(exact Ar.a1 [] [_] (.k .v0 (.n 1000000)) [[1,1]] (.l .v0 (.n 64)) h64)
   have R':=r₂.putL at' (fun q=>by rw [e] at q;cases q) hl' m'.vr hz
   have x':Evo [] σ₂ h₂ (σ₂.cw b ((ts.mergeSort leT).map mtV)) h':=Evo.putL at' (fun q=>by rw [e] at q;cases q) _
   exact⟨.none,_,h',tk₂,rfl,q₃,.none,R',x.trans (x₂.trans x')⟩))
end
end MP
end
section
namespace MP
open PySem PyProof.Rows PySem.W
structure jn (G:Stc) (fN fM:Addr):Prop where
 made:Looks G.M G.hb (Bind.madeBy (.ref G.cM)) none
 here:Looks G.M G.hb (Bind.madeHere "tuple.__new__" (.ref G.cM)) ()
 chk:∀ x,Looks G.M G.hb (checkBuiltinCall "tuple.__new__" ⟨[.ref G.cM,x],[]⟩) ()
 mro:Looks G.M G.hb (mroOf (.ref G.cM)) [.ref G.cM,.type "tuple",.type "object"]
 self:Looks G.M G.hb (isSubtype (.ref G.cM) (.ref G.cM)) true
 tup:Looks G.M G.hb (isSubtype (.ref G.cM) (.type "tuple")) true
 init:Looks G.M G.hb (typeLookup (.ref G.cM) "__init__") (some (.builtin "object.__init__"))
 call:Looks G.M G.hb (specialOf (.ref G.cM) "__call__") (some (.builtin "type.__call__"))
 typ:Looks G.M G.hb (isInstance (.ref G.cM) (.type "type")) true
 isT:Looks G.M G.hb (isType (.ref G.cM)) true
 del:Looks G.M G.hb (classHasDel G.cM) false
 new:∀ (A:Around) (E:Value→Shared→Prop) (s:Shared) (Q:Value→Shared→Prop),(∀ b o,G.hb.get? b=some o→s.heap.get? b=some o)→Q (.ref fN) { s with toks:=s.toks+1 }→wpAny G.M A (getAttr (.ref G.cM) "__new__") Q E s
 make:∀ (A:Around) (E:Value→Shared→Prop) (s:Shared) (expr:Bool) (Q:Value→Shared→Prop),(∀ b o,G.hb.get? b=some o→s.heap.get? b=some o)→Q (.ref s.heap.objs.size) { s with heap:=s.heap.push { cls:=.type "method",data:=.fields #[.ref fM,.ref G.cM] },toks:=s.toks+1 }→wpAny G.M A (getAttr (.ref G.cM) "_make" expr) Q E s
 typNew:∀ (A:Around) (E:Value→Shared→Prop) (s:Shared) (expr:Bool) (Q:Value→Shared→Prop),Q (.builtin "tuple.__new__") { s with toks:=s.toks+1 }→wpAny G.M A (getAttr (.type "tuple") "__new__" expr) Q E s
theorem kL:plainId "tuple.__new__"=true:=by decide +kernel
theorem lK:entryFor table "tuple.__new__"=some Builtin.«tuple.__new__»:=uv (by kernel_rfl)
section
variable {G:Stc} {A:Around} {E:Value→Shared→Prop} {s:Shared} {fN fM:Addr}
noncomputable abbrev uc (G:Stc) (h:Heap):Prop:=∀ b o,G.hb.get? b=some o→h.get? b=some o
theorem o9 (K:jn G fN fM) {x:Addr} {ws:List Value} {n:Nat} {Q:Value→Shared→Prop} (hb:uc G s.heap) (hx:IsT s.heap x ws.toArray n) (hz:ws.length≤av)
  (h:∀ h' y dd,(∀ b o,s.heap.get? b=some o→h'.get? b=some o)→s.heap.get? y=none→h'.get? y=some (sq G.cM dd ws 0)→Q (.ref y) { s with heap:=h' }) :
  wpAny G.M A (call (.builtin "tuple.__new__") [.ref G.cM,.ref x]) Q E s:=by
 refine pf (codeAny_call_builtin kL lK ((K.chk (.ref x)) _ _ _ _ hb ?_))
 unfold Builtin.«tuple.__new__»
 dsimp only
 refine ab (K.isT _ _ _ _ hb ?_)
 simp only [si,ct,fy]
 refine ab (K.tup _ _ _ _ hb ?_)
 simp only [si,ct,fy]
 refine ab (K.here _ _ _ _ hb ?_)
 refine ab (K.init _ _ _ _ hb ?_)
 rw [bc (by decide)]
 have hz':ws.toArray.size≤sizeLine:=by rw [bg];exact jt hz
 refine ab (cx (a:=()) rfl ?_)
 refine ab (cx (a:=()) rfl ?_)
 refine ab ?_
 refine wpAny_collect_seq x (.inr rfl) hx rfl rfl (fun h₁ hk₁=>ab (ae ?_)) hz'
 refine ab (wpAny_alloc ?_)
 unfold newObj newObjAsIs
 dsimp only
 rw [aw (by simp only [bg] at hz' ⊢;(exact Ar.a1 [] [_,_] (.g .v0 .v1) [[1,1]] (.k .v1 .v0) hz'))]
 refine ab (ab (wpAny_alloc ?_))
 have hk:∀ b o,s.heap.get? b=some o→((h₁.push { cls:=.type "dict",data:=.dict #[] }).push (sq G.cM (some h₁.objs.size) ws 0)).get? b=some o:=fun b o e=>au _ (au _ (hk₁ b o e))
 have e:ws.toArray.toList.toArray=ws.toArray:=by simp
 refine ab (K.del _ _ _ _ (fun b o e=>hk b o (hb b o e)) ?_)
 simp only [ct,fy]
 refine ae (ae ?_)
 have e2:(h₁.push { cls:=.type "dict",data:=.dict #[] }).objs.size=h₁.objs.size+1:=dz ..
 show Q (.ref (h₁.push { cls:=.type "dict",data:=.dict #[] }).objs.size) _
 refine h _ _ (some h₁.objs.size) hk ?_ (cg _ rfl)
 rw [e2]
 cases hq:s.heap.get? (h₁.objs.size+1) with
 | none=>rfl
 | some o=>exact absurd (ek (hk₁ _ _ hq)) (nj.mpr (Nat.le_succ _))
noncomputable def gR (p0 p1 p2 p3 p4 p5 p6 p7 p8 p9 p10:Pos) (doc:Str) (c0 c1:Nat):List Stmt :=
 [.Expr (.Constant (.str doc) c0 p0) p1,.Return (some (.Call (.Attribute (.Name "tuple" p2) "__new__" p3) [.Name "_cls" p4,.Tuple [.Name "a" p5,.Name "b" p6,.Name "size" p7] c1 p8] [] p9)) p10]
noncomputable def qr (more:List (Str × Const)):Scope :=
 { kind:=.function,names:=[("_cls",.local),("a",.local),("b",.local),("size",.local),("tuple",.globalImplicit)],isGenerator:=false,isCoroutine:=false,more:=more }
theorem gE {C:Cal} {sc:Scope} {d:Nat} {x:Str} {k:Nat} {p pos:Pos}:rz G C sc d .pass (.Expr (.Constant (.str x) k p) pos):=fun A E env ρ σ K s ao es eo F R h =>
 wpAny_Expr (by
  show wpAny _ _ (mkText x) _ _ s
  refine wpAny_mkText ?_
  exact jx.here .next h F R) (by unfold interactive;rw [eo.kind];rfl) (uy rfl _ _ _)
theorem pG (K:jn G fN fM) {pl:Sem Bool} {Q:Value × List Value→Shared→Prop} (h:Q (.builtin "tuple.__new__",[]) { s with toks:=s.toks+1 }):wpAny G.M A (getMethod (.type "tuple") "__new__" pl) Q E s:=by
 unfold getMethod specialOf
 have ht:typeOf (.type "tuple")=pure (.type "type"):=by first | rfl | kernel_rfl
 refine ab (ab (cx ht (cx KF.slot_tga.lookup ?_)))
 dsimp only
 rw [bc canon_tga]
 exact ab (K.typNew _ _ _ _ _ (ae h))
variable {σ:St}
theorem fD {C:Cal} {sc:Scope} {d:Nat} {env:Env} {ρ:Fr} {c e:Ex} {xc xe:Expr} {p apos pos:Pos} {vs:List V} {τ:St→Prop} {Q:Value→Shared→Prop} (Kg:GOk G) (K:jn G fN fM) (hc:cp G C sc d c xc) (he:cp G C sc d e xe) (hst:noStar [xc,xe]=true) (hline:(apos.endLine==pos.line)=true)
  (hx:sc.names.lookup ("tuple":Str)=some .globalImplicit) (hg:G.gl "tuple"=some (.type "tuple")) (ao:AOk A d) (es:env.scope=sc) (eo:gr env) (F:FR G σ env ρ s.heap) (R:Rel G σ s.heap)
  (hw:wpE C c ρ σ fun v σ'=>wpE C e ρ σ' fun u σ''=>v=.obj G.cM∧u=.tup vs∧vs.length≤av∧τ σ'')
  (k:∀ σ₁ h₁ tk y,τ σ₁→VR G h₁ (.mt vs) (.ref y)→Rel G σ₁ h₁→Evo [] σ s.heap σ₁ h₁→Q (.ref y) { s with heap:=h₁,toks:=tk }) :
  wpAny G.M A (eval (.Call (.Attribute (.Name "tuple" p) "__new__" apos) [xc,xe] [] pos) env) Q E s:=by
 refine lu rfl hst (by simp) hline (gn Kg eo R (by rw [es];exact hx) (by decide) hg fun pl=>?_)
 refine pG K ?_
 have hes:iy G C sc d (.cons c (.cons e .nil)) [xc,xe]:=du hc (du he ip (cj (cj hst).2).1) (cj hst).1
 refine lr (s:={ s with toks:=s.toks+1 }) (P:=fun us σ=>on2 us fun v u=>v=.obj G.cM∧u=.tup vs∧vs.length≤av∧τ σ) hst hes ao es eo F R hw fun us σ₁ h₁ tk ws q vr r x₁=>?_
 obtain⟨v,u,rfl,rfl,rfl,hz,q⟩:=cO (vs:=us) q
 obtain⟨w1,w2,rfl,rfl,a,us,n,rfl,g,rr⟩:=vr.two
 refine o9 (s:={ s with heap:=h₁,toks:=tk }) K r.base g (by rw [← rr.length];exact hz) fun h' y dd hk hy hm=>?_
 exact k σ₁ h' tk y q (.mt hm (rr.mono fun b o e _=>hk b o e)) (r.keeps hk) (x₁.trans (Evo.keeps hk))
theorem sx {n:Nat} {dflt:List V} {b:jf} {vs:List V} {i:Nat} {v:V} (h:vs[i]?=some v):frameOf ⟨n,dflt,b⟩ vs i=some v:=by
 unfold frameOf vm
 rw [xp (bb.mp h).1]
 exact h
theorem eK {d:Nat} {p0 p1 p2 p3 p4 p5 p6 p7 p8 p9 p10:Pos} {doc:Str} {c0 c1:Nat} {more:List (Str × Const)} {x y z:V} {wx wy wz:Value} {Q:V→St→Prop} (Kg:GOk G) (K:jn G fN fM) (Kf:FnAt G fN 4 [] (qr more) (gR p0 p1 p2 p3 p4 p5 p6 p7 p8 p9 p10 doc c0 c1)) (hline:(p3.endLine==p9.line)=true) (hg:G.gl "tuple"=some (.type "tuple"))
  (ao:AOk A (d+1)) (R:Rel G σ s.heap) (vx:VR G s.heap x wx) (vy:VR G s.heap y wy) (vz:VR G s.heap z wz) (h:Q (.mt [x,y,z]) σ):wpAny G.M A (call (.ref fN) [.ref G.cM,wx,wy,wz]) (ew G [] σ s Q) E s:=by
 refine fL (b:=.nil) (vs:=[.obj G.cM,x,y,z]) (d:=d) Kf (fun A' E' env s' ao' es eo F' R'=>?_) ao R (.cons (.obj _) (.cons vx (.cons vy (.cons vz .nil)))) (by simp) (by simp)
 have C0:Cal:=fun _ _ _ _=>False
 have l:∀ (i:Nat) (nm:Str) (p:Pos),(qr more).names[i]?=some (nm,.local)→fe nm=true→cp G C0 (qr more) d (.loc i) (.Name nm p):=fun i nm p hi hn=>bZ hi rfl hn
 refine lq (ay (gE (G:=G) (C:=C0) (sc:=qr more) (d:=d) A' E' env _ σ (fun fl ρ' σ'=>fl=.next∧ρ'=frameOf ⟨4,[],.nil⟩ [.obj G.cM,x,y,z]∧σ'=σ) s' ao' es eo F' R' ⟨rfl,rfl,rfl⟩) (fun f s'' lf=>?_) fun _ _ x=>x)
 obtain⟨fl,ρ',σ',h',tk,rfl,fr,⟨rfl,rfl,hσ⟩,F2,R2,x2⟩:=lf
 rw [hσ] at F2 R2 x2
 cases fr
 refine lq (wpAny_Return_some ?_)
 have ht:cp G C0 (qr more) d (.tup (.cons (.loc 1) (.cons (.loc 2) (.cons (.loc 3) .nil)))) (.Tuple [.Name "a" p5,.Name "b" p6,.Name "size" p7] c1 p8) :=
  mP (du (l 1 _ _ rfl (by decide)) (du (l 2 _ _ rfl (by decide)) (du (l 3 _ _ rfl (by decide)) ip fun _=>rfl) fun _=>rfl) fun _=>rfl)
 refine fD (s:={ s' with heap:=h',toks:=tk }) (vs:=[x,y,z]) (τ:=fun σ'=>σ'=σ) Kg K (l 0 _ _ rfl (by decide)) ht rfl hline rfl hg ao' es eo F2 R2 ?_ fun σ₁ h₁ tk₁ yy q vr r x₁=>?_
 ·refine⟨.obj G.cM,sx rfl,x,sx rfl,y,sx rfl,z,sx rfl,by simp [av],rfl,rfl,by simp [av],rfl⟩
 ·rw [q] at r x₁
  exact⟨.ret (.mt [x,y,z]),_,σ,h₁,tk₁,rfl,.ret vr,h,F2.evo x₁,r,x2.trans (x₁.wide env)⟩
end
end MP
end
section
namespace MP
open PySem PyProof.Rows PySem.W
theorem cR:Slot "object" "__init__" "object.__init__" :=
 Slot.of (owner:="object") (n:="__init__") (by rw [er,dg];kernel_rfl) (by decide +kernel) (by decide +kernel) (by decide +kernel) (.inl (by decide +kernel)) (by rw [gz];kernel_rfl)
theorem j4:entryFor table "object.__init__"=some Builtin.«object.__init__»:=uv (by kernel_rfl)
theorem kN:builtinKind "object.__init__"=some .slot:=by kernel_rfl
theorem j3:splitId "object.__init__"=some ("object","__init__"):=by kernel_rfl
theorem kO (a:Value) (rest:List Value):argsOk "object.__init__" ⟨a::rest,[]⟩:=by unfold argsOk;kernel_rfl
section
variable {G:Stc} {A:Around} {E:Value→Shared→Prop} {s:Shared} {fN fM:Addr} {σ:St}
theorem cY (K:jn G fN fM) {h:Heap} {y:Addr} {dd:Option Addr} {ws:List Value} {n:Nat} {base:Value} {r:Bool} (hb:uc G h) (hy:h.get? y=some (sq G.cM dd ws n)) (hs:Looks G.M G.hb (isSubtype (.ref G.cM) base) r):Looks G.M h (isInstance (.ref y) base) r:=fun A Q E s hk hq=>by
 unfold isInstance typeOf
 refine ab (ab (zx (hk _ _ hy) (ae ?_)))
 exact hs _ _ _ _ (fun b o e=>hk _ _ (hb _ _ e)) hq
theorem pE (K:jn G fN fM) {y:Addr} {dd:Option Addr} {ws:List Value} {n:Nat} {rest:List Value} {P:Fin→Shared→Prop} (hb:uc G s.heap) (hy:s.heap.get? y=some (sq G.cM dd ws n)) (hq:P (.done (.ret .none)) s) :
  wpAny G.M A (Builtin.«object.__init__» ⟨.ref y::rest,[]⟩) P E s:=by
 have hty:∀ {R:Value→Shared→Prop},R (.ref G.cM) s→wpAny G.M A (typeOf (.ref y)) R E s:=fun {R} hr=>by
  unfold typeOf
  exact ab (zx hy (ae hr))
 unfold Builtin.«object.__init__»
 dsimp only
 by_cases hr:(!rest.isEmpty||!([]:List (Str × Value)).isEmpty)=true
 ·rw [bc hr]
  refine ab (hty (ab (K.init _ _ _ _ hb (ab (K.made _ _ _ _ hb ?_)))))
  have e1:(some (Value.builtin "object.__init__") != some (Value.builtin "object.__init__"))=false:=yd _
  have e2:((none:Option String) != some "object.__new__")=true:=rfl
  rw [e1,e2]
  exact ae hq
 ·rw [aw hr]
  exact ae hq
theorem pF (K:jn G fN fM) (hobj:Looks G.M G.hb (isSubtype (.ref G.cM) (.type "object")) true) {y:Addr} {dd:Option Addr} {ws:List Value} {n:Nat} {rest:List Value} {Q:Value→Shared→Prop} (hb:uc G s.heap) (hy:s.heap.get? y=some (sq G.cM dd ws n)) (hq:Q .none s) :
  wpAny G.M A (call (.builtin "object.__init__") (.ref y::rest)) Q E s:=by
 have ck:∀ (A:Around) (E:Value→Shared→Prop) (R:Unit→Shared→Prop),R () s→wpAny G.M A (checkBuiltinCall "object.__init__" ⟨.ref y::rest,[]⟩) R E s:=fun A E R hr =>
  check_slot (M:=G.M) (i:="object.__init__") (owner:="object") (n:="__init__") (self:=.ref y) (rest:=rest) (kw:=[]) kN j3 (cY K hb hy hobj) (kO (.ref y) rest) hr
 refine pf ?_
 refine codeAny_call_builtin (id:="object.__init__") (b:=Builtin.«object.__init__») cR.plain j4 ?_
 refine ck _ _ _ ?_
 exact pE K hb hy hq
theorem gB (K:jn G fN fM) (hobj:Looks G.M G.hb (isSubtype (.ref G.cM) (.type "object")) true) {y:Addr} {dd:Option Addr} {ws:List Value} {n:Nat} {rest:List Value} {Q:Option Value→Shared→Prop} (hb:uc G s.heap) (hy:s.heap.get? y=some (sq G.cM dd ws n)) (hq:Q (some .none) s) :
  wpAny G.M A (callSpecial? (.ref y) "__init__" rest []) Q E s:=by
 have hty:∀ {R:Value→Shared→Prop},R (.ref G.cM) s→wpAny G.M A (typeOf (.ref y)) R E s:=fun {R} hr=>by
  unfold typeOf
  exact ab (zx hy (ae hr))
 have hsp:∀ {R:Option Value→Shared→Prop},R (some (.builtin "object.__init__")) s→wpAny G.M A (specialOf (.ref y) "__init__") R E s:=fun {R} hr=>by
  unfold specialOf
  exact ab (hty (K.init _ _ _ _ hb hr))
 unfold callSpecial?
 refine ab (hsp ?_)
 dsimp only
 refine bh ?_
 refine ab (cx (cR.bind (.ref y)) ?_)
 refine ab ?_
 exact pF K hobj hb hy (ae hq)
structure fP (G:Stc) (fN:Addr):Prop where
 fn:∃ p0 p1 p2 p3 p4 p5 p6 p7 p8 p9 p10 doc c0 c1 more,FnAt G fN 4 [] (qr more) (gR p0 p1 p2 p3 p4 p5 p6 p7 p8 p9 p10 doc c0 c1)∧(p3.endLine==p9.line)=true
 tup:G.gl "tuple"=some (.type "tuple")
 obj:Looks G.M G.hb (isSubtype (.ref G.cM) (.type "object")) true
theorem cB {d:Nat} {x y z:V} {wx wy wz:Value} {Q:V→St→Prop} {P:Fin→Shared→Prop} (Kg:GOk G) (K:jn G fN fM) (Kn:fP G fN) (ao:AOk A (d+1)) (R:Rel G σ s.heap) (vx:VR G s.heap x wx) (vy:VR G s.heap y wy) (vz:VR G s.heap z wz) (h:Q (.mt [x,y,z]) σ)
  (hP:∀ w s',ew G [] σ s Q w s'→P (.done (.ret w)) s'):wpAny G.M A (Builtin.«type.__call__» ⟨[.ref G.cM,wx,wy,wz],[]⟩) P E s:=by
 obtain⟨p0,p1,p2,p3,p4,p5,p6,p7,p8,p9,p10,doc,c0,c1,more,Kf,hline⟩:=Kn.fn
 have hb:uc G s.heap:=R.base
 unfold Builtin.«type.__call__»
 dsimp only
 rw [aw (show ¬ ((Value.ref G.cM==Value.type "type")=true) from kz)]
 refine ab (K.mro _ _ _ _ hb ?_)
 rw [aw (by simp)]
 refine ab (K.made _ _ _ _ hb ?_)
 dsimp only
 refine ab (K.new _ _ _ _ hb ?_)
 refine ab (bh ?_)
 refine ay (eK (s:={ s with toks:=s.toks+1 }) (Q:=fun v σ'=>v=.mt [x,y,z]∧σ'=σ) Kg K Kf hline Kn.tup ao R vx vy vz ⟨rfl,rfl⟩) (fun w s' l=>?_) fun _ _ e=>e
 obtain⟨v,σ',h',tk,rfl,⟨rfl,hσ⟩,vr,r,x'⟩:=l
 rw [hσ] at r x'
 obtain⟨yy,ws,n,dd,rfl,g,rr⟩:=vr
 have hb':uc G h':=r.base
 refine ab ((cY K hb' g K.self) _ _ _ { s with heap:=h',toks:=tk } (fun _ _ e=>e) ?_)
 simp only [si,ct,fy]
 refine ab (bh (gB (s:={ s with heap:=h',toks:=tk }) K Kn.obj hb' g ?_))
 simp only [yd,ct,fy]
 exact ae (hP _ _ ⟨_,σ,h',tk,rfl,h,.mt g rr,r,x'⟩)
theorem lX {d:Nat} {x y z:V} {wx wy wz:Value} {Q:V→St→Prop} (Kg:GOk G) (K:jn G fN fM) (Kn:fP G fN) (Km:mf G) (ao:AOk A (d+2)) (R:Rel G σ s.heap) (vx:VR G s.heap x wx) (vy:VR G s.heap y wy) (vz:VR G s.heap z wz) (h:Q (.mt [x,y,z]) σ) :
  wpAny G.M A (call (.ref G.cM) [wx,wy,wz]) (ew G [] σ s Q) E s:=by
 obtain⟨N,mN,nm,q,k0,k2,k3,hC,hN,_⟩:=Km.here
 have hC':=R.base _ _ hC
 refine pf (xk ?_)
 show wpAny _ A.in1 (callAny (.ref G.cM) ⟨[wx,wy,wz],[]⟩) _ _ s
 unfold callAny
 refine ab (rj hC' ?_)
 show wpAny _ _ (callAny.viaDunder (.ref G.cM) ⟨[wx,wy,wz],[]⟩) _ _ s
 unfold callAny.viaDunder
 refine ab (K.call _ _ _ _ R.base ?_)
 dsimp only
 refine ab (cx (tc_bind (.ref G.cM)) ?_)
 dsimp only
 refine ab (cx (a:=true) (by rfl) ?_)
 rw [bc rfl]
 refine ae ⟨rfl,?_⟩
 refine codeAny_call_builtin_at (Code.quiet_builtin _ (by decide +kernel)) entry_typeCall ?_
 refine check_slot (M:=G.M) (i:="type.__call__") (owner:="type") (n:="__call__") tc_kind tc_split (K.typ.keeps R.base) (tc_args _ _ _) ?_
 refine cB (d:=d) Kg K Kn (ao.make _ _) R vx vy vz h fun w s' l=>?_
 exact l
end
end MP
end
section
namespace MP
open PySem PyProof.Rows PySem.W
section
variable {G:Stc} {A:Around} {E:Value→Shared→Prop} {s:Shared} {fN fM:Addr} {σ:St}
theorem dQ (K:jn G fN fM) (Km:mf G) {pos:Pos} {args:List (Bool × Sem Value)} {Q:Value→Shared→Prop} (hplain:args.any (·.1)=false)
  (h:wpAny G.M A (evalArgs (.ref G.cM) true args []) (fun x s₁=>uc G s₁.heap∧wpAny G.M A (call (.ref G.cM) x.pos x.kw) Q E s₁) E s):wpAny G.M A (callWith pos (.ref G.cM) [] args []) Q E s:=by
 obtain⟨N,mN,nm,q,k0,k2,k3,hC,hN,_⟩:=Km.here
 unfold callWith
 refine ab (bh (ay h (fun x s₁ h₁=>ab (dt ?_)) fun _ _ x=>x))
 obtain⟨hb,hcall⟩:=h₁
 simp only [hplain,List.any_nil,yv]
 refine ab (m:=keeperOf (.ref G.cM)) ?_
 unfold keeperOf
 refine ab (rj (hb _ _ hC) ?_)
 refine ab (K.call _ _ _ _ hb ?_)
 rw [bc (by decide)]
 refine ae ?_
 exact ab (ay hcall (fun r s₂ hr=>ab (bh (wpAny_point (ae hr)))) fun _ _ x=>x)
theorem gC {C:Cal} {sc:Scope} {d:Nat} {a b c:Ex} {x:Str} {xa xb xc:Expr} {p pos:Pos} (Kg:GOk G) (K:jn G fN fM) (Kn:fP G fN) (Km:mf G) (hd:2≤d) (ha:cp G C sc d a xa) (hb:cp G C sc d b xb) (hc:cp G C sc d c xc) (hst:noStar [xa,xb,xc]=true)
  (hx:sc.names.lookup x=some .globalImplicit) (hn:fe x=true) (hv:G.gl x=some (.ref G.cM)):cp G C sc d (.newMatch a b c) (.Call (.Name x p) [xa,xb,xc] [] pos):=fun A E env ρ σ Q s ao es eo F R h=>by
 have hes:iy G C sc d (.cons a (.cons b (.cons c .nil))) [xa,xb,xc]:=du ha (du hb (du hc ip (cj (cj (cj hst).2).2).1) (cj (cj hst).2).1) (cj hst).1
 have ao':AOk A (d-2+2):=by rw [aa hd];exact ao
 refine Call_ (gn Kg eo R (by rw [es];exact hx) hn hv (dQ K Km (fg hst pos env) (ix (fg hst pos env) (eD (P:=fun vs σ=>on3 vs fun x y z=>Q (.mt [x,y,z]) σ) (hes A E env ρ σ _ s pos ao es eo F R h) fun vs σ₁ h₁ tk ws q vr r x₁=>⟨r.base,?_⟩))))
 obtain⟨u1,u2,u3,rfl,q⟩:=y3 q
 obtain⟨w1,w2,w3,rfl,va,vb,vc⟩:=vr.three
 exact ay (lX (s:={ s with heap:=h₁,toks:=tk }) Kg K Kn Km ao' r va vb vc q) (fun _ _ l=>ew.back x₁ l) fun _ _ x=>x
theorem kB:splitId "tuple.__len__"=some ("tuple","__len__"):=by kernel_rfl
theorem pB:builtinKind "tuple.__len__"=some .slot:=by kernel_rfl
end
section
variable {prog:Program} {w:World} {A:Around} {E:Value→Shared→Prop} {h:Heap} {g:Array GenState} {d:Drawn} {t:Nat} {os:OsState} {C N:Addr} {nm q:Str} {k0 k2 k3:Option Value} {mN:Str→Option Value} {dd:Option Addr}
theorem B8 {x:Addr} {ws:List Value} {n:Nat} {Q:Value→Shared→Prop} (hC:h.get? C=some (xh C N nm q k0 k2 k3)) (hn:h.Ns N mN) (hl:mN "__len__"=none) (hx:h.get? x=some (sq C dd ws n)) (hz:ws.length≤av)
  (hQ:∀ u tk,Q (.int ws.length u) ⟨h,g,d,tk,os⟩):wpAny (model prog w) A (call (.builtin "len") [.ref x]) Q E ⟨h,g,d,t,os⟩:=by
 refine Calls.call_function_entry kind_len plain_len entry_len (args_len1 _) ?_
 unfold Builtin.«len»
 have hlk:=PySem.F.slot_tuple_len.lookup
 have hx2:h.get? x=some { cls:=.ref C,dict:=dd,data:=.seq ws.toArray n,slots:=#[] }:=hx
 unfold av at hz
 repeat (first | (with_reducible refine jy hx2 ?_) | (with_reducible refine qf hC hn hlk ?_;rw [hl]) | wp_step)
 refine cx (PySem.F.slot_tuple_len.bind (.ref x)) ?_
 dsimp only
 refine ab (kW hC hx kB (.inl pB) PySem.F.slot_tuple_len.plain PySem.F.entry_tuple_len (PySem.F.args_tuple_len_1 _) ?_)
 unfold Builtin.«tuple.__len__»
 refine ab (cx (a:=(.ref x,[])) (by rfl) ?_)
 dsimp only
 refine ab (m:=Builtin.Tuple.tupleItemsOf (.ref x)) (ab (pe hx2 rfl (ae ?_)))
 refine ab (wpAny_mkInt (ae ⟨_,rfl,ae ?_⟩))
 dsimp only
 refine ab (bh ?_)
 refine cx (a:=((ws.toArray.size:Nat):Int)) (by rfl) ?_
 refine ab (wpAny_letGo ?_)
 rw [aw (by simp),aw (by simp only [bg];(exact Ar.a1 [] [_] (.ij (.n (2^63)) (.t .v0)) [[1,1]] (.k .v0 (.n 1000000)) hz))]
 refine ab (wpAny_mkInt (ae ⟨_,rfl,?_⟩))
 simpa using hQ _ _
end
section
variable {G:Stc} {A:Around} {E:Value→Shared→Prop} {s:Shared} {fN fM:Addr} {σ:St}
noncomputable def cU (p:Fin 20→Pos) (doc:Str) (c0 c1:Nat) (rest:List Stmt):List Stmt :=
 [.Expr (.Constant (.str doc) c0 (p 0)) (p 1),.Assign [.Name "result" (p 2)] (.Call (.Attribute (.Name "tuple" (p 3)) "__new__" (p 4)) [.Name "cls" (p 5),.Name "iterable" (p 6)] [] (p 7)) (p 8),
  .If (.Compare (.Call (.Name "len" (p 9)) [.Name "result" (p 10)] [] (p 11)) [.NotEq] [.Constant (.int 3) c1 (p 12)] (p 13)) rest [] (p 14),.Return (some (.Name "result" (p 15))) (p 16)]
noncomputable def jc (ns:List (Str × NameKind)) (more:List (Str × Const)):Scope :=
 { kind:=.function,names:=("cls",.local)::("iterable",.local)::("result",.local)::ns,isGenerator:=false,isCoroutine:=false,more:=more }
theorem pP {d:Nat} {p:Fin 20→Pos} {doc:Str} {c0 c1:Nat} {rest:List Stmt} {ns:List (Str × NameKind)} {more:List (Str × Const)} {x y z:V} {w:Value} {Q:V→St→Prop} (Kg:GOk G) (K:jn G fN fM) (Km:mf G) (Kf:FnAt G fM 2 [] (jc ns more) (cU p doc c0 c1 rest)) (hline:((p 4).endLine==(p 7).line)=true) (hg:G.gl "tuple"=some (.type "tuple")) (hlen:G.gl "len"=some (.builtin "len"))
  (ht:(jc ns more).names.lookup ("tuple":Str)=some .globalImplicit) (hl:(jc ns more).names.lookup ("len":Str)=some .globalImplicit)
  (ao:AOk A (d+1)) (R:Rel G σ s.heap) (vx:VR G s.heap (.tup [x,y,z]) w) (h:Q (.mt [x,y,z]) σ):codeAny G.M A (.call (.ref fM) ⟨[.ref G.cM,w],[]⟩) (wants (ew G [] σ s Q) E) s:=by
 obtain⟨N,mN,nm,q,k0,k2,k3,hC,hN,_,_,hln,_⟩:=Km.here
 refine fJ (b:=.nil) (vs:=[.obj G.cM,.tup [x,y,z]]) (d:=d) Kf (fun A' E' env s' ao' es eo F' R'=>?_) ao R (.cons (.obj _) (.cons vx .nil)) (by simp) (by simp)
 have C0:Cal:=fun _ _ _ _=>False
 have l:∀ (i:Nat) (nm:Str) (p:Pos),(jc ns more).names[i]?=some (nm,.local)→fe nm=true→cp G C0 (jc ns more) d (.loc i) (.Name nm p):=fun i nm p hi hn=>bZ hi rfl hn
 refine lq (ay (gE (G:=G) (C:=C0) (sc:=jc ns more) (d:=d) A' E' env _ σ (fun fl ρ' σ'=>fl=.next∧ρ'=frameOf ⟨2,[],.nil⟩ [.obj G.cM,.tup [x,y,z]]∧σ'=σ) s' ao' es eo F' R' ⟨rfl,rfl,rfl⟩) (fun f s'' lf=>?_) fun _ _ x=>x)
 obtain⟨fl,ρ',σ',h',tk,rfl,fr,⟨rfl,rfl,hσ⟩,F2,R2,x2⟩:=lf
 rw [hσ] at F2 R2 x2
 cases fr
 refine lq ?_
 rw [exec_Assign]
 refine ab (dt ?_)
 rw [pj rfl]
 refine ab (ae ?_)
 rw [aw (by decide)]
 refine ab (fD (s:={ s' with heap:=h',toks:=tk }) (vs:=[x,y,z]) (τ:=fun σ'=>σ'=σ) Kg K (l 0 _ _ rfl (by decide)) (l 1 _ _ rfl (by decide)) rfl hline ht hg ao' es eo F2 R2 ⟨.obj G.cM,sx rfl,.tup [x,y,z],sx rfl,rfl,rfl,by simp [av],rfl⟩ fun σ₁ h₁ tk₁ yy q₁ vr r x₁=>?_)
 rw [q₁] at r x₁
 rw [gA (sc:=jc ns more) (r:=none) rfl es (by unfold Env.blockKind;rw [eo.kind];rfl)]
 refine ab (ae ?_)
 show wpAny G.M A' (do assignAll (.ref yy) [assign (.Name "result" (p 2)) env];pure Flow.next) _ _ _
 refine ab ?_
 show wpAny G.M A' (assign (.Name "result" (p 2)) env (.ref yy)) _ _ _
 refine assign_Name (qi (s:={ s' with heap:=h₁,toks:=tk₁ }) (i:=2) (k:=.local) eo (F2.evo x₁) r (by rw [es];rfl) rfl vr fun h₃ tk₃ F3 R3 x3=>ae ?_)
 dsimp only
 obtain⟨_,ws,n,dd,ey,g,rr⟩:=vr.mono x3.frz
 cases ey
 have hwl:=rr.length
 have hres:upd (frameOf ⟨2,[],.nil⟩ [.obj G.cM,.tup [x,y,z]]) 2 (V.mt [x,y,z]) 2=some (.mt [x,y,z]):=bp _ _ _
 refine lq (wpAny_If ?_)
 refine uf ?_ rfl
 have hb3:uc G h₃:=R3.base
 have hld:∀ (E:Value→Shared→Prop) (Q:Value→Shared→Prop) (tk:Nat) (pp:Pos),(∀ w,VR G h₃ (.mt [x,y,z]) w→Q w { s' with heap:=h₃,toks:=tk })→wpAny G.M A' (eval (.Name "result" pp) env) Q E { s' with heap:=h₃,toks:=tk }:=fun E Q tk pp hq =>
  wpAny_Name (zb (s:={ s' with heap:=h₃,toks:=tk }) (i:=2) (k:=.local) eo F3 (by rw [es];rfl) rfl (by decide) hres hq) (by decide)
 refine Call_ (gn (s:={ s' with heap:=h₃,toks:=tk₃ }) Kg eo R3 (by rw [es];exact hl) (by decide) hlen ?_)
 refine Calls.callWith_builtin rfl (Calls.evalArgs_plain (Calls.spliced_cons (hld _ _ _ _ fun w vrw=>tg ?_)))
 obtain⟨yy',ws',n',dd',rfl,g',rr'⟩:=vrw
 have hwl':=rr'.length
 refine B8 (g:=s'.gens) (d:=s'.drawn) (t:=tk₃) (os:=s'.os) (hb3 _ _ hC) (hN.keeps hb3) hln g' (by rw [← hwl'];simp [av]) fun u tk4=>?_
 refine wpAny_Constant_int ?_
 rw [← hwl']
 refine ne_int (nt ?_)
 have e:((([x,y,z]:List V).length:Int) != 3)=false:=rfl
 rw [e]
 refine wpAny_execs_nil ?_
 dsimp only
 refine lq (wpAny_Return_some (hld _ _ _ _ fun w2 vr2=>?_))
 exact⟨.ret (.mt [x,y,z]),_,σ,h₃,_,rfl,.ret vr2,h,F3,R3,x2.trans ((x₁.wide env).trans x3)⟩
end
end MP
end
section
namespace MP
open PySem PyProof.Rows PySem.W
theorem eY:Manifest.owners.lookup (String.ofList ['p','a','m'].reverse)=some Manifest.sig_map:=by kernel_rfl
theorem rt:Slot "map" "__next__" "map.__next__" :=
 .of (owner:="map") (n:="__next__") (by rw [er,dg];kernel_rfl) (by decide +kernel) (by decide +kernel) (by decide +kernel)
  (by first | exact .inl (by decide +kernel) | exact .inr (by decide +kernel)) (by rw [gz];kernel_rfl)
theorem xr:Slot "map" "__iter__" "map.__iter__" :=
 .of (owner:="map") (n:="__iter__") (by rw [er,dg];kernel_rfl) (by decide +kernel) (by decide +kernel) (by decide +kernel)
  (by first | exact .inl (by decide +kernel) | exact .inr (by decide +kernel)) (by rw [gz];kernel_rfl)
theorem eC:Slot "map" "__init__" "object.__init__" :=
 .of (owner:="object") (n:="__init__") (by rw [er,dg];kernel_rfl) (by decide +kernel) (by decide +kernel) (by decide +kernel)
  (by first | exact .inl (by decide +kernel) | exact .inr (by decide +kernel)) (by rw [gz];kernel_rfl)
theorem dG:entryFor table "map.__next__"=some Builtin.«map.__next__»:=uv (by kernel_rfl)
theorem eH:entryFor table "map.__new__"=some Builtin.«map.__new__»:=uv (by kernel_rfl)
theorem dH:entryFor table "map.__iter__"=some Builtin.«dict_keyiterator.__iter__» :=
 entryFor_alias (id':="dict_keyiterator.__iter__") (by kernel_rfl) (by first | rfl | decide +kernel | (unfold String.splitOn;simp +decide [String.splitOnAux])) (by decide +kernel) (by kernel_rfl)
theorem eM (a:Value):argsOk "map.__next__" ⟨[a],[]⟩:=by
 unfold argsOk;rw [bY (id:="map.__next__") (n:=['_','_','t','x','e','n','_','_']) (o:=['p','a','m']) (by kernel_rfl) eY];kernel_rfl
theorem eN (a:Value):argsOk "map.__iter__" ⟨[a],[]⟩:=by
 unfold argsOk;rw [bY (id:="map.__iter__") (n:=['_','_','r','e','t','i','_','_']) (o:=['p','a','m']) (by kernel_rfl) eY];kernel_rfl
theorem k7 (a b c:Value):argsOk "object.__init__" ⟨[a,b,c],[]⟩:=by
 unfold argsOk;rw [bY (id:="object.__init__") (n:=['_','_','t','i','n','i','_','_']) (o:=['t','c','e','j','b','o']) (by kernel_rfl) F.owner_object];kernel_rfl
theorem n4:mroOf (.type "map")=pure [.type "map",.type "object"]:=by rw [mroOf_type];kernel_rfl
theorem cX:typeLookup (.type "map") "__new__"=pure (some (.builtin "map.__new__")):=by rw [er,dg];kernel_rfl
theorem lV:TypeCalled "map" "map.__new__" "object.__init__" :=
 ⟨by decide +kernel,by decide +kernel,⟨_,_,n4⟩,madeBy_type n4 cX (by decide +kernel),by decide +kernel,by rw [gz];kernel_rfl,eC⟩
theorem fW (a b:Value):checkTypeCall "map" ⟨[a,b],[]⟩=pure ():=by kernel_rfl
theorem j7 (a b:Value):checkBuiltinCall "map.__new__" ⟨[.type "map",a,b],[]⟩=pure ():=by kernel_rfl
theorem kR:typeLookup (.type "map") "__len__"=pure none:=by rw [er,dg];kernel_rfl
theorem j9:typeLookup (.type "map") "__length_hint__"=pure none:=by rw [er,dg];kernel_rfl
theorem uP:isSubtype (.type "map") (.type "map")=pure true:=by rw [gz];kernel_rfl
end MP
end
section
namespace MP
open PySem PyProof.Rows PySem.W
noncomputable abbrev bP (h:Heap) (m t it:Addr) (f:Value):Prop:=h.get? m=some { cls:=.type "map",data:=.fields #[.ref t,f] }∧h.get? t=some { cls:=.type "tuple",data:=.seq #[.ref it] }
section
variable {prog:Program} {w:World} {A:Around} {E:Value→Shared→Prop} {s:Shared}
theorem w7 (f:Value) (l:Addr) (items:Array Value) :
  Meets (Builtin.«map.__new__» ⟨[.type "map",f,.ref l],[]⟩) (fun _ R s=>s.heap.IsList l items ∧
   R (.ok (.ret (.ref (s.heap.objs.size+2)))) { s with heap:=((s.heap.push { cls:=.type "list_iterator",data:=.fields #[.ref l,.int 0 0] }).push { cls:=.type "tuple",data:=.seq #[.ref s.heap.objs.size] }).push { cls:=.type "map",data:=.fields #[.ref (s.heap.objs.size+1),f] } }) :=
 .of_wp fun prog w A R s h=>by
  obtain⟨hL,h⟩:=h
  have e1:(s.heap.push { cls:=.type "list_iterator",data:=.fields #[.ref l,.int 0 0] }).objs.size=s.heap.objs.size+1:=dz ..
  unfold Builtin.«map.__new__» Builtin.SmallTypes.newClass
  refine ab ?_
  dsimp only
  refine ab (cx (a:=true) (by rfl) ?_)
  rw [aw (by decide)]
  refine ab (cx (a:=true) uP ?_)
  rw [aw (by decide)]
  refine ae ?_
  dsimp only
  refine ab (cx (a:=()) (by rfl) ?_)
  rw [aw (by simp)]
  unfold Builtin.SmallTypes.iterAll
  refine ab ?_
  simp only [List.drop_succ_cons,wd,ji,iq]
  refine ab (ab (ab (bh (wpAny_pyIter_list hL (ae ?_)))))
  dsimp only
  refine ae (ae ?_)
  show wpAny _ _ (newTuple [Value.ref s.heap.objs.size]>>=_) _ _ _
  refine ab (m:=newTuple _) (gy ?_ (by first | size_fits | rfl))
  refine ab ?_
  show wpAny _ _ (newObj (.type "map") (.fields [_,_].toArray)) _ _ _
  refine gy ?_ (by first | size_fits | rfl)
  refine ae ⟨_,rfl,?_⟩
  have e2:((s.heap.push { cls:=.type "list_iterator",data:=.fields #[.ref l,.int 0 0] }).push { cls:=.type "tuple",data:=.seq #[.ref s.heap.objs.size] }).objs.size=s.heap.objs.size+2:=by rw [dz,e1]
  simp only [Array.toList_push,List.nil_append,e1,e2,List.headD]
  exact h
theorem tL {f:Value} {l:Addr} {items:Array Value} {Q:Value→Shared→Prop} (hL:s.heap.IsList l items)
  (h:∀ h',bP h' (s.heap.objs.size+2) (s.heap.objs.size+1) s.heap.objs.size f→h'.IsListIter s.heap.objs.size l 0→h'.objs.size=s.heap.objs.size+3→(∀ b o,s.heap.get? b=some o→h'.get? b=some o)→Q (.ref (s.heap.objs.size+2)) { s with heap:=h' }) :
  wpAny (model prog w) A (call (.type "map") [f,.ref l]) Q E s:=by
 refine callType_new lV (by decide) (fW _ _) (j7 _ _) (fun obj=>k7 obj _ _) eH (w7 f l items) ⟨hL,?_⟩
 have e1:(s.heap.push { cls:=.type "list_iterator",data:=.fields #[.ref l,.int 0 0] }).objs.size=s.heap.objs.size+1:=dz ..
 have e2:((s.heap.push { cls:=.type "list_iterator",data:=.fields #[.ref l,.int 0 0] }).push { cls:=.type "tuple",data:=.seq #[.ref s.heap.objs.size] }).objs.size=s.heap.objs.size+2:=by rw [dz,e1]
 have hm:=cg ((s.heap.push { cls:=.type "list_iterator",data:=.fields #[.ref l,.int 0 0] }).push { cls:=.type "tuple",data:=.seq #[.ref s.heap.objs.size] }) (o:={ cls:=.type "map",data:=.fields #[.ref (s.heap.objs.size+1),f] }) rfl
 have ht:=cg (s.heap.push { cls:=.type "list_iterator",data:=.fields #[.ref l,.int 0 0] }) (o:={ cls:=.type "tuple",data:=.seq #[.ref s.heap.objs.size] }) rfl
 rw [e2] at hm
 rw [e1] at ht
 exact⟨⟨_,hm,rfl⟩,h _ ⟨hm,au _ ht⟩ ⟨_,au _ (au _ (cg _ rfl)),rfl,rfl⟩ (by rw [dz,e2]) fun b o x=>au _ (au _ (au _ x))⟩
theorem jV {me f:Addr} {v:Value} {args:List Value} {R:Result→Shared→Prop} (ho:s.heap.get? me=some { cls:=.type "method",data:=.fields #[.ref f,v] }) (h:codeAny (model prog w) A (.call (.ref f) ⟨v::args,[]⟩) R s):codeAny (model prog w) A (.call (.ref me) ⟨args,[]⟩) R s:=by
 refine xk ?_
 show wpAny _ _ (callAny (.ref me) ⟨args,[]⟩) _ _ _
 unfold callAny
 refine ab (rj ho ?_)
 dsimp only
 rw [bc (by decide)]
 exact ae ⟨rfl,h⟩
theorem kK {m t it:Addr} {f:Value} {Q:Value→Shared→Prop} (hm:bP s.heap m t it f) (h:Q (.ref m) s):wpAny (model prog w) A (pyIter (.ref m)) Q E s:=by
 have hT:s.TypeIs (.ref m) "map":=⟨_,hm.1,rfl⟩
 refine wpAny_pyIter_slot hT xr (jg xr hT dH ?_ (eN _))
 show wpAny _ _ (ret (.ref m)) _ _ s
 exact ae ⟨_,rfl,"map",_,hT,rt.lookup,h⟩
theorem cN {m t it:Addr} {f:Value} {Q:Option Value→Shared→Prop} (hm:bP s.heap m t it f)
  (h:wpAny (model prog w) A.in1 (Builtin.SmallTypes.nextOf (.ref it)) (fun x s₁=>bP s₁.heap m t it f∧wpAny (model prog w) A.in1 (call f [x]) (fun v s'=>Q (some v) s') (fun _ _=>False) s₁) (fun e s'=>s'.TypeIs e "StopIteration"∧Q none s') s):wpAny (model prog w) A (pyNext (.ref m)) Q E s:=by
 have hT:s.TypeIs (.ref m) "map":=⟨_,hm.1,rfl⟩
 unfold pyNext
 refine ab (wpAny_attempt (dZ (name:=Str.ofString "__next__") hT rt (jg rt hT dG ?_ (eM _))))
 show wpAny _ _ (field (.ref m) 0>>=_) _ _ s
 refine ab (bS hm.1 rfl (x:=.ref t) rfl ?_)
 refine ab (pe hm.2 rfl ?_)
 dsimp only
 refine ab ?_
 simp only [List.forIn_toArray,ji,iq]
 refine ab (ab (bh (ay h (fun x s₁ h₁=>ae ?_) fun e s₁ h₁=>?_)))
 ·dsimp only
  refine ae ?_
  obtain⟨hm₁,h₁⟩:=h₁
  refine ab (bS hm₁.1 rfl (x:=f) rfl ?_)
  refine ab (bh (ay h₁ (fun v s₂ h₂=>?_) fun _ _ x=>x.elim))
  exact ab (wpAny_letGo (ae ⟨_,rfl,ae h₂⟩))
 ·exact ab (wpAny_isInstance (T:="StopIteration") (b:=true) h₁.1 isSubtype_stop (ae h₁.2))
end
end MP
end
section
namespace MP
open PySem PyProof.Rows PySem.W
structure dU (G:Stc) (fM:Addr):Prop where
 here:∃ (p:Fin 20→Pos) (doc:Str) (c0 c1:Nat) (rest:List Stmt) (ns:List (Str × NameKind)) (more:List (Str × Const)),FnAt G fM 2 [] (jc ns more) (cU p doc c0 c1 rest)∧((p 4).endLine==(p 7).line)=true ∧
  (jc ns more).names.lookup ("tuple":Str)=some .globalImplicit∧(jc ns more).names.lookup ("len":Str)=some .globalImplicit
 tup:G.gl "tuple"=some (.type "tuple")
 len:G.gl "len"=some (.builtin "len")
theorem wm (σ:St) (a:Addr) (xs ys:List V):(σ.cw a xs).cw a ys=σ.cw a ys:=by
 unfold St.cw
 congr 1
 funext j
 simp only [upd]
 split<;>rfl
theorem AOk.ins {A:Around} {d k:Nat} (h:AOk A (d+1)) (hk:k≤30):AOk { A with units:=A.units+k } d:=⟨h.handled,by have:=h.depth;dsimp only;(exact Ar.a1 [] [_,_,_] (.l (.a (.a .v0 (.m 3 .v1)) (.n 20)) .v2) [[1,1]] (.l (.a (.a .v0 (.m 3 (.a .v1 .n1))) (.n 20)) .v2) this),by have:=h.units;dsimp only;(exact Ar.a2 [] [_,_,_,_] (.l (.a (.a (.a .v0 .v1) (.m 30 .v2)) (.n 300)) .v3) [[1,1,1]] (.k .v1 (.n 30)) (.l (.a (.a .v0 (.m 30 (.a .v2 .n1))) (.n 300)) .v3) hk this)⟩
theorem mX {G:Stc} {σ:St} {h h':Heap} {it:Addr} (R:Rel G σ h) (hd:¬ σ.dom it) (hb:G.hb.get? it=none) (hnf:∀ o,h.get? it=some o→¬ Frz o) (hk:∀ b o,b≠it→h.get? b=some o→h'.get? b=some o):Rel G σ h' :=
 R.same (fun b o e dm=>hk b o (fun q=>hd (q▸dm)) e) (fun b o e f=>hk b o (fun q=>hnf o (q▸e) f) e) fun b o e=>hk b o (fun q=>by rw [q,hb] at e;cases e) (R.base b o e)
section
variable {G:Stc} {A:Around} {E:Value→Shared→Prop} {s:Shared} {fN fM:Addr} {σ₀ σ:St}
theorem oT {d:Nat} {l S it m t q:Addr} {ts:List (List V)} {res:Value} {R:Result→Shared→Prop} (Kg:GOk G) (K:jn G fN fM) (Km:mf G) (Mk:dU G fM) (ao:AOk A (d+2)) (hts:∀ t∈ts,t.length=3) (hlS:l≠S) (hσ:σ.L l=some (ts.map V.tup)) (hz:ts.length≤av)
  (own:∀ b∈[it,m,t,q],s.heap.get? b=none∧¬ σ.dom b∧b≠S∧G.hb.get? b=none) (hmi:m≠it) (hti:t≠it) (hqi:q≠it)
  (hR:∀ h tk,Rel G (σ.cw S (ts.map V.mt)) h→Evo [] σ₀ s.heap (σ.cw S (ts.map V.mt)) h→R (.ok (.ret res)) { s with heap:=h,toks:=tk }) :
  ∀ (k i:Nat) (h:Heap) (tk:Nat),ts.length-i=k→i≤ts.length→Rel G (σ.cw S ((ts.take i).map V.mt)) h→Evo [] σ₀ s.heap (σ.cw S ((ts.take i).map V.mt)) h→bP h m t it (.ref q)→h.get? q=some { cls:=.type "method",data:=.fields #[.ref fM,.ref G.cM] }→h.IsListIter it l i →
   codeAny G.M A (.builtin "list.extend.loop" ⟨[.ref S,.ref m,res],[]⟩) R { s with heap:=h,toks:=tk }:=by
 obtain⟨p,doc,c0,c1,rest,ns,more,Kf,hline,hlt',hll⟩:=Mk.here
 have nd:∀ (xs:List V),∀ b∈[it,m,t,q],¬ (σ.cw S xs).dom b:=fun xs b hb dm=>(tc dm).elim (own b hb).2.1 (own b hb).2.2.1
 have itm:it∈[it,m,t,q]:=.head _
 have mm:m∈[it,m,t,q]:=.tail _ (.head _)
 have tm:t∈[it,m,t,q]:=.tail _ (.tail _ (.head _))
 have qm:q∈[it,m,t,q]:=.tail _ (.tail _ (.tail _ (.head _)))
 have nf:∀ {h:Heap} {i:Nat},h.IsListIter it l i→∀ o,h.get? it=some o→¬ Frz o:=fun {h i} zz1 o e=>by
  obtain⟨o',ho',hc',hd'⟩:=zz1
  obtain rfl:=af (ho'.symm.trans e)
  exact fp hc' hd' (by decide) (by decide)
 have hL:∀ (xs:List V),(σ.cw S xs).L l=some (ts.map V.tup):=fun xs=>by simp only [St.cw,cn hlS];exact hσ
 have hn1:∀ b∈[it],s.heap.get? b=none:=fun b hb=>by obtain rfl:=aq.mp hb;exact(own _ itm).1
 intro k
 induction k with
 | zero =>
  intro i h tk hk hi Rr x hm hq hit
  have hin:i=ts.length:=by(exact Ar.a2 [] [_,_,_] (.e .v0 .v1) [[1,1,-1],[1,0,1]] (.e .v2 .n0) (.e (.a .v2 .v0) .v1) hk (aa (Ar.a1 [] [_,_] (.k .v0 .v1) [[1,1]] (.k .v0 .v1) hi)))
  subst hin
  refine codeAny_builtin F.entry_extend_loop ?_
  rw [Around.under_plainId F.plain_extend_loop _]
  show wpAny _ A.in1 (pyNext (.ref m)>>=_) _ _ _
  obtain⟨ws,n,hl,hvs⟩:=Rr.L l _ (hL _)
  have hlen:=hvs.length
  refine ab (cN (s:={ s with heap:=h,toks:=tk }) hm (wpAny_nextOf_list_end (s:={ s with heap:=h,toks:=tk }) (A:=A.in1.in1) ao.handled hit hl.isList (by rw [List.getElem?_toArray,← xn.symm];simp at hlen;(exact Ar.a1 [] [_,_] (.k .v0 .v1) [[1,-1]] (.e .v1 .v0) hlen)) fun h' e he hx'=>⟨hx',?_⟩))
  have he':∀ b o,b≠it→h.get? b=some o→h'.get? b=some o:=he
  have R':=mX Rr (nd _ _ itm) (own _ itm).2.2.2 (nf hit) he'
  have x':=x.but (own:=[it]) (fun b o hb e=>he' b o (fun q=>hb (q▸.head _)) e) hn1
  rw [ke] at R' x'
  exact ae (hR h' tk R' x')
 | succ k ih =>
  intro i h tk hk hi Rr x hm hq hit
  have hlt:i<ts.length:=by(exact Ar.a2 [] [_,_,_,_] (.l .v0 .v1) [[1,-1,1]] (.e .v2 (.a .v3 .n1)) (.e (.a .v2 .v0) .v1) hk (aa (Ar.a1 [] [_,_] (.k .v0 .v1) [[1,1]] (.k .v0 .v1) hi)))
  refine codeAny_builtin F.entry_extend_loop ?_
  rw [Around.under_plainId F.plain_extend_loop _]
  show wpAny _ A.in1 (pyNext (.ref m)>>=_) _ _ _
  obtain⟨ws,n,hl,hvs⟩:=Rr.L l _ (hL _)
  obtain⟨w,hw,vr⟩:=hvs.get (i:=i) (v:=.tup ts[i]) (by simp [hlt])
  refine ab (cN (s:={ s with heap:=h,toks:=tk }) hm (wpAny_nextOf_list_item (s:={ s with heap:=h,toks:=tk }) hit hl.isList (by simpa using hw) fun h₁ hit₁ hs₁=>?_))
  have he':∀ b o,b≠it→h.get? b=some o→h₁.get? b=some o:=fun b o hb e=>by rw [hs₁.2 b hb];exact e
  have R₁:=mX Rr (nd _ _ itm) (own _ itm).2.2.2 (nf hit) he'
  have x₁:=x.but (own:=[it]) (fun b o hb e=>he' b o (fun q=>hb (q▸.head _)) e) hn1
  have hm₁:bP h₁ m t it (.ref q):=⟨he' _ _ hmi hm.1,he' _ _ hti hm.2⟩
  have hq₁:=he' _ _ hqi hq
  refine⟨hm₁,pf (jV (s:={ s with heap:=h₁,toks:=tk }) hq₁ ?_)⟩
  have hf:fc h h₁:=fun b o e f=>he' b o (fun q=>nf hit o (q▸e) f) e
  have h3:=hts ts[i] (kf hlt)
  obtain⟨a,b,c,habc⟩:∃ a b c,ts[i]=[a,b,c]:=by
   match hq:ts[i],h3 with
   | [a,b,c],_=>exact⟨a,b,c,rfl⟩
  rw [habc] at vr
  refine codeAny_mono (pP (s:={ s with heap:=h₁,toks:=tk }) (A:=A.in1.in1) (d:=d) (Q:=fun v σ'=>v=.mt [a,b,c]∧σ'=σ.cw S ((ts.take i).map V.mt)) (E:=fun _ _=>False) Kg K Km Kf hline Mk.tup Mk.len hlt' hll (ao.ins (k:=2) (by(exact Ar.a0 [] [] (.k .n2 (.n 30)) [[1]]))) R₁ (vr.mono hf) ⟨rfl,rfl⟩) fun r s₂ hr=>?_
  match r,hr with
  | .error e,hr=>exact hr.elim
  | .ok (.ret w'),hr =>
   obtain⟨v,σ',h₂,tk₂,rfl,⟨rfl,rfl⟩,vr₂,R₂,x₂⟩:=hr
   have own₂:∀ b∈[it,m,t,q],∀ o,h₁.get? b=some o→h₂.get? b=some o:=fun b hb o e=>x₂.keep b o e (nd _ b hb) (fun h=>nomatch h)
   have hS:(σ.cw S ((ts.take i).map V.mt)).L S=some ((ts.take i).map V.mt):=bp _ _ _
   obtain⟨us,n',hl₂,hv₂⟩:=R₂.L S _ hS
   have hlen₂:=hv₂.length
   have hi':us.length=i:=by rw [← hlen₂];simp;(exact(Ar.jr _ _).2.2.elim (fun q1=>(Ar.a2 [] [_,_] (.e .v0 .v1) [[1,0,1],[1,1,0]] (.k .v0 .v1) (.k .v1 .v0) (Ar.jr _ _).1 q1)) fun q1=>(Ar.a3 [] [_,_,_] (.e .v0 .v1) [[1,1,0,1],[1,0,1,0]] (.k .v1 .v2) (.k .v0 .v1) (.k .v2 .v0) hi (Ar.jr _ _).1 q1))
   have htk:(ts.take (i+1)).map V.mt=(ts.take i).map V.mt++[.mt [a,b,c]]:=by rw [jl hlt,habc];simp
   have hsz:us.length+1≤sizeLine:=by rw [hi'];exact jt (by(exact Ar.a2 [] [_,_,_] (.k (.a .v0 .n1) .v1) [[1,1,1]] (.k .v2 .v1) (.l .v0 .v2) hz hlt))
   obtain⟨R₃,x₃⟩:=qC (f:=fun x=>x.push w') R₂ hS hl₂ (hv₂.append (.cons vr₂ .nil)) (by simp;(exact Ar.a3 [] [_,_,_,_] (.k (.a .v0 .n1) .v1) [[1,1,1,1]] (.k .v2 .v1) (.l .v3 .v2) (.k .v0 .v3) hz hlt (Ar.jr _ _).1)) (by simp)
   rw [wm,← htk] at R₃ x₃
   show wpAny _ A.in1 (updateSeq S (·.push w')>>=_) _ _ _
   have ne:∀ z∈[it,m,t,q],S≠z:=fun z hz e=>(own z hz).2.2.1 e.symm
   have own₃:∀ z∈[it,m,t,q],∀ o,h₂.get? z=some o→(h₂.update S (Obj.mapSeq (·.push w'))).get? z=some o:=fun z hz o e=>(mu _ _ (ne z hz)).trans e
   refine ab (wpAny_updateSeq (s:={ s with heap:=h₂,toks:=tk₂ }) hl₂ rfl (ae ⟨plainId_quiet F.plain_extend_loop _,?_⟩) (by simp only [bg];(exact Ar.a1 [] [_,_] (.k .v0 .v1) [[1,1]] (.k (.a .v0 .n1) .v1) hsz)) (by simp only [Array.size_push,bg];(exact Ar.a1 [] [_,_] (.k (.a .v0 .n1) (.a .v1 .n1)) [[1,1]] (.k (.a .v0 .n1) .v1) hsz)))
   obtain⟨o1,ho1,r1⟩:=hit₁
   exact ih (i+1) _ tk₂ (by(exact Ar.a3 [] [_,_,_,_,_] (.e .v0 .v1) [[1,-1,1,-1],[1,1,-1,1]] (.e .v2 (.a .v1 .n1)) (.e (.a .v2 .v3) .v4) (.e (.a .v0 (.a .v3 .n1)) .v4) hk (aa (Ar.a1 [] [_,_] (.k .v0 .v1) [[1,1]] (.k .v0 .v1) hi)) (aa (Ar.a1 [] [_,_] (.k (.a .v0 .n1) .v1) [[1,1]] (.l .v0 .v1) hlt)))) (by(exact Ar.a1 [] [_,_] (.k (.a .v0 .n1) .v1) [[1,1]] (.l .v0 .v1) hlt)) R₃ ((x₁.trans x₂).trans x₃) ⟨own₃ _ mm _ (own₂ _ mm _ hm₁.1),own₃ _ tm _ (own₂ _ tm _ hm₁.2)⟩ (own₃ _ qm _ (own₂ _ qm _ hq₁)) ⟨o1,own₃ _ itm _ (own₂ _ itm _ ho1),r1⟩
end
section
variable {prog:Program} {w:World} {A:Around} {E:Value→Shared→Prop} {s:Shared}
theorem eL {m t it:Addr} {f:Value} {Q:Value→Shared→Prop} (hm:bP s.heap m t it f)
  (h:∀ h' n',(∀ b o,s.heap.get? b=some o→h'.get? b=some o)→IsL h' s.heap.objs.size #[] n'→codeAny (model prog w) A.in1 (.builtin "list.extend.loop" ⟨[.ref s.heap.objs.size,.ref m,.none],[]⟩) (wants (fun r s₂=>r=.none∧Q (.ref s.heap.objs.size) s₂) E) { s with heap:=h' }) :
  wpAny (model prog w) A (call (.type "list") [.ref m]) Q E s:=by
 refine callType_codes (Q₁:=fun obj s₁=>obj=.ref s.heap.objs.size∧s₁={ s with heap:=s.heap.push { cls:=.type "list",data:=.seq #[] } }) F.called_list (F.typeCall_list_1 _) F.entry_list_init
  (code_list_new _ ⟨rfl,rfl⟩) fun obj s₁ h₁=>?_
 obtain⟨rfl,rfl⟩:=h₁
 have hS:(s.heap.push { cls:=.type "list",data:=.seq #[] }).get? s.heap.objs.size=some { cls:=.type "list",data:=.seq #[] }:=cg _ rfl
 refine⟨⟨_,hS,rfl⟩,F.args_list_init_2 _ _,?_⟩
 generalize hSz:s.heap.objs.size=S at hS h
 have lt:∀ {b:Addr} {o:Obj},s.heap.get? b=some o→S≠b:=fun {b o} e q=>by have:=ek e;rw [hSz,q] at this;exact gc _ this
 have hne:S≠m:=lt hm.1
 show wpAny _ _ (do let old←Builtin.List.listItems (.ref S);Builtin.List.listUpdate (.ref S) (fun _=>#[]);letGo old.toList.reverse;Builtin.List.listExtendWith (.ref S) (.ref m) .none) _ _ _
 refine ab ?_
 unfold Builtin.List.listItems
 refine ab (pe hS rfl (ae ?_))
 show wpAny _ _ (updateSeq S (fun _=>#[])>>=fun _=>letGo (#[]:Array Value).toList.reverse>>=fun _=>Builtin.List.listExtendWith (.ref S) (.ref m) .none) _ _ _
 refine ab (wpAny_updateSeq hS rfl ?_)
 have hS₂:=uo (Obj.mapSeq (fun _=>(#[]:Array Value))) hS rfl
 refine ab (wpAny_letGo ?_)
 have oth:∀ b o,s.heap.get? b=some o→((s.heap.push { cls:=.type "list",data:=.seq #[] }).update S (Obj.mapSeq (fun _=>(#[]:Array Value)))).get? b=some o :=
  fun b o e=>(mu _ _ (lt e)).trans (au _ e)
 have hm₂:bP ((s.heap.push { cls:=.type "list",data:=.seq #[] }).update S (Obj.mapSeq (fun _=>(#[]:Array Value)))) m t it f:=⟨oth _ _ hm.1,oth _ _ hm.2⟩
 unfold Builtin.List.listExtendWith
 refine ab (yr (T:="map") ⟨_,hm₂.1,rfl⟩ ?_)
 have h1:Builtin.List.listSameRef (.ref S) (.ref m)=false:=by simp [Builtin.List.listSameRef,hne]
 have h2:(Value.type "map" == Value.type "list")=false:=by decide
 have h3:(Value.type "map" == Value.type "tuple")=false:=by decide
 simp only [h1,h2,h3,yv,ct,fy]
 refine ab (kK hm₂ ?_)
 refine ab (bh ?_)
 unfold Builtin.List.listLengthHint
 refine ab (wpAny_specialOf (T:="map") ⟨_,hm₂.1,rfl⟩ kR ?_)
 show wpAny _ _ (specialOf (Value.ref m) (Str.ofString "__length_hint__")>>=_) _ _ _
 refine ab (wpAny_specialOf (T:="map") ⟨_,hm₂.1,rfl⟩ j9 ?_)
 refine ae ?_
 show wpAny _ _ (rule "list.extend.makes-room" >>= fun _=>Builtin.List.listTouch (.ref S)>>=fun _=>again (.builtin "list.extend.loop" ⟨[.ref S,.ref m,.none],[]⟩)) _ _ _
 refine ab (wpAny_rule ?_)
 refine ab ?_
 show wpAny _ _ (updateSeq S (·.push .none)>>=fun _=>updateSeq S (·.pop)) _ _ _
 refine ab (wpAny_updateSeq hS₂ rfl ?_)
 have hS₃:=uo (Obj.mapSeq (·.push Value.none)) hS₂ rfl
 refine wpAny_updateSeq (hz:=by seq_fits) hS₃ rfl ?_
 have hS₄:=uo (Obj.mapSeq (·.pop)) hS₃ rfl
 refine ae ⟨plainId_quiet F.plain_extend_loop _,h _ _ (fun b o e=>?_) hS₄⟩
 have hb:S≠b:=lt e
 exact(mu _ _ hb).trans ((mu _ _ hb).trans (oth b o e))
end
end MP
end
section
namespace MP
open PySem PyProof.Rows PySem.W
section
variable {G:Stc} {fN fM:Addr} {C:Cal} {sc:Scope} {d:Nat}
theorem eB {e:Ex} {xl xm xM:Str} {y:Expr} {p p' p'' ap pos pos':Pos} (Kg:GOk G) (K:jn G fN fM) (Km:mf G) (Mk:dU G fM) (hd:3≤d) (he:cp G C sc d e y) (hst:noStar [y]=true)
  (hl:sc.names.lookup xl=some .globalImplicit) (hln:fe xl=true) (hlv:G.gl xl=some (.type "list"))
  (hm:sc.names.lookup xm=some .globalImplicit) (hmn:fe xm=true) (hmv:G.gl xm=some (.type "map"))
  (hM:sc.names.lookup xM=some .globalImplicit) (hMn:fe xM=true) (hMv:G.gl xM=some (.ref G.cM)) :
  cp G C sc d (.mkMatches e) (.Call (.Name xl p) [.Call (.Name xm p') [.Attribute (.Name xM p'') "_make" ap,y] [] pos'] [] pos):=fun A E env ρ σ Q s ao es eo F R h=>by
 have hst2:noStar [.Attribute (.Name xM p'') "_make" ap,y]=true:=by
  exact hst
 refine Call_ (gn Kg eo R (by rw [es];exact hl) hln hlv (nh (fg (args:=[.Call (.Name xm p') [.Attribute (.Name xM p'') "_make" ap,y] [] pos']) rfl pos env) (ix (fg (args:=[.Call (.Name xm p') [.Attribute (.Name xM p'') "_make" ap,y] [] pos']) rfl pos env) (spliced_more ?_ rfl))))
 refine Call_ (gn Kg eo R (by rw [es];exact hm) hmn hmv (nh (fg hst2 pos' env) (ix (fg hst2 pos' env) (spliced_more ?_ rfl))))
 refine Attribute_name (gn Kg eo R (by rw [es];exact hM) hMn hMv (K.make _ _ _ _ _ R.base ?_))
 have R0:=R.push { cls:=.type "method",data:=.fields #[.ref fM,.ref G.cM] }
 have x0:Evo [] σ s.heap σ (s.heap.push { cls:=.type "method",data:=.fields #[.ref fM,.ref G.cM] }):=Evo.push _ _ _ _
 refine spliced_more (ju (he A E env ρ σ _ { s with heap:=s.heap.push { cls:=.type "method",data:=.fields #[.ref fM,.ref G.cM] },toks:=s.toks+1 } ao es eo (F.evo x0) R0 h) fun v σ₁ h₁ tk w q vr r x₁=>?_) ((cj hst).1 env)
 obtain⟨l,ts,rfl,hσ,h3,q⟩:=q
 obtain rfl:=vr
 refine tg ?_
 obtain⟨us,n,hL,hvs⟩:=r.L _ _ hσ
 have hz:=r.Ll _ _ hσ
 simp only [ax] at hz
 have hqsz:s.heap.get? s.heap.objs.size=none:=none_at_size _
 have hqd:¬ σ.dom s.heap.objs.size:=fun dm=>by obtain⟨o,e⟩:=R.kj dm;rw [hqsz] at e;cases e
 have hq0:(s.heap.push { cls:=.type "method",data:=.fields #[.ref fM,.ref G.cM] }).get? s.heap.objs.size=some { cls:=.type "method",data:=.fields #[.ref fM,.ref G.cM] }:=cg _ rfl
 have hq1:=x₁.keep _ _ hq0 hqd (fun h=>nomatch h)
 have hqd1:¬ σ₁.dom s.heap.objs.size:=fun dm=>(x₁.dom _ dm).elim hqd fun e=>by rw [hq0] at e;cases e
 refine tL (s:={ s with heap:=h₁,toks:=tk }) hL.isList fun h₂ hmap hit hsz hk=>?_
 dsimp only at hmap hit hsz hk
 have r₂:=r.keeps hk
 have x₂:Evo [] σ s.heap σ₁ h₂:=(x0.trans x₁).trans (Evo.keeps hk)
 refine tg ?_
 refine eL (s:={ s with heap:=h₂,toks:=tk }) hmap fun h₃ n' hk₃ hl₃=>?_
 dsimp only at hk₃ hl₃
 have hS:h₂.get? h₂.objs.size=none:=none_at_size _
 have at':At h₂.objs.size h₂ h₃:=At.grow hS hk₃ hl₃
 have hSL:σ₁.L h₂.objs.size=none:=by
  cases hq:σ₁.L h₂.objs.size with
  | none=>rfl
  | some ys=>obtain⟨o,ho,_⟩:=r₂.hZ hq;rw [hS] at ho;cases ho
 have R₃:=r₂.putL (ws:=[]) (xs:=[]) at' (fun _=>hS) hl₃ .nil (by simp [av])
 have x₃:Evo [] σ₁ h₂ (σ₁.cw h₂.objs.size []) h₃:=Evo.putL at' (fun _=>hS) []
 have old:∀ b,h₁.objs.size≤b→s.heap.get? b=none∧¬ σ₁.dom b∧G.hb.get? b=none:=fun b hb=>by
  have e1:h₁.get? b=none:=we hb
  refine⟨?_,fun dm=>?_,?_⟩
  ·cases hq:s.heap.get? b with
   | none=>rfl
   | some o=>obtain⟨o',e'⟩:=(x0.trans x₁).there _ _ hq;rw [e1] at e';cases e'
  ·obtain⟨o,e⟩:=r.kj dm;rw [e1] at e;cases e
  ·cases hq:G.hb.get? b with
   | none=>rfl
   | some o=>have:=r.base _ _ hq;rw [e1] at this;cases this
 have hqlt:s.heap.objs.size<h₁.objs.size:=ek hq1
 have own:∀ b∈[h₁.objs.size,h₁.objs.size+2,h₁.objs.size+1,s.heap.objs.size],s.heap.get? b=none∧¬ σ₁.dom b∧b≠h₂.objs.size∧G.hb.get? b=none:=fun b hb=>by
  have hlt:b<h₂.objs.size:=by
   simp only [br,sf,or_false] at hb
   rcases hb with rfl | rfl | rfl | rfl<;>(first | exact Ar.a1 [] [_,_] (.l .v0 .v1) [[1,-1]] (.e .v1 (.a .v0 (.n 3))) hsz Ar.y | exact Ar.a1 [] [_,_] (.l (.a .v0 .n2) .v1) [[1,-1]] (.e .v1 (.a .v0 (.n 3))) hsz Ar.y | exact Ar.a1 [] [_,_] (.l (.a .v0 .n1) .v1) [[1,-1]] (.e .v1 (.a .v0 (.n 3))) hsz Ar.y | exact Ar.a2 [] [_,_,_] (.l .v0 .v1) [[1,-1,1]] (.e .v1 (.a .v2 (.n 3))) (.l .v0 .v2) hsz hqlt Ar.y | omega)
  by_cases hb':h₁.objs.size≤b
  ·obtain⟨o1,o2,o3⟩:=old b hb'
   exact⟨o1,o2,jk hlt,o3⟩
  ·simp only [br,sf,or_false] at hb
   rcases hb with rfl | rfl | rfl | rfl
   ·(exact⟨(False.elim (Ar.a1 [] [_] .ff [[0,1]] (.j .v0 .v0) hb')),⟨(fun q1=>(Ar.a1 [] [_] .ff [[0,1]] (.j .v0 .v0) hb')),⟨(Ar.a1 [] [_,_] (.u .v0 .v1) [[-1,-1]] (.e .v1 (.a .v0 (.n 3))) hsz),(False.elim (Ar.a1 [] [_] .ff [[0,1]] (.j .v0 .v0) hb'))⟩⟩⟩)
   ·(exact⟨(False.elim (Ar.a1 [] [_] .ff [[0,1]] (.j .v0 (.a .v0 .n2)) hb')),⟨(fun q1=>(Ar.a1 [] [_] .ff [[0,1]] (.j .v0 (.a .v0 .n2)) hb')),⟨(Ar.a1 [] [_,_] (.u (.a .v0 .n2) .v1) [[-1,-1]] (.e .v1 (.a .v0 (.n 3))) hsz),(False.elim (Ar.a1 [] [_] .ff [[0,1]] (.j .v0 (.a .v0 .n2)) hb'))⟩⟩⟩)
   ·(exact⟨(False.elim (Ar.a1 [] [_] .ff [[0,1]] (.j .v0 (.a .v0 .n1)) hb')),⟨(fun q1=>(Ar.a1 [] [_] .ff [[0,1]] (.j .v0 (.a .v0 .n1)) hb')),⟨(Ar.a1 [] [_,_] (.u (.a .v0 .n1) .v1) [[-1,-1]] (.e .v1 (.a .v0 (.n 3))) hsz),(False.elim (Ar.a1 [] [_] .ff [[0,1]] (.j .v0 (.a .v0 .n1)) hb'))⟩⟩⟩)
   ·refine⟨hqsz,hqd1,jk hlt,?_⟩
    cases hq:G.hb.get? s.heap.objs.size with
    | none=>rfl
    | some o=>have:=R.base _ _ hq;rw [hqsz] at this;cases this
 have hlS:l≠h₂.objs.size:=fun e=>by rw [e,hSL] at hσ;cases hσ
 obtain⟨oi,hoi,ri⟩:=hit
 have ne1:(h₁.objs.size+2:Nat)≠h₁.objs.size:=by(exact Ar.a0 [] [_] (.u (.a .v0 .n2) .v0) [[1]])
 have ne2:(h₁.objs.size+1:Nat)≠h₁.objs.size:=by(exact Ar.a0 [] [_] (.u (.a .v0 .n1) .v0) [[1]])
 have ne3:(s.heap.objs.size:Nat)≠h₁.objs.size:=by(exact Ar.a1 [] [_,_] (.u .v0 .v1) [[-1,1]] (.l .v0 .v1) hqlt)
 refine oT (it:=h₁.objs.size) (m:=h₁.objs.size+2) (t:=h₁.objs.size+1) (q:=s.heap.objs.size) (S:=h₂.objs.size) (l:=l) (σ₀:=σ) (σ:=σ₁) (s:=s) (d:=d-3) (A:=A.in1) Kg K Km Mk ((AOk.less ao (d':=d-3+2+1) (by(exact Ar.a1 [] [_,_] (.k (.a (.a .v0 .n2) .n1) .v1) [[1,1]] (.e (.a .v0 (.n 3)) .v1) (aa (Ar.a1 [] [_] (.k (.n 3) .v0) [[1,1]] (.k (.n 3) .v0) hd))))).ins (k:=1) (by(exact Ar.a0 [] [] (.k .n1 (.n 30)) [[1]]))) h3 hlS hσ hz own ne1 ne2 ne3
  (fun h' tk' R' x'=>⟨rfl,_,_,h',tk',rfl,q _ hSL,.lst _,R',x'⟩) ts.length 0 h₃ tk rfl (ba _) (by simpa using R₃) (by simpa using x₂.trans x₃) ⟨hk₃ _ _ hmap.1,hk₃ _ _ hmap.2⟩ (hk₃ _ _ (hk _ _ hq1)) ⟨oi,hk₃ _ _ hoi,ri⟩
end
end MP
end
section
namespace MP
open PySem PyProof.Rows PySem.W
section
variable {G:Stc} {C:Cal} {sc:Scope} {d:Nat}
theorem rC {pos:Pos}:cp G C sc d .dct0 (.Dict [] [] pos):=fun A E env ρ σ Q s ao es eo F R h =>
 wpAny_Dict_empty ⟨.dct s.heap.objs.size,_,_,_,rfl,h _ R.freshD,.dct _,R.putD (At.push _) (fun _=>none_at_size _) (fun b f e=>R.sI (none_at_size _) e rfl) (Heap.DictOf.new _) .nil (by simp [av]),Evo.putD (At.push _) (fun _=>none_at_size _) _⟩
theorem uT {op:BoolOp} {b:Ex} {y:Expr} {pos:Pos} (h:cp G C sc d b y):cp G C sc d b (.BoolOp op [y] pos):=fun A E env ρ σ Q s ao es eo F R q=>BoolOp_one (h A E env ρ σ Q s ao es eo F R q)
theorem oJ {b:Ex} {y:Expr} {pos:Pos} (h:mr G C sc d b y):mr G C sc d b (.BoolOp .And [y] pos):=fun A E env ρ σ Q s ao es eo F R q =>
 isTrue_and (eE (h A E env ρ σ _ s ao es eo F R q) fun t σ₁ h₁ tk q r x=>by
  cases t with
  | true=>exact isTrue_and_nil (gq.back (tk:=tk) x (gq.here q r))
  | false=>exact gq.back (tk:=tk) x (gq.here q r))
theorem oI {b:Ex} {y:Expr} {pos:Pos} (h:mr G C sc d b y):mr G C sc d b (.BoolOp .Or [y] pos):=fun A E env ρ σ Q s ao es eo F R q =>
 isTrue_or (eE (h A E env ρ σ _ s ao es eo F R q) fun t σ₁ h₁ tk q r x=>by
  cases t with
  | false=>exact isTrue_or_nil (gq.back (tk:=tk) x (gq.here q r))
  | true=>exact gq.back (tk:=tk) x (gq.here q r))
end
structure Tab where
 gl:List (Str × Value)
 attrs:List Str
 meths:List (Nat × Str)
 fns:List (Nat × Addr)
 cM:Addr
 cS:Addr
structure TabOk (G:Stc) (T:Tab) (C:Cal) (d:Nat):Prop where
 g:GOk G
 gl:∀ x v,T.gl.lookup x=some v→G.gl x=some v
 attrs:G.attrs=T.attrs
 cal:zw G (fun k=>T.fns.lookup k) C (d-1)
 meth:∀ k name,T.meths.lookup k=some name→∃ f,T.fns.lookup k=some f∧MethAt G name f
 init:∃ f,T.fns.lookup 0=some f∧iD G f
 cM:G.cM=T.cM
 cS:G.cS=T.cS
 mt:∃ fN fM,jn G fN fM∧fP G fN∧dU G fM
 ma:mf G
 unp:pT G
 d3:3≤d
noncomputable def wt (i:Nat) (x:Expr):Option Expr:=match i with | 0=>(vw x).b.1 | _=>(vw x).b.2
noncomputable def fw (x:Expr):List Comprehension × Scope:=(vw x).g
noncomputable def hdG:List Comprehension→Expr × Expr × List Expr
 | g::_=>(g.target,g.iter,g.ifs)
 | []=>(default,default,[])
noncomputable def zU (x:Expr):Bool:=zj 0 x&&!(kids x).isEmpty
noncomputable def xv (x:Expr):BoolOp × List Expr × Pos:=((vw x).op,kids x,x.pos)
theorem BX {x:Expr} (h:zU x=true):∃ z r,(xv x).2.1=z::r∧x=.BoolOp (xv x).1 (z::r) (xv x).2.2:=by
 cases x
 case BoolOp =>
  cases values with
  | nil=>cases h
  | cons z r=>exact⟨z,r,rfl,rfl⟩
 all_goals exact Bool.noConfusion (show false=true from h)
noncomputable def many (x:Expr):Bool:=!(kids x).tail.tail.isEmpty
noncomputable def bo (op:BoolOp) (a b:Expr) (p:Pos) (m:Bool):Expr:=.BoolOp op (a::bif m then (xv b).2.1 else [b]) p
noncomputable def sF (op:BoolOp) (b:Expr) (p:Pos) (m:Bool):Bool:=!m||(zU b&&(decide ((xv b).1=op)&&decide ((xv b).2.2=p)))
noncomputable def hint (op:BoolOp) (x:Expr):Expr:=bif many x then .BoolOp op (kids x).tail x.pos else kid 1 x
theorem jX {op:BoolOp} {b:Expr} {p:Pos}:(m:Bool)→sF op b p m=true→m=false∨∃ z r,b=.BoolOp op (z::r) p∧∀ a,bo op a b p m=.BoolOp op (a::z::r) p
 | false,_=>.inl rfl
 | true,h=>by
  obtain⟨h0,h1⟩:=band (show(zU b&&(decide ((xv b).1=op)&&decide ((xv b).2.2=p)))=true from h)
  obtain⟨h1,h2⟩:=band h1
  obtain rfl:=az h1
  obtain rfl:=az h2
  obtain⟨z,r,e,e'⟩:=BX h0
  exact .inr ⟨z,r,e',fun a=>bu (fun l=>Expr.BoolOp (xv b).1 (a::l) (xv b).2.2) e⟩
noncomputable def glob (T:Tab) (sc:Scope) (x:Str) (v:Value):Bool:=decide (sc.names.lookup x=some .globalImplicit)&&(fe x&&decide (T.gl.lookup x=some v))
noncomputable def gP (x:Expr):Bool:=!(zj 7 x)
noncomputable def gF (sc:Scope):Tg→Expr→Expr
 | .var i=>fun x=>.Name (xg sc i) x.pos
 | .tup is=>fun x=>.Tuple (lz sc is (kids x)) (exK x) x.pos
noncomputable def sE (sc:Scope):Tg→Expr→Bool
 | .var i=>fun _=>kindAt rn sc i
 | .tup is=>fun x=>gK sc is
noncomputable def Exs.isNil:Exs→Bool
 | .nil=>true
 | _=>false
noncomputable def pR:BF→Nat
 | .len=>1
 | .min=>2
 | .max=>2
 | .divmod=>2
 | .set=>0
 | .lrange=>1
noncomputable def Exs.len:Exs→Nat
 | .nil=>0
 | .cons _ es=>es.len+1
noncomputable def jZ:BF→Value
 | .len=>.builtin "len"
 | .min=>.builtin "min"
 | .max=>.builtin "max"
 | .divmod=>.builtin "divmod"
 | .set=>.type "set"
 | _=>.type "list"
noncomputable def mz:BF→Bool
 | .lrange=>true
 | _=>false
noncomputable def isSort:BM→Bool
 | .sort=>true
 | _=>false
noncomputable def nm (x:Expr):Expr:=.Name (gp x) x.pos
noncomputable def Ex.isNone (x:Ex):Bool:=Nat.beq x.ctorIdx 0
mutual
noncomputable def reE (T:Tab):Ex→Scope→Expr→Expr
 | .none=>fun _ x=>.Constant .none (exK x) x.pos
 | .bool b=>fun _ x=>.Constant (.bool b) (exK x) x.pos
 | .int i=>fun _ x=>.Constant (.int i) (exK x) x.pos
 | .str t=>fun _ x=>.Constant (.str t) (exK x) x.pos
 | .loc i=>fun sc x=>.Name (xg sc i) x.pos
 | .bin op a b=>fun sc x=>.BinOp (reE T a sc (kid 0 x)) (binOp op) (reE T b sc (kid 1 x)) x.pos
 | .neg a=>fun sc x=>.UnaryOp .USub (reE T a sc (kid 0 x)) x.pos
 | .not a=>fun sc x=>.UnaryOp .Not (reE T a sc (kid 0 x)) x.pos
 | .and a b=>fun sc x=>bo .And (reE T a sc (kid 0 x)) (reE T b sc (hint .And x)) x.pos (many x)
 | .or a b=>fun sc x=>bo .Or (reE T a sc (kid 0 x)) (reE T b sc (hint .Or x)) x.pos (many x)
 | .cmp op a b=>fun sc x=>.Compare (reE T a sc (kid 0 x)) [bN op] [reE T b sc (kid 1 x)] x.pos
 | .ite c a b=>fun sc x=>.IfExp (reE T c sc (kid 0 x)) (reE T a sc (kid 1 x)) (reE T b sc (kid 2 x)) x.pos
 | .lst es=>fun sc x=>.List (mw T es sc (kids x)) x.pos
 | .tup es=>fun sc x=>.Tuple (mw T es sc (kids x)) (exK x) x.pos
 | .dct0=>fun _ x=>.Dict [] [] x.pos
 | .call _ es=>fun sc x=>.Call (nm (kid 0 x)) (mw T es sc (kids x).tail) [] x.pos
 | .meth e m es=>fun sc x=>.Call (.Attribute (reE T e sc (kid 0 (kid 0 x))) ((T.meths.lookup m).getD "") (kid 0 x).pos) (mw T es sc (kids x).tail) [] x.pos
 | .attr e i=>fun sc x=>.Attribute (reE T e sc (kid 0 x)) ((T.attrs[i]?).getD "") x.pos
 | .dgetOf e=>fun sc x=>.Attribute (reE T e sc (kid 0 x)) "get" x.pos
 | .shasOf e=>fun sc x=>.Attribute (reE T e sc (kid 0 x)) "__contains__" x.pos
 | .bm k e es=>fun sc x=>.Call (.Attribute (reE T e sc (kid 0 (kid 0 x))) (i5 k) (kid 0 x).pos) (mw T es sc (kids x).tail) [] x.pos
 | .bf k es=>fun sc x=>bif mz k then .Call (nm (kid 0 x)) [.Call (nm (kid 0 (kid 1 x))) (mw T es sc (kids (kid 1 x)).tail) [] (kid 1 x).pos] [] x.pos
  else .Call (nm (kid 0 x)) (mw T es sc (kids x).tail) [] x.pos
 | .callv f es=>fun sc x=>.Call (.Name (xg sc f) (kid 0 x).pos) (mw T es sc (kids x).tail) [] x.pos
 | .sub e i=>fun sc x=>.Subscript (reE T e sc (kid 0 x)) (reE T i sc (kid 1 x)) x.pos
 | .slc e lo hi=>fun sc x=>.Subscript (reE T e sc (kid 0 x)) (.Slice ((wt 0 (kid 1 x)).map (reE T lo sc)) ((wt 1 (kid 1 x)).map (reE T hi sc)) none (kid 1 x).pos) x.pos
 | .comp _ it t cs more=>fun sc x=>.ListComp (rX T more (lh (fw x).2 sc) (kid 0 x))
   (⟨gF (lh (fw x).2 sc) t (hdG (fw x).1).1,iX T it sc (hdG (fw x).1).2.1,mw T cs (lh (fw x).2 sc) (hdG (fw x).1).2.2,0⟩::rV T more (lh (fw x).2 sc) (fw x).1.tail) (fw x).2 x.pos
 | .newM es=>fun sc x=>.Call (nm (kid 0 x)) (mw T es sc (kids x).tail) [] x.pos
 | .newMatch a b c=>fun sc x=>.Call (nm (kid 0 x)) [reE T a sc (kid 1 x),reE T b sc (kid 2 x),reE T c sc (kid 3 x)] [] x.pos
 | .mkMatches e=>fun sc x=>.Call (nm (kid 0 x)) [.Call (nm (kid 0 (kid 1 x))) [.Attribute (nm (kid 0 (kid 1 (kid 1 x)))) "_make" (kid 1 (kid 1 x)).pos,reE T e sc (kid 2 (kid 1 x))] [] (kid 1 x).pos] [] x.pos
 | .dead=>fun _ x=>x
noncomputable def mw (T:Tab):Exs→Scope→List Expr→List Expr
 | .nil=>fun _ _=>[]
 | .cons e es=>fun sc l=>reE T e sc (l.headD default)::mw T es sc l.tail
noncomputable def iX (T:Tab):It→Scope→Expr→Expr
 | .rng1 e=>fun sc x=>.Call (nm (kid 0 x)) [reE T e sc (kid 1 x)] [] x.pos
 | .rng2 e f=>fun sc x=>.Call (nm (kid 0 x)) [reE T e sc (kid 1 x),reE T f sc (kid 2 x)] [] x.pos
 | .rng3 e f g=>fun sc x=>.Call (nm (kid 0 x)) [reE T e sc (kid 1 x),reE T f sc (kid 2 x),reE T g sc (kid 3 x)] [] x.pos
 | .enum e=>fun sc x=>.Call (nm (kid 0 x)) [reE T e sc (kid 1 x)] [] x.pos
 | .seq e=>fun sc x=>reE T e sc x
noncomputable def rV (T:Tab):Gens→Scope→List Comprehension→List Comprehension
 | .elt _=>fun _ _=>[]
 | .cons it t cs more=>fun sc l=>⟨gF sc t (hdG l).1,iX T it sc (hdG l).2.1,mw T cs sc (hdG l).2.2,0⟩::rV T more sc l.tail
noncomputable def rX (T:Tab):Gens→Scope→Expr→Expr
 | .elt e=>fun sc x=>reE T e sc x
 | .cons _ _ _ more=>fun sc x=>rX T more sc x
end
noncomputable def tOk:Ex→Bool
 | .not a=>tOk a
 | .and a b=>tOk a&&tOk b
 | .or a b=>tOk a&&tOk b
 | .ite _ a b=>tOk a&&tOk b
 | .cmp _ _ _=>true
 | .loc _=>true
 | .attr _ _=>true
 | .callv _ _=>true
 | .sub _ _=>true
 | .bin _ _ _=>true
 | .dead=>true
 | _=>false
mutual
noncomputable def okE (T:Tab):Ex→Scope→Expr→Bool
 | .none=>fun _ _=>true
 | .bool _=>fun _ _=>true
 | .int _=>fun _ _=>true
 | .str _=>fun _ _=>true
 | .loc i=>fun sc _=>kindAt isVar sc i
 | .bin _ a b=>fun sc x=>okE T a sc (kid 0 x)&&okE T b sc (kid 1 x)
 | .neg a=>fun sc x=>okE T a sc (kid 0 x)
 | .not a=>fun sc x=>okE T a sc (kid 0 x)
 | .and a b=>fun sc x=>okE T a sc (kid 0 x)&&(okE T b sc (hint .And x)&&sF .And (reE T b sc (hint .And x)) x.pos (many x))
 | .or a b=>fun sc x=>okE T a sc (kid 0 x)&&(okE T b sc (hint .Or x)&&sF .Or (reE T b sc (hint .Or x)) x.pos (many x))
 | .cmp op a b=>fun sc x=>okE T a sc (kid 0 x)&&(okE T b sc (kid 1 x)&&!(behindInMarks (bN op) (reE T b sc (kid 1 x))))
 | .ite c a b=>fun sc x=>tOk c&&(okE T c sc (kid 0 x)&&(okE T a sc (kid 1 x)&&okE T b sc (kid 2 x)))
 | .lst es=>fun sc x=>noStar (mw T es sc (kids x))&&cQ T es sc (kids x)
 | .tup es=>fun sc x=>noStar (mw T es sc (kids x))&&cQ T es sc (kids x)
 | .dct0=>fun _ _=>true
 | .call f es=>fun sc x=>(T.fns.lookup f).any (fun a=>glob T sc (gp (kid 0 x)) (.ref a))&&(noStar (mw T es sc (kids x).tail)&&cQ T es sc (kids x).tail)
 | .meth e m es=>fun sc x=>(T.meths.lookup m).isSome&&(okE T e sc (kid 0 (kid 0 x))&&(mh (reE T e sc (kid 0 (kid 0 x)))&&(((kid 0 x).pos.endLine==x.pos.line)&&(decide ((mw T es sc (kids x).tail).length<30) &&
   (noStar (mw T es sc (kids x).tail)&&cQ T es sc (kids x).tail)))))
 | .attr e i=>fun sc x=>(T.attrs[i]?).isSome&&(mh (reE T e sc (kid 0 x))&&okE T e sc (kid 0 x))
 | .dgetOf e=>fun sc x=>mh (reE T e sc (kid 0 x))&&okE T e sc (kid 0 x)
 | .shasOf e=>fun sc x=>mh (reE T e sc (kid 0 x))&&okE T e sc (kid 0 x)
 | .bm k e es=>fun sc x=>(!isSort k||es.isNil)&&(okE T e sc (kid 0 (kid 0 x))&&(mh (reE T e sc (kid 0 (kid 0 x)))&&(((kid 0 x).pos.endLine==x.pos.line)&&(decide ((mw T es sc (kids x).tail).length<30) &&
   (noStar (mw T es sc (kids x).tail)&&cQ T es sc (kids x).tail)))))
 | .bf k es=>fun sc x=>Nat.beq es.len (pR k)&&(glob T sc (gp (kid 0 x)) (jZ k)&&bif mz k then glob T sc (gp (kid 0 (kid 1 x))) (.type "range")&&(noStar (mw T es sc (kids (kid 1 x)).tail)&&cQ T es sc (kids (kid 1 x)).tail)
   else noStar (mw T es sc (kids x).tail)&&cQ T es sc (kids x).tail)
 | .callv f es=>fun sc x=>kindAt isVar sc f&&(noStar (mw T es sc (kids x).tail)&&cQ T es sc (kids x).tail)
 | .sub e i=>fun sc x=>!(isSlice (reE T i sc (kid 1 x)))&&(okE T e sc (kid 0 x)&&okE T i sc (kid 1 x))
 | .slc e lo hi=>fun sc x=>okE T e sc (kid 0 x)&&((match wt 0 (kid 1 x) with | none=>lo.isNone | some l=>okE T lo sc l)&&(match wt 1 (kid 1 x) with | none=>hi.isNone | some l=>okE T hi sc l))
 | .comp fv it t cs more=>fun sc x=>vU T it sc (isTup (gF (lh (fw x).2 sc) t (hdG (fw x).1).1)) (hdG (fw x).1).2.1&&(sE (lh (fw x).2 sc) t (hdG (fw x).1).1&&(vV T cs (lh (fw x).2 sc) (hdG (fw x).1).2.2 &&
   (zE T more (lh (fw x).2 sc) (fw x).1.tail (kid 0 x)&&(gP (iX T it sc (hdG (fw x).1).2.1)&&(decide ((fw x).2.kind=.function)&&(decide (((fw x).2.names.map (·.1)).Nodup) &&
   (gO sc fv 0 (fw x).2.names&&gL (fw x).2 (⟨gF (lh (fw x).2 sc) t (hdG (fw x).1).1,iX T it sc (hdG (fw x).1).2.1,mw T cs (lh (fw x).2 sc) (hdG (fw x).1).2.2,0⟩::rV T more (lh (fw x).2 sc) (fw x).1.tail))))))))
 | .newM es=>fun sc x=>!es.isNil&&(glob T sc (gp (kid 0 x)) (.ref T.cS)&&(noStar (mw T es sc (kids x).tail)&&cQ T es sc (kids x).tail))
 | .newMatch a b c=>fun sc x=>glob T sc (gp (kid 0 x)) (.ref T.cM)&&(noStar [reE T a sc (kid 1 x),reE T b sc (kid 2 x),reE T c sc (kid 3 x)]&&(okE T a sc (kid 1 x)&&(okE T b sc (kid 2 x)&&okE T c sc (kid 3 x))))
 | .mkMatches e=>fun sc x=>glob T sc (gp (kid 0 x)) (.type "list")&&(glob T sc (gp (kid 0 (kid 1 x))) (.type "map")&&(glob T sc (gp (kid 0 (kid 1 (kid 1 x)))) (.ref T.cM)&&(noStar [reE T e sc (kid 2 (kid 1 x))]&&okE T e sc (kid 2 (kid 1 x)))))
 | .dead=>fun _ _=>true
noncomputable def cQ (T:Tab):Exs→Scope→List Expr→Bool
 | .nil=>fun _ _=>true
 | .cons e es=>fun sc l=>okE T e sc (l.headD default)&&cQ T es sc l.tail
noncomputable def vV (T:Tab):Exs→Scope→List Expr→Bool
 | .nil=>fun _ _=>true
 | .cons e es=>fun sc l=>tOk e&&(okE T e sc (l.headD default)&&vV T es sc l.tail)
noncomputable def vU (T:Tab):It→Scope→Bool→Expr→Bool
 | .rng1 e=>fun sc _ x=>glob T sc (gp (kid 0 x)) (.type "range")&&(noStar [reE T e sc (kid 1 x)]&&okE T e sc (kid 1 x))
 | .rng2 e f=>fun sc _ x=>glob T sc (gp (kid 0 x)) (.type "range")&&(noStar [reE T e sc (kid 1 x),reE T f sc (kid 2 x)]&&(okE T e sc (kid 1 x)&&okE T f sc (kid 2 x)))
 | .rng3 e f g=>fun sc _ x=>glob T sc (gp (kid 0 x)) (.type "range")&&(noStar [reE T e sc (kid 1 x),reE T f sc (kid 2 x),reE T g sc (kid 3 x)]&&(okE T e sc (kid 1 x)&&(okE T f sc (kid 2 x)&&okE T g sc (kid 3 x))))
 | .enum e=>fun sc tp x=>tp&&(glob T sc (gp (kid 0 x)) (.type "enumerate")&&(noStar [reE T e sc (kid 1 x)]&&okE T e sc (kid 1 x)))
 | .seq e=>fun sc _ x=>okE T e sc x
noncomputable def zE (T:Tab):Gens→Scope→List Comprehension→Expr→Bool
 | .elt e=>fun sc _ x=>okE T e sc x
 | .cons it t cs more=>fun sc l x=>vU T it sc (isTup (gF sc t (hdG l).1)) (hdG l).2.1&&(sE sc t (hdG l).1&&(vV T cs sc (hdG l).2.2&&(zE T more sc l.tail x&&gP (iX T it sc (hdG l).2.1))))
end
noncomputable def mY (T:Tab) (sc:Scope):Tgt→Expr→Expr
 | .var i=>fun x=>.Name (xg sc i) x.pos
 | .attr o i=>fun x=>.Attribute (reE T o sc (kid 0 x)) ((T.attrs[i]?).getD "") x.pos
 | .sub o i=>fun x=>.Subscript (reE T o sc (kid 0 x)) (reE T i sc (kid 1 x)) x.pos
 | .tup is=>fun x=>.Tuple (lz sc is (kids x)) (exK x) x.pos
noncomputable def y5 (T:Tab) (sc:Scope):Tgt→Expr→Bool
 | .var i=>fun _=>kindAt rn sc i
 | .attr o i=>fun x=>okE T o sc (kid 0 x)&&(T.attrs[i]?).isSome
 | .sub o i=>fun x=>okE T o sc (kid 0 x)&&okE T i sc (kid 1 x)
 | .tup is=>fun x=>gK sc is
noncomputable def ru (T:Tab) (sc:Scope):List Tgt→List Expr→List Expr
 | []=>fun _=>[]
 | t::ts=>fun l=>mY T sc t (l.headD default)::ru T sc ts l.tail
noncomputable def cP (T:Tab) (sc:Scope):List Tgt→List Expr→Bool
 | []=>fun _=>true
 | t::ts=>fun l=>y5 T sc t (l.headD default)&&cP T sc ts l.tail
noncomputable def stB (x:Stmt):List Stmt × List Stmt:=((sw x).b,(sw x).c)
noncomputable def lB:List Tgt→Bool
 | [.var _]=>true
 | _=>false
noncomputable def lC (x:Ex):Bool:=Nat.beq x.ctorIdx (Ex.comp [] (.seq .none) (.var 0) .nil (.elt .none)).ctorIdx
noncomputable def sZ:List Tgt→Option (List Nat)
 | [.tup is]=>some is
 | _=>none
noncomputable def y6 (T:Tab) (sc:Scope) (ts:List Tgt) (e:Ex) (xs hs:List Expr) (y:Expr):Option (Option (List Str))→Bool
 | none=>false
 | some none=>cP T sc ts hs&&(tj y||(lB ts&&lC e))
 | some (some names)=>(sZ ts).any fun is=>tj y&&(B3 sc is names&&decide is.Nodup)
mutual
noncomputable def reS (T:Tab) (sc:Scope):Stm→Stmt→Stmt
 | .assign ts e=>fun x=>.Assign (ru T sc ts (uq x).tail) (reE T e sc (st0 x)) x.pos
 | .aug i op e=>fun x=>.AugAssign (.Name (xg sc i) ((uq x).getD 1 default).pos) (binOp op) (reE T e sc (st0 x)) x.pos
 | .expr e=>fun x=>.Expr (reE T e sc (st0 x)) x.pos
 | .cond c t e=>fun x=>.If (reE T c sc (st0 x)) (gG T sc t (stB x).1) (gG T sc e (stB x).2) x.pos
 | .loop c b=>fun x=>.While (reE T c sc (st0 x)) (gG T sc b (stB x).1) [] x.pos
 | .each t it b=>fun x=>.For (gF sc t ((uq x).getD 1 default)) (iX T it sc (st0 x)) (gG T sc b (stB x).1) [] x.pos
 | .ret e=>fun x=>.Return ((uq x).head?.map (reE T e sc)) x.pos
 | .brk=>fun x=>.Break x.pos
 | .cont=>fun x=>.Continue x.pos
 | .pass=>fun x=>bif (uq x).isEmpty then .Pass x.pos else .Expr (.Constant (.str (t8 (st0 x))) (exK (st0 x)) (st0 x).pos) x.pos
 | .dead=>fun x=>x
noncomputable def gG (T:Tab) (sc:Scope):jf→List Stmt→List Stmt
 | .nil=>fun _=>[]
 | .cons s ss=>fun l=>reS T sc s (l.headD default)::gG T sc ss l.tail
end
mutual
noncomputable def okS (T:Tab) (sc:Scope):Stm→Stmt→Bool
 | .assign ts e=>fun x=>okE T e sc (st0 x)&&y6 T sc ts e (ru T sc ts (uq x).tail) (uq x).tail (reE T e sc (st0 x)) (swp sc (ru T sc ts (uq x).tail) (reE T e sc (st0 x)))
 | .aug i op e=>fun x=>(decide (op=.add)||decide (op=.sub))&&(kindAt rn sc i&&okE T e sc (st0 x))
 | .expr e=>fun x=>tj (reE T e sc (st0 x))&&okE T e sc (st0 x)
 | .cond c t e=>fun x=>tOk c&&(okE T c sc (st0 x)&&(eF T sc t (stB x).1&&eF T sc e (stB x).2))
 | .loop c b=>fun x=>tOk c&&(okE T c sc (st0 x)&&eF T sc b (stB x).1)
 | .each t it b=>fun x=>sE sc t ((uq x).getD 1 default)&&(vU T it sc (isTup (gF sc t ((uq x).getD 1 default))) (st0 x)&&(eF T sc b (stB x).1&&gP (iX T it sc (st0 x))))
 | .ret e=>fun x=>match (uq x).head? with
  | some y=>okE T e sc y
  | none=>e.isNone
 | .brk=>fun _=>true
 | .cont=>fun _=>true
 | .pass=>fun _=>true
 | .dead=>fun _=>true
noncomputable def eF (T:Tab) (sc:Scope):jf→List Stmt→Bool
 | .nil=>fun _=>true
 | .cons s ss=>fun l=>okS T sc s (l.headD default)&&eF T sc ss l.tail
end
end MP
end
section
namespace MP
open PySem PyProof.Rows PySem.W
section
variable {G:Stc} {T:Tab} {C:Cal} {d:Nat}
theorem iw (K:TabOk G T C d) {sc:Scope} {x:Str} {v:Value} (h:glob T sc x v=true):sc.names.lookup x=some .globalImplicit∧fe x=true∧G.gl x=some v :=
 ⟨az (band h).1,(band (band h).2).1,K.gl _ _ (az (band (band h).2).2)⟩
theorem wq {x:Expr} (h:gP x=true):∀ env v,foldedSetIterable x env v=pure v:=by
 intro env v
 cases x<;>first | rfl | exact Bool.noConfusion (show false=true from h)
theorem fY (K:TabOk G T C d) {sc:Scope}:(t:Tg)→(x:Expr)→sE sc t x=true→rd G C sc d t (gF sc t x)
 | .var i,x,h=>by obtain⟨k,h1,h2,h3⟩:=ou h;exact uI h1 h2
 | .tup is,x,h=>uJ K.unp h
theorem d9 {α:Type} {a:Option α} {d:α} (h:a.isSome=true):a=some (a.getD d):=by
 cases a with
 | none=>cases h
 | some x=>rfl
theorem i6 (K:TabOk G T C d) {i:Nat} (h:(T.attrs[i]?).isSome=true):G.attrs[i]?=some ((T.attrs[i]?).getD ""):=by
 rw [K.attrs];exact d9 h
theorem BZ {sc:Scope} {op:BoolOp} {e a b:Ex} {x y:Expr} {p:Pos} {m:Bool} (H:∀ z r,cp G C sc d a x→cp G C sc d b (.BoolOp op (z::r) p)→cp G C sc d e (.BoolOp op (x::z::r) p)) (ha:cp G C sc d a x) (hb:cp G C sc d b y) (h:sF op y p m=true) :
  cp G C sc d e (bo op x y p m):=by
 rcases jX m h with rfl | ⟨z,r,rfl,e1⟩
 ·exact H y [] ha (uT hb)
 ·rw [e1];exact H z r ha hb
theorem BY {sc:Scope} {op:BoolOp} {e a b:Ex} {x y:Expr} {p:Pos} {m:Bool} (H:∀ z r,mr G C sc d a x→mr G C sc d b (.BoolOp op (z::r) p)→mr G C sc d e (.BoolOp op (x::z::r) p)) (ha:mr G C sc d a x) (hb:mr G C sc d b y) (h:sF op y p m=true) :
  mr G C sc d e (bo op x y p m):=by
 rcases jX m h with rfl | ⟨z,r,rfl,e1⟩
 ·exact H y [] ha (by cases op;exact oJ hb;exact oI hb)
 ·rw [e1];exact H z r ha hb
theorem oH (K:TabOk G T C d) {sc:Scope} {f:Nat} {es:Exs} {x:Expr} {args:List Expr} {pos:Pos} (h:((T.fns.lookup f).any fun a=>glob T sc (gp x) (.ref a))=true) (hes:iy G C sc d es args) (hs:noStar args=true):cp G C sc d (.call f es) (.Call (nm x) args [] pos):=by
 obtain⟨a,e,h⟩:=any_some h
 obtain⟨g1,g2,g3⟩:=iw K h
 exact rF K.g (K.cal.more (Nat.sub_le _ _)) e hes hs g1 g2 g3
theorem oE (K:TabOk G T C d) {sc:Scope} {e:Ex} {m:Nat} {es:Exs} {o:Expr} {args:List Expr} {ap pos:Pos} (h:(T.meths.lookup m).isSome=true) (he:cp G C sc d e o) (h2:mh o=true) (h3:(ap.endLine==pos.line)=true) (h4:decide (args.length<30)=true) (hs:noStar args=true) (hes:iy G C sc d es args) :
  cp G C sc d (.meth e m es) (.Call (.Attribute o ((T.meths.lookup m).getD "") ap) args [] pos):=by
 obtain⟨f,hf,M⟩:=K.meth _ _ (d9 h)
 exact qW (K.cal.more (Nat.sub_le _ _)) hf M he hes h2 hs (az h4) h3
theorem vC (K:TabOk G T C d) {sc:Scope} {k:BM} {e:Ex} {es:Exs} {o:Expr} {args:List Expr} {ap pos:Pos} (h:(!isSort k||es.isNil)=true) (ha:es.isNil=true→args=[]) (he:cp G C sc d e o) (h2:mh o=true) (h3:(ap.endLine==pos.line)=true) (h4:decide (args.length<30)=true) (hs:noStar args=true) (hes:iy G C sc d es args) :
  cp G C sc d (.bm k e es) (.Call (.Attribute o (i5 k) ap) args [] pos):=by
 by_cases hk:k=.sort
 ·subst hk
  obtain rfl:=ha h
  cases es with
  | nil=>exact qN K.ma he h2 h3
  | cons _ _=>cases h
 ·exact yY K.g hk he hes h2 hs (az h4) h3
theorem rW {sc:Scope} {l:List Expr}:(es:Exs)→es.isNil=true→mw T es sc l=[]
 | .nil,_=>rfl
theorem vP {sc:Scope} {l:List Expr}:(es:Exs)→(!es.isNil)=true→mw T es sc l≠[]
 | .cons _ _,_=>List.cons_ne_nil _ _
theorem oD (K:TabOk G T C d) {sc:Scope} {es:Exs} {x:Expr} {args:List Expr} {pos:Pos} (hne:args≠[]) (h:glob T sc (gp x) (.ref T.cS)=true) (hs:noStar args=true) (hes:iy G C sc d es args):cp G C sc d (.newM es) (.Call (nm x) args [] pos):=by
 obtain⟨g1,g2,g3⟩:=iw K h
 obtain⟨f,hf,M⟩:=K.init
 exact qT K.g K.cal (nk (by decide) K.d3) hf M hes hs hne g1 g2 (K.cS▸g3)
theorem eA (K:TabOk G T C d) {sc:Scope} {a b c:Ex} {x u v w:Expr} {pos:Pos} (h:glob T sc (gp x) (.ref T.cM)=true) (hs:noStar [u,v,w]=true) (ha:cp G C sc d a u) (hb:cp G C sc d b v) (hc:cp G C sc d c w):cp G C sc d (.newMatch a b c) (.Call (nm x) [u,v,w] [] pos):=by
 obtain⟨g1,g2,g3⟩:=iw K h
 obtain⟨fN,fM,Mk,Mn,Mm⟩:=K.mt
 exact gC K.g Mk Mn K.ma (nk (by decide) K.d3) ha hb hc hs g1 g2 (K.cM▸g3)
theorem cD (K:TabOk G T C d) {sc:Scope} {e:Ex} {x y z u:Expr} {p q pos:Pos} (h1:glob T sc (gp x) (.type "list")=true) (h2:glob T sc (gp y) (.type "map")=true) (h3:glob T sc (gp z) (.ref T.cM)=true) (hs:noStar [u]=true) (he:cp G C sc d e u) :
  cp G C sc d (.mkMatches e) (.Call (nm x) [.Call (nm y) [.Attribute (nm z) "_make" q,u] [] p] [] pos):=by
 obtain⟨g1,g2,g3⟩:=iw K h1
 obtain⟨k1,k2,k3⟩:=iw K h2
 obtain⟨m1,m2,m3⟩:=iw K h3
 obtain⟨fN,fM,Mk,Mn,Mm⟩:=K.mt
 exact eB K.g Mk K.ma Mm K.d3 he hs g1 g2 g3 k1 k2 k3 m1 m2 (K.cM▸m3)
theorem aQ {e:Ex} (h:e.isNone=true):e=.none:=by
 cases e<;>first | rfl | exact Bool.noConfusion h
theorem wY {α:Type} {l m:List α} {a:α} {n:Nat} (h:l.drop n=a::m):l[n]?=some a:=by
 have:=bu (fun l=>l[0]?) h
 simpa using this
theorem wX {α:Type} {l m:List α} {a:α} {n:Nat} (h:l.drop n=a::m):l.drop (n+1)=m:=by
 have:=bu (fun l=>l.drop 1) h
 simpa using this
theorem vg {sc:Scope}:(gs:Gens)→(l:List Comprehension)→∀ g∈rV T gs sc l,g.is_async=0
 | .elt _,_,_,h=>nomatch h
 | .cons _ _ _ more,l,g,h=>(br.mp h).elim (fun e=>e▸rfl) (vg more l.tail g)
theorem ft {p:Prop} (h:false=true):p:=Bool.noConfusion h
theorem vF (K:TabOk G T C d) {sc:Scope} {e:Ex} {x u:Expr} {pos:Pos}:(k:BF)→Nat.beq 1 (pR k)=true→mz k=false→glob T sc (gp x) (jZ k)=true→noStar [u]=true→cp G C sc d e u→cp G C sc d (.bf k (.cons e .nil)) (.Call (nm x) [u] [] pos)
 | .len=>fun _ _ h hs he=>by obtain⟨g1,g2,g3⟩:=iw K h;exact uX K.g he hs g1 g2 g3
 | .min=>fun h=>ft h
 | .max=>fun h=>ft h
 | .divmod=>fun h=>ft h
 | .set=>fun h=>ft h
 | .lrange=>fun _ h=>ft h.symm
theorem vD (K:TabOk G T C d) {sc:Scope} {e:Ex} {x y u:Expr} {p pos:Pos}:(k:BF)→mz k=true→glob T sc (gp x) (jZ k)=true→glob T sc (gp y) (.type "range")=true→noStar [u]=true→cp G C sc d e u→cp G C sc d (.bf k (.cons e .nil)) (.Call (nm x) [.Call (nm y) [u] [] p] [] pos)
 | .lrange=>fun _ h h' hs he=>by obtain⟨g1,g2,g3⟩:=iw K h;exact by obtain⟨k1,k2,k3⟩:=iw K h';exact kD K.g he hs g1 g2 g3 k1 k2 k3
 | .len=>fun h=>ft h
 | .min=>fun h=>ft h
 | .max=>fun h=>ft h
 | .divmod=>fun h=>ft h
 | .set=>fun h=>ft h
theorem vE (K:TabOk G T C d) {sc:Scope} {e f:Ex} {x u v:Expr} {pos:Pos}:(k:BF)→Nat.beq 2 (pR k)=true→glob T sc (gp x) (jZ k)=true→noStar [u,v]=true→cp G C sc d e u→cp G C sc d f v→cp G C sc d (.bf k (.cons e (.cons f .nil))) (.Call (nm x) [u,v] [] pos)
 | .min=>fun _ h hs he hf=>by obtain⟨g1,g2,g3⟩:=iw K h;exact qU K.g he hf hs g1 g2 g3
 | .max=>fun _ h hs he hf=>by obtain⟨g1,g2,g3⟩:=iw K h;exact qX K.g he hf hs g1 g2 g3
 | .divmod=>fun _ h hs he hf=>by obtain⟨g1,g2,g3⟩:=iw K h;exact kE K.g he hf hs g1 g2 g3
 | .len=>fun h=>ft h
 | .set=>fun h=>ft h
 | .lrange=>fun h=>ft h
theorem vG (K:TabOk G T C d) {sc:Scope} {x:Expr} {pos:Pos}:(k:BF)→Nat.beq 0 (pR k)=true→glob T sc (gp x) (jZ k)=true→cp G C sc d (.bf k .nil) (.Call (nm x) [] [] pos)
 | .set=>fun _ h=>by obtain⟨g1,g2,g3⟩:=iw K h;exact qP K.g g1 g2 g3
 | .len=>fun h=>ft h
 | .min=>fun h=>ft h
 | .max=>fun h=>ft h
 | .divmod=>fun h=>ft h
 | .lrange=>fun h=>ft h
theorem mZ:(k:BF)→mz k=true→pR k=1
 | .lrange=>fun _=>rfl
 | .len=>fun h=>ft h
 | .min=>fun h=>ft h
 | .max=>fun h=>ft h
 | .divmod=>fun h=>ft h
 | .set=>fun h=>ft h
theorem bf3 {n:Nat}:(k:BF)→Nat.beq (n+3) (pR k)=true→False
 | .set=>fun h=>nomatch (show(Nat.beq (n+3) 0)=true from h)
 | .len=>fun h=>nomatch (show(Nat.beq (n+2) 0)=true from h)
 | .min=>fun h=>nomatch (show(Nat.beq (n+1) 0)=true from h)
 | .max=>fun h=>nomatch (show(Nat.beq (n+1) 0)=true from h)
 | .divmod=>fun h=>nomatch (show(Nat.beq (n+1) 0)=true from h)
 | .lrange=>fun h=>nomatch (show(Nat.beq (n+2) 0)=true from h)
mutual
theorem gj (K:TabOk G T C d):(e:Ex)→(sc:Scope)→(x:Expr)→okE T e sc x=true→cp G C sc d e (reE T e sc x)
 | .none=>fun sc x h=>qS
 | .bool b=>fun sc x h=>rG
 | .int i=>fun sc x h=>uZ
 | .str t=>fun sc x h=>uQ
 | .loc i=>fun sc x h=>by obtain⟨k,h1,h2,h3⟩:=ou h;exact bZ h1 h2 h3
 | .bin op a b=>fun sc x h=>mR (gj K a sc _ (band h).1) (gj K b sc _ (band h).2)
 | .neg a=>fun sc x h=>uV (gj K a sc _ h)
 | .not a=>fun sc x h=>uU (gj K a sc _ h)
 | .and a b=>fun sc x h=>let h2:=band (band h).2;BZ (fun _ _=>snd_and) (gj K a sc _ (band h).1) (gj K b sc _ h2.1) h2.2
 | .or a b=>fun sc x h=>let h2:=band (band h).2;BZ (fun _ _=>yU) (gj K a sc _ (band h).1) (gj K b sc _ h2.1) h2.2
 | .cmp op a b=>fun sc x h=>let h2:=band (band h).2;vA (gj K a sc _ (band h).1) (gj K b sc _ h2.1) ((dw _).mp h2.2)
 | .ite c a b=>fun sc x h=>let h2:=band (band h).2;let h3:=band h2.2;uY (bV K c sc _ (band h).1 h2.1) (gj K a sc _ h3.1) (gj K b sc _ h3.2)
 | .lst es=>fun sc x h=>uW (zc K es sc _ (band h).1 (band h).2)
 | .tup es=>fun sc x h=>mP (zc K es sc _ (band h).1 (band h).2)
 | .dct0=>fun sc x h=>rC
 | .call f es=>fun sc x h=>let h2:=band (band h).2;oH K (band h).1 (zc K es sc _ h2.1 h2.2) h2.1
 | .meth e m es=>fun sc x h=>let h2:=band (band h).2;let h3:=band h2.2;let h4:=band h3.2;let h5:=band h4.2;let h6:=band h5.2
  oE K (band h).1 (gj K e sc _ h2.1) h3.1 h4.1 h5.1 h6.1 (zc K es sc _ h6.1 h6.2)
 | .attr e i=>fun sc x h=>let h2:=band (band h).2;iQ K.g (gj K e sc _ h2.2) h2.1 (i6 K (band h).1)
 | .dgetOf e=>fun sc x h=>kF (gj K e sc _ (band h).2) (band h).1
 | .shasOf e=>fun sc x h=>kC (gj K e sc _ (band h).2) (band h).1
 | .bm k e es=>fun sc x h=>let h2:=band (band h).2;let h3:=band h2.2;let h4:=band h3.2;let h5:=band h4.2;let h6:=band h5.2
  vC K (band h).1 (rW es) (gj K e sc _ h2.1) h3.1 h4.1 h5.1 h6.1 (zc K es sc _ h6.1 h6.2)
 | .bf k .nil=>fun sc x h=>by
  obtain⟨h1,h2⟩:=band h
  have h3:=h1
  cases hr:mz k
  ·show cp G C sc d _ (bif mz k then _ else _)
   rw [hr]
   exact vG K k h3 (band h2).1
  ·rw [mZ k hr] at h3
   exact Bool.noConfusion (show false=true from h3)
 | .bf k (.cons e .nil)=>fun sc x h=>by
  obtain⟨h1,h2⟩:=band h
  obtain⟨h2,h4⟩:=band h2
  have h3:=h1
  show cp G C sc d _ (bif mz k then _ else _)
  cases hr:mz k
  ·rw [hr] at h4
   exact vF K k h3 hr h2 (band h4).1 (gj K e sc _ (band (band h4).2).1)
  ·rw [hr] at h4
   have h5:=band (band h4).2
   exact vD K k hr h2 (band h4).1 h5.1 (gj K e sc _ (band h5.2).1)
 | .bf k (.cons e (.cons f .nil))=>fun sc x h=>by
  obtain⟨h1,h2⟩:=band h
  obtain⟨h2,h4⟩:=band h2
  have h3:=h1
  cases hr:mz k
  ·rw [hr] at h4
   show cp G C sc d _ (bif mz k then _ else _)
   rw [hr]
   have h5:=band (band h4).2
   exact vE K k h3 h2 (band h4).1 (gj K e sc _ h5.1) (gj K f sc _ (band h5.2).1)
  ·rw [mZ k hr] at h3
   exact Bool.noConfusion (show false=true from h3)
 | .bf k (.cons e (.cons f (.cons g r)))=>fun sc x h=>(bf3 k (band h).1).elim
 | .callv f es=>fun sc x h=>let h2:=band (band h).2;by obtain⟨k,e1,e2,e3⟩:=ou (band h).1;exact eU K.g e1 e2 e3 (zc K es sc _ h2.1 h2.2) h2.1
 | .sub e i=>fun sc x h=>let h2:=band (band h).2;mQ (gj K e sc _ h2.1) (gj K i sc _ h2.2) ((dw _).mp (band h).1)
 | .slc e lo hi=>fun sc x h=>let h2:=band (band h).2;uR (gj K e sc _ (band h).1)
   (by
    cases e0:wt 0 (kid 1 x) with
    | none=>exact .inl ⟨aQ (by have:=h2.1;rw [e0] at this;exact this),rfl⟩
    | some y=>exact .inr ⟨_,rfl,gj K lo sc y (by have:=h2.1;rw [e0] at this;exact this)⟩)
   (by
    cases e0:wt 1 (kid 1 x) with
    | none=>exact .inl ⟨aQ (by have:=h2.2;rw [e0] at this;exact this),rfl⟩
    | some y=>exact .inr ⟨_,rfl,gj K hi sc y (by have:=h2.2;rw [e0] at this;exact this)⟩)
 | .comp fv it t cs more=>fun sc x h=>let h2:=band (band h).2;let h3:=band h2.2;let h4:=band h3.2;let h5:=band h4.2;let h6:=band h5.2;let h7:=band h6.2;let h8:=band h7.2
  iP (mU K it sc _ _ (band h).1) (fY K t _ h2.1) (mW K cs _ _ h3.1) (rN K more _ _ _ _ _ _ 0 rfl (fun g hg=>(br.mp hg).elim (fun e=>e▸rfl) (vg more _ g)) h4.1) (wq h5.1) (az h6.1) (az h7.1) h8.1 h8.2 (vg more _)
 | .newM es=>fun sc x h=>let h2:=band (band h).2;let h3:=band h2.2;oD K (vP es (band h).1) h2.1 h3.1 (zc K es sc _ h3.1 h3.2)
 | .newMatch a b c=>fun sc x h=>let h2:=band (band h).2;let h3:=band h2.2;let h4:=band h3.2;eA K (band h).1 h2.1 (gj K a sc _ h3.1) (gj K b sc _ h4.1) (gj K c sc _ h4.2)
 | .mkMatches e=>fun sc x h=>let h2:=band (band h).2;let h3:=band h2.2;let h4:=band h3.2;cD K (band h).1 h2.1 h3.1 h4.1 (gj K e sc _ h4.2)
 | .dead=>fun sc x h=>oG
theorem bV (K:TabOk G T C d):(e:Ex)→(sc:Scope)→(x:Expr)→tOk e=true→okE T e sc x=true→mr G C sc d e (reE T e sc x)
 | .not a=>fun sc x t h=>rJ (bV K a sc _ t h)
 | .and a b=>fun sc x t h=>let h2:=band (band h).2;BY (fun _ _=>rM) (bV K a sc _ (band t).1 (band h).1) (bV K b sc _ (band t).2 h2.1) h2.2
 | .or a b=>fun sc x t h=>let h2:=band (band h).2;BY (fun _ _=>vI) (bV K a sc _ (band t).1 (band h).1) (bV K b sc _ (band t).2 h2.1) h2.2
 | .cmp op a b=>fun sc x t h=>let h2:=band (band h).2;rL (gj K a sc _ (band h).1) (gj K b sc _ h2.1) ((dw _).mp h2.2)
 | .ite c a b=>fun sc x t h=>let h2:=band (band h).2;let h3:=band h2.2;rK (bV K c sc _ (band h).1 h2.1) (bV K a sc _ (band t).1 h3.1) (bV K b sc _ (band t).2 h3.2)
 | .loc i=>fun sc x t h=>by obtain⟨k,h1,h2,h3⟩:=ou h;exact qq (bZ h1 h2 h3) (fun _ _=>rfl) fun ρ σ Q q=>q
 | .attr e i=>fun sc x t h=>let h2:=band (band h).2;qq (iQ K.g (gj K e sc _ h2.2) h2.1 (i6 K (band h).1)) (fun _ _=>rfl) fun ρ σ Q q=>q
 | .callv f es=>fun sc x t h=>let h2:=band (band h).2;by obtain⟨k,e1,e2,e3⟩:=ou (band h).1;exact qq (eU K.g e1 e2 e3 (zc K es sc _ h2.1 h2.2) h2.1) (fun _ _=>rfl) fun ρ σ Q q=>q
 | .sub e i=>fun sc x t h=>let h2:=band (band h).2;qq (mQ (gj K e sc _ h2.1) (gj K i sc _ h2.2) ((dw _).mp (band h).1)) (fun _ _=>rfl) fun ρ σ Q q=>q
 | .bin op a b=>fun sc x t h=>qq (mR (gj K a sc _ (band h).1) (gj K b sc _ (band h).2)) (fun _ _=>rfl) fun ρ σ Q q=>q
 | .dead=>fun sc x t h=>oF
 | .none=>fun _ _ t _=>ft t
 | .bool _=>fun _ _ t _=>ft t
 | .int _=>fun _ _ t _=>ft t
 | .str _=>fun _ _ t _=>ft t
 | .neg _=>fun _ _ t _=>ft t
 | .lst _=>fun _ _ t _=>ft t
 | .tup _=>fun _ _ t _=>ft t
 | .dct0=>fun _ _ t _=>ft t
 | .call _ _=>fun _ _ t _=>ft t
 | .meth _ _ _=>fun _ _ t _=>ft t
 | .dgetOf _=>fun _ _ t _=>ft t
 | .shasOf _=>fun _ _ t _=>ft t
 | .bm _ _ _=>fun _ _ t _=>ft t
 | .bf _ _=>fun _ _ t _=>ft t
 | .slc _ _ _=>fun _ _ t _=>ft t
 | .comp _ _ _ _ _=>fun _ _ t _=>ft t
 | .newM _=>fun _ _ t _=>ft t
 | .newMatch _ _ _=>fun _ _ t _=>ft t
 | .mkMatches _=>fun _ _ t _=>ft t
theorem zc (K:TabOk G T C d):(es:Exs)→(sc:Scope)→(l:List Expr)→noStar (mw T es sc l)=true→cQ T es sc l=true→iy G C sc d es (mw T es sc l)
 | .nil=>fun sc l hs h=>ip
 | .cons e es=>fun sc l hs h=>du (gj K e sc _ (band h).1) (zc K es sc _ (cj hs).2 (band h).2) (cj hs).1
theorem mW (K:TabOk G T C d):(es:Exs)→(sc:Scope)→(l:List Expr)→vV T es sc l=true→lp G C sc d es (mw T es sc l)
 | .nil=>fun sc l h=>pN
 | .cons e es=>fun sc l h=>let h2:=band (band h).2;lS (bV K e sc _ (band h).1 h2.1) (mW K es sc _ h2.2)
theorem mU (K:TabOk G T C d):(it:It)→(sc:Scope)→(tp:Bool)→(x:Expr)→vU T it sc tp x=true→vo G C sc d tp it (iX T it sc x)
 | .rng1 e,sc,tp,x,h=>let h2:=band (band h).2;by obtain⟨g1,g2,g3⟩:=iw K (band h).1;exact wJ K.g (gj K e sc _ h2.2) h2.1 g1 g2 g3
 | .rng2 e f,sc,tp,x,h=>let h2:=band (band h).2;let h3:=band h2.2;by obtain⟨g1,g2,g3⟩:=iw K (band h).1;exact wI K.g (gj K e sc _ h3.1) (gj K f sc _ h3.2) h2.1 g1 g2 g3
 | .rng3 e f g,sc,tp,x,h=>let h2:=band (band h).2;let h3:=band h2.2;let h4:=band h3.2;by obtain⟨g1,g2,g3⟩:=iw K (band h).1;exact wH K.g (gj K e sc _ h3.1) (gj K f sc _ h4.1) (gj K g sc _ h4.2) h2.1 g1 g2 g3
 | .enum e,sc,true,x,h=>let h2:=band h;let h3:=band h2.2;by obtain⟨g1,g2,g3⟩:=iw K h2.1;exact wK K.g (gj K e sc _ h3.2) h3.1 g1 g2 g3
 | .enum e,sc,false,x,h=>nomatch h
 | .seq e,sc,tp,x,h=>zS (gj K e sc _ h)
theorem rN (K:TabOk G T C d):(gs:Gens)→(sc:Scope)→(x:Expr)→(l:List Comprehension)→(gens:List Comprehension)→(scope:Scope)→(pos:Pos)→(depth:Nat)→gens.drop (depth+1)=rV T gs sc l→(∀ g∈gens,g.is_async=0)→zE T gs sc l x=true→nc G C sc d gs (rX T gs sc x) gens scope pos depth
 | .elt e=>fun sc x l gens scope pos depth hd ha h=>pS (gj K e sc _ h) (xn.mpr (List.drop_eq_nil_iff.mp hd))
 | .cons it t cs more=>fun sc x l gens scope pos depth hd ha h =>
  let h2:=band (band h).2;let h3:=band h2.2;let h4:=band h3.2
  mC (mU K it sc _ _ (band h).1) (fY K t _ h2.1) (mW K cs _ _ h3.1) (rN K more sc x _ gens scope pos (depth+1) (wX hd) ha h4.1) (wY hd) (fun g' hg=>ha g' (cu hg)) (wq h4.2)
end
end
end MP
end
section
namespace MP
open PySem PyProof.Rows PySem.W
section
variable {G:Stc} {T:Tab} {C:Cal} {d:Nat} {sc:Scope}
theorem yZ (K:TabOk G T C d):(t:Tgt)→(x:Expr)→y5 T sc t x=true→aZ G C sc d t (mY T sc t x)
 | .var i,x,h=>by obtain⟨k,h1,h2,h3⟩:=ou h;exact mL h1 h2
 | .attr o i,x,h=>qG K.g (gj K o sc _ (band h).1) (i6 K (band h).2)
 | .sub o i,x,h=>uH (gj K o sc _ (band h).1) (gj K i sc _ (band h).2)
 | .tup is,x,h=>uG K.unp h
theorem tE (t:Tgt) (x:Expr) (xs:List Expr) (env:Env):assignEach (mY T sc t x::xs) env=(false,assign (mY T sc t x) env)::assignEach xs env:=by
 cases t<;>rfl
theorem mT (K:TabOk G T C d):(ts:List Tgt)→(l:List Expr)→cP T sc ts l=true→xf G C sc d ts (ru T sc ts l)
 | [],_,_=>.nil
 | t::ts,l,h=>.cons (yZ K t _ (band h).1) (tE t _ _) (mT K ts _ (band h).2)
theorem qF:(ts:List Tgt)→(l:List Expr)→lB ts=true→cP T sc ts l=true→∃ i x p,ts=[.var i]∧ru T sc ts l=[.Name x p]∧x=xg sc i∧kindAt rn sc i=true
 | []=>fun l q h=>ft q
 | t::r=>fun l q h=>by
  cases t<;>cases r<;>first | exact⟨_,_,_,rfl,rfl,rfl,(band h).1⟩ | exact ft q
theorem CE:(ts:List Tgt)→(is:List Nat)→sZ ts=some is→ts=[.tup is]
 | []=>fun is h=>et h
 | t::r=>fun is h=>by
  cases t<;>cases r<;>first | exact et h | (obtain rfl:=af h;rfl)
theorem AQ (K:TabOk G T C d) (t:Tg) (x:Expr) (h:sE sc t x=true):nT G C sc d t (gF sc t x):=(fY K t x h).plain
theorem xD {e:Ex} (h:lC e=true):∃ fv it t cs more,e=.comp fv it t cs more:=by
 cases e<;>first | exact⟨_,_,_,_,_,rfl⟩ | exact Bool.noConfusion h
theorem vJ (K:TabOk G T C d) {ts:List Tgt} {pos:Pos} {l:List Expr} {y:Expr} {e:Ex} (hc:lC e=true) (hv:lB ts=true) (ht:cP T sc ts l=true) (h:okE T e sc y=true):rz G C sc d (.assign ts e) (.Assign (ru T sc ts l) (reE T e sc y) pos):=by
  obtain⟨fv,it,t,cs,more,rfl⟩:=xD hc
  obtain⟨i,x',p',rfl,e2,rfl,hk⟩:=qF ts l hv ht
  obtain⟨kd,o1,o2,o3⟩:=ou hk
  rw [e2]
  have h2:=band (band h).2
  have h3:=band h2.2
  have h4:=band h3.2
  have h5:=band h4.2
  have h6:=band h5.2
  have h7:=band h6.2
  have h8:=band h7.2
  exact cI o1 o2 (mU K it sc _ _ (band h).1) (fY K t _ h2.1) (mW K cs _ _ h3.1) (rN K more _ _ _ _ _ _ 0 rfl (fun g hg=>(br.mp hg).elim (fun e=>e▸rfl) (vg more _ g)) h4.1) (wq h5.1) (az h6.1) (az h7.1) h8.1 h8.2 (vg more _)
theorem oM (K:TabOk G T C d) {ts:List Tgt} {e:Ex} {pos:Pos} {l:List Expr} {y:Expr} (h:okE T e sc y=true):(o:Option (Option (List Str)))→swp sc (ru T sc ts l) (reE T e sc y)=o→y6 T sc ts e (ru T sc ts l) l (reE T e sc y) o=true→rz G C sc d (.assign ts e) (.Assign (ru T sc ts l) (reE T e sc y) pos)
 | none,_,h2=>nomatch h2
 | some none,hw,h2=>(Classical.em (tj (reE T e sc y)=true)).elim (fun hc=>kH (mT K ts l (band h2).1) (gj K e sc y h) hc hw) fun hc =>
  ((ph ..).mp (band h2).2).elim (fun h3=>absurd h3 hc) fun h3=>vJ K (band h3).2 (band h3).1 (band h2).1 h
 | some (some names),hw,h2=>by
  obtain⟨is,e1,h3⟩:=any_some h2
  obtain rfl:=CE ts is e1
  exact snd_swap K.unp (gj K e sc y h) (band h3).1 hw (band (band h3).2).1 (az (band (band h3).2).2)
mutual
theorem CG (K:TabOk G T C d):(s:Stm)→(x:Stmt)→okS T sc s x=true→rz G C sc d s (reS T sc s x)
 | .assign ts e=>fun x h=>oM K (band h).1 _ rfl (band h).2
 | .aug i op e=>fun x h=>by
  obtain⟨k,o1,o2,o3⟩:=ou (band (band h).2).1
  exact vH (((ph ..).mp (band h).1).imp az az) (gj K e sc _ (band (band h).2).2) o1 o2 o3
 | .expr e=>fun x h=>qZ (gj K e sc _ (band h).2) (band h).1
 | .cond c t e=>fun x h=>let h2:=band (band h).2;let h3:=band h2.2;rE (bV K c sc _ (band h).1 h2.1) (eV K t _ h3.1) (eV K e _ h3.2)
 | .loop c b=>fun x h=>let h2:=band (band h).2;qY (bV K c sc _ (band h).1 h2.1) (eV K b _ h2.2)
 | .each t it b=>fun x h=>let h2:=band (band h).2;let h3:=band h2.2;rA (AQ K t _ (band h).1) (mU K it sc _ _ h2.1) (eV K b _ h3.1) (wq h3.2)
 | .ret e=>fun x h=>by
  show rz G C sc d _ (.Return ((uq x).head?.map (reE T e sc)) x.pos)
  have h:(match (uq x).head? with | some y=>okE T e sc y | none=>e.isNone)=true:=h
  cases q:(uq x).head? with
  | some y=>rw [q] at h;exact uS (gj K e sc y h)
  | none=>rw [q] at h;obtain rfl:=aQ h;exact qQ
 | .brk=>fun x h=>vB
 | .cont=>fun x h=>rD
 | .pass=>fun x h=>by
  show rz G C sc d _ (bif (uq x).isEmpty then _ else _)
  cases (uq x).isEmpty
  ·exact gE
  ·exact qR
 | .dead=>fun x h=>rB
theorem eV (K:TabOk G T C d):(b:jf)→(l:List Stmt)→eF T sc b l=true→ya G C sc d b (gG T sc b l)
 | .nil=>fun l h=>oK
 | .cons s ss=>fun l h=>kI (CG K s _ (band h).1) (eV K ss _ (band h).2)
end
end
end MP
end
section
namespace MP
open PySem PyProof.Rows PySem.W
structure iE (G:Stc) (T:Tab):Prop where
 g:GOk G
 gl:∀ x v,T.gl.lookup x=some v→G.gl x=some v
 attrs:G.attrs=T.attrs
 meth:∀ k name,T.meths.lookup k=some name→∃ f,T.fns.lookup k=some f∧MethAt G name f
 init:∃ f,T.fns.lookup 0=some f∧iD G f
 cM:G.cM=T.cM
 cS:G.cS=T.cS
 mt:∃ fN fM,jn G fN fM∧fP G fN∧dU G fM
 ma:mf G
structure tW (G:Stc) (T:Tab) (P:Nat→Option Fn):Prop where
 base:iE G T
 fn:∀ k a,T.fns.lookup k=some a→∃ fn sc body,P k=some fn∧FnAt G a fn.n fn.dflt sc body∧eF T sc fn.body body=true∧gG T sc fn.body body=body
section
variable {G:Stc} {T:Tab} {P:Nat→Option Fn}
theorem iE.tab (B:iE G T) {C:Cal} {d:Nat} (hc:zw G (fun k=>T.fns.lookup k) C (d-1)) (hd:3≤d):TabOk G T C d :=
 ⟨B.g,B.gl,B.attrs,hc,B.meth,B.init,B.cM,B.cS,B.mt,B.ma,CD B.ma,hd⟩
theorem tN (K:tW G T P):∀ n,zw G (fun k=>T.fns.lookup k) (dn P n) (2*n+2)
 | 0=>fun k a hk=>by
  obtain⟨fn,sc,body,hp,hf,hc⟩:=K.fn k a hk
  obtain⟨o,fd,h1,h2,_⟩:=hf.here
  exact⟨⟨o,fd,h1,h2⟩,fun A E vs ws σ Q s ao R vr h=>h.elim⟩
 | n+1=>fun k a hk=>by
  obtain⟨fn,sc,body,hp,hf,hc⟩:=K.fn k a hk
  obtain⟨o,fd,h1,h2,_⟩:=hf.here
  refine⟨⟨o,fd,h1,h2⟩,fun A E vs ws σ Q s ao R vr h=>?_⟩
  obtain⟨fn',hp',l1,l2,h⟩:=h
  obtain rfl:=af (hp.symm.trans hp')
  have tb:TabOk G T (dn P n) (2*n+3):=K.base.tab (tN K n) (by(exact Ar.a0 [] [_] (.k (.n 3) (.a (.m 2 .v0) (.n 3))) [[1]]))
  exact xK (b:=fn.body) (d:=2*n+3) hf (hc.2▸eV tb fn.body body hc.1) ao R vr l1 l2 h
end
end MP
end
section
namespace MP
open PySem PyProof.Rows PySem.W
noncomputable def yO:Value→Tok
 | .int _ t=>t
 | .str _ t=>t
 | _=>0
noncomputable def mK:Value→Addr
 | .ref a=>a
 | _=>0
noncomputable def lR:V→Value→Bool
 | .none=>fun w=>decide (w=.none)
 | .bool a=>fun w=>decide (w=.bool a)
 | .int a=>fun w=>decide (w=.int a (yO w))
 | .str a=>fun w=>decide (w=.str a (yO w))
 | _=>fun _=>false
noncomputable def c8:List V→List Value→Bool
 | []=>fun ws=>ws.isEmpty
 | v::vs=>fun ws=>!ws.isEmpty&&(lR v (ws.headD .none)&&c8 vs ws.tail)
theorem pK {G:Stc} {h:Heap} {v:V} {w:Value} (e:lR v w=true):VR G h v w:=by
 cases v<;>first | exact az e▸.none | exact az e▸.bool _ | exact az e▸.int _ _ | exact az e▸.str _ _ | exact Bool.noConfusion e
theorem dM {G:Stc} {h:Heap}:(vs:List V)→(ws:List Value)→c8 vs ws=true→VRs G h vs ws
 | []=>fun ws e=>by
  cases ws with
  | nil=>exact .nil
  | cons w ws=>exact Bool.noConfusion (show false=true from e)
 | v::vs=>fun ws e=>by
  cases ws with
  | nil=>exact Bool.noConfusion (show false=true from e)
  | cons w ws =>
   have e:=band (show(lR v w&&c8 vs ws)=true from e)
   exact .cons (pK e.1) (dM vs ws e.2)
noncomputable def lO:Data→Option FuncData
 | .func f=>some f
 | _=>none
noncomputable def dJ:Data→Option (Array Value)
 | .fields vs=>some vs
 | _=>none
noncomputable def nM:Data→Option (Array Value × Nat)
 | .seq vs n=>some (vs,n)
 | _=>none
theorem pJ {d:Data} {f:FuncData} (h:lO d=some f):d=.func f:=by
 cases d<;>first | exact bu _ (af h) | exact et h
theorem eI {d:Data} {f:Array Value} (h:dJ d=some f):d=.fields f:=by
 cases d<;>first | exact bu _ (af h) | exact et h
theorem lN {d:Data} {f:Array Value × Nat} (h:nM d=some f):d=.seq f.1 f.2:=by
 cases d<;>first | exact af h▸rfl | exact et h
noncomputable def tQ:FuncBody→Option (List Stmt)
 | .stmts b=>some b
 | .expr _=>none
theorem tP {d:FuncBody} {f:List Stmt} (h:tQ d=some f):d=.stmts f:=by
 cases d
 ·exact bu _ (af h)
 ·exact et h
noncomputable def told {α:Type} (f:Data→Option α) (h:Heap) (a:Addr):Option α:=(h.get? a).bind fun o=>f o.data
theorem fX {α:Type} {f:Data→Option α} {h:Heap} {a:Addr} {x:α} (e:told f h a=some x):∃ o,h.get? a=some o∧f o.data=some x:=cq.mp e
noncomputable def nQ (h:Heap) (cd:Value) (q:Str):Bool:=decide (cd=.ref (mK cd))&&(told dJ h (mK cd)).any fun vs=>(vs[1]?:Option Value).any fun w=>decide (w=.str q (yO w))
noncomputable def x9 (h:Heap) (dflt:List V) (v:Value):Bool:=(decide (v=.none)&&dflt.isEmpty)||(decide (v=.ref (mK v))&&(told nM h (mK v)).any fun ds=>c8 dflt ds.1.toList)
noncomputable def BG (T:Tab) (h:Heap) (fn:Fn) (fd:FuncData) (body:List Stmt):Bool :=
 decide (fd.scope.kind=.function)&&(!fd.scope.isCoroutine&&(!fd.scope.isGenerator&&(decide ((fd.scope.names.map (·.1)).Nodup)&&(fd.scope.names.all (fun p=>p.2 != .free)&&(fd.closure.isEmpty&&(decide (fd.globals=mainGlobals)&&(decide (fd.builtins=builtinsNs) &&
 (nQ h fd.code fd.qualname&&(wo fd.params&&(lj (fd.params.args.map (·.arg)) fd.scope.names&&(decide (fd.params.args.length=fn.n)&&(x9 h fn.dflt fd.defaults&&(decide (fn.dflt.length≤fn.n)&&eF T fd.scope fn.body body)))))))))))))
noncomputable def zY (fd:FuncData):Option (Scope × List Stmt):=(tQ fd.body).map fun b=>(fd.scope,b)
noncomputable def bodyOf (h:Heap) (a:Addr):Option (Scope × List Stmt):=(told lO h a).bind zY
noncomputable def fC (T:Tab) (h:Heap) (fn:Fn) (a:Addr):Bool:=(told lO h a).any fun fd=>(tQ fd.body).any fun b=>BG T h fn fd b
theorem lU {h:Heap} {cd:Value} {q:Str} (e:nQ h cd q=true):h.CodeRec cd q:=by
 obtain⟨vs,hv,e2⟩:=any_some (band e).2
 obtain⟨o,ho,hd⟩:=fX hv
 obtain⟨w,hw,e3⟩:=any_some e2
 exact⟨_,o,vs,_,az (band e).1,ho,eI hd,hw.trans (bu some (az e3))⟩
theorem gQ {l:List (Str × NameKind)} (h:l.all (fun p=>p.2 != .free)=true) (i:Nat) (x:Str):l[i]?≠some (x,.free):=fun e =>
 absurd (gi.mp h _ (cu e)) (by simp)
theorem yE {G:Stc} {T:Tab} {fn:Fn} {a:Addr} {h₀:Heap} (hk:∀ b o,h₀.get? b=some o→G.hb.get? b=some o) (lim:G.hb.NoLimit) (e:fC T h₀ fn a=true):∃ x,bodyOf h₀ a=some x∧FnAt G a fn.n fn.dflt x.1 x.2∧eF T x.1 fn.body x.2=true:=by
 obtain⟨fd,h1,e⟩:=any_some e
 obtain⟨b,h2,e⟩:=any_some e
 obtain⟨o,ho,hd⟩:=fX h1
 have g1:=band e
 have g2:=band g1.2
 have g3:=band g2.2
 have g4:=band g3.2
 have g5:=band g4.2
 have g6:=band g5.2
 have g7:=band g6.2
 have g8:=band g7.2
 have g9:=band g8.2
 have g10:=band g9.2
 have g11:=band g10.2
 have g12:=band g11.2
 have g13:=band g12.2
 have g14:=band g13.2
 refine⟨(fd.scope,b),(cq.mpr ⟨fd,h1,bu (Option.map fun b=>(fd.scope,b)) h2⟩),⟨lim,az g1.1,(dw _).mp g2.1,(dw _).mp g3.1,az g4.1,gQ g5.1,o,fd,hk _ _ ho,pJ hd,rfl,tP h2,List.isEmpty_iff.mp g6.1,az g7.1,az g8.1,(lU g9.1).keeps hk,g10.1,g11.1,az g12.1,?_,az g14.1⟩,g14.2⟩
 refine((ph ..).mp g13.1).imp (fun q=>⟨az (band q).1,List.isEmpty_iff.mp (band q).2⟩) fun q=>?_
 obtain⟨ds,h3,q2⟩:=any_some (band q).2
 obtain⟨ot,hot,hds⟩:=fX h3
 exact⟨_,ot,ds.1.toList,ds.2,az (band q).1,hk _ _ hot,lN hds,dM _ _ q2⟩
noncomputable def z9 (T:Tab) (fn:Fn) (x:Scope × List Stmt):Scope × List Stmt:=(x.1,gG T x.1 fn.body x.2)
theorem BD {G:Stc} {T:Tab} {fn:Fn} {a:Addr} {h₀:Heap} (hk:∀ b o,h₀.get? b=some o→G.hb.get? b=some o) (lim:G.hb.NoLimit) (e:fC T h₀ fn a=true) (e':bodyOf h₀ a=(bodyOf h₀ a).map (z9 T fn)) :
  ∃ sc body,FnAt G a fn.n fn.dflt sc body∧eF T sc fn.body body=true∧gG T sc fn.body body=body:=by
 obtain⟨x,hx,h1,h2⟩:=yE hk lim e
 rw [hx] at e'
 exact⟨x.1,x.2,h1,h2,(bu Prod.snd (af e')).symm⟩
theorem nF {G:Stc} {T:Tab} {fn:Fn} {a:Addr} {h₀:Heap} (hk:∀ b o,h₀.get? b=some o→G.hb.get? b=some o) (lim:G.hb.NoLimit) (e:fC T h₀ fn a=true) {f:Scope × List Stmt→Scope × List Stmt} (e':bodyOf h₀ a=(bodyOf h₀ a).map f):∃ x,bodyOf h₀ a=some x∧FnAt G a fn.n fn.dflt (f x).1 (f x).2:=by
 obtain⟨x,hx,h1,_⟩:=yE hk lim e
 rw [hx] at e'
 exact⟨x,hx,af e'▸h1⟩
end MP
end
section
namespace MP
namespace SM
noncomputable def fn0:Fn:=⟨5,[.none,.str "",.str "",.bool true],(.cons .pass
 (.cons (.assign [(.attr (.loc 0) 0)] (.loc 1))
 (.cons (.assign [(.attr (.loc 0) 1),(.attr (.loc 0) 2)] .none)
 (.cons (.assign [(.attr (.loc 0) 3)] (.loc 4))
 (.cons (.expr (.meth (.loc 0) 1 (.cons (.loc 2) (.cons (.loc 3) .nil))))
 .nil)))))⟩
noncomputable def fn1:Fn:=⟨3,[],(.cons .pass
 (.cons (.expr (.meth (.loc 0) 2 (.cons (.loc 1) .nil)))
 (.cons (.expr (.meth (.loc 0) 3 (.cons (.loc 2) .nil)))
 .nil)))⟩
noncomputable def fn2:Fn:=⟨2,[],(.cons .pass
 (.cons (.cond (.cmp .is (.loc 1) (.attr (.loc 0) 1)) (.cons (.ret .none)
 .nil) .nil)
 (.cons (.assign [(.attr (.loc 0) 1)] (.loc 1))
 (.cons (.assign [(.attr (.loc 0) 4),(.attr (.loc 0) 5)] .none)
 .nil))))⟩
noncomputable def fn3:Fn:=⟨2,[],(.cons .pass
 (.cons (.cond (.cmp .is (.loc 1) (.attr (.loc 0) 2)) (.cons (.ret .none)
 .nil) .nil)
 (.cons (.assign [(.attr (.loc 0) 2)] (.loc 1))
 (.cons (.assign [(.attr (.loc 0) 4),(.attr (.loc 0) 5)] .none)
 (.cons (.assign [(.attr (.loc 0) 6)] .none)
 (.cons (.expr (.meth (.loc 0) 4 .nil))
 .nil))))))⟩
noncomputable def fn4:Fn:=⟨1,[],(.cons (.assign [(.var 1)] (.attr (.loc 0) 2))
 (.cons (.assign [(.attr (.loc 0) 7),(.var 2)] .dct0)
 (.cons (.each (.tup [3,4]) (.enum (.loc 1)) (.cons (.assign [(.var 5)] (.bm .setdefault (.loc 2) (.cons (.loc 4) (.cons (.lst .nil) .nil))))
 (.cons (.expr (.bm .append (.loc 5) (.cons (.loc 3) .nil)))
 .nil)))
 (.cons (.assign [(.attr (.loc 0) 8),(.var 6)] (.bf .set .nil))
 (.cons (.assign [(.var 7)] (.attr (.loc 0) 0))
 (.cons (.cond (.loc 7) (.cons .dead
 (.cons (.each (.var 4) (.seq (.loc 6)) (.cons .dead
 .nil))
 .nil)) .nil)
 (.cons (.assign [(.attr (.loc 0) 9),(.var 8)] (.bf .set .nil))
 (.cons (.assign [(.var 9)] (.bf .len (.cons (.loc 1) .nil)))
 (.cons (.cond (.and (.attr (.loc 0) 3) (.cmp .ge (.loc 9) (.int 200))) (.cons (.assign [(.var 10)] (.bin .add (.bin .fdiv (.loc 9) (.int 100)) (.int 1)))
 (.cons .dead
 (.cons (.each (.var 4) (.seq (.loc 8)) (.cons .dead
 .nil))
 .nil))) .nil)
 .nil)))))))))⟩
noncomputable def fn5:Fn:=⟨5,[.int 0,.none,.int 0,.none],(.cons .pass
 (.cons (.assign [(.tup [5,6,7,8])] (.tup (.cons (.attr (.loc 0) 1) (.cons (.attr (.loc 0) 2) (.cons (.attr (.loc 0) 7) (.cons (.shasOf (.attr (.loc 0) 8)) .nil))))))
 (.cons (.cond (.cmp .is (.loc 2) .none) (.cons (.assign [(.var 2)] (.bf .len (.cons (.loc 5) .nil)))
 .nil) .nil)
 (.cons (.cond (.cmp .is (.loc 4) .none) (.cons (.assign [(.var 4)] (.bf .len (.cons (.loc 6) .nil)))
 .nil) .nil)
 (.cons (.assign [.tup [9,10,11]] (.tup (.cons (.loc 1) (.cons (.loc 3) (.cons (.int 0) .nil)))))
 (.cons (.assign [(.var 12)] .dct0)
 (.cons (.assign [(.var 13)] (.lst .nil))
 (.cons (.each (.var 14) (.rng2 (.loc 1) (.loc 2)) (.cons (.assign [(.var 15)] (.dgetOf (.loc 12)))
 (.cons (.assign [(.var 16)] .dct0)
 (.cons (.each (.var 17) (.seq (.bm .get (.loc 7) (.cons (.sub (.loc 5) (.loc 14)) (.cons (.loc 13) .nil)))) (.cons (.cond (.cmp .lt (.loc 17) (.loc 3)) (.cons .cont
 .nil) .nil)
 (.cons (.cond (.cmp .ge (.loc 17) (.loc 4)) (.cons .brk
 .nil) .nil)
 (.cons (.assign [(.var 18),(.sub (.loc 16) (.loc 17))] (.bin .add (.callv 15 (.cons (.bin .sub (.loc 17) (.int 1)) (.cons (.int 0) .nil))) (.int 1)))
 (.cons (.cond (.cmp .gt (.loc 18) (.loc 11)) (.cons (.assign [.tup [9,10,11]] (.tup (.cons (.bin .add (.bin .sub (.loc 14) (.loc 18)) (.int 1)) (.cons (.bin .add (.bin .sub (.loc 17) (.loc 18)) (.int 1)) (.cons (.loc 18) .nil)))))
 .nil) .nil)
 .nil)))))
 (.cons (.assign [(.var 12)] (.loc 16))
 .nil)))))
 (.cons (.loop (.and (.cmp .gt (.loc 9) (.loc 1)) (.and (.cmp .gt (.loc 10) (.loc 3)) (.and (.not (.callv 8 (.cons (.sub (.loc 6) (.bin .sub (.loc 10) (.int 1))) .nil))) (.cmp .eq (.sub (.loc 5) (.bin .sub (.loc 9) (.int 1))) (.sub (.loc 6) (.bin .sub (.loc 10) (.int 1))))))) (.cons (.assign [.tup [9,10,11]] (.tup (.cons (.bin .sub (.loc 9) (.int 1)) (.cons (.bin .sub (.loc 10) (.int 1)) (.cons (.bin .add (.loc 11) (.int 1)) .nil)))))
 .nil))
 (.cons (.loop (.and (.cmp .lt (.bin .add (.loc 9) (.loc 11)) (.loc 2)) (.and (.cmp .lt (.bin .add (.loc 10) (.loc 11)) (.loc 4)) (.and (.not (.callv 8 (.cons (.sub (.loc 6) (.bin .add (.loc 10) (.loc 11))) .nil))) (.cmp .eq (.sub (.loc 5) (.bin .add (.loc 9) (.loc 11))) (.sub (.loc 6) (.bin .add (.loc 10) (.loc 11))))))) (.cons (.aug 11 .add (.int 1))
 .nil))
 (.cons (.loop (.and (.cmp .gt (.loc 9) (.loc 1)) (.and (.cmp .gt (.loc 10) (.loc 3)) (.and (.callv 8 (.cons (.sub (.loc 6) (.bin .sub (.loc 10) (.int 1))) .nil)) (.cmp .eq (.sub (.loc 5) (.bin .sub (.loc 9) (.int 1))) (.sub (.loc 6) (.bin .sub (.loc 10) (.int 1))))))) (.cons (.assign [.tup [9,10,11]] (.tup (.cons (.bin .sub (.loc 9) (.int 1)) (.cons (.bin .sub (.loc 10) (.int 1)) (.cons (.bin .add (.loc 11) (.int 1)) .nil)))))
 .nil))
 (.cons (.loop (.and (.cmp .lt (.bin .add (.loc 9) (.loc 11)) (.loc 2)) (.and (.cmp .lt (.bin .add (.loc 10) (.loc 11)) (.loc 4)) (.and (.callv 8 (.cons (.sub (.loc 6) (.bin .add (.loc 10) (.loc 11))) .nil)) (.cmp .eq (.sub (.loc 5) (.bin .add (.loc 9) (.loc 11))) (.sub (.loc 6) (.bin .add (.loc 10) (.loc 11))))))) (.cons (.assign [(.var 11)] (.bin .add (.loc 11) (.int 1)))
 .nil))
 (.cons (.ret (.newMatch (.loc 9) (.loc 10) (.loc 11)))
 .nil)))))))))))))⟩
noncomputable def fn6:Fn:=⟨1,[],(.cons .pass
 (.cons (.cond (.cmp .isNot (.attr (.loc 0) 4) .none) (.cons (.ret (.attr (.loc 0) 4))
 .nil) .nil)
 (.cons (.assign [.tup [1,2]] (.tup (.cons (.bf .len (.cons (.attr (.loc 0) 1) .nil)) (.cons (.bf .len (.cons (.attr (.loc 0) 2) .nil)) .nil))))
 (.cons (.assign [(.var 3)] (.lst (.cons (.tup (.cons (.int 0) (.cons (.loc 1) (.cons (.int 0) (.cons (.loc 2) .nil))))) .nil)))
 (.cons (.assign [(.var 4)] (.lst .nil))
 (.cons (.loop (.loc 3) (.cons (.assign [(.tup [5,6,7,8])] (.bm .pop (.loc 3) .nil))
 (.cons (.assign [(.tup [9,10,11]),(.var 12)] (.meth (.loc 0) 5 (.cons (.loc 5) (.cons (.loc 6) (.cons (.loc 7) (.cons (.loc 8) .nil))))))
 (.cons (.cond (.loc 11) (.cons (.expr (.bm .append (.loc 4) (.cons (.loc 12) .nil)))
 (.cons (.cond (.and (.cmp .lt (.loc 5) (.loc 9)) (.cmp .lt (.loc 7) (.loc 10))) (.cons (.expr (.bm .append (.loc 3) (.cons (.tup (.cons (.loc 5) (.cons (.loc 9) (.cons (.loc 7) (.cons (.loc 10) .nil))))) .nil)))
 .nil) .nil)
 (.cons (.cond (.and (.cmp .lt (.bin .add (.loc 9) (.loc 11)) (.loc 6)) (.cmp .lt (.bin .add (.loc 10) (.loc 11)) (.loc 8))) (.cons (.expr (.bm .append (.loc 3) (.cons (.tup (.cons (.bin .add (.loc 9) (.loc 11)) (.cons (.loc 6) (.cons (.bin .add (.loc 10) (.loc 11)) (.cons (.loc 8) .nil))))) .nil)))
 .nil) .nil)
 .nil))) .nil)
 .nil))))
 (.cons (.expr (.bm .sort (.loc 4) .nil))
 (.cons (.assign [(.var 13),(.var 14),(.var 15)] (.int 0))
 (.cons (.assign [(.var 16)] (.lst .nil))
 (.cons (.each (.tup [17,18,19]) (.seq (.loc 4)) (.cons (.cond (.and (.cmp .eq (.bin .add (.loc 13) (.loc 15)) (.loc 17)) (.cmp .eq (.bin .add (.loc 14) (.loc 15)) (.loc 18))) (.cons (.aug 15 .add (.loc 19))
 .nil) (.cons (.cond (.loc 15) (.cons (.expr (.bm .append (.loc 16) (.cons (.tup (.cons (.loc 13) (.cons (.loc 14) (.cons (.loc 15) .nil)))) .nil)))
 .nil) .nil)
 (.cons (.assign [.tup [13,14,15]] (.tup (.cons (.loc 17) (.cons (.loc 18) (.cons (.loc 19) .nil)))))
 .nil)))
 .nil))
 (.cons (.cond (.loc 15) (.cons (.expr (.bm .append (.loc 16) (.cons (.tup (.cons (.loc 13) (.cons (.loc 14) (.cons (.loc 15) .nil)))) .nil)))
 .nil) .nil)
 (.cons (.expr (.bm .append (.loc 16) (.cons (.tup (.cons (.loc 1) (.cons (.loc 2) (.cons (.int 0) .nil)))) .nil)))
 (.cons (.assign [(.attr (.loc 0) 4)] (.mkMatches (.loc 16)))
 (.cons (.ret (.attr (.loc 0) 4))
 .nil))))))))))))))⟩
end SM
end MP
end
section
namespace MP
namespace SM
noncomputable def fn7:Fn:=⟨1,[],(.cons .pass
 (.cons (.cond (.cmp .isNot (.attr (.loc 0) 5) .none) (.cons (.ret (.attr (.loc 0) 5))
 .nil) .nil)
 (.cons (.assign [(.var 1),(.var 2)] (.int 0))
 (.cons (.assign [(.attr (.loc 0) 5),(.var 3)] (.lst .nil))
 (.cons (.each (.tup [4,5,6]) (.seq (.meth (.loc 0) 6 .nil)) (.cons (.assign [(.var 7)] (.str ""))
 (.cons (.cond (.and (.cmp .lt (.loc 1) (.loc 4)) (.cmp .lt (.loc 2) (.loc 5))) (.cons (.assign [(.var 7)] (.str "replace"))
 .nil) (.cons (.cond (.cmp .lt (.loc 1) (.loc 4)) (.cons (.assign [(.var 7)] (.str "delete"))
 .nil) (.cons (.cond (.cmp .lt (.loc 2) (.loc 5)) (.cons (.assign [(.var 7)] (.str "insert"))
 .nil) .nil)
 .nil))
 .nil))
 (.cons (.cond (.loc 7) (.cons (.expr (.bm .append (.loc 3) (.cons (.tup (.cons (.loc 7) (.cons (.loc 1) (.cons (.loc 4) (.cons (.loc 2) (.cons (.loc 5) .nil)))))) .nil)))
 .nil) .nil)
 (.cons (.assign [.tup [1,2]] (.tup (.cons (.bin .add (.loc 4) (.loc 6)) (.cons (.bin .add (.loc 5) (.loc 6)) .nil))))
 (.cons (.cond (.loc 6) (.cons (.expr (.bm .append (.loc 3) (.cons (.tup (.cons (.str "equal") (.cons (.loc 4) (.cons (.loc 1) (.cons (.loc 5) (.cons (.loc 2) .nil)))))) .nil)))
 .nil) .nil)
 .nil))))))
 (.cons (.ret (.loc 3))
 .nil))))))⟩
end SM
end MP
end
section
namespace MP
namespace R4
open SM
noncomputable def BE:Fn:=⟨2,[],(.cons (.ret (.meth (.newM (.cons .none (.cons (.loc 0) (.cons (.loc 1) (.cons (.bool false) .nil))))) 7 .nil))
 .nil)⟩
noncomputable def CQ:Fn:=⟨3,[],(.cons (.ret (.comp [(6,1),(7,2)] (.seq (.loc 0)) (.tup [1,2,3,4,5]) (.cons (.cmp .eq (.loc 1) (.str "equal")) .nil) (.elt (.tup (.cons (.bin .add (.loc 6) (.loc 2)) (.cons (.bin .add (.loc 7) (.loc 4)) (.cons (.bin .sub (.loc 3) (.loc 2)) .nil)))))))
 .nil)⟩
noncomputable def CP:Fn:=⟨3,[],(.cons (.assign [(.var 3)] (.lst (.cons (.tup (.cons (.int 0) (.cons (.int 0) .nil))) .nil)))
 (.cons (.each (.tup [4,5,6]) (.seq (.loc 0)) (.cons (.expr (.bm .extend (.loc 3) (.cons (.lst (.cons (.tup (.cons (.loc 4) (.cons (.loc 5) .nil))) (.cons (.tup (.cons (.bin .add (.loc 4) (.loc 6)) (.cons (.bin .add (.loc 5) (.loc 6)) .nil))) .nil))) .nil)))
 .nil))
 (.cons (.expr (.bm .append (.loc 3) (.cons (.tup (.cons (.loc 1) (.cons (.loc 2) .nil))) .nil)))
 (.cons (.assign [(.var 7)] (.lst .nil))
 (.cons (.each (.var 8) (.rng2 (.int 1) (.bf .len (.cons (.loc 3) .nil))) (.cons (.assign [(.tup [9,10])] (.sub (.loc 3) (.bin .sub (.loc 8) (.int 1))))
 (.cons (.assign [(.tup [11,12])] (.sub (.loc 3) (.loc 8)))
 (.cons (.assign [(.var 13)] (.ite (.cmp .eq (.bin .mod (.loc 8) (.int 2)) (.int 0)) (.str "equal") (.ite (.cmp .eq (.loc 9) (.loc 11)) (.str "insert") (.ite (.cmp .eq (.loc 10) (.loc 12)) (.str "delete") (.str "replace")))))
 (.cons (.cond (.cmp .ne (.tup (.cons (.loc 9) (.cons (.loc 10) .nil))) (.tup (.cons (.loc 11) (.cons (.loc 12) .nil)))) (.cons (.expr (.bm .append (.loc 7) (.cons (.tup (.cons (.loc 13) (.cons (.loc 9) (.cons (.loc 11) (.cons (.loc 10) (.cons (.loc 12) .nil)))))) .nil)))
 .nil) .nil)
 .nil)))))
 (.cons (.ret (.loc 7))
 .nil))))))⟩
noncomputable def wQ:Fn:=⟨2,[],(.cons (.assign [(.var 2)] (.tup (.cons (.int 0) (.cons (.int 0) (.cons (.int 0) .nil)))))
 (.cons (.each (.var 3) (.rng1 (.bf .len (.cons (.loc 0) .nil))) (.cons (.each (.var 4) (.rng1 (.bf .len (.cons (.loc 1) .nil))) (.cons (.assign [(.var 5)] (.int 0))
 (.cons (.loop (.and (.cmp .lt (.bin .add (.loc 3) (.loc 5)) (.bf .len (.cons (.loc 0) .nil))) (.and (.cmp .lt (.bin .add (.loc 4) (.loc 5)) (.bf .len (.cons (.loc 1) .nil))) (.cmp .eq (.sub (.loc 0) (.bin .add (.loc 3) (.loc 5))) (.sub (.loc 1) (.bin .add (.loc 4) (.loc 5)))))) (.cons (.aug 5 .add (.int 1))
 .nil))
 (.cons (.cond (.cmp .gt (.loc 5) (.sub (.loc 2) (.int 2))) (.cons (.assign [(.var 2)] (.tup (.cons (.loc 3) (.cons (.loc 4) (.cons (.loc 5) .nil)))))
 .nil) .nil)
 .nil))))
 .nil))
 (.cons (.ret (.loc 2))
 .nil)))⟩
noncomputable def wO:Fn:=⟨1,[],(.cons (.assign [(.var 1)] (.ite (.loc 0) (.sub (.loc 0) (.int 0)) (.int 0)))
 (.cons (.assign [(.var 2)] (.comp [(2,1)] (.seq (.slc (.loc 0) (.int 1) (.int 63))) (.var 1) .nil (.elt (.ite (.cmp .gt (.bin .mod (.loc 2) (.int 4)) (.int 0)) (.bin .mod (.loc 1) (.bin .add (.bin .mod (.loc 2) (.int 4)) (.int 2))) (.loc 1)))))
 (.cons (.assign [(.var 3)] (.bin .mod (.bin .fdiv (.loc 1) (.int 4)) (.bin .add (.bf .len (.cons (.loc 2) .nil)) (.int 1))))
 (.cons (.assign [.tup [4,5]] (.tup (.cons (.slc (.loc 2) .none (.loc 3)) (.cons (.slc (.loc 2) (.loc 3) .none) .nil))))
 (.cons (.assign [(.var 6)] (.call 10 (.cons (.loc 4) (.cons (.loc 5) .nil))))
 (.cons (.assign [(.var 7)] (.call 11 (.cons (.loc 6) (.cons (.int 0) (.cons (.int 0) .nil)))))
 (.cons (.assign [(.var 8)] (.call 13 (.cons (.loc 4) (.cons (.loc 5) .nil))))
 (.cons (.cond (.cmp .ne (.loc 6) (.call 12 (.cons (.loc 7) (.cons (.bf .len (.cons (.loc 4) .nil)) (.cons (.bf .len (.cons (.loc 5) .nil)) .nil))))) (.cons (.ret (.bool false))
 .nil) .nil)
 (.cons (.cond (.cmp .ne (.slc (.comp [(2,8)] (.seq (.loc 7)) (.var 1) (.cons (.cmp .ge (.sub (.loc 1) (.int 2)) (.sub (.loc 2) (.int 2))) .nil) (.elt (.loc 1))) .none (.int 1)) (.comp [] (.seq (.lst (.cons (.loc 8) .nil))) (.var 1) (.cons (.cmp .gt (.sub (.loc 1) (.int 2)) (.int 0)) .nil) (.elt (.loc 1)))) (.cons (.ret (.bool false))
 .nil) .nil)
 (.cons (.assign [(.var 9)] (.bin .add (.bin .add (.lst (.cons (.tup (.cons (.int 0) (.cons (.int 0) (.cons (.int 0) .nil)))) .nil)) (.loc 7)) (.lst (.cons (.tup (.cons (.bf .len (.cons (.loc 4) .nil)) (.cons (.bf .len (.cons (.loc 5) .nil)) (.cons (.int 0) .nil)))) .nil))))
 (.cons (.each (.var 10) (.rng2 (.int 1) (.bf .len (.cons (.loc 9) .nil))) (.cons (.assign [(.tup [11,12,13])] (.sub (.loc 9) (.bin .sub (.loc 10) (.int 1))))
 (.cons (.assign [(.tup [14,15,16])] (.sub (.loc 9) (.loc 10)))
 (.cons (.each (.var 17) (.rng2 (.bin .add (.loc 11) (.loc 13)) (.bin .add (.loc 14) (.int 1))) (.cons (.each (.var 18) (.rng2 (.bin .add (.loc 12) (.loc 13)) (.bin .add (.loc 15) (.int 1))) (.cons (.assign [(.var 19)] (.call 11 (.cons (.call 10 (.cons (.slc (.loc 4) .none (.loc 17)) (.cons (.slc (.loc 5) .none (.loc 18)) .nil))) (.cons (.int 0) (.cons (.int 0) .nil)))))
 (.cons (.assign [(.var 20)] (.call 11 (.cons (.call 10 (.cons (.slc (.loc 4) (.loc 17) .none) (.cons (.slc (.loc 5) (.loc 18) .none) .nil))) (.cons (.loc 17) (.cons (.loc 18) .nil)))))
 (.cons (.cond (.cmp .ne (.bin .add (.loc 19) (.loc 20)) (.loc 7)) (.cons (.ret (.bool false))
 .nil) .nil)
 .nil))))
 .nil))
 .nil))))
 (.cons (.ret (.bool true))
 .nil))))))))))))⟩
noncomputable def P (k:Nat):Option Fn:=match k with
 | 0=>some fn0 | 1=>some fn1 | 2=>some fn2 | 3=>some fn3 | 4=>some fn4 | 5=>some fn5 | 6=>some fn6 | 7=>some fn7 | 10=>some BE | 11=>some CQ | 12=>some CP | 13=>some wQ | 14=>some wO | _=>none
noncomputable def tab:Tab where
 gl:=[("len",.builtin "len"),("min",.builtin "min"),("max",.builtin "max"),("divmod",.builtin "divmod"),("set",.type "set"),("list",.type "list"),("range",.type "range"),("map",.type "map"),("enumerate",.type "enumerate"),("tuple",.type "tuple"),("Match",.ref 135),("SequenceMatcher",.ref 242),("_law_told",.ref 253),("_law_kept",.ref 258),("_law_codes",.ref 265),("_law_longest",.ref 272),("law",.ref 277)]
 attrs:=["isjunk","a","b","autojunk","matching_blocks","opcodes","fullbcount","b2j","bjunk","bpopular"]
 meths:=[(0,"__init__"),(1,"set_seqs"),(2,"set_seq1"),(3,"set_seq2"),(4,"_SequenceMatcher__chain_b"),(5,"find_longest_match"),(6,"get_matching_blocks"),(7,"get_opcodes")]
 fns:=[(0,160),(1,167),(2,174),(3,181),(4,188),(5,196),(6,203),(7,210),(10,253),(11,258),(12,265),(13,272),(14,277)]
 cM:=135
 cS:=242
end R4
end MP
end
section
namespace MP
open PySem PyProof.Rows PySem.W
noncomputable def newOf (b:List Stmt):List Stmt :=
 let s0:=b.getD 0 default;let s1:=b.getD 1 default;let d:=st0 s0;let c:=st0 s1;let f:=kid 0 c;let t:=kid 2 c
 gR d.pos s0.pos (kid 0 f).pos f.pos (kid 1 c).pos (kid 0 t).pos (kid 1 t).pos (kid 2 t).pos t.pos c.pos s1.pos (t8 d) (exK d) (exK t)
noncomputable def vX (b:List Stmt):Bool:=(kid 0 (st0 (b.getD 1 default))).pos.endLine==(st0 (b.getD 1 default)).pos.line
noncomputable def gU (b:List Stmt):List Pos :=
 let s0:=b.getD 0 default;let s1:=b.getD 1 default;let s2:=b.getD 2 default;let s3:=b.getD 3 default;let c:=st0 s1;let q:=st0 s2;let l:=kid 0 q
 [(st0 s0).pos,s0.pos,((uq s1).getD 1 default).pos,(kid 0 (kid 0 c)).pos,(kid 0 c).pos,(kid 1 c).pos,(kid 2 c).pos,c.pos,s1.pos,(kid 0 l).pos,(kid 1 l).pos,l.pos,(kid 1 q).pos,q.pos,s2.pos,(st0 s3).pos,s3.pos]
noncomputable def s9 (l:List Pos):Fin 20→Pos:=fun i=>l.getD i.1 ⟨0,0,0,0⟩
noncomputable def zO (b:List Stmt):List Stmt:=cU (s9 (gU b)) (t8 (st0 (b.getD 0 default))) (exK (st0 (b.getD 0 default))) (exK (kid 1 (st0 (b.getD 2 default)))) (sw (b.getD 2 default)).b
noncomputable def sO (b:List Stmt):Bool:=(s9 (gU b) 4).endLine==(s9 (gU b) 7).line
end MP
end
section
open PySem PySem.W PyProof.Rows
set_option maxHeartbeats 0
namespace Mine
open MP
noncomputable def tB (w:World) (os:OsState):Thread:=⟨zI (vm (tA w os)),(tA w os).code,(tA w os).pos,(tA w os).stack⟩
noncomputable def XB (w:World) (os:OsState):Option (Flow × SharedT × Code × Pos):=AX TB pw w 11 an 1 400 (sA w os) (tB w os)
noncomputable def s3 (w:World) (os:OsState):SharedT:=(XB w os).elim (S4 w os) (·.2.1)
noncomputable def F (w:World) (os:OsState):Shared:=(s3 w os).abs
noncomputable def viewOf (p:Program):Program:={ p with main:={ p.main with body:=[0,2,3,4,5,7,8,9,10,11].filterMap fun i=>p.main.body[i]? } }
noncomputable def qv:Program:=viewOf pw
noncomputable abbrev loose:List Str:=[Str.ofString "_tuplegetter",Str.ofString "Match",Str.ofString "SequenceMatcher"]
abbrev rw4:=PySem.Challenge.rw_dm0056_04
noncomputable abbrev Xt:Shared→Bool:=fun s=>xlAt qv [] s&&recOk (RowW.records rw4.row.toRowW) s
noncomputable def n7 (w:World) (s:Shared):Bool:=staticsOk (importedModules pw.main.body) (boot_heap w.params) s.heap&&namesBound pw s.heap&&gensDone s&&laidKept (boot_heap w.params) s.heap
noncomputable def wN (h:Heap) (x:Str):Option Value:=(h.nsMap mainGlobals x).or (h.nsMap builtinsNs x)
noncomputable def aK (h:Heap) (a:Addr) (xs:List Str):Bool:=xs.all fun x=>(h.nsMap a x).isNone
noncomputable def isFn (h:Heap) (a:Addr):Bool:=match h.get? a with
 | some o=>decide (o.cls=.type "function")&&(match o.data with | .func _=>true | _=>false)
 | none=>false
noncomputable def fragOf (h:Heap) (as:List Addr):Frag:=as.filterMap fun a=>(h.get? a).map fun o=>(a,o)
noncomputable abbrev K8 (h:Heap):Frag:=fragOf h [135,134,136,91,2,82,89]
noncomputable def BV:jf:=.cons .dead (.cons .dead .nil)
noncomputable def BU:jf:=.cons .dead (.cons .dead (.cons .dead (.cons .dead .nil)))
noncomputable def sN:List (Str × NameKind):=[("tuple",.globalImplicit),("len",.globalImplicit),("TypeError",.globalImplicit)]
noncomputable def sG (h:Heap):Bool:=h.isNs mainGlobals&&h.isNs builtinsNs&&h.isNs 241&&h.isNs 134&&h.isNs cStatics&&(h.nsMap cStatics "sys.recursionlimit").isNone&&(h.get? sysModules).isSome
noncomputable def t7 (h:Heap):Bool:=R4.tab.gl.all fun p=>decide (wN h p.1=some p.2)
noncomputable def gT (h:Heap):Bool:=R4.tab.meths.all fun p=>decide ((h.nsMap 241 p.2)=(R4.tab.fns.lookup p.1).map Value.ref)
noncomputable def nE (h:Heap):Bool:=R4.tab.fns.all fun p=>isFn h p.2&&match R4.P p.1 with | some fn=>fC R4.tab h fn p.2 | none=>false
noncomputable def newOk (h:Heap):Bool:=fC R4.tab h ⟨4,[],BV⟩ 82&&(bodyOf h 82).any fun x=>vX x.2
noncomputable def kT (h:Heap):Bool:=fC R4.tab h ⟨2,[],BU⟩ 89&&(bodyOf h 89).any fun x=>sO x.2
noncomputable def B4 (x:Scope × List Stmt):Scope × List Stmt:=(qr [],newOf x.2)
noncomputable def y8 (x:Scope × List Stmt):Scope × List Stmt:=(jc sN [],zO x.2)
noncomputable def z8 (k:Nat) (x:Scope × List Stmt):Scope × List Stmt:=match R4.P k with
 | some fn=>z9 R4.tab fn x
 | none=>x
noncomputable def i4 (h:Heap):List (Option (Scope × List Stmt)):=R4.tab.fns.map fun p=>bodyOf h p.2
noncomputable def nS (h:Heap):List (Option (Scope × List Stmt)):=R4.tab.fns.map fun p=>(bodyOf h p.2).map (z8 p.1)
structure Obs (P:Params) (h:Heap):Prop where
 nss:sG h=true
 no241:aK h 241 ("__getattribute__" :: "__getattr__" :: "__setattr__" :: R4.tab.attrs)=true
 no134:aK h 134 ["__iter__","__lt__","__len__","__init__"]=true
 gls:t7 h=true
 meths:gT h=true
 fns:nE h=true
 new:newOk h=true
 make:kT h=true
 i4:i4 h=nS h
 newB:bodyOf h 82=(bodyOf h 82).map B4
 makeB:bodyOf h 89=(bodyOf h 89).map y8
 g242:h.get? 242=some (excClassObj "SequenceMatcher" "SequenceMatcher" 242 241 [.type "object"] [.type "object"] true [] [] false none none none none (some (.str "SequenceMatcher" 389)) (some (.str "SequenceMatcher" 397)) (some (.bool true)) "object.__new__")
 g135:h.get? 135=some (xh 135 134 "Match" "Match" (some (.ref 65)) (some (.str "Match" 253)) (some (.str "Match" 261)))
 l1:peek (K8 h) ⟨pw,P⟩ (mroOf (.ref 135))=some [.ref 135,.type "tuple",.type "object"]
 l2:peek (K8 h) ⟨pw,P⟩ (isType (.ref 135))=some true
 l3:peek (K8 h) ⟨pw,P⟩ (isSubtype (.ref 135) (.ref 135))=some true
 l4:peek (K8 h) ⟨pw,P⟩ (isSubtype (.ref 135) (.type "tuple"))=some true
 l5:peek (K8 h) ⟨pw,P⟩ (isSubtype (.ref 135) (.type "object"))=some true
 l6:peek (K8 h) ⟨pw,P⟩ (classHasDel 135)=some false
 l7:peek (K8 h) ⟨pw,P⟩ (typeLookup (.ref 135) "__init__")=some (some (.builtin "object.__init__"))
 l8:peek (K8 h) ⟨pw,P⟩ (specialOf (.ref 135) "__call__")=some (some (.builtin "type.__call__"))
 l9:peek (K8 h) ⟨pw,P⟩ (isInstance (.ref 135) (.type "type"))=some true
 l10:peek (K8 h) ⟨pw,P⟩ (Bind.madeBy (.ref 135))=some none
 l11:peek (K8 h) ⟨pw,P⟩ (Bind.madeHere "tuple.__new__" (.ref 135))=some ()
 l12:(fun x:Value=>peek (K8 h) ⟨pw,P⟩ (checkBuiltinCall "tuple.__new__" ⟨[.ref 135,x],[]⟩))=fun x=>some ()
 m1:readsIn (K8 h) 135 (.type "type")=true
 m2:findCls (K8 h) (.ref 135) (.type "type") "__new__"=some (.get (.builtin "staticmethod.__get__") (.ref 136) .none (.ref 135))
 m3:findCls (K8 h) (.ref 135) (.type "type") "_make"=some (.get (.builtin "classmethod.__get__") (.ref 91) .none (.ref 135))
 m4:recIn (K8 h) 136 "staticmethod"=some [.ref 82]
 m5:recIn (K8 h) 91 "classmethod"=some [.ref 89,.bool false]
noncomputable def asked (w:World) (s:Shared) (h:Heap) (P:Params) :=
 ((n7 w s,openSeen qv loose (importedModules pw.main.body) Xt true s),
  (sG h&&aK h 241 ("__getattribute__" :: "__getattr__" :: "__setattr__" :: R4.tab.attrs)&&aK h 134 ["__iter__","__lt__","__len__","__init__"]&&t7 h&&gT h&&nE h&&newOk h&&kT h),
  (i4 h,bodyOf h 82,bodyOf h 89,h.get? 242,h.get? 135),
  (peek (K8 h) ⟨pw,P⟩ (mroOf (.ref 135)),peek (K8 h) ⟨pw,P⟩ (isType (.ref 135)),peek (K8 h) ⟨pw,P⟩ (isSubtype (.ref 135) (.ref 135)),peek (K8 h) ⟨pw,P⟩ (isSubtype (.ref 135) (.type "tuple")),peek (K8 h) ⟨pw,P⟩ (isSubtype (.ref 135) (.type "object")),
  peek (K8 h) ⟨pw,P⟩ (classHasDel 135),peek (K8 h) ⟨pw,P⟩ (typeLookup (.ref 135) "__init__"),peek (K8 h) ⟨pw,P⟩ (specialOf (.ref 135) "__call__"),peek (K8 h) ⟨pw,P⟩ (isInstance (.ref 135) (.type "type")),peek (K8 h) ⟨pw,P⟩ (Bind.madeBy (.ref 135)),
  peek (K8 h) ⟨pw,P⟩ (Bind.madeHere "tuple.__new__" (.ref 135)),fun x:Value=>peek (K8 h) ⟨pw,P⟩ (checkBuiltinCall "tuple.__new__" ⟨[.ref 135,x],[]⟩)),
  (readsIn (K8 h) 135 (.type "type"),findCls (K8 h) (.ref 135) (.type "type") "__new__",findCls (K8 h) (.ref 135) (.type "type") "_make",recIn (K8 h) 136 "staticmethod",recIn (K8 h) 91 "classmethod"))
theorem atB:(fun w os=>((XB w os).map fun r=>(r.1,r.2.2.1),asked w (F w os) (F w os).heap w.params))=fun w os=>(some (.next,cE),((true,openGood qv loose),true,
  (nS (F w os).heap,(bodyOf (F w os).heap 82).map B4,(bodyOf (F w os).heap 89).map y8,some (excClassObj "SequenceMatcher" "SequenceMatcher" 242 241 [.type "object"] [.type "object"] true [] [] false none none none none (some (.str "SequenceMatcher" 389)) (some (.str "SequenceMatcher" 397)) (some (.bool true)) "object.__new__"),
   some (xh 135 134 "Match" "Match" (some (.ref 65)) (some (.str "Match" 253)) (some (.str "Match" 261)))),
  (some [.ref 135,.type "tuple",.type "object"],some true,some true,some true,some true,some false,some (some (.builtin "object.__init__")),some (some (.builtin "type.__call__")),some true,some none,some (),fun _=>some ()),
  (true,some (.get (.builtin "staticmethod.__get__") (.ref 136) .none (.ref 135)),some (.get (.builtin "classmethod.__get__") (.ref 91) .none (.ref 135)),some [.ref 82],some [.ref 89,.bool false]))):=by
 delta F s3 XB tB zI PySem.W.Fast.tw4202317264376624991
 rw [lI]
 kernel_rfl
end Mine
end
section
open PySem PySem.W PyProof.Rows
set_option maxHeartbeats 0
namespace Mine
open MP
theorem pA {p q:Program} {loose:List Str} {Xt:Shared→Bool} {N:Nat} {g0:Bool} {H₀:Params→Heap} {gs₀:Array GenState} {d₀:Drawn} {k₀ m₀:Nat} {ann:Option Value} {M:Nat} {F:World→OsState→Shared}
  (open_:∀ w:World,(fencedOpening treeTable p w N).map (fun s=>(s.heap,s.gens,s.drawn,s.toks))=some (H₀ w.params,gs₀,d₀,k₀))
  (size:∀ w:World,((H₀ w.params).isNs mainGlobals&&gs₀.size==0,(H₀ w.params).objs.size,(H₀ w.params).nsMap mainGlobals "__annotations__")=(true,m₀,ann))
  (run:∀ (w:World) (os:OsState),topRun treeTable p w m₀ ann M ⟨H₀ w.params,gs₀,d₀,k₀,os⟩ (topStub p)=some (F w os)) (le:Nat.ble M N=true)
  (n7:∀ (w:World) (os:OsState),(staticsOk (importedModules p.main.body) (H₀ w.params) (F w os).heap&&namesBound p (F w os).heap&&gensDone (F w os)&&laidKept (H₀ w.params) (F w os).heap)=true)
  (seen:∀ (w:World) (os:OsState),openSeen q loose (importedModules p.main.body) Xt g0 (F w os)=openGood q loose) :
  LeftO p q loose Xt (fun s=>s.heap) (fun w=>(F w ((fencedOpening treeTable p w N).elim {} (·.os))).heap) N g0:=fun w=>by
 obtain⟨⟨h,gs,d,k,os⟩,e,e'⟩:=fb.mp (open_ w)
 obtain⟨rfl,rfl,rfl,rfl⟩:h=H₀ w.params∧gs=gs₀∧d=d₀∧k=k₀:=by simpa using e'
 obtain⟨z1,z2,z3⟩:_∧_∧_:=by simpa only [jo] using size w
 have r:=topRun_mono (N-M) _ _ _ _ (run w os)
 rw [show M+(N-M)=N by have:=cm le;(exact Ar.a1 [] [_,_,_] (.e (.a .v0 .v1) .v2) [[1,-1],[1,1]] (.e (.a .v1 .v0) .v2) (aa (Ar.a1 [] [_,_] (.k .v0 .v1) [[1,1]] (.k .v0 .v1) this)))] at r
 have t:topFrom treeTable p w N ⟨H₀ w.params,gs,d,k,os⟩=some (F w os):=by
  unfold topFrom
  dsimp only
  rw [z1,z2,z3,r]
  show(match staticsOk (importedModules p.main.body) (H₀ w.params) (F w os).heap&&namesBound p (F w os).heap&&gensDone (F w os)&&laidKept (H₀ w.params) (F w os).heap with | true=>_ | false=>_)=_
  rw [n7 w os]
 unfold openEnds
 rw [e]
 show(topFrom treeTable p w N _).map _=_
 rw [t]
 refine bu some (Prod.ext (seen w os) ?_)
 show(F w os).heap=_
 dsimp only
 rw [e];rfl
theorem gh {α β:Type} {a c:α} {b d:β} (h:(a,b)=(c,d)):a=c:=bu (·.1) h
theorem ef {α β:Type} {a c:α} {b d:β} (h:(a,b)=(c,d)):b=d:=bu (·.2) h
theorem BA {w:World} {os:OsState}:n7 w (F w os)=true:=gh (gh (ef (gb (gb atB w) os)))
theorem obs (w:World) (os:OsState):Obs w.params (F w os).heap:=by
 have v:=ef (ef (gb (gb atB w) os))
 generalize (F w os).heap=h at v ⊢
 generalize w.params=P at v ⊢
 have e1:=gh v
 have e2:=gh (ef v)
 have e3:=gh (ef (ef v))
 have e4:=ef (ef (ef v))
 simp only [bz] at e1
 obtain⟨⟨⟨⟨⟨⟨⟨a1,a2⟩,a3⟩,a4⟩,a5⟩,a6⟩,a7⟩,a8⟩:=e1
 have b:=ef e3
 have c:=ef b
 have d:=ef c
 have e:=ef d
 have f:=ef e
 have g:=ef f
 have i:=ef g
 have j:=ef i
 have k:=ef j
 have l:=ef k
 have m:=ef e4
 have n:=ef m
 have o:=ef n
 exact⟨a1,a2,a3,a4,a5,a6,a7,a8,gh e2,gh (ef e2),gh (ef (ef e2)),gh (ef (ef (ef e2))),ef (ef (ef (ef e2))),gh e3,gh b,gh c,gh d,gh e,gh f,gh g,gh i,gh j,gh k,gh l,ef l,gh e4,gh m,gh n,gh o,ef o⟩
theorem z7 (w:World) (os:OsState):topRun treeTable pw w 11 an 2381 (S0 w os) (topStub pw)=some (F w os):=by
 have hp:=gb (gb pre w) os
 have hb:=gb (gb blk w) os
 have hA:=gb (gb atA w) os
 have hv:=gh (gb (gb atB w) os)
 have hf:=fun c q s=>gb (gb (gb (gb fin w) c) q) s
 obtain⟨⟨fl,s3',c3,q3⟩,hx,e⟩:=fb.mp hv
 have hfl:fl=.next:=gh e
 have hc3:c3=cE:=ef e
 subst hfl
 subst hc3
 have hF:F w os=s3'.abs:=by
  unfold F s3
  rw [hx];rfl
 have hgo:XA w os=some (sA w os,tA w os):=by
  have hA1:=gh hA
  unfold sA tA
  cases q:XA w os with
  | none=>rw [q] at hA1;cases hA1
  | some x=>rfl
 have htB:tB w os=tA w os:=by
  unfold tB
  rw [← ef hA]
 unfold XB at hx
 rw [htB] at hx
 rw [hF]
 generalize sA w os=sa at hgo hx
 generalize tA w os=ta at hgo hx
 unfold XA at hgo
 unfold th0 at hgo
 rw [C4] at hgo
 have e3:TB=treeTable:=PySem.W.Fast.te14364793385576792824.symm
 have e1:goT=@segGoT:=PySem.W.Fast.te10295753902157049106.symm
 have e2:AX=@segRunT:=PySem.W.Fast.te10110043849684766642.symm
 rw [e1,e3] at hgo
 rw [e2,e3] at hx
 rw [e3] at hp hb hf
 have hs:=seg_go (n:=1966) (N:=400) (segGo_of hgo) (segRun_of hx)
 refine go_top (n:=12) (N:=2369) hp (piece_block (n:=1) (N:=2368) hb ?_)
 have:=piece_app (n:=2366) (N:=2) (l:=bE) (rest:=[]) (env:=wW) hs (piece_nil (hf _ _ _))
 rw [cv] at this
 exact this
end Mine
end
section
open PySem PySem.W PyProof.Rows
set_option maxHeartbeats 0
namespace Mine
open MP
theorem B9:∀ w:World,((boot_heap w.params).isNs mainGlobals&&(⟨[]⟩:Array GenState).size==0,(boot_heap w.params).objs.size,(boot_heap w.params).nsMap mainGlobals "__annotations__")=(true,11,an):=by
 have h:(fun w:World=>((boot_heap w.params).isNs mainGlobals&&(⟨[]⟩:Array GenState).size==0,(boot_heap w.params).objs.size,(boot_heap w.params).nsMap mainGlobals "__annotations__"))=fun w=>(true,11,an):=by kernel_rfl
 exact fun w=>gb h w
noncomputable def H1 (w:World):Heap:=(F w ((fencedOpening treeTable pw w 4418).elim {} (·.os))).heap
noncomputable def hook:Hook where
 α:=Heap
 obs:=fun s=>s.heap
 val:=H1
 says:=fun w h=>∀ a o,(H1 w).get? a=some o→h.get? a=some o
 of:=fun w s e a o h=>by rw [e];exact h
 keeps:=fun w h h' x k a o e=>k a o (x a o e)
theorem left:LeftO pw qv loose Xt (fun s=>s.heap) H1 4418 true:=pA (boot_open (by kernel_rfl) (by decide +kernel) (fun s=>by kernel_rfl)) B9 z7 (by decide +kernel) (fun w os=>BA) fun w os=>ef (gh (ef (gb (gb atB w) os)))
theorem head (hc:∀ (d:DefRec) (kwd:List (Str × Expr)),defOf qv rw4.row.name=some (d,kwd)→WalkO qv loose (XL qv []) hook.says rw4.row.toRowW d kwd fun f vs=>PySem.call f vs):rw4.Holds:=by
 w_on
 refine holds_law (by decide +kernel) fun said=>?_
 refine holds_open (q:=qv) (loose:=loose) (Xt:=Xt) (XP:=XL qv []) (Yf:=hook.obs) (Ya:=hook.val) (YP:=hook.says) (N:=4418) left hook.of hook.keeps (fun s e=>xl_of s (Bool.and_eq_true_iff.mp e).1) XL.keeps (by rfl) (by rfl) (by rfl) (fun s e=>recFacts_of (Bool.and_eq_true_iff.mp e).2) (by first | rfl | fail "no head") (by first | assumption | decide +kernel) (by decide +kernel) ⟨rfl,rfl,rfl,rfl,rfl,by decide +kernel⟩ ?hw ?hc
 case hw=>w_witness2
 case hc=>exact hc _ _ (by rfl)
theorem zF (w:World):Obs w.params (H1 w):=obs w _
end Mine
end
section
set_option tactic.hygienic true
open PySem PySem.W PyProof.Rows
set_option maxHeartbeats 0
namespace Mine
open MP
theorem qE (x:Str) (hx:x∈R4.tab.attrs):typeLookup (.type "object") x=pure none:=by
 simp only [R4.tab,br,sf,or_false] at hx
 rcases hx with rfl | rfl | rfl | rfl | rfl | rfl | rfl | rfl | rfl | rfl<;>(rw [er,dg];kernel_rfl)
noncomputable def G8 (w:World) (h0 hb:Heap):Stc:={ prog:=pw,w:=w,hb:=hb,cM:=135,cS:=242,attrs:=R4.tab.attrs,gl:=wN h0 }
section
variable {w:World} {h0 hb:Heap} (ob:Obs w.params h0)
include ob
theorem j5:h0.isNs mainGlobals=true∧h0.isNs builtinsNs=true∧h0.isNs 241=true∧h0.isNs 134=true∧h0.isNs cStatics=true∧h0.nsMap cStatics "sys.recursionlimit"=none∧∃ o,h0.get? sysModules=some o:=by
 have h:=ob.nss
 unfold sG at h
 simp only [bz,nu] at h
 obtain⟨⟨⟨⟨⟨⟨h1,h2⟩,h3⟩,h4⟩,h5⟩,h6⟩,h7⟩:=h
 exact⟨h1,h2,h3,h4,h5,h6,bw.mp h7⟩
omit ob in
theorem jm {h:Heap} {a:Addr} {xs:List Str} (e:aK h a xs=true) {x:Str} (hx:x∈xs):h.nsMap a x=none:=by
 unfold aK at e
 rw [gi] at e
 exact nu.mp (e x hx)
variable (hk:∀ a o,h0.get? a=some o→hb.get? a=some o)
include hk
theorem zQ:hb.NoLimit:=by
 obtain⟨h1,h2,h3,h4,h5,h6,h7⟩:=j5 ob
 exact⟨_,(rg h5).keeps hk,h6⟩
theorem BW:ClsAt hb 242 241 (h0.nsMap 241):=by
 obtain⟨h1,h2,h3,h4,h5,h6,h7⟩:=j5 ob
 exact⟨⟨_,_,_,_,_,_,_,_,_,_,_,_,hk _ _ (ob.g242)⟩,(rg h3).keeps hk⟩
theorem CN:GOk (G8 w h0 hb):=by
 obtain⟨h1,h2,h3,h4,h5,h6,o,h7⟩:=j5 ob
 have no:=ob.no241
 refine⟨⟨241,_,BW ob hk,jm no (.head _),jm no (.tail _ (.head _)),jm no (.tail _ (.tail _ (.head _))),fun x hx=>⟨jm no (.tail _ (.tail _ (.tail _ hx))),qE x hx⟩⟩,by show R4.tab.attrs.length≤100;decide,by show R4.tab.attrs.Nodup;decide +kernel,⟨o,hk _ _ h7⟩,⟨_,_,(rg h1).keeps hk,(rg h2).keeps hk,fun x=>rfl⟩⟩
omit hk in
theorem gl8 (x:Str) (v:Value) (e:R4.tab.gl.lookup x=some v):wN h0 x=some v:=by
 have h:=ob.gls
 unfold t7 at h
 rw [gi] at h
 exact az (h (x,v) (MP.mem_of_lookup e))
theorem zX {k:Nat} {a:Addr} (e:R4.tab.fns.lookup k=some a):∃ o fd,hb.get? a=some o∧o.cls=.type "function"∧o.data=.func fd:=by
 have h:=ob.fns
 unfold nE at h
 rw [gi] at h
 have:=h (k,a) (MP.mem_of_lookup e)
 rw [bz] at this
 have:=this.1
 unfold isFn at this
 split at this
 ·rename_i o ho
  rw [bz] at this
  obtain⟨h1,h2⟩:=this
  split at h2
  ·rename_i fd hd
   exact⟨o,fd,hk _ _ ho,az h1,hd⟩
  ·cases h2
 ·cases this
omit hk in
theorem zM {k:Nat} {name:Str} (e:R4.tab.meths.lookup k=some name):h0.nsMap 241 name=(R4.tab.fns.lookup k).map Value.ref:=by
 have h:=ob.meths
 unfold gT at h
 rw [gi] at h
 exact az (h (k,name) (MP.mem_of_lookup e))
theorem y7 (k:Nat) (name:Str) (e:R4.tab.meths.lookup k=some name):∃ f,R4.tab.fns.lookup k=some f∧MethAt (G8 w h0 hb) name f:=by
 have no:=ob.no241
 have hin:∃ f,R4.tab.fns.lookup k=some f:=by
  have h:R4.tab.meths.all (fun p=>(R4.tab.fns.lookup p.1).isSome)=true:=by decide +kernel
  exact bw.mp (gi.mp h _ (MP.mem_of_lookup e))
 have hout:name∉R4.tab.attrs:=by
  have h:R4.tab.meths.all (fun p=>decide (p.2∉R4.tab.attrs))=true:=by decide +kernel
  exact az (gi.mp h _ (MP.mem_of_lookup e))
 obtain⟨f,hf⟩:=hin
 obtain⟨o,fd,ho,hc,hd⟩:=zX ob hk hf
 refine⟨f,hf,⟨⟨241,_,o,fd,BW ob hk,jm no (.head _),jm no (.tail _ (.head _)),?_,ho,hc,hd⟩,hout,⟨_,er _ _⟩⟩⟩
 have:=zM ob e
 rw [hf] at this
 exact this
theorem BC:∃ f,R4.tab.fns.lookup 0=some f∧iD (G8 w h0 hb) f:=by
 obtain⟨f,hf,M⟩:=y7 ob hk 0 "__init__" rfl
 obtain⟨N,mN,of,fd,h1,h2,h3,h4,h5,h6,h7⟩:=M.here
 exact⟨f,hf,⟨N,mN,of,h1,h4,h5,h6⟩⟩
theorem zN:mf (G8 w h0 hb):=by
 obtain⟨h1,h2,h3,h4,h5,h6,h7⟩:=j5 ob
 have no:=ob.no134
 exact⟨⟨134,_,_,_,_,_,_,hk _ _ (ob.g135),(rg h4).keeps hk,jm no (.head _),jm no (.tail _ (.head _)),jm no (.tail _ (.tail _ (.head _))),jm no (.tail _ (.tail _ (.tail _ (.head _))))⟩⟩
omit ob hk in
theorem gZ (h:Heap):∀ l:List Addr,Frag.In (fragOf h l) h
 | [],a,o,e=>by cases e
 | b::l,a,o,e=>by
  unfold fragOf at e
  simp only [List.filterMap_cons] at e
  cases hq:h.get? b with
  | none=>rw [hq] at e;exact gZ h l a o e
  | some ob =>
   rw [hq] at e
   simp only [Option.map_some,List.lookup] at e
   split at e
   ·rename_i q;cases e;rw [pq.mp q];exact hq
   ·exact gZ h l a o e
omit ob hk in
theorem m6:findCls [] (.type "tuple") (.type "type") "__new__"=some (.val (.builtin "tuple.__new__")):=by kernel_rfl
omit ob hk in
theorem m7:findIn [] (.type "type") "__getattribute__"=some (some (.builtin "type.__getattribute__")):=by kernel_rfl
omit ob hk in
theorem m8:subIn [] (.type "type") (.type "type")=some true:=by kernel_rfl
omit ob hk in
theorem m9:opaqueClassAbove (.type "tuple")=pure none:=by kernel_rfl
omit ob hk in
theorem m10:hookBefore (.type "type")=pure none:=by kernel_rfl
omit ob hk in
theorem m11:typeOf (.type "tuple")=pure (.type "type"):=by kernel_rfl
theorem sX:(K8 h0).In hb:=(gZ h0 _).keeps hk
theorem ue {α:Type} {t:Sem α} {r:α} (e:peek (K8 h0) ⟨pw,w.params⟩ t=some r):Looks (G8 w h0 hb).M (G8 w h0 hb).hb t r:=Looks.of_peek (K:=K8 h0) (sX ob hk) e
theorem w4:jn (G8 w h0 hb) 82 89 where
 made:=ue ob hk (ob.l10)
 here:=ue ob hk (ob.l11)
 chk:=fun x=>ue ob hk (gb ob.l12 x)
 mro:=ue ob hk (ob.l1)
 self:=ue ob hk (ob.l3)
 tup:=ue ob hk (ob.l4)
 init:=ue ob hk (ob.l7)
 call:=ue ob hk (ob.l8)
 typ:=ue ob hk (ob.l9)
 isT:=ue ob hk (ob.l2)
 del:=ue ob hk (ob.l6)
 new:=fun A E s Q k h=>cls_bind (K:=K8 h0) (mc:=.type "type") ((sX ob hk).keeps k) (ob.m1) (ob.m2) (pf (sm_get (s:={ s with toks:=s.toks+1 }) (K:=K8 h0) ((sX ob hk).keeps k) (ob.m4) (handed_on rfl h)))
 make:=fun A E s expr Q k h=>cls_bind (K:=K8 h0) (mc:=.type "type") ((sX ob hk).keeps k) (ob.m1) (ob.m3) (pf (cm_get (s:={ s with toks:=s.toks+1 }) (K:=K8 h0) ((sX ob hk).keeps k) (ob.m5) (handed_on rfl h)))
 typNew:=fun A E s expr Q h=>cls_open (K:=[]) (fun _ _ e=>nomatch e) (Looks.of_pure m9) (Looks.of_pure m11) m7 (Looks.of_pure m10) m8 m6 (ae (handed_on rfl h))
theorem CK:fP (G8 w h0 hb) 82:=by
 refine⟨?_,gl8 ob "tuple" _ (by decide +kernel),ue ob hk ob.l5⟩
 have h:=ob.new
 unfold newOk at h
 rw [bz] at h
 obtain⟨x,hx,hf⟩:=nF (G:=G8 w h0 hb) hk (zQ ob hk) h.1 ob.newB
 have hl:=h.2
 rw [hx] at hl
 exact⟨_,_,_,_,_,_,_,_,_,_,_,_,_,_,[],hf,hl⟩
theorem B7:dU (G8 w h0 hb) 89:=by
 refine⟨?_,gl8 ob "tuple" _ (by decide +kernel),gl8 ob "len" _ (by decide +kernel)⟩
 have h:=ob.make
 unfold kT at h
 rw [bz] at h
 obtain⟨x,hx,hf⟩:=nF (G:=G8 w h0 hb) hk (zQ ob hk) h.1 ob.makeB
 have hl:=h.2
 rw [hx] at hl
 exact⟨_,_,_,_,_,sN,[],hf,hl,by decide +kernel,by decide +kernel⟩
theorem C3:iE (G8 w h0 hb) R4.tab :=
 ⟨CN ob hk,gl8 ob,rfl,y7 ob hk,BC ob hk,rfl,rfl,⟨82,89,w4 ob hk,CK ob hk,B7 ob hk⟩,zN ob hk⟩
theorem AY:tW (G8 w h0 hb) R4.tab R4.P:=by
 refine⟨C3 ob hk,fun k a e=>?_⟩
 have h:=ob.fns
 unfold nE at h
 rw [gi] at h
 have:=h (k,a) (MP.mem_of_lookup e)
 rw [bz] at this
 have h2:=this.2
 split at h2
 ·rename_i fn hf
  obtain⟨sc,body,x,y⟩:=BD (G:=G8 w h0 hb) hk (zQ ob hk) h2 (by
   have h3:=List.map_inj_left.mp ob.i4 (k,a) (MP.mem_of_lookup e)
   have h4:z8 k=z9 R4.tab fn:=by funext x;unfold z8;rw [hf]
   rw [← h4];exact h3)
  exact⟨fn,sc,body,hf,x,y⟩
 ·cases h2
end
end Mine
end
section
open PySem PySem.W PyProof.Rows
set_option maxHeartbeats 0
namespace Mine
open MP
noncomputable def st0:MP.St:=⟨fun _=>none,fun _=>none,fun _=>none,fun _=>none,fun _=>none⟩
theorem CH (G:Stc):Rel G st0 G.hb:=by
 refine⟨fun _ _ e=>?_,fun _ _ e=>?_,fun _ _ e=>?_,fun _ _ _ e=>?_,fun _=>rfl,fun _ _ e=>?_,fun _ _ e=>?_,fun _ _ _ _ _ e=>?_,fun _ _ _ e=>?_,fun _ _ _ _ _ _ e=>?_,fun b d=>?_,fun _ _ e=>e⟩
 all_goals first | cases e | skip
 unfold MP.St.dom at d
 simp [st0] at d
theorem ao0:AOk callerA 16:=⟨rfl,by decide,by decide⟩
theorem ints_of {P:Params} {h:Heap}:∀ {vs:List Value} {xs:List WData},WellAll P h vs xs→WShape.hasItems [] xs .int=true→∃ ns:List Int,xs=ns.map WData.int∧IntsAre vs ns
 | _,_,.nil,_=>⟨[],rfl,.nil⟩
 | _,_,.cons W Ws,hs=>by
  obtain⟨h1,h2⟩:=MP.band (show(WShape.has [] _ .int&&WShape.hasItems [] _ .int)=true from hs)
  obtain⟨ns,e,I⟩:=ints_of Ws h2
  cases W with
  | int i t=>exact⟨i::ns,by rw [e];rfl,.cons i t I⟩
  | _=>exact Bool.noConfusion (show false=true from h1)
theorem xN {P:Params} {h:Heap} {args:List WData} {vals:List Value} (W:WellAll P h vals args) (hs:WShape.hasAll [] args [.list .int]=true):∃ (l:Addr) (vs:List Value) (ns:List Int),vals=[.ref l]∧args=[.list (ns.map WData.int)]∧h.get? l=some { cls:=.type "list",data:=.seq vs.toArray }∧IntsAre vs ns:=by
 cases W with
 | nil=>cases hs
 | cons W Ws =>
  cases Ws with
  | cons _ _=>exact Bool.noConfusion (show false=true from(MP.band (show(WShape.has [] _ (.list .int)&&WShape.hasAll [] _ [])=true from hs)).2)
  | nil =>
   have h1:=(MP.band (show(WShape.has [] _ (.list .int)&&WShape.hasAll [] _ [])=true from hs)).1
   cases W with
   | @list a vs xs e Wi =>
    obtain⟨ns,rfl,I⟩:=ints_of Wi ((yv _).symm.trans (show(WShape.hasItems [] xs .int||false)=true from h1))
    exact⟨_,_,ns,rfl,rfl,e,I⟩
   | _=>exact Bool.noConfusion (show false=true from h1)
theorem AZ (xs:List WData) (h:rw4.pre.holds [] { args:=[.list xs] }=true):xs.length≤63:=by
 have e:rw4.pre=.and (.not (.lt (.lit (.int 63)) (.len (.arg 0)))) (.lit (.bool true)):=by rfl
 rw [e] at h
 have hl:WTm.value [] (.lt (.lit (.int 63)) (.len (.arg 0))) { args:=[.list xs] }=(less? (.int 63) (.int xs.length)).map WData.bool:=by rfl
 have h3:less? (.int 63) (.int xs.length)=some (decide ((63:Int)<xs.length)):=by first | rfl | simp [less?]
 rw [h3] at hl
 by_cases hx:(63:Int)<xs.length
 ·have hn:WTm.value [] (.not (.lt (.lit (.int 63)) (.len (.arg 0)))) { args:=[.list xs] }=some (.bool false):=by
   show(match WTm.value [] (.lt (.lit (.int 63)) (.len (.arg 0))) { args:=[.list xs] } with | some (.bool b)=>some (WData.bool (!b)) | _=>none)=_
   rw [hl];simp [hx]
  have ha:WTm.value [] (.and (.not (.lt (.lit (.int 63)) (.len (.arg 0)))) (.lit (.bool true))) { args:=[.list xs] }=some (.bool false):=by
   show(match WTm.value [] (.not (.lt (.lit (.int 63)) (.len (.arg 0)))) { args:=[.list xs] } with
    | some (.bool false)=>some (WData.bool false)
    | some (.bool true)=>some (.bool true)
    | _=>none)=_
   rw [hn]
  unfold WTm.holds at h
  rw [ha] at h
  cases h
 ·(exact Ar.a1 [] [_] (.k .v0 (.n 63)) [[1,1]] (.ig (.n 63) (.t .v0)) hx)
theorem zD:(fun(x y:List WData)=>rw4.row.claim.post x (WData.bool true) y)=fun x y=>true:=by kernel_rfl
theorem CT (hlaw:∀ ns:List Int,ns.length≤63→dn R4.P 7 14 [.ro ns] st0 fun v σ=>v=.bool true):rw4.Holds:=by
 refine head fun d kwd hd w s₀ s₁ mg mb Gr says a o pm cd doc dV kV ho hdat hcd hdf hmg hgens args vals as hpre hlay hreads hwell hsys=>?_
 have hk:∀ b o,(H1 w).get? b=some o→s₁.heap.get? b=some o:=says
 have hpre':(WShape.hasAll [] args [.list .int]&&rw4.pre.holds [] { args:=args })=true:=hpre
 rw [bz] at hpre'
 obtain⟨l,vs,ns,rfl,rfl,hl,I⟩:=xN hwell hpre'.1
 have hlen:ns.length≤63:=by
  simpa using AZ _ hpre'.2
 have ha:a=277:=by
  have e1:=Gr.T.g.eq_nsMap
  have e0:=(j5 (zF w)).1
  have e4:=gl8 (zF w) "law" (.ref 277) (by decide +kernel)
  generalize H1 w=h0 at e0 e4 hk
  have e2:=((rg e0).keeps hk).eq_nsMap
  have e3:d.name=("law":Str):=by
   have:(defOf qv rw4.row.name).map (fun p=>p.1.name)=some ("law":Str):=by kernel_rfl
   rw [hd] at this
   exact af this
  rw [e1,← e2,e3] at hmg
  unfold wN at e4
  rw [hmg] at e4
  cases e4
  rfl
 subst ha
 have hc:=(tN (AY (zF w) hk) 7 14 277 (by decide +kernel)).2 callerA (fun e s'=>GoodWG rw4.row.claim (classAt s₀.heap) (ExcName.means s₀.heap) [.list (ns.map WData.int)] s₁ (.error e) s') [.ro ns] [.ref l] st0 (fun v σ=>v=.bool true) s₁ ao0 (CH (G8 w (H1 w) s₁.heap)) (.cons (.ro hl I) .nil) (hlaw ns hlen)
 refine ay hc (fun v s' lf=>?_) fun _ _ x=>x
 obtain⟨u,σ',h',tk,rfl,rfl,vr,R',x'⟩:=lf
 obtain rfl:=vr
 refine⟨.inl ⟨.bool true,.bool true,[],rfl,fun cls=>rfl,.bool true,?_,fun _=>⟨List.nodup_nil,fun a h=>nomatch h⟩⟩,.of_keep fun b o e=>R'.base b o e,rfl,.of_eq hgens⟩
 exact gb (gb zD _) _
end Mine
end
section
namespace MP
open PySem
theorem gv {σ:St} {a d:Addr} {f:Nat→Option V}:(σ.fj a d f).I a=some (d,f):=bp _ _ _
theorem oa {σ:St} {a d d':Addr} {f g:Nat→Option V}:(σ.fj a d f).fj a d' g=σ.fj a d' g:=by
 unfold St.fj
 congr 1
 funext j
 simp only [upd]
 split<;>rfl
section
variable {C:Cal} {ρ:Fr} {σ:St} {e a b:Ex} {es:Exs}
theorem u7 {Q:V→St→Prop}:wpE C (.lst es) ρ σ Q=nz C es ρ σ fun vs σ=>vs.length≤av∧∀ c,σ.L c=Option.none→Q (.lst c) (σ.cw c vs):=rfl
theorem u6 {Q:V→St→Prop}:wpE C (.tup es) ρ σ Q=nz C es ρ σ fun vs σ=>vs.length≤av∧Q (.tup vs) σ:=rfl
theorem pZ {Q:V→St→Prop}:wpE C (.newM es) ρ σ Q=nz C es ρ σ fun vs σ=>∀ a d,σ.I a=Option.none→C 0 (.obj a::vs) (σ.fj a d fun _=>Option.none) fun v σ=>v=.none∧Q (.obj a) σ:=rfl
theorem q9 {m:Nat} {Q:V→St→Prop}:wpE C (.meth e m es) ρ σ Q=wpE C e ρ σ fun v σ=>∃ a,v=.obj a∧(σ.I a).isSome∧nz C es ρ σ fun vs σ=>C m (v::vs) σ Q:=rfl
theorem qA {fv:List (Nat × Nat)} {it:It} {t:Tg} {cs:Exs} {more:Gens} {Q:V→St→Prop}:wpE C (.comp fv it t cs more) ρ σ Q=nZ C it ρ σ fun vs G σ =>
   eG vs G (fun v ρ' acc σ K=>mj t v σ ρ' fun ρ'=>ti C cs ρ' σ fun ok σ=>if ok then c9 C more ρ' acc σ K else K ρ' acc σ) (aV fv ρ) [] σ
    fun _ acc σ=>∀ c,σ.L c=Option.none→Q (.lst c) (σ.cw c acc):=rfl
theorem pX {K:List V→(St→Prop)→St→Prop}:nZ C (.seq e) ρ σ K=wpE C e ρ σ fun v σ=>xU v σ K:=rfl
theorem ja {Q:List V→St→Prop}:nz C (.cons e es) ρ σ Q=wpE C e ρ σ fun v σ=>nz C es ρ σ fun vs σ=>Q (v::vs) σ:=rfl
theorem mn {ts:List Tgt} {ss:jf} {K:Fl→Fr→St→Prop}:dk C (.cons (.assign ts e) ss) ρ σ K=wpE C e ρ σ fun v σ=>aF C ts v ρ σ fun ρ σ=>dk C ss ρ σ K:=rfl
end
theorem xj {p q:Prop} (h:q):if false=true then p else q:=h
theorem aN {p q:Prop} (h:p):if true=true then p else q:=h
theorem nA (k:Key):k.v.gV=some k:=by cases k<;>rfl
theorem ll {vs:List V} {G:St→Prop} {T:V→Fr→St→(Fr→St→Prop)→Prop} {K:Fr→St→Prop} (Inv:Nat→Fr→St→Prop)
  (step:∀ i v ρ σ,vs[i]?=some v→Inv i ρ σ→G σ∧∀ k:Fr→St→Prop,(∀ ρ' σ',Inv (i+1) ρ' σ'→k ρ' σ')→T v ρ σ k) (fin:∀ ρ σ,Inv vs.length ρ σ→G σ∧K ρ σ) {ρ:Fr} {σ:St} (h0:Inv 0 ρ σ):lG vs G T ρ σ K:=by
 have go:∀ (ws:List V) (i:Nat) (ρ:Fr) (σ:St),vs.drop i=ws→Inv i ρ σ→i≤vs.length→lG ws G T ρ σ K:=by
  intro ws
  induction ws with
  | nil =>
   intro i ρ σ e h hi
   have:i=vs.length:=by have:=List.drop_eq_nil_iff.mp e;(exact Ar.a2 [] [_,_] (.e .v0 .v1) [[1,0,1],[1,1,0]] (.k .v0 .v1) (.k .v1 .v0) hi this)
   subst this
   exact fin ρ σ h
  | cons v ws ih =>
   intro i ρ σ e h hi
   have e1:vs[i]?=some v:=by
    have:=bu (fun l=>l[0]?) e
    simpa using this
   have e2:vs.drop (i+1)=ws:=by
    have:=bu (fun l=>l.drop 1) e
    simpa using this
   have hlt:=(bb.mp e1).1
   obtain⟨g,t⟩:=step i v ρ σ e1 h
   exact⟨g,t _ fun ρ' σ' h'=>ih (i+1) ρ' σ' e2 h' hlt⟩
 exact go vs 0 ρ σ rfl h0 (ba _)
theorem sr {T:(Fr→St→Prop)→Fr→St→Prop} (Inv:Nat→Fr→St→Prop) (step:∀ n ρ σ,Inv n ρ σ→∀ again:Fr→St→Prop,(∀ m ρ' σ',m<n→Inv m ρ' σ'→again ρ' σ')→T again ρ σ) :
  ∀ (N n:Nat) {ρ:Fr} {σ:St},n<N→Inv n ρ σ→n6 T N ρ σ
 | 0,n,ρ,σ,h,_=>absurd h (jh _)
 | N+1,n,ρ,σ,h,hi=>step n ρ σ hi _ fun m ρ' σ' hm h'=>sr Inv step N m (by(exact Ar.a2 [] [_,_,_] (.l .v0 .v1) [[1,1,1]] (.l .v2 (.a .v1 .n1)) (.l .v0 .v2) h hm)) h'
noncomputable def posOf (k:Key) (bs:List Key):List Nat:=(List.range bs.length).filter fun j=>decide (bs[j]?=some k)
theorem yi (k:Key) (bs:List Key) (b:Key):posOf k (bs++[b])=posOf k bs++if b=k then [bs.length] else []:=by
 unfold posOf
 rw [bx,ib,List.range_succ,List.filter_append]
 congr 1
 ·refine List.filter_congr fun j hj=>?_
  rw [xp (List.mem_range.mp hj)]
 ·simp [List.filter_cons]
structure B2J (σ₀ σ:St) (db:Addr) (bs:List Key):Prop where
 tab:∃ es,σ.D db=some es∧es.length≤bs.length∧(∀ k,es.lookup k=none→posOf k bs=[]) ∧
  (∀ k w,es.lookup k=some w→∃ c,w=.lst c∧σ.L c=some ((posOf k bs).map fun j:Nat=>V.int j)∧σ₀.L c=none) ∧
  ∀ k k' c,es.lookup k=some (.lst c)→es.lookup k'=some (.lst c)→k=k'
 old:∀ a xs,σ₀.L a=some xs→σ.L a=some xs
 I:σ.I=σ₀.I
 S:σ.S=σ₀.S
 Z:σ.Z=σ₀.Z
 D:∀ a,a≠db→σ.D a=σ₀.D a
theorem B2J.start {σ₀:St} {db:Addr}:B2J σ₀ (σ₀.ki db []) db [] :=
 ⟨⟨[],bp _ _ _,aj _,fun k _=>rfl,fun k w e=>(by cases e),fun k k' c e=>(by cases e)⟩,fun a xs e=>e,rfl,rfl,rfl,fun a h=>cn h⟩
theorem rl {es:List (Key × V)} {k k':Key} {v:V}:(es++[(k,v)]).lookup k'=(es.lookup k').or (if k'=k then some v else none):=by
 induction es with
 | nil=>simp [List.lookup];split<;>simp_all
 | cons e r ih =>
  obtain⟨a,b⟩:=e
  simp only [aE,List.lookup]
  split
  ·rfl
  ·exact ih
noncomputable abbrev aJ (k:Key) (bs:List Key):List V:=(posOf k bs).map fun j:Nat=>V.int j
theorem aI (k:Key) (bs:List Key) (b:Key):aJ k (bs++[b])=aJ k bs++if b=k then [.int bs.length] else []:=by
 unfold aJ
 rw [yi,di]
 congr 1
 split<;>rfl
theorem B2J.step {σ₀ σ:St} {db c:Addr} {bs:List Key} (h:B2J σ₀ σ db bs) (hc:σ.L c=none) (b:Key):∃ es,σ.D db=some es∧es.length≤bs.length ∧
  ∃ c',(es.lookup b).getD (.lst c)=.lst c'∧((σ.cw c []).ki db (if (es.lookup b).isSome then es else es++[(b,.lst c)])).L c'=some (aJ b bs) ∧
   B2J σ₀ (((σ.cw c []).ki db (if (es.lookup b).isSome then es else es++[(b,.lst c)])).cw c' (aJ b bs++[.int bs.length])) db (bs++[b]):=by
 obtain⟨es,hD,hlen,hno,hyes,hinj⟩:=h.tab
 refine⟨es,hD,hlen,?_⟩
 have hc0:σ₀.L c=none:=by
  cases hq:σ₀.L c with
  | none=>rfl
  | some xs=>rw [h.old c xs hq] at hc;cases hc
 cases hb:es.lookup b with
 | some w =>
  obtain⟨c1,rfl,hL1,h01⟩:=hyes b w hb
  have hne:c1≠c:=fun e=>by rw [e,hc] at hL1;cases hL1
  refine⟨c1,rfl,?_,?_⟩
  ·show upd σ.L c [] c1=_
   rw [cn hne];exact hL1
  ·simp only [Option.isSome_some,sg]
   refine⟨⟨es,bp _ _ _,by simp;(exact Ar.a1 [] [_,_] (.k .v0 (.a .v1 .n1)) [[1,1]] (.k .v0 .v1) hlen),fun k e=>?_,fun k w e=>?_,hinj⟩,fun a xs e=>?_,h.I,h.S,h.Z,fun a ha=>?_⟩
   ·have hk:b≠k:=fun q=>by rw [← q,hb] at e;cases e
    rw [yi,hno k e,aw hk];rfl
   ·obtain⟨c2,rfl,hL2,h02⟩:=hyes k w e
    refine⟨c2,rfl,?_,h02⟩
    show upd (upd σ.L c []) c1 _ c2=some (aJ k (bs++[b]))
    rw [aI]
    by_cases hk:b=k
    ·subst hk
     rw [hb] at e
     cases e
     rw [bp,bc rfl]
    ·have h12:c2≠c1:=fun q=>hk (hinj b k c1 hb (q▸e))
     have h2c:c2≠c:=fun q=>by rw [q,hc] at hL2;cases hL2
     rw [cn h12,cn h2c,aw hk,cv];exact hL2
   ·show upd (upd σ.L c []) c1 _ a=some xs
    have h1:a≠c1:=fun q=>by rw [q,h01] at e;cases e
    have h2:a≠c:=fun q=>by rw [q,hc0] at e;cases e
    rw [cn h1,cn h2];exact h.old a xs e
   ·show upd σ.D db es a=_
    rw [cn ha];exact h.D a ha
 | none =>
  have hp:posOf b bs=[]:=hno b hb
  have hpv:aJ b bs=[]:=by unfold aJ;rw [hp];rfl
  refine⟨c,rfl,?_,?_⟩
  ·show upd σ.L c [] c=_
   rw [bp,hpv]
  ·simp only [pv,ct,fy]
   refine⟨⟨es++[(b,V.lst c)],(show upd σ.D db (es++[(b,V.lst c)]) db=_ from bp _ _ _),by simp;(exact Ar.a1 [] [_,_] (.k .v0 .v1) [[1,1]] (.k .v0 .v1) hlen),fun k e=>?_,fun k w e=>?_,fun k k' c2 e e'=>?_⟩,fun a xs e=>?_,h.I,h.S,h.Z,fun a ha=>?_⟩
   ·rw [rl] at e
    cases hk:es.lookup k with
    | some w=>rw [hk] at e;cases e
    | none =>
     rw [hk,vt] at e
     have hbk:b≠k:=fun q=>by rw [bc q.symm] at e;cases e
     rw [yi,hno k hk,aw hbk];rfl
   ·rw [rl] at e
    cases hk:es.lookup k with
    | some w' =>
     rw [hk,Option.some_or] at e
     cases e
     obtain⟨c2,rfl,hL2,h02⟩:=hyes k _ hk
     refine⟨c2,rfl,?_,h02⟩
     show upd (upd σ.L c []) c _ c2=some (aJ k (bs++[b]))
     have h2c:c2≠c:=fun q=>by rw [q,hc] at hL2;cases hL2
     have hbk:b≠k:=fun q=>by rw [← q,hb] at hk;cases hk
     rw [cn h2c,cn h2c,aI,aw hbk,cv];exact hL2
    | none =>
     rw [hk,vt] at e
     split at e
     ·rename_i q
      cases e
      subst q
      refine⟨c,rfl,?_,hc0⟩
      show upd (upd σ.L c []) c _ c=some (aJ k (bs++[k]))
      rw [bp,aI,bc rfl]
     ·cases e
   ·rw [rl] at e e'
    have fresh:∀ k2,es.lookup k2≠some (.lst c):=fun k2 e2=>by
     obtain⟨c3,e3,hL3,_⟩:=hyes k2 _ e2
     cases e3
     rw [hc] at hL3;cases hL3
    cases hk:es.lookup k with
    | some w =>
     rw [hk,Option.some_or] at e
     cases e
     cases hk':es.lookup k' with
     | some w'=>rw [hk',Option.some_or] at e';cases e';exact hinj k k' c2 hk hk'
     | none =>
      rw [hk',vt] at e'
      split at e'
      ·cases e';exact absurd hk (fresh k)
      ·cases e'
    | none =>
     rw [hk,vt] at e
     split at e
     ·rename_i q
      cases e
      cases hk':es.lookup k' with
      | some w'=>rw [hk',Option.some_or] at e';cases e';exact absurd hk' (fresh k')
      | none =>
       rw [hk',vt] at e'
       split at e'
       ·rename_i q';rw [q,q']
       ·cases e'
     ·cases e
   ·show upd (upd σ.L c []) c _ a=some xs
    have h2:a≠c:=fun q=>by rw [q,hc0] at e;cases e
    rw [cn h2,cn h2];exact h.old a xs e
   ·show upd σ.D db _ a=_
    rw [cn ha];exact h.D a ha
end MP
end
section
set_option tactic.hygienic true
namespace MP
noncomputable def hit (as bs:List Key) (rm:Key→Bool) (i j:Nat):Bool:=match as[i]?,bs[j]? with
 | some a,some b=>decide (a=b)&&!rm a
 | _,_=>false
theorem qg {as bs:List Key} {rm:Key→Bool} {i j:Nat}:hit as bs rm i j=true↔∃ c,as[i]?=some c∧bs[j]?=some c∧rm c=false:=by
 cases ha:as[i]? with
 | none=>rw [show hit as bs rm i j=false by unfold hit;rw [ha]];exact⟨(fun h=>nomatch h),fun h=>by obtain⟨c,h1,_⟩:=h;cases h1⟩
 | some a =>
  cases hb:bs[j]? with
  | none=>rw [show hit as bs rm i j=false by unfold hit;rw [ha,hb]];exact⟨(fun h=>nomatch h),fun h=>by obtain⟨c,_,h1,_⟩:=h;cases h1⟩
  | some b =>
   rw [show hit as bs rm i j=(decide (a=b)&&!rm a) by unfold hit;rw [ha,hb],bz,yc,dw]
   refine⟨fun h=>?_,fun h=>?_⟩
   ·obtain⟨rfl,h⟩:=h;exact⟨_,rfl,rfl,h⟩
   ·obtain⟨c,h1,h2,h⟩:=h
    obtain rfl:=af h1
    obtain rfl:=af h2
    exact⟨rfl,h⟩
structure Run (as bs:List Key) (rm:Key→Bool) (alo ahi blo bhi i j k:Nat):Prop where
 ai:alo≤i
 ia:i+k≤ahi
 bj:blo≤j
 jb:j+k≤bhi
 eq:∀ t,t<k→hit as bs rm (i+t) (j+t)=true
structure mE (as bs:List Key) (rm:Key→Bool) (alo ahi blo bhi i j k:Nat):Prop where
 run:Run as bs rm alo ahi blo bhi i j k
 zero:k=0→i=alo∧j=blo
 max:∀ i' j' k',0<k'→Run as bs rm alo ahi blo bhi i' j' k'→k'<k∨(k'=k∧(i<i'∨(i=i'∧j≤j')))
noncomputable def el (as bs:List Key) (rm:Key→Bool) (alo blo:Nat):Nat→Nat→Nat
 | i+1,j+1=>if alo≤i∧blo≤j∧hit as bs rm i j=true then el as bs rm alo blo i j+1 else 0
 | _,_=>0
section
variable {as bs:List Key} {rm:Key→Bool} {alo ahi blo bhi:Nat}
theorem hW {i j:Nat}:el as bs rm alo blo (i+1) (j+1)=if alo≤i∧blo≤j∧hit as bs rm i j=true then el as bs rm alo blo i j+1 else 0:=rfl
theorem tC {j:Nat}:el as bs rm alo blo alo j=0:=by
 cases alo with
 | zero=>cases j<;>rfl
 | succ n =>
  cases j with
  | zero=>rfl
  | succ j =>
   rw [hW]
   rw [aw]
   (exact fun q1=>(Ar.a1 [] [_] .ff [[0,1]] (.k (.a .v0 .n1) .v0) q1.1))
theorem hY:∀ {i j:Nat},el as bs rm alo blo i j≤i∧el as bs rm alo blo i j≤j∧(0<el as bs rm alo blo i j→Run as bs rm alo i blo j (i-el as bs rm alo blo i j) (j-el as bs rm alo blo i j) (el as bs rm alo blo i j))
 | 0,j=>⟨ba _,ba _,fun h=>absurd h (gc 0)⟩
 | i+1,0=>⟨ba _,ba _,fun h=>absurd h (gc 0)⟩
 | i+1,j+1=>by
  rw [hW]
  split
  ·rename_i c
   obtain⟨h1,h2,R⟩:=hY (i:=i) (j:=j)
   refine⟨by(exact Ar.a1 [] [_,_] (.k (.a .v0 .n1) (.a .v1 .n1)) [[1,1]] (.k .v0 .v1) h1),by(exact Ar.a1 [] [_,_] (.k (.a .v0 .n1) (.a .v1 .n1)) [[1,1]] (.k .v0 .v1) h2),fun _=>?_⟩
   by_cases h0:0<el as bs rm alo blo i j
   ·have R:=R h0
    generalize el as bs rm alo blo i j=m at *
    refine⟨?_,by(exact Ar.a1 [] [_,_,_] (.k (.a .v0 (.a .v1 .n1)) (.a .v2 .n1)) [[1,1]] (.e (.a .v0 (.a .v1 .n1)) (.a .v2 .n1)) (aa (Ar.a1 [] [_,_] (.k (.a .v0 .n1) (.a .v1 .n1)) [[1,1]] (.k .v0 .v1) h1))),?_,by(exact Ar.a1 [] [_,_,_] (.k (.a .v0 (.a .v1 .n1)) (.a .v2 .n1)) [[1,1]] (.e (.a .v0 (.a .v1 .n1)) (.a .v2 .n1)) (aa (Ar.a1 [] [_,_] (.k (.a .v0 .n1) (.a .v1 .n1)) [[1,1]] (.k .v0 .v1) h2))),fun t ht=>?_⟩
    ·have:=R.ai;(exact Ar.a3 [] [_,_,_,_,_] (.k .v0 .v1) [[1,1,1,-1]] (.k .v0 .v2) (.e (.a .v2 .v3) .v4) (.e (.a .v1 (.a .v3 .n1)) (.a .v4 .n1)) this (aa (Ar.a1 [] [_,_] (.k .v0 .v1) [[1,1]] (.k .v0 .v1) h1)) (aa (Ar.a1 [] [_,_] (.k (.a .v0 .n1) (.a .v1 .n1)) [[1,1]] (.k .v0 .v1) h1)))
    ·have:=R.bj;(exact Ar.a3 [] [_,_,_,_,_] (.k .v0 .v1) [[1,1,1,-1]] (.k .v0 .v2) (.e (.a .v2 .v3) .v4) (.e (.a .v1 (.a .v3 .n1)) (.a .v4 .n1)) this (aa (Ar.a1 [] [_,_] (.k .v0 .v1) [[1,1]] (.k .v0 .v1) h2)) (aa (Ar.a1 [] [_,_] (.k (.a .v0 .n1) (.a .v1 .n1)) [[1,1]] (.k .v0 .v1) h2)))
    ·by_cases hm:t<m
     ·have:=R.eq t hm
      have e1:i+1-(m+1)+t=i-m+t:=by(exact Ar.a2 [] [_,_,_,_,_] (.e (.a .v0 .v1) (.a .v2 .v1)) [[1,-1,1],[1,1,-1]] (.e (.a .v0 (.a .v3 .n1)) (.a .v4 .n1)) (.e (.a .v2 .v3) .v4) (aa (Ar.a1 [] [_,_] (.k (.a .v0 .n1) (.a .v1 .n1)) [[1,1]] (.k .v0 .v1) h1)) (aa (Ar.a1 [] [_,_] (.k .v0 .v1) [[1,1]] (.k .v0 .v1) h1)))
      have e2:j+1-(m+1)+t=j-m+t:=by(exact Ar.a2 [] [_,_,_,_,_] (.e (.a .v0 .v1) (.a .v2 .v1)) [[1,-1,1],[1,1,-1]] (.e (.a .v0 (.a .v3 .n1)) (.a .v4 .n1)) (.e (.a .v2 .v3) .v4) (aa (Ar.a1 [] [_,_] (.k (.a .v0 .n1) (.a .v1 .n1)) [[1,1]] (.k .v0 .v1) h2)) (aa (Ar.a1 [] [_,_] (.k .v0 .v1) [[1,1]] (.k .v0 .v1) h2)))
      rw [e1,e2];exact this
     ·have e1:i+1-(m+1)+t=i:=by(exact Ar.a3 [] [_,_,_,_] (.e (.a .v0 .v1) .v2) [[1,0,1,-1],[1,1,0,1]] (.l .v1 (.a .v3 .n1)) (.g .v1 .v3) (.e (.a .v0 (.a .v3 .n1)) (.a .v2 .n1)) ht hm (aa (Ar.a1 [] [_,_] (.k (.a .v0 .n1) (.a .v1 .n1)) [[1,1]] (.k .v0 .v1) h1)))
      have e2:j+1-(m+1)+t=j:=by(exact Ar.a3 [] [_,_,_,_,_,_] (.e (.a .v0 .v1) .v2) [[1,-1,1,-1],[1,1,-1,1]] (.e (.a .v3 .v1) .v4) (.e (.a .v3 (.a .v5 .n1)) (.a .v4 .n1)) (.e (.a .v0 (.a .v5 .n1)) (.a .v2 .n1)) e1 (aa (Ar.a1 [] [_,_] (.k (.a .v0 .n1) (.a .v1 .n1)) [[1,1]] (.k .v0 .v1) h1)) (aa (Ar.a1 [] [_,_] (.k (.a .v0 .n1) (.a .v1 .n1)) [[1,1]] (.k .v0 .v1) h2)))
      rw [e1,e2];exact c.2.2
   ·have h0':el as bs rm alo blo i j=0:=by(exact Ar.a1 [] [_] (.e .v0 .n0) [[1,0],[1,1]] (.g .n0 .v0) h0)
    rw [h0']
    refine⟨by(exact Ar.a2 [] [_,_,_] (.k .v0 .v1) [[1,1,-1]] (.k .v0 .v2) (.e (.a .v1 (.a .n0 .n1)) (.a .v2 .n1)) c.1 (aa (Ar.a0 [] [_] (.k (.a .n0 .n1) (.a .v0 .n1)) [[1]]))),by(exact Ar.a1 [] [_,_] (.k (.a .v0 (.a .n0 .n1)) (.a .v1 .n1)) [[1,1]] (.e (.a .v0 (.a .n0 .n1)) (.a .v1 .n1)) (aa (Ar.a0 [] [_] (.k (.a .n0 .n1) (.a .v0 .n1)) [[1]]))),by(exact Ar.a2 [] [_,_,_] (.k .v0 .v1) [[1,1,-1]] (.k .v0 .v2) (.e (.a .v1 (.a .n0 .n1)) (.a .v2 .n1)) c.2.1 (aa (Ar.a0 [] [_] (.k (.a .n0 .n1) (.a .v0 .n1)) [[1]]))),by(exact Ar.a1 [] [_,_] (.k (.a .v0 (.a .n0 .n1)) (.a .v1 .n1)) [[1,1]] (.e (.a .v0 (.a .n0 .n1)) (.a .v1 .n1)) (aa (Ar.a0 [] [_] (.k (.a .n0 .n1) (.a .v0 .n1)) [[1]]))),fun t ht=>?_⟩
    have:t=0:=by(exact Ar.a1 [] [_] (.e .v0 .n0) [[1,0],[1,1]] (.l .v0 (.a .n0 .n1)) ht)
    subst this
    exact c.2.2
  ·exact⟨ba _,ba _,fun h=>absurd h (gc 0)⟩
theorem tD:∀ {i j i' j' k':Nat},i'+k'=i→j'+k'=j→Run as bs rm alo ahi blo bhi i' j' k'→k'≤el as bs rm alo blo i j
 | i,j,i',j',0,_,_,_=>ba _
 | i,j,i',j',k'+1,e1,e2,R=>by
  subst e1;subst e2
  show _≤el as bs rm alo blo (i'+k'+1) (j'+k'+1)
  have:=R.ai;have:=R.bj
  rw [hW]
  rw [bc ⟨by(rename_i z1;exact Ar.a1 [] [_,_,_] (.k .v0 (.a .v1 .v2)) [[1,1]] (.k .v0 .v1) z1),by(exact Ar.a1 [] [_,_,_] (.k .v0 (.a .v1 .v2)) [[1,1]] (.k .v0 .v1) this),R.eq k' (by(exact Ar.a0 [] [_] (.l .v0 (.a .v0 .n1)) [[1]]))⟩]
  have:=tD (i:=i'+k') (j:=j'+k') (i':=i') (j':=j') (k':=k') rfl rfl ⟨R.ai,by have:=R.ia;(exact Ar.a1 [] [_,_,_] (.k (.a .v0 .v1) .v2) [[1,1]] (.k (.a .v0 (.a .v1 .n1)) .v2) this),R.bj,by have:=R.jb;(exact Ar.a1 [] [_,_,_] (.k (.a .v0 .v1) .v2) [[1,1]] (.k (.a .v0 (.a .v1 .n1)) .v2) this),fun t ht=>R.eq t (by(exact Ar.a1 [] [_,_] (.l .v0 (.a .v1 .n1)) [[1,1]] (.l .v0 .v1) ht))⟩
  (exact Ar.a1 [] [_,_] (.k (.a .v0 .n1) (.a .v1 .n1)) [[1,1]] (.k .v0 .v1) this)
structure Scan (as bs:List Key) (rm:Key→Bool) (alo ahi blo bhi:Nat) (seen:Nat→Nat→Prop) (i j k:Nat):Prop where
 run:Run as bs rm alo ahi blo bhi i j k
 zero:k=0→i=alo∧j=blo
 at_:0<k→seen (i+k-1) (j+k-1)
 max:∀ i' j',seen i' j'→0<el as bs rm alo blo (i'+1) (j'+1)→el as bs rm alo blo (i'+1) (j'+1)<k∨(el as bs rm alo blo (i'+1) (j'+1)=k∧(i<i'+1-k∨(i=i'+1-k∧j≤j'+1-k)))
theorem Scan.start (ha:alo≤ahi) (hb:blo≤bhi):Scan as bs rm alo ahi blo bhi (fun _ _=>False) alo blo 0 :=
 ⟨⟨aj _,ha,aj _,hb,fun t ht=>absurd ht (jh _)⟩,fun _=>⟨rfl,rfl⟩,fun h=>absurd h (gc 0),fun _ _ h=>h.elim⟩
theorem Scan.skip {seen seen':Nat→Nat→Prop} {i j k:Nat} (h:Scan as bs rm alo ahi blo bhi seen i j k) (hm:∀ i' j',seen i' j'→seen' i' j') (hs:∀ i' j',seen' i' j'→seen i' j'∨el as bs rm alo blo (i'+1) (j'+1)=0∨el as bs rm alo blo (i'+1) (j'+1)<k∨(el as bs rm alo blo (i'+1) (j'+1)=k∧(i<i'+1-k∨(i=i'+1-k∧j≤j'+1-k)))):Scan as bs rm alo ahi blo bhi seen' i j k :=
 ⟨h.run,h.zero,fun h0=>hm _ _ (h.at_ h0),fun i' j' hs' h0=>by
  rcases hs i' j' hs' with q | q | q | q
  ·exact h.max i' j' q h0
  ·(exact .inl (Ar.a2 [] [_,_] (.l .v0 .v1) [[0,1,1]] (.l .n0 .v0) (.e .v0 .n0) h0 q))
  ·exact .inl q
  ·exact .inr q⟩
theorem Scan.take {seen seen':Nat→Nat→Prop} {i j k i0 j0:Nat} (h:Scan as bs rm alo ahi blo bhi seen i j k) (hi:i0<ahi) (hj:j0<bhi) (hk:k<el as bs rm alo blo (i0+1) (j0+1)) (h0:seen' i0 j0)
  (hs:∀ i' j',seen' i' j'→seen i' j'∨(i'=i0∧j'=j0)∨el as bs rm alo blo (i'+1) (j'+1)=0):Scan as bs rm alo ahi blo bhi seen' (i0+1-el as bs rm alo blo (i0+1) (j0+1)) (j0+1-el as bs rm alo blo (i0+1) (j0+1)) (el as bs rm alo blo (i0+1) (j0+1)):=by
 obtain⟨h1,h2,R⟩:=hY (as:=as) (bs:=bs) (rm:=rm) (alo:=alo) (blo:=blo) (i:=i0+1) (j:=j0+1)
 have R:=R (by(exact Ar.a1 [] [_,_] (.l .n0 .v0) [[1,1]] (.l .v1 .v0) hk))
 refine⟨⟨R.ai,by(exact Ar.a2 [] [_,_,_,_] (.k (.a .v0 .v1) .v2) [[1,1,1]] (.l .v3 .v2) (.e (.a .v0 .v1) (.a .v3 .n1)) hi (aa (Ar.a1 [] [_,_] (.k .v0 (.a .v1 .n1)) [[1,1]] (.k .v0 (.a .v1 .n1)) h1))),R.bj,by(exact Ar.a2 [] [_,_,_,_] (.k (.a .v0 .v1) .v2) [[1,1,1]] (.l .v3 .v2) (.e (.a .v0 .v1) (.a .v3 .n1)) hj (aa (Ar.a1 [] [_,_] (.k .v0 (.a .v1 .n1)) [[1,1]] (.k .v0 (.a .v1 .n1)) h2))),R.eq⟩,fun h0=>by(exact⟨(Ar.a2 [] [_,_,_,_] (.e .v0 .v1) [[0,1,1],[0,1,1]] (.l .v2 .v3) (.e .v3 .n0) hk h0),(Ar.a2 [] [_,_,_,_] (.e .v0 .v1) [[0,1,1],[0,1,1]] (.l .v2 .v3) (.e .v3 .n0) hk h0)⟩),fun _=>?_,fun i' j' hs' h0=>?_⟩
 ·have e1:i0+1-el as bs rm alo blo (i0+1) (j0+1)+el as bs rm alo blo (i0+1) (j0+1)-1=i0:=by(rename_i z1;exact Ar.sub _ _ (fun q1 p1=>(Ar.a2 [] [_,_,_,_] (.e .v0 .v1) [[1,-1,-1],[1,1,1]] (.e (.a .v0 .n1) (.a .v2 .v3)) (.e (.a .v2 .v3) (.a .v1 .n1)) (aa (Ar.a1 [] [_,_] (.k .n1 (.a .v0 .v1)) [[1,1]] (.l .n0 .v1) z1)) p1)) fun q1 p1=>(Ar.a4 [] [_,_,_,_] (.e .v0 .v1) [[1,0,-1,1,0],[1,1,1,0,1]] (.k .v2 (.a .v1 .n1)) (.e (.a .v0 .n1) (.a .v3 .v2)) (.k (.a .v1 .n1) .v2) (.e .v3 .n0) h1 (aa (Ar.a1 [] [_,_] (.k .n1 (.a .v0 .v1)) [[1,1]] (.l .n0 .v1) z1)) q1 p1))
  have e2:j0+1-el as bs rm alo blo (i0+1) (j0+1)+el as bs rm alo blo (i0+1) (j0+1)-1=j0:=by(rename_i z1;exact Ar.sub _ _ (fun q1 p1=>(Ar.a2 [] [_,_,_,_] (.e .v0 .v1) [[1,-1,-1],[1,1,1]] (.e (.a .v0 .n1) (.a .v2 .v3)) (.e (.a .v2 .v3) (.a .v1 .n1)) (aa (Ar.a1 [] [_,_] (.k .n1 (.a .v0 .v1)) [[1,1]] (.l .n0 .v1) z1)) p1)) fun q1 p1=>(Ar.a4 [] [_,_,_,_] (.e .v0 .v1) [[1,0,-1,1,0],[1,1,1,0,1]] (.k .v2 (.a .v1 .n1)) (.e (.a .v0 .n1) (.a .v3 .v2)) (.k (.a .v1 .n1) .v2) (.e .v3 .n0) h2 (aa (Ar.a1 [] [_,_] (.k .n1 (.a .v0 .v1)) [[1,1]] (.l .n0 .v1) z1)) q1 p1))
  rw [e1,e2];exact h0
 ·rcases hs i' j' hs' with q | ⟨rfl,rfl⟩ | q
  ·have:=h.max i' j' q h0
   (rename_i z1;exact .inl ((Ar.imp z1).elim (fun q1=>(Ar.a2 [] [_,_,_] (.l .v0 .v1) [[0,1,1]] (.l .v2 .v1) (.g .n0 .v1) hk q1)) fun q1=>(this.elim (fun q2=>(Ar.a2 [] [_,_,_] (.l .v0 .v1) [[1,1,1]] (.l .v2 .v1) (.l .v0 .v2) hk q2)) fun q2=>(Ar.a2 [] [_,_,_] (.l .v0 .v1) [[1,1,1]] (.l .v2 .v1) (.e .v0 .v2) hk q2.1))))
  ·exact .inr ⟨rfl,.inr ⟨rfl,aj _⟩⟩
  ·(exact .inl (Ar.a2 [] [_,_] (.l .v0 .v1) [[0,1,1]] (.l .n0 .v0) (.e .v0 .n0) h0 q))
theorem Scan.best {seen:Nat→Nat→Prop} {i j k:Nat} (h:Scan as bs rm alo ahi blo bhi seen i j k) (hs:∀ i' j',alo≤i'→i'<ahi→blo≤j'→j'<bhi→0<el as bs rm alo blo (i'+1) (j'+1)→seen i' j'):mE as bs rm alo ahi blo bhi i j k:=by
 refine⟨h.run,h.zero,fun i' j' k' h0 R=>?_⟩
 have hm:=tD (i:=i'+k'-1+1) (j:=j'+k'-1+1) (by(exact Ar.a1 [] [_,_,_] (.e (.a .v0 .v1) (.a .v2 .n1)) [[1,1],[1,-1]] (.e (.a .v2 .n1) (.a .v0 .v1)) (aa (Ar.a1 [] [_,_] (.k .n1 (.a .v0 .v1)) [[1,1]] (.l .n0 .v1) h0)))) (by(exact Ar.a1 [] [_,_,_] (.e (.a .v0 .v1) (.a .v2 .n1)) [[1,1],[1,-1]] (.e (.a .v2 .n1) (.a .v0 .v1)) (aa (Ar.a1 [] [_,_] (.k .n1 (.a .v0 .v1)) [[1,1]] (.l .n0 .v1) h0)))) R
 have:=h.max (i'+k'-1) (j'+k'-1) (hs _ _ (by have:=R.ai;(exact Ar.a3 [] [_,_,_,_] (.k .v0 .v1) [[1,1,1,-1]] (.l .n0 .v2) (.k .v0 .v3) (.e (.a .v1 .n1) (.a .v3 .v2)) h0 this (aa (Ar.a1 [] [_,_] (.k .n1 (.a .v0 .v1)) [[1,1]] (.l .n0 .v1) h0)))) (by have:=R.ia;(exact Ar.a2 [] [_,_,_,_] (.l .v0 .v1) [[1,1,1]] (.k (.a .v2 .v3) .v1) (.e (.a .v0 .n1) (.a .v2 .v3)) this (aa (Ar.a1 [] [_,_] (.k .n1 (.a .v0 .v1)) [[1,1]] (.l .n0 .v1) h0)))) (by have:=R.bj;(exact Ar.a3 [] [_,_,_,_] (.k .v0 .v1) [[1,1,1,-1]] (.l .n0 .v2) (.k .v0 .v3) (.e (.a .v1 .n1) (.a .v3 .v2)) h0 this (aa (Ar.a1 [] [_,_] (.k .n1 (.a .v0 .v1)) [[1,1]] (.l .n0 .v1) h0)))) (by have:=R.jb;(exact Ar.a2 [] [_,_,_,_] (.l .v0 .v1) [[1,1,1]] (.k (.a .v2 .v3) .v1) (.e (.a .v0 .n1) (.a .v2 .v3)) this (aa (Ar.a1 [] [_,_] (.k .n1 (.a .v0 .v1)) [[1,1]] (.l .n0 .v1) h0)))) (by(exact Ar.a2 [] [_,_] (.l .n0 .v0) [[1,1,1]] (.l .n0 .v1) (.k .v1 .v0) h0 hm))) (by(exact Ar.a2 [] [_,_] (.l .n0 .v0) [[1,1,1]] (.l .n0 .v1) (.k .v1 .v0) h0 hm))
 generalize el as bs rm alo blo (i'+k'-1+1) (j'+k'-1+1)=e at *
 rcases rf k' k with c | c
 ·exact .inl c
 ·rcases this with q | ⟨q,q'⟩
  ·exact absurd (wc q c) (nj.mpr hm)
  ·have e2:k'=k:=Nat.le_antisymm (q▸hm) c
   have s1:i'+k'-1+1-k=i':=by(exact Ar.sub _ _ (fun q1 p1=>(Ar.sub _ _ (fun q2 p2=>(Ar.a3 [] [_,_,_,_,_] (.e .v0 .v1) [[1,-1,-1,-1],[1,1,1,1]] (.e .v2 .v3) (.e (.a .v0 .v3) (.a .v4 .n1)) (.e (.a .v4 .n1) (.a .v1 .v2)) e2 p1 p2)) fun q2 p2=>(Ar.a5 [] [_,_,_,_,_] (.e .v0 .v1) [[1,0,-1,-1,1,0],[1,1,1,1,0,1]] (.l .n0 .v2) (.e .v2 .v3) (.e (.a .v0 .v3) (.a .v4 .n1)) (.k (.a .v1 .v2) .n1) (.e .v4 .n0) h0 e2 p1 q2 p2))) fun q1 p1=>(Ar.sub _ _ (fun q2 p2=>(Ar.a4 [] [_,_,_,_,_] (.e .v0 .v1) [[1,-1,1,0,-1],[1,0,0,1,0]] (.e .v2 .v3) (.k (.a .v4 .n1) .v3) (.e .v0 .n0) (.e (.a .v4 .n1) (.a .v1 .v2)) e2 q1 p1 p2)) fun q2 p2=>(Ar.a3 [] [_,_,_] (.e .v0 .v1) [[1,1,0,1],[1,0,1,0]] (.l .n0 .v2) (.e .v0 .n0) (.k (.a .v1 .v2) .n1) h0 p1 q2)))
   have s2:j'+k'-1+1-k=j':=by(exact Ar.sub _ _ (fun q1 p1=>(Ar.sub _ _ (fun q2 p2=>(Ar.a3 [] [_,_,_,_,_] (.e .v0 .v1) [[1,-1,-1,-1],[1,1,1,1]] (.e .v2 .v3) (.e (.a .v0 .v3) (.a .v4 .n1)) (.e (.a .v4 .n1) (.a .v1 .v2)) e2 p1 p2)) fun q2 p2=>(Ar.a5 [] [_,_,_,_,_] (.e .v0 .v1) [[1,0,-1,-1,1,0],[1,1,1,1,0,1]] (.l .n0 .v2) (.e .v2 .v3) (.e (.a .v0 .v3) (.a .v4 .n1)) (.k (.a .v1 .v2) .n1) (.e .v4 .n0) h0 e2 p1 q2 p2))) fun q1 p1=>(Ar.sub _ _ (fun q2 p2=>(Ar.a4 [] [_,_,_,_,_] (.e .v0 .v1) [[1,-1,1,0,-1],[1,0,0,1,0]] (.e .v2 .v3) (.k (.a .v4 .n1) .v3) (.e .v0 .n0) (.e (.a .v4 .n1) (.a .v1 .v2)) e2 q1 p1 p2)) fun q2 p2=>(Ar.a3 [] [_,_,_] (.e .v0 .v1) [[1,1,0,1],[1,0,1,0]] (.l .n0 .v2) (.e .v0 .n0) (.k (.a .v1 .v2) .n1) h0 p1 q2)))
   rw [s1,s2] at q'
   exact .inr ⟨e2,q'⟩
noncomputable def sy (as bs:List Key) (ok:Key→Bool) (alo blo:Nat):Nat→Nat→Nat→Nat × Nat × Nat
 | i+1,j+1,k=>if alo<i+1∧blo<j+1∧hit as bs (fun c=>!ok c) i j=true then sy as bs ok alo blo i j (k+1) else (i+1,j+1,k)
 | i,j,k=>(i,j,k)
noncomputable def yn (as bs:List Key) (ok:Key→Bool) (ahi bhi:Nat):Nat→Nat→Nat→Nat→Nat
 | 0,_,_,k=>k
 | n+1,i,j,k=>if i+k<ahi∧j+k<bhi∧hit as bs (fun c=>!ok c) (i+k) (j+k)=true then yn as bs ok ahi bhi n i j (k+1) else k
theorem vi {ok:Key→Bool} {i j k:Nat}:sy as bs ok alo blo (i+1) (j+1) k=if alo<i+1∧blo<j+1∧hit as bs (fun c=>!ok c) i j=true then sy as bs ok alo blo i j (k+1) else (i+1,j+1,k):=rfl
theorem rv {ok:Key→Bool} {n i j k:Nat}:yn as bs ok ahi bhi (n+1) i j k=if i+k<ahi∧j+k<bhi∧hit as bs (fun c=>!ok c) (i+k) (j+k)=true then yn as bs ok ahi bhi n i j (k+1) else k:=rfl
noncomputable def grow (as bs:List Key) (js:Key→Bool) (alo ahi blo bhi i j k:Nat):Nat × Nat × Nat :=
 let p:=sy as bs (fun c=>!js c) alo blo i j k
 let q:=yn as bs (fun c=>!js c) ahi bhi (ahi-p.1) p.1 p.2.1 p.2.2
 let r:=sy as bs js alo blo p.1 p.2.1 q
 (r.1,r.2.1,yn as bs js ahi bhi (ahi-r.1) r.1 r.2.1 r.2.2)
end
end MP
end
section
namespace MP
open PySem
structure Kp (σ σ':St):Prop where
 L:∀ a xs,σ.L a=some xs→σ'.L a=some xs
 D:∀ a es,σ.D a=some es→σ'.D a=some es
 S:σ'.S=σ.S
 I:σ'.I=σ.I
 Z:σ'.Z=σ.Z
theorem Kp.refl (σ:St):Kp σ σ:=⟨fun _ _ e=>e,fun _ _ e=>e,rfl,rfl,rfl⟩
theorem Kp.trans {σ σ₁ σ₂:St} (h:Kp σ σ₁) (h':Kp σ₁ σ₂):Kp σ σ₂:=⟨fun a xs e=>h'.L a xs (h.L a xs e),fun a xs e=>h'.D a xs (h.D a xs e),h'.S.trans h.S,h'.I.trans h.I,h'.Z.trans h.Z⟩
theorem Kp.noL {σ σ₁:St} (h:Kp σ σ₁) {c:Addr} (hc:σ₁.L c=none):σ.L c=none:=by
 cases q:σ.L c with
 | none=>rfl
 | some xs=>rw [h.L _ _ q] at hc;cases hc
theorem Kp.noD {σ σ₁:St} (h:Kp σ σ₁) {c:Addr} (hc:σ₁.D c=none):σ.D c=none:=by
 cases q:σ.D c with
 | none=>rfl
 | some xs=>rw [h.D _ _ q] at hc;cases hc
theorem Kp.cw {σ σ₁:St} (h:Kp σ σ₁) {c:Addr} {xs:List V} (hc:σ.L c=none):Kp σ (σ₁.cw c xs):=⟨fun a ys e=>by
 have:a≠c:=fun q=>by rw [q,hc] at e;cases e
 show upd σ₁.L c xs a=_
 rw [cn this];exact h.L a ys e,h.D,h.S,h.I,h.Z⟩
theorem Kp.ki {σ σ₁:St} (h:Kp σ σ₁) {c:Addr} {xs:List (Key × V)} (hc:σ.D c=none):Kp σ (σ₁.ki c xs):=⟨h.L,fun a ys e=>by
 have:a≠c:=fun q=>by rw [q,hc] at e;cases e
 show upd σ₁.D c xs a=_
 rw [cn this];exact h.D a ys e,h.S,h.I,h.Z⟩
noncomputable def pd:Key→Prop
 | .int _=>True
 | .str s=>PyData.strOk s=true
theorem pY {k k':Key} {σ:St} {K:Bool→Prop} (h:pd k) (h':pd k') (q:K (decide (k=k'))):fV k.v k'.v σ K:=by
 cases k with
 | int a =>
  cases k' with
  | int b =>
   show K (a==b)
   have:(a==b)=decide (Key.int a=Key.int b):=by
    by_cases e:a=b
    ·simp [e]
    ·simp [e]
   rw [this];exact q
  | str b =>
   refine⟨.int a,.str b,rfl,?_,?_⟩
   ·show(if PyData.strOk b then some (PyData.str b) else none)=_
    rw [bc (show PyData.strOk b=true from h')]
   ·have:PyData.eqv (.int a) (.str b)=decide (Key.int a=Key.str b):=by simp [PyData.eqv]
    rw [this];exact q
 | str a =>
  cases k' with
  | int b =>
   refine⟨.str a,.int b,?_,rfl,?_⟩
   ·show(if PyData.strOk a then some (PyData.str a) else none)=_
    rw [bc (show PyData.strOk a=true from h)]
   ·have:PyData.eqv (.str a) (.int b)=decide (Key.str a=Key.int b):=by simp [PyData.eqv]
    rw [this];exact q
  | str b =>
   show K (a==b)
   have:(a==b)=decide (Key.str a=Key.str b):=by
    by_cases e:a=b
    ·simp [e]
    ·simp [e]
   rw [this];exact q
theorem eP {k k':Key} {σ:St} {K:Bool→Prop} (h:pd k) (h':pd k') (q:K (decide (k=k'))):b5 .eq k.v k'.v σ K:=pY h h' q
theorem oQ {k:Key} {bs:List Key} {j:Nat}:j∈posOf k bs↔bs[j]?=some k:=by
 unfold posOf
 rw [List.mem_filter,List.mem_range,yc]
 refine⟨fun h=>h.2,fun h=>⟨(bb.mp h).1,h⟩⟩
theorem s8 {k:Key} {bs:List Key}:(posOf k bs).Pairwise (·<·):=List.Pairwise.filter _ List.pairwise_lt_range
theorem oS {k:Key} {bs:List Key}:(posOf k bs).length≤bs.length:=by
 have:=List.length_filter_le (fun j=>decide (bs[j]?=some k)) (List.range bs.length)
 rwa [List.length_range] at this
noncomputable def TabAt (σ:St) (db:Addr) (bs:List Key) (rm:Key→Bool):Prop:=∃ es,σ.D db=some es ∧
 (∀ k,rm k=true→es.lookup k=none)∧∀ k,rm k=false→(es.lookup k=none∧posOf k bs=[])∨∃ c,es.lookup k=some (.lst c)∧σ.L c=some (aJ k bs)
theorem TabAt.keep {σ σ':St} {db:Addr} {bs:List Key} {rm:Key→Bool} (h:TabAt σ db bs rm) (k:Kp σ σ'):TabAt σ' db bs rm:=by
 obtain⟨es,h1,h2,h3⟩:=h
 exact⟨es,k.D _ _ h1,h2,fun q hq=>(h3 q hq).imp_right fun zz0=>by obtain⟨c,e1,e2⟩:=zz0;exact⟨c,e1,k.L _ _ e2⟩⟩
theorem TabAt.get {σ:St} {db nl:Addr} {bs:List Key} {rm:Key→Bool} (h:TabAt σ db bs rm) (hn:σ.L nl=some []) (k:Key) :
  ∃ es c,σ.D db=some es∧(es.lookup k).getD (.lst nl)=.lst c∧σ.L c=some ((if rm k then [] else posOf k bs).map fun j:Nat=>V.int j):=by
 obtain⟨es,h1,h2,h3⟩:=h
 cases hr:rm k with
 | true=>exact⟨es,nl,h1,by rw [h2 k hr];rfl,hn⟩
 | false =>
  rcases h3 k hr with ⟨e1,e2⟩ | ⟨c,e1,e2⟩
  ·exact⟨es,nl,h1,by rw [e1];rfl,by rw [e2];exact hn⟩
  ·exact⟨es,c,h1,by rw [e1];rfl,e2⟩
theorem B2J.tabAt {σ₀ σ:St} {db:Addr} {bs:List Key} (h:B2J σ₀ σ db bs):TabAt σ db bs fun _=>false:=by
 obtain⟨es,h1,_,h2,h3,_⟩:=h.tab
 refine⟨es,h1,fun k e=>Bool.noConfusion e,fun k _=>?_⟩
 cases hk:es.lookup k with
 | none=>exact .inl ⟨rfl,h2 k hk⟩
 | some w =>
  obtain⟨c,rfl,e,_⟩:=h3 k w hk
  exact .inr ⟨c,rfl,e⟩
theorem dS {es:List (Key × V)} {k:Key}:es.any (fun e=>e.1==k)=(es.lookup k).isSome:=by
 induction es with
 | nil=>rfl
 | cons e r ih =>
  obtain⟨a,b⟩:=e
  simp only [List.any_cons,List.lookup,ih]
  by_cases h:k=a
  ·subst h;simp
  ·rw [ud (Ne.symm h),ud h];rfl
theorem s7 {es:List (Key × V)} {k:Key} {v:V}:(putD es k v).length≤es.length+1:=by
 unfold putD
 split<;>simp
theorem kX {es:List (Key × V)} {k k':Key} {v:V}:(putD es k v).lookup k'=if k'=k then some v else es.lookup k':=by
 unfold putD
 split
 ·rename_i h
  rw [dS] at h
  induction es with
  | nil=>cases h
  | cons e r ih =>
   obtain⟨a,b⟩:=e
   simp only [gm,List.lookup] at h ⊢
   by_cases hk:a=k
   ·subst hk
    rw [bc rfl]
    by_cases h2:k'=a
    ·subst h2;simp
    ·rw [aw h2]
     have e1:(k'==a)=false:=ud h2
     simp only [List.lookup,e1]
     clear ih h
     induction r with
     | nil=>rfl
     | cons e r ih =>
      obtain⟨a',b'⟩:=e
      simp only [gm,List.lookup]
      by_cases h3:a'=a
      ·subst h3
       rw [bc rfl]
       simp only [List.lookup,e1]
       exact ih
      ·rw [aw h3]
       simp only [List.lookup]
       cases k'==a' with
       | true=>rfl
       | false=>exact ih
   ·rw [aw hk]
    have e0:(k==a)=false:=ud (Ne.symm hk)
    rw [e0] at h
    simp only [List.lookup]
    by_cases h2:k'=a
    ·subst h2
     rw [aw hk];simp
    ·rw [ud h2]
     exact ih h
 ·rename_i h
  rw [dS] at h
  rw [rl]
  by_cases h2:k'=k
  ·subst h2
   cases q:es.lookup k' with
   | none=>simp
   | some w=>rw [q] at h;exact absurd rfl h
  ·simp [h2]
end MP
end
section
namespace MP
namespace SM
open PySem
structure MAt (σ:St) (x:Addr) (la lb db sj:Addr) (as bs:List Key) (rm:Key→Bool) (js:List Key):Prop where
 I:∃ d f,σ.I x=some (d,f)∧f 1=some (.lst la)∧f 2=some (.lst lb)∧f 7=some (.dct db)∧f 8=some (.set sj)
 La:σ.L la=some (as.map Key.v)
 Lb:σ.L lb=some (bs.map Key.v)
 D:TabAt σ db bs rm
 S:σ.S sj=some js
theorem MAt.keep {σ σ':St} {x la lb db sj:Addr} {as bs:List Key} {rm:Key→Bool} {js:List Key} (h:MAt σ x la lb db sj as bs rm js) (k:Kp σ σ'):MAt σ' x la lb db sj as bs rm js :=
 ⟨by rw [k.I];exact h.I,k.L _ _ h.La,k.L _ _ h.Lb,h.D.keep k,by rw [k.S];exact h.S⟩
noncomputable def Row (as bs:List Key) (rm:Key→Bool) (alo blo bhi i:Nat) (es:List (Key × V)):Prop:=∀ j:Nat,j<bhi→(es.lookup (.int ((j:Int)-1))).getD (.int 0)=.int (el as bs rm alo blo i j:Nat)
structure FF (ρ:Fr) (la lb db sj:Addr) (alo ahi blo bhi:Nat):Prop where
 r1:ρ 1=some (.int alo)
 r2:ρ 2=some (.int ahi)
 r3:ρ 3=some (.int blo)
 r4:ρ 4=some (.int bhi)
 r5:ρ 5=some (.lst la)
 r6:ρ 6=some (.lst lb)
 r7:ρ 7=some (.dct db)
 r8:ρ 8=some (.zd sj)
theorem FF.up {ρ:Fr} {la lb db sj:Addr} {alo ahi blo bhi n:Nat} {v:V} (h:FF ρ la lb db sj alo ahi blo bhi) (hn:9≤n):FF (upd ρ n v) la lb db sj alo ahi blo bhi:=by
 refine⟨?_,?_,?_,?_,?_,?_,?_,?_⟩<;>rw [cn (by omega)]
 ·exact h.r1
 ·exact h.r2
 ·exact h.r3
 ·exact h.r4
 ·exact h.r5
 ·exact h.r6
 ·exact h.r7
 ·exact h.r8
structure FB (ρ:Fr) (i j k:Nat):Prop where
 r9:ρ 9=some (.int i)
 r10:ρ 10=some (.int j)
 r11:ρ 11=some (.int k)
theorem FB.up {ρ:Fr} {i j k n:Nat} {v:V} (h:FB ρ i j k) (hn:12≤n):FB (upd ρ n v) i j k:=by
 refine⟨?_,?_,?_⟩<;>rw [cn (by(first | exact Ar.a1 [] [_] (.u (.n 9) .v0) [[-1,1]] (.k (.n 12) .v0) hn Ar.y | exact Ar.a1 [] [_] (.u (.n 10) .v0) [[-1,1]] (.k (.n 12) .v0) hn Ar.y | exact Ar.a1 [] [_] (.u (.n 11) .v0) [[-1,1]] (.k (.n 12) .v0) hn Ar.y | omega))]
 ·exact h.r9
 ·exact h.r10
 ·exact h.r11
theorem su {a b:Nat} {i:Nat} {v:V} (h:(mi a b)[i]?=some v):a+i<b∧v=.int ((a+i:Nat):Int):=by
 unfold mi at h
 rw [bq] at h
 by_cases hi:i<((b:Int)-a).toNat
 ·rw [List.getElem?_range hi] at h
  simp at h
  exact⟨by(exact(Ar.ton _).elim (fun q1=>(Ar.a2 [] [_,_,_,_] (.l (.a .v0 .v1) .v2) [[1,1,1]] (.l .v1 .v3) (.ie (.t .v3) (.s (.t .v2) (.t .v0))) hi q1.2)) fun q1=>(Ar.a2 [] [_,_,_,_] (.l (.a .v0 .v1) .v2) [[0,1,1]] (.l .v1 .v3) (.e .v3 .n0) hi q1.2)),by rw [← h];rfl⟩
 ·rw [List.getElem?_eq_none (by simpa using hi)] at h
  cases h
theorem tq {a b:Nat}:(mi a b).length=b-a:=by simp [mi]
theorem ir {n i:Nat}:fm n (i:Int)=i:=by unfold fm;rw [aw (by(exact Ar.a0 [] [_] (.ig (.t .v0) .n0) [[1]]))]
theorem yD {C:Cal} {σ:St} {la lb db sj:Addr} {as bs js:List Key} {alo ahi blo bhi:Nat} {K:Fl→Fr→St→Prop} {c:Ex} {ok:Key→Bool}
  (hLa:σ.L la=some (as.map Key.v)) (hLb:σ.L lb=some (bs.map Key.v)) (ha:∀ k∈as,pd k) (hb:∀ k∈bs,pd k) (hal:as.length<2^40) (hbl:bs.length<2^40)
  (hc:∀ (ρ:Fr) (j:Nat) (b:Key) (Q:Bool→St→Prop),FF ρ la lb db sj alo ahi blo bhi→ρ 10=some (.int ((j+1:Nat):Int))→bs[j]?=some b→Q (ok b) σ→wpT C c ρ σ Q)
  {i j k:Nat} (hi:i≤as.length) (hj:j≤bs.length)
  (h:∀ ρ,FF ρ la lb db sj alo ahi blo bhi→FB ρ (sy as bs ok alo blo i j k).1 (sy as bs ok alo blo i j k).2.1 (sy as bs ok alo blo i j k).2.2→K .next ρ σ) {ρ:Fr} (F:FF ρ la lb db sj alo ahi blo bhi) (B:FB ρ i j k) :
  wpS C (.loop (.and (.cmp .gt (.loc 9) (.loc 1)) (.and (.cmp .gt (.loc 10) (.loc 3)) (.and c (.cmp .eq (.sub (.loc 5) (.bin .sub (.loc 9) (.int 1))) (.sub (.loc 6) (.bin .sub (.loc 10) (.int 1))))))) (.cons (.assign [.tup [9,10,11]] (.tup (.cons (.bin .sub (.loc 9) (.int 1)) (.cons (.bin .sub (.loc 10) (.int 1)) (.cons (.bin .add (.loc 11) (.int 1)) .nil))))) .nil)) ρ σ K:=by
 refine⟨i+1,sr (fun n ρ' σ'=>σ'=σ∧FF ρ' la lb db sj alo ahi blo bhi∧∃ i' j' k',n=i'∧FB ρ' i' j' k'∧i'≤as.length∧j'≤bs.length∧sy as bs ok alo blo i' j' k'=sy as bs ok alo blo i j k) ?_ (i+1) i (by(exact Ar.a0 [] [_] (.l .v0 (.a .v0 .n1)) [[1]])) ⟨rfl,F,i,j,k,rfl,B,hi,hj,rfl⟩⟩
 rintro n ρ' σ' ⟨rfl,F',i',j',k',rfl,B',hi',hj',e⟩ again hag
 refine⟨_,B'.r9,_,F'.r1,?_⟩
 show(if decide ((alo:Int)<n)=true then _ else _)
 by_cases c1:alo<n
 ·rw [bc (by simpa using c1)]
  refine⟨_,B'.r10,_,F'.r3,?_⟩
  show(if decide ((blo:Int)<j')=true then _ else _)
  by_cases c2:blo<j'
  ·rw [bc (by simpa using c2)]
   obtain⟨i0,rfl⟩:∃ i0,n=i0+1:=⟨n-1,by(exact Ar.a1 [] [_,_] (.e .v0 (.a .v1 .n1)) [[1,1],[1,-1]] (.e (.a .v1 .n1) .v0) (aa (Ar.a1 [] [_,_] (.k .n1 .v0) [[1,1]] (.l .v1 .v0) c1)))⟩
   obtain⟨j0,rfl⟩:∃ j0,j'=j0+1:=⟨j'-1,by(exact Ar.a1 [] [_,_] (.e .v0 (.a .v1 .n1)) [[1,1],[1,-1]] (.e (.a .v1 .n1) .v0) (aa (Ar.a1 [] [_,_] (.k .n1 .v0) [[1,1]] (.l .v1 .v0) c2)))⟩
   have ea:as[i0]?=some as[i0]:=cf (by(exact Ar.a1 [] [_,_] (.l .v0 .v1) [[1,1]] (.k (.a .v0 .n1) .v1) hi'))
   have eb:bs[j0]?=some bs[j0]:=cf (by(exact Ar.a1 [] [_,_] (.l .v0 .v1) [[1,1]] (.k (.a .v0 .n1) .v1) hj'))
   refine hc _ j0 bs[j0] _ F' B'.r10 eb ?_
   cases hok:ok bs[j0] with
   | false =>
    show K .next ρ' σ'
    have:sy as bs ok alo blo (i0+1) (j0+1) k'=(i0+1,j0+1,k'):=by
     rw [vi]
     rw [aw]
     rintro ⟨_,_,h3⟩
     obtain⟨c,_,h4,h5⟩:=qg.mp h3
     rw [eb] at h4
     cases h4
     rw [hok] at h5;cases h5
    rw [this] at e
    exact h _ F' (by rw [← e];exact B')
   | true =>
    rw [bc rfl]
    refine⟨_,F'.r5,_,B'.r9,as.map Key.v,as[i0].v,hLa,?_,?_,_,F'.r6,_,B'.r10,bs.map Key.v,bs[j0].v,hLb,?_,?_,?_⟩
    ·have e1:((i0+1:Nat):Int)-1=(i0:Int):=by(exact Ar.a0 [] [_] (.ie (.s (.t (.a .v0 .n1)) .n1) (.t .v0)) [[1],[1]])
     rw [e1,ir];(exact Ar.a0 [] [_] (.ik .n0 (.t .v0)) [[1]])
    ·have e1:((i0+1:Nat):Int)-1=(i0:Int):=by(exact Ar.a0 [] [_] (.ie (.s (.t (.a .v0 .n1)) .n1) (.t .v0)) [[1],[1]])
     rw [e1,ir,eh,bq,ea];rfl
    ·have e1:((j0+1:Nat):Int)-1=(j0:Int):=by(exact Ar.a0 [] [_] (.ie (.s (.t (.a .v0 .n1)) .n1) (.t .v0)) [[1],[1]])
     rw [e1,ir];(exact Ar.a0 [] [_] (.ik .n0 (.t .v0)) [[1]])
    ·have e1:((j0+1:Nat):Int)-1=(j0:Int):=by(exact Ar.a0 [] [_] (.ie (.s (.t (.a .v0 .n1)) .n1) (.t .v0)) [[1],[1]])
     rw [e1,ir,eh,bq,eb];rfl
    refine eP (ha _ (kf _)) (hb _ (kf _)) ?_
    by_cases q:as[i0]=bs[j0]
    ·rw [dv q]
     refine aN ?_
     refine⟨_,B'.r9,_,B'.r10,_,B'.r11,by simp [av],_,rfl,rfl,?_⟩
     refine hag i0 _ _ (by(exact Ar.a0 [] [_] (.l .v0 (.a .v0 .n1)) [[1]])) ⟨rfl,?_,i0,j0,k'+1,rfl,?_,by(exact Ar.a1 [] [_,_] (.k .v0 .v1) [[1,1]] (.k (.a .v0 .n1) .v1) hi'),by(exact Ar.a1 [] [_,_] (.k .v0 .v1) [[1,1]] (.k (.a .v0 .n1) .v1) hj'),?_⟩
     ·exact((F'.up (by(exact Ar.a0 [] [] (.k (.n 9) (.n 9)) [[1]]))).up (by(exact Ar.a0 [] [] (.k (.n 9) (.n 10)) [[1]]))).up (by(exact Ar.a0 [] [] (.k (.n 9) (.n 11)) [[1]]))
     ·refine⟨?_,?_,?_⟩
      ·show some (V.int (((i0+1:Nat):Int)-1))=_
       congr 2;(exact Ar.a0 [] [_] (.ie (.s (.t (.a .v0 .n1)) .n1) (.t .v0)) [[1],[1]])
      ·show some (V.int (((j0+1:Nat):Int)-1))=_
       congr 2;(exact Ar.a0 [] [_] (.ie (.s (.t (.a .v0 .n1)) .n1) (.t .v0)) [[1],[1]])
      ·rfl
     ·rw [← e]
      conv=>rhs;rw [vi]
      rw [bc ⟨c1,c2,qg.mpr ⟨as[i0],ea,by rw [q];exact eb,by rw [q];simp [hok]⟩⟩]
    ·rw [dp q]
     show K .next ρ' σ'
     have:sy as bs ok alo blo (i0+1) (j0+1) k'=(i0+1,j0+1,k'):=by
      rw [vi]
      rw [aw]
      rintro ⟨_,_,h3⟩
      obtain⟨c,h4,h5,_⟩:=qg.mp h3
      rw [ea] at h4;rw [eb] at h5
      cases h4
      exact q (af h5).symm
     rw [this] at e
     exact h _ F' (by rw [← e];exact B')
  ·rw [aw (by simpa using c2)]
   show K .next ρ' σ'
   have:sy as bs ok alo blo n j' k'=(n,j',k'):=by
    cases n with
    | zero=>rfl
    | succ n =>
     cases j' with
     | zero=>rfl
     | succ j'=>rw [vi];rw [aw (fun h=>c2 h.2.1)]
   rw [this] at e
   exact h _ F' (by rw [← e];exact B')
 ·rw [aw (by simpa using c1)]
  show K .next ρ' σ'
  have:sy as bs ok alo blo n j' k'=(n,j',k'):=by
   cases n with
   | zero=>rfl
   | succ n =>
    cases j' with
    | zero=>rfl
    | succ j'=>rw [vi];rw [aw (fun h=>c1 h.1)]
  rw [this] at e
  exact h _ F' (by rw [← e];exact B')
theorem yC {C:Cal} {σ:St} {la lb db sj:Addr} {as bs js:List Key} {alo ahi blo bhi:Nat} {K:Fl→Fr→St→Prop} {c:Ex} {ok:Key→Bool} {body:Stm}
  (hbody:body=.aug 11 .add (.int 1)∨body=.assign [(.var 11)] (.bin .add (.loc 11) (.int 1)))
  (hLa:σ.L la=some (as.map Key.v)) (hLb:σ.L lb=some (bs.map Key.v)) (ha:∀ k∈as,pd k) (hb:∀ k∈bs,pd k) (hal:ahi≤as.length) (hbl:bhi≤bs.length)
  (hc:∀ (ρ:Fr) (j k:Nat) (b:Key) (Q:Bool→St→Prop),FF ρ la lb db sj alo ahi blo bhi→ρ 10=some (.int j)→ρ 11=some (.int k)→bs[j+k]?=some b→Q (ok b) σ→wpT C c ρ σ Q)
  {i j k:Nat}
  (h:∀ ρ,FF ρ la lb db sj alo ahi blo bhi→FB ρ i j (yn as bs ok ahi bhi (ahi-i) i j k)→K .next ρ σ) {ρ:Fr} (F:FF ρ la lb db sj alo ahi blo bhi) (B:FB ρ i j k) :
  wpS C (.loop (.and (.cmp .lt (.bin .add (.loc 9) (.loc 11)) (.loc 2)) (.and (.cmp .lt (.bin .add (.loc 10) (.loc 11)) (.loc 4)) (.and c (.cmp .eq (.sub (.loc 5) (.bin .add (.loc 9) (.loc 11))) (.sub (.loc 6) (.bin .add (.loc 10) (.loc 11))))))) (.cons body .nil)) ρ σ K:=by
 have more:∀ n m k,ahi-(i+k)≤n→n≤m→yn as bs ok ahi bhi n i j k=yn as bs ok ahi bhi m i j k:=by
  intro n
  induction n with
  | zero =>
   intro m k h1 h2
   cases m with
   | zero=>rfl
   | succ m =>
    show k=_
    rw [rv]
    rw [aw (by(exact fun q1=>(Ar.a3 [] [_,_,_,_] .ff [[0,1,1,-1]] (.k .v0 .n0) (.l (.a .v1 .v2) .v3) (.e (.a .v0 (.a .v1 .v2)) .v3) h1 q1.1 (aa (Ar.a1 [] [_,_,_] (.k (.a .v0 .v1) .v2) [[1,1]] (.l (.a .v0 .v1) .v2) q1.1)))))]
  | succ n ih =>
   intro m k h1 h2
   obtain⟨m,rfl⟩:∃ m',m=m'+1:=⟨m-1,by(exact Ar.a1 [] [_,_] (.e .v0 (.a .v1 .n1)) [[1,1],[1,-1]] (.e (.a .v1 .n1) .v0) (aa (Ar.a1 [] [_,_] (.k .n1 .v0) [[1,1]] (.k (.a .v1 .n1) .v0) h2)))⟩
   rw [rv,rv]
   split
   ·exact ih _ _ (by(rename_i z1;exact Ar.a3 [] [_,_,_,_,_,_] (.k .v0 .v1) [[1,1,-1,1]] (.k .v2 (.a .v1 .n1)) (.e (.a .v2 (.a .v3 .v4)) .v5) (.e (.a .v0 (.a .v3 (.a .v4 .n1))) .v5) h1 (aa (Ar.a1 [] [_,_,_] (.k (.a .v0 .v1) .v2) [[1,1]] (.l (.a .v0 .v1) .v2) z1.1)) (aa (Ar.a1 [] [_,_,_] (.k (.a .v0 (.a .v1 .n1)) .v2) [[1,1]] (.l (.a .v0 .v1) .v2) z1.1)))) (by(exact Ar.a1 [] [_,_] (.k .v0 .v1) [[1,1]] (.k (.a .v0 .n1) (.a .v1 .n1)) h2))
   ·rfl
 refine⟨ahi+1,sr (fun n ρ' σ'=>σ'=σ∧FF ρ' la lb db sj alo ahi blo bhi∧∃ k',n=ahi-(i+k')∧FB ρ' i j k'∧yn as bs ok ahi bhi (ahi-i) i j k'=yn as bs ok ahi bhi (ahi-i) i j k) ?_ (ahi+1) (ahi-(i+k)) (by(exact Ar.a1 [] [_,_] (.l .v0 (.a .v1 .n1)) [[1,1]] (.k .v0 .v1) (Nat.sub_le _ _))) ⟨rfl,F,k,rfl,B,rfl⟩⟩
 rintro n ρ' σ' ⟨rfl,F',k',rfl,B',e⟩ again hag
 have stop:yn as bs ok ahi bhi (ahi-i) i j k'=k'→K .next ρ' σ':=fun q=>by
  rw [q] at e
  exact h _ F' (by rw [← e];exact B')
 refine⟨_,B'.r9,_,B'.r11,_,F'.r2,?_⟩
 show(if decide (((i:Int)+k')<ahi)=true then _ else _)
 by_cases c1:i+k'<ahi
 ·rw [bc (by simp;(exact Ar.a1 [] [_,_,_] (.il (.a (.t .v0) (.t .v1)) (.t .v2)) [[1,1]] (.l (.a .v0 .v1) .v2) c1))]
  refine⟨_,B'.r10,_,B'.r11,_,F'.r4,?_⟩
  show(if decide (((j:Int)+k')<bhi)=true then _ else _)
  by_cases c2:j+k'<bhi
  ·rw [bc (by simp;(exact Ar.a1 [] [_,_,_] (.il (.a (.t .v0) (.t .v1)) (.t .v2)) [[1,1]] (.l (.a .v0 .v1) .v2) c2))]
   have ea:as[i+k']?=some as[i+k']:=cf (by(exact Ar.a2 [] [_,_,_,_] (.l (.a .v0 .v1) .v2) [[1,1,1]] (.k .v3 .v2) (.l (.a .v0 .v1) .v3) hal c1))
   have eb:bs[j+k']?=some bs[j+k']:=cf (by(exact Ar.a2 [] [_,_,_,_] (.l (.a .v0 .v1) .v2) [[1,1,1]] (.k .v3 .v2) (.l (.a .v0 .v1) .v3) hbl c2))
   refine hc _ j k' bs[j+k'] _ F' B'.r10 B'.r11 eb ?_
   cases hok:ok bs[j+k'] with
   | false =>
    refine stop ?_
    obtain⟨m,hm⟩:∃ m,ahi-i=m+1:=⟨ahi-i-1,by(exact Ar.a1 [] [_,_] (.e .v0 (.a .v1 .n1)) [[1,1],[1,-1]] (.e (.a .v1 .n1) .v0) (aa (Ar.a2 [] [_,_,_,_] (.k .n1 .v0) [[1,1,-1]] (.l (.a .v1 .v2) .v3) (.e (.a .v0 .v1) .v3) c1 (aa (Ar.a1 [] [_,_,_] (.k .v0 .v1) [[1,1]] (.l (.a .v0 .v2) .v1) c1)))))⟩
    rw [hm]
    rw [rv]
    rw [aw]
    rintro ⟨_,_,h3⟩
    obtain⟨c,_,h4,h5⟩:=qg.mp h3
    rw [eb] at h4
    cases h4
    rw [hok] at h5;cases h5
   | true =>
    rw [bc rfl]
    refine⟨_,F'.r5,_,B'.r9,_,B'.r11,as.map Key.v,as[i+k'].v,hLa,?_,?_,_,F'.r6,_,B'.r10,_,B'.r11,bs.map Key.v,bs[j+k'].v,hLb,?_,?_,?_⟩
    ·have e1:(i:Int)+k'=((i+k':Nat):Int):=by(exact Ar.a0 [] [_,_] (.ie (.a (.t .v0) (.t .v1)) (.t (.a .v0 .v1))) [[1],[1]])
     rw [e1,ir];(exact Ar.a0 [] [_,_] (.ik .n0 (.t (.a .v0 .v1))) [[1]])
    ·have e1:(i:Int)+k'=((i+k':Nat):Int):=by(exact Ar.a0 [] [_,_] (.ie (.a (.t .v0) (.t .v1)) (.t (.a .v0 .v1))) [[1],[1]])
     rw [e1,ir,eh,bq,ea];rfl
    ·have e1:(j:Int)+k'=((j+k':Nat):Int):=by(exact Ar.a0 [] [_,_] (.ie (.a (.t .v0) (.t .v1)) (.t (.a .v0 .v1))) [[1],[1]])
     rw [e1,ir];(exact Ar.a0 [] [_,_] (.ik .n0 (.t (.a .v0 .v1))) [[1]])
    ·have e1:(j:Int)+k'=((j+k':Nat):Int):=by(exact Ar.a0 [] [_,_] (.ie (.a (.t .v0) (.t .v1)) (.t (.a .v0 .v1))) [[1],[1]])
     rw [e1,ir,eh,bq,eb];rfl
    refine eP (ha _ (kf _)) (hb _ (kf _)) ?_
    by_cases q:as[i+k']=bs[j+k']
    ·rw [dv q]
     refine aN ?_
     have go:again (upd ρ' 11 (.int ((k':Int)+1))) σ':=by
      refine hag (ahi-(i+(k'+1))) _ _ (by(exact Ar.a2 [] [_,_,_,_,_] (.l .v0 .v1) [[1,1,-1]] (.e (.a .v0 (.a .v2 (.a .v3 .n1))) .v4) (.e (.a .v1 (.a .v2 .v3)) .v4) (aa (Ar.a1 [] [_,_,_] (.k (.a .v0 (.a .v1 .n1)) .v2) [[1,1]] (.l (.a .v0 .v1) .v2) c1)) (aa (Ar.a1 [] [_,_,_] (.k (.a .v0 .v1) .v2) [[1,1]] (.l (.a .v0 .v1) .v2) c1)))) ⟨rfl,F'.up (by(exact Ar.a0 [] [] (.k (.n 9) (.n 11)) [[1]])),k'+1,rfl,⟨B'.r9,B'.r10,rfl⟩,?_⟩
      rw [← e]
      obtain⟨m,hm⟩:∃ m,ahi-i=m+1:=⟨ahi-i-1,by(exact Ar.a1 [] [_,_] (.e .v0 (.a .v1 .n1)) [[1,1],[1,-1]] (.e (.a .v1 .n1) .v0) (aa (Ar.a2 [] [_,_,_,_] (.k .n1 .v0) [[1,1,-1]] (.l (.a .v1 .v2) .v3) (.e (.a .v0 .v1) .v3) c1 (aa (Ar.a1 [] [_,_,_] (.k .v0 .v1) [[1,1]] (.l (.a .v0 .v2) .v1) c1)))))⟩
      rw [hm]
      conv=>rhs;rw [rv]
      rw [bc ⟨c1,c2,qg.mpr ⟨as[i+k'],ea,by rw [q];exact eb,by rw [q];simp [hok]⟩⟩]
      exact(more _ _ _ (by(exact Ar.a3 [] [_,_,_,_,_,_] (.k .v0 .v1) [[1,1,-1,1]] (.e .v2 (.a .v1 .n1)) (.e (.a .v2 .v3) .v4) (.e (.a .v0 (.a .v3 (.a .v5 .n1))) .v4) hm (aa (Ar.a1 [] [_,_,_] (.k .v0 .v1) [[1,1]] (.l (.a .v0 .v2) .v1) c1)) (aa (Ar.a1 [] [_,_,_] (.k (.a .v0 (.a .v1 .n1)) .v2) [[1,1]] (.l (.a .v0 .v1) .v2) c1)))) (by(exact Ar.a0 [] [_] (.k .v0 (.a .v0 .n1)) [[1]]))).symm
     rcases hbody with rfl | rfl
     ·exact⟨_,B'.r11,go⟩
     ·exact⟨_,B'.r11,go⟩
    ·rw [dp q]
     refine stop ?_
     obtain⟨m,hm⟩:∃ m,ahi-i=m+1:=⟨ahi-i-1,by(exact Ar.a1 [] [_,_] (.e .v0 (.a .v1 .n1)) [[1,1],[1,-1]] (.e (.a .v1 .n1) .v0) (aa (Ar.a2 [] [_,_,_,_] (.k .n1 .v0) [[1,1,-1]] (.l (.a .v1 .v2) .v3) (.e (.a .v0 .v1) .v3) c1 (aa (Ar.a1 [] [_,_,_] (.k .v0 .v1) [[1,1]] (.l (.a .v0 .v2) .v1) c1)))))⟩
     rw [hm]
     rw [rv]
     rw [aw]
     rintro ⟨_,_,h3⟩
     obtain⟨c,h4,h5,_⟩:=qg.mp h3
     rw [ea] at h4;rw [eb] at h5
     cases h4
     exact q (af h5).symm
  ·rw [aw (by simp;(exact Ar.a1 [] [_,_,_] (.ik (.t .v0) (.a (.t .v1) (.t .v2))) [[1,1]] (.g (.a .v1 .v2) .v0) c2))]
   refine stop ?_
   cases ahi-i with
   | zero=>rfl
   | succ n=>rw [rv];rw [aw (fun h=>c2 h.2.1)]
 ·rw [aw (by simp;(exact Ar.a1 [] [_,_,_] (.ik (.t .v0) (.a (.t .v1) (.t .v2))) [[1,1]] (.g (.a .v1 .v2) .v0) c1))]
  refine stop ?_
  cases ahi-i with
  | zero=>rfl
  | succ n=>rw [rv];rw [aw (fun h=>c1 h.1)]
end SM
end MP
end
section
namespace MP
namespace SM
set_option genInjectivity false
set_option genSizeOf false
open PySem
noncomputable def yb (as bs:List Key) (rm:Key→Bool) (alo blo bhi i:Nat) (ps:List Nat) (es:List (Key × V)):Prop:=∀ j:Nat,j<bhi→(es.lookup (.int ((j:Int)-1))).getD (.int 0)=.int (if 0<j∧j-1∈ps then el as bs rm alo blo (i+1) j else 0:Nat)
theorem yb.row {as bs:List Key} {rm:Key→Bool} {alo blo bhi i:Nat} {ps:List Nat} {es:List (Key × V)} (h:yb as bs rm alo blo bhi i ps es) (hp:∀ j,j<bhi→hit as bs rm i j=true→j∈ps):Row as bs rm alo blo bhi (i+1) es:=by
 intro j hj
 rw [h j hj]
 split
 ·rfl
 ·rename_i c
  congr 2
  cases j with
  | zero=>rfl
  | succ j =>
   rw [hW]
   rw [aw]
   rintro ⟨_,_,q⟩
   exact c ⟨by(exact Ar.a0 [] [_] (.l .n0 (.a .v0 .n1)) [[1]]),hp j (by(exact Ar.a1 [] [_,_] (.l .v0 .v1) [[1,1]] (.l (.a .v0 .n1) .v1) hj)) q⟩
theorem yb.put {as bs:List Key} {rm:Key→Bool} {alo blo bhi i:Nat} {ps:List Nat} {es:List (Key × V)} (h:yb as bs rm alo blo bhi i ps es) (j:Nat):yb as bs rm alo blo bhi i (ps++[j]) (putD es (.int j) (.int (el as bs rm alo blo (i+1) (j+1):Nat))):=by
 intro j' hj'
 rw [kX]
 by_cases c:j'=j+1
 ·subst c
  rw [bc (by congr 1;(exact Ar.a0 [] [_] (.ie (.s (.t (.a .v0 .n1)) .n1) (.t .v0)) [[1],[1]])),bc ⟨by(exact Ar.a0 [] [_] (.l .n0 (.a .v0 .n1)) [[1]]),by simp⟩]
  rfl
 ·rw [aw (fun q=>c (by injection q;(exact Ar.a1 [] [_,_] (.e .v0 (.a .v1 .n1)) [[1,-1],[1,1]] (.ie (.s (.t .v0) .n1) (.t .v1)) i_eq))),h j' hj']
  congr 2
  by_cases c1:0<j'∧j'-1∈ps
  ·rw [bc c1,bc ⟨c1.1,fq _ c1.2⟩]
  ·rw [aw c1,aw]
   rintro ⟨c2,c3⟩
   rcases cy.mp c3 with c3 | c3
   ·exact c1 ⟨c2,c3⟩
   ·simp at c3;(exact(ak c).elim (fun q1=>(Ar.a3 [] [_,_,_] .ff [[0,-1,1,1]] (.e .v0 .v1) (.e (.a .v0 .n1) .v2) (.l .v2 (.a .v1 .n1)) c3 (aa (Ar.a1 [] [_] (.k .n1 .v0) [[1,1]] (.l .n0 .v0) c2)) q1)) fun q1=>(Ar.a3 [] [_,_,_] .ff [[0,1,-1,1]] (.e .v0 .v1) (.e (.a .v0 .n1) .v2) (.l (.a .v1 .n1) .v2) c3 (aa (Ar.a1 [] [_] (.k .n1 .v0) [[1,1]] (.l .n0 .v0) c2)) q1))
theorem yb.skip {as bs:List Key} {rm:Key→Bool} {alo blo bhi i:Nat} {ps:List Nat} {es:List (Key × V)} (h:yb as bs rm alo blo bhi i ps es) (j:Nat) (hj:j<blo):yb as bs rm alo blo bhi i (ps++[j]) es:=by
 intro j' hj'
 rw [h j' hj']
 congr 2
 by_cases c1:0<j'∧j'-1∈ps
 ·rw [bc c1,bc ⟨c1.1,fq _ c1.2⟩]
 ·rw [aw c1]
  by_cases c2:0<j'∧j'-1∈ps++[j]
  ·rw [bc c2]
   obtain⟨c3,c4⟩:=c2
   rcases cy.mp c4 with c4 | c4
   ·exact absurd ⟨c3,c4⟩ c1
   ·obtain⟨j1,rfl⟩:∃ j1,j'=j1+1:=⟨j'-1,by(exact Ar.a1 [] [_,_] (.e .v0 (.a .v1 .n1)) [[1,1],[1,-1]] (.e (.a .v1 .n1) .v0) (aa (Ar.a1 [] [_] (.k .n1 .v0) [[1,1]] (.l .n0 .v0) c3)))⟩
    simp at c4
    rw [hW]
    rw [aw (by(exact fun q1=>(Ar.a3 [] [_,_,_] .ff [[0,1,1,1]] (.l .v0 .v1) (.e .v2 .v0) (.k .v1 .v2) hj c4 q1.2.1)))]
  ·rw [aw c2]
noncomputable def fB:jf:=(.cons (.cond (.cmp .lt (.loc 17) (.loc 3)) (.cons .cont
 .nil) .nil)
 (.cons (.cond (.cmp .ge (.loc 17) (.loc 4)) (.cons .brk
 .nil) .nil)
 (.cons (.assign [(.var 18),(.sub (.loc 16) (.loc 17))] (.bin .add (.callv 15 (.cons (.bin .sub (.loc 17) (.int 1)) (.cons (.int 0) .nil))) (.int 1)))
 (.cons (.cond (.cmp .gt (.loc 18) (.loc 11)) (.cons (.assign [.tup [9,10,11]] (.tup (.cons (.bin .add (.bin .sub (.loc 14) (.loc 18)) (.int 1)) (.cons (.bin .add (.bin .sub (.loc 17) (.loc 18)) (.int 1)) (.cons (.loc 18) .nil)))))
 .nil) .nil)
 .nil))))
noncomputable def eX:Stm:=.each (.var 17) (.seq (.bm .get (.loc 7) (.cons (.sub (.loc 5) (.loc 14)) (.cons (.loc 13) .nil)))) fB
structure Fc where
 σ₀:St
 la:Addr
 lb:Addr
 db:Addr
 sj:Addr
 nl:Addr
 as:List Key
 bs:List Key
 rm:Key→Bool
 alo:Nat
 ahi:Nat
 blo:Nat
 bhi:Nat
noncomputable abbrev Fc.F (c:Fc) (ρ:Fr):Prop:=FF ρ c.la c.lb c.db c.sj c.alo c.ahi c.blo c.bhi
noncomputable abbrev Fc.S (c:Fc) (seen:Nat→Nat→Prop) (i j k:Nat):Prop:=Scan c.as c.bs c.rm c.alo c.ahi c.blo c.bhi seen i j k
noncomputable abbrev Fc.e (c:Fc) (i j:Nat):Nat:=el c.as c.bs c.rm c.alo c.blo i j
noncomputable abbrev Fc.R (c:Fc) (i:Nat) (es:List (Key × V)):Prop:=Row c.as c.bs c.rm c.alo c.blo c.bhi i es
noncomputable abbrev Fc.h (c:Fc) (i j:Nat):Bool:=hit c.as c.bs c.rm i j
structure Fk (c:Fc):Prop where
 La:c.σ₀.L c.la=some (c.as.map Key.v)
 T:TabAt c.σ₀ c.db c.bs c.rm
 n:c.σ₀.L c.nl=some []
 s:c.bs.length<av
 bl:c.bhi≤c.bs.length
 al:c.ahi≤c.as.length
structure Sc where
 c:Fc
 i:Nat
 cd:Addr
 nd:Addr
 es:List (Key × V)
 ps:List Nat
structure Sk (s:Sc):Prop where
 ai:s.c.alo≤s.i
 ia:s.i<s.c.ahi
 row:s.c.R s.i s.es
 ne:s.cd≠s.nd
 no:s.c.σ₀.D s.nd=none
 mem:∀ j,j∈s.ps↔s.c.h s.i j=true
 lt:s.ps.Pairwise (·<·)
 pl:s.ps.length≤s.c.bs.length
noncomputable def Sc.seen (s:Sc) (t:Nat):Nat→Nat→Prop:=fun i' j'=>(i'<s.i∧j'<s.c.bhi)∨(i'=s.i∧j'∈s.ps.take t)
inductive InI (s:Sc) (t:Nat) (ρ:Fr) (σ:St):Prop
 | mk (bi bj bk:Nat) (es:List (Key × V)) (lim:∀ j,j∈s.ps.take t→j<s.c.bhi) (len:es.length≤t) (k:Kp s.c.σ₀ σ) (F:s.c.F ρ) (B:FB ρ bi bj bk) (cd:σ.D s.cd=some s.es) (nd:σ.D s.nd=some es)
  (r13:ρ 13=some (.lst s.c.nl)) (r14:ρ 14=some (.int s.i)) (r15:ρ 15=some (.yo s.cd)) (r16:ρ 16=some (.dct s.nd)) (row:yb s.c.as s.c.bs s.c.rm s.c.alo s.c.blo s.c.bhi s.i (s.ps.take t) es) (sc:s.c.S (s.seen t) bi bj bk):InI s t ρ σ
inductive i7 (s:Sc) (ρ:Fr) (σ:St):Prop
 | mk (bi bj bk:Nat) (es:List (Key × V)) (k:Kp s.c.σ₀ σ) (F:s.c.F ρ) (B:FB ρ bi bj bk) (r13:ρ 13=some (.lst s.c.nl)) (r16:ρ 16=some (.dct s.nd)) (nd:σ.D s.nd=some es) (row:s.c.R (s.i+1) es)
  (sc:s.c.S (fun i' j'=>(i'<s.i∧j'<s.c.bhi)∨(i'=s.i∧j'<s.c.bhi∧s.c.h s.i j'=true)) bi bj bk):i7 s ρ σ
structure vn (ps:List Nat) (t j:Nat):Prop where
 th:ps.take (t+1)=ps.take t++[j]
 lt:∀ m,m∈ps.take t→m<j
 of:∀ m,m∈ps→m<j→m∈ps.take t
 mem:j∈ps
theorem uK {ps:List Nat} (lt:ps.Pairwise (·<·)) {t j:Nat} (e:ps[t]?=some j):vn ps t j:=by
 obtain⟨ht,rfl⟩:=bb.mp e
 refine⟨jl ht,fun m hm=>?_,fun m hm hl=>?_,kf _⟩
 ·obtain⟨a,ha,rfl⟩:=uk hm
  have hb:a<t:=by
   have:=ha
   rw [dq] at this
   (exact Ar.a2 [] [_,_,_] (.l .v0 .v1) [[1,1,1]] (.l .v0 .v2) (.k .v2 .v1) this (Ar.jr _ _).1)
  rw [List.getElem_take]
  exact(nv.mp lt) a t (by(exact Ar.a2 [] [_,_,_] (.l .v0 .v1) [[1,1,1]] (.l .v2 .v1) (.l .v0 .v2) ht hb)) ht hb
 ·obtain⟨a,ha,rfl⟩:=uk hm
  have:a<t:=by
   refine Nat.lt_of_not_le fun q=>?_
   rcases Nat.eq_or_lt_of_le q with q | q
   ·subst q;exact absurd hl (gc _)
   ·have:=(nv.mp lt) t a ht ha q
    (exact Ar.a2 [] [_,_] .ff [[0,1,1]] (.l .v0 .v1) (.l .v1 .v0) hl this)
  exact List.mem_take_iff_getElem.mpr ⟨a,by(exact(Ar.jr _ _).2.2.elim (fun q1=>(Ar.a2 [] [_,_,_] (.l .v0 .v1) [[1,1,1]] (.l .v0 .v2) (.k .v2 .v1) this q1)) fun q1=>(Ar.a3 [] [_,_,_,_] (.l .v0 .v1) [[1,1,1,1]] (.l .v2 .v3) (.l .v0 .v2) (.k .v3 .v1) ht this q1)),rfl⟩
theorem InI.fin {s:Sc} {t:Nat} {ρ:Fr} {σ:St} (k:Sk s) (I:InI s t ρ σ) (hall:∀ j,j<s.c.bhi→j∈s.ps→j∈s.ps.take t):i7 s ρ σ:=by
 cases I
 refine .mk bi bj bk es k_1 F B r13 r16 nd (row.row fun j hj hh=>hall j hj ((k.mem j).mpr hh)) (sc.skip ?_ ?_)
 ·rintro i' j' (q | ⟨q,q'⟩)
  ·exact .inl q
  ·exact .inr ⟨q,lim _ q',(k.mem _).mp (List.mem_of_mem_take q')⟩
 ·rintro i' j' (q | ⟨q,q',q''⟩)
  ·exact .inl (.inl q)
  ·exact .inl (.inr ⟨q,hall _ q' ((k.mem _).mpr q'')⟩)
section
variable {s:Sc} {t j bi bj bk:Nat}
theorem aG (T:vn s.ps t j) {i' j':Nat} (q:s.seen (t+1) i' j'):s.seen t i' j'∨(i'=s.i∧j'=j):=by
 rcases q with q | ⟨q,q'⟩
 ·exact .inl (.inl q)
 ·rw [T.th] at q'
  rcases cy.mp q' with q' | q'
  ·exact .inl (.inr ⟨q,q'⟩)
  ·exact .inr ⟨q,aq.mp q'⟩
theorem eW (T:vn s.ps t j) {i' j':Nat} (q:s.seen t i' j'):s.seen (t+1) i' j':=q.imp_right fun q=>⟨q.1,by rw [T.th];exact fq _ q.2⟩
theorem jC (T:vn s.ps t j) (lim:∀ j,j∈s.ps.take t→j<s.c.bhi) (hj:j<s.c.bhi):∀ j,j∈s.ps.take (t+1)→j<s.c.bhi:=by
 rw [T.th];intro j' hj'
 rcases cy.mp hj' with q | q
 ·exact lim _ q
 ·rw [aq.mp q];exact hj
theorem vM (T:vn s.ps t j) (hj:j<s.c.blo) (sc:s.c.S (s.seen t) bi bj bk):s.c.S (s.seen (t+1)) bi bj bk:=by
 refine sc.skip (fun i' j'=>eW T) fun i' j' q=>?_
 rcases aG T q with q | ⟨rfl,rfl⟩
 ·exact .inl q
 ·refine .inr (.inl ?_)
  rw [hW]
  rw [aw (by(exact fun q1=>(Ar.a2 [] [_,_] .ff [[0,1,1]] (.l .v0 .v1) (.k .v1 .v0) hj q1.2.1)))]
theorem vN (k:Sk s) (T:vn s.ps t j) (sc:s.c.S (s.seen t) bi bj bk) (h:s.c.e (s.i+1) (j+1)≤bk):s.c.S (s.seen (t+1)) bi bj bk:=by
 refine sc.skip (fun i' j'=>eW T) fun i' j' q=>?_
 rcases aG T q with q | ⟨rfl,rfl⟩
 ·exact .inl q
 ·refine .inr ?_
  obtain⟨h1,h2,hr⟩:=hY (as:=s.c.as) (bs:=s.c.bs) (rm:=s.c.rm) (alo:=s.c.alo) (blo:=s.c.blo) (i:=s.i+1) (j:=j'+1)
  rcases rf (s.c.e (s.i+1) (j'+1)) bk with c4 | c4
  ·exact .inr (.inl c4)
  ·have hEk:s.c.e (s.i+1) (j'+1)=bk:=Nat.le_antisymm h c4
   by_cases h0:s.c.e (s.i+1) (j'+1)=0
   ·exact .inl h0
   ·refine .inr (.inr ⟨hEk,?_⟩)
    have h1:s.c.e (s.i+1) (j'+1)≤s.i+1:=h1
    have h2:s.c.e (s.i+1) (j'+1)≤j'+1:=h2
    have R':=sc.run
    have e1:=R'.ia;have e2:=R'.jb
    rcases sc.at_ (by(exact(ak h0).elim (fun q1=>(Ar.a1 [] [_,_] (.l .n0 .v0) [[0,1]] (.l .v1 .n0) q1)) fun q1=>(Ar.a2 [] [_,_] (.l .n0 .v0) [[1,1,1]] (.e .v1 .v0) (.l .n0 .v1) hEk q1))) with q | ⟨q,q'⟩
    ·left;(rename_i z2 z1;exact Ar.a3 [] [_,_,_,_,_] (.l .v0 .v1) [[1,1,-1,1]] (.l .v2 .v3) (.e (.a .v1 .v4) (.a .v3 .n1)) (.k (.a .v0 .v4) (.a .v2 .n1)) q.1 (aa (Ar.a2 [] [_,_,_] (.k .v0 (.a .v1 .n1)) [[1,1,-1]] (.k .v2 (.a .v1 .n1)) (.e .v2 .v0) z2 hEk)) (Ar.AS _ _))
    ·right
     have:=T.lt _ q'
     (rename_i z2 z1;exact⟨(Ar.sub _ _ (fun q1 p1=>(Ar.a3 [] [_,_,_,_,_] (.e .v0 .v1) [[1,-1,1,1],[1,1,-1,-1]] (.e .v2 .v3) (.e (.a .v1 .v4) (.a .v3 .n1)) (.e (.a .v2 .n1) (.a .v0 .v4)) q (aa (Ar.a2 [] [_,_,_] (.k .v0 (.a .v1 .n1)) [[1,1,-1]] (.k .v2 (.a .v1 .n1)) (.e .v2 .v0) z2 hEk)) p1)) fun q1 p1=>((ak h0).elim (fun q2=>(Ar.a3 [] [_,_,_,_,_] (.e .v0 .v1) [[0,0,0,1],[1,-1,1,0]] (.e (.a .v1 .v2) (.a .v3 .n1)) (.k (.a .v0 .v2) .n1) (.l .v4 .n0) (aa (Ar.a2 [] [_,_,_] (.k .v0 (.a .v1 .n1)) [[1,1,-1]] (.k .v2 (.a .v1 .n1)) (.e .v2 .v0) z2 hEk)) q1 q2)) fun q2=>(Ar.a6 [] [_,_,_,_,_,_] (.e .v0 .v1) [[1,1,-1,1,0,1,1],[1,0,0,-1,1,0,0]] (.e .v2 .v3) (.e .v4 .v5) (.e (.a .v1 .v3) (.a .v5 .n1)) (.k (.a .v0 .v3) .n1) (.e .v4 .n0) (.l .n0 .v2) hEk q (aa (Ar.a2 [] [_,_,_] (.k .v0 (.a .v1 .n1)) [[1,1,-1]] (.k .v2 (.a .v1 .n1)) (.e .v2 .v0) z2 hEk)) q1 p1 q2))),(Ar.a3 [] [_,_,_,_,_] (.k .v0 .v1) [[1,1,-1,1]] (.l .v2 .v3) (.e (.a .v1 .v4) (.a .v3 .n1)) (.k (.a .v0 .v4) (.a .v2 .n1)) this (aa (Ar.a2 [] [_,_,_] (.k .v0 (.a .v1 .n1)) [[1,1,-1]] (.k .v2 (.a .v1 .n1)) (.e .v2 .v0) z1 hEk)) (Ar.AS _ _))⟩)
theorem vL (k:Sk s) (T:vn s.ps t j) (hj:j<s.c.bhi) (sc:s.c.S (s.seen t) bi bj bk) (h:bk<s.c.e (s.i+1) (j+1)):s.c.S (s.seen (t+1)) (s.i+1-s.c.e (s.i+1) (j+1)) (j+1-s.c.e (s.i+1) (j+1)) (s.c.e (s.i+1) (j+1)) :=
 sc.take k.ia hj h (.inr ⟨rfl,by rw [T.th];exact fo _ (.head _)⟩) fun i' j' q=>(aG T q).imp_right .inl
theorem InI.skip {ρ:Fr} {σ:St} (T:vn s.ps t j) (hj:j<s.c.blo) (hb:s.c.blo≤s.c.bhi) (I:InI s t ρ σ):InI s (t+1) (upd ρ 17 (.int j)) σ:=by
 cases I
 exact .mk bi bj bk es (jC T lim (wc hj hb)) (Nat.le_succ_of_le len) k (F.up (by decide)) (B.up (by decide)) cd nd r13 r14 r15 r16 (by rw [T.th];exact row.skip j hj) (vM T hj sc)
end
theorem wL {C:Cal} {s:Sc} (ok:Fk s.c) (k:Sk s) {t j:Nat} {ρ:Fr} {σ:St} (e:s.ps[t]?=some j) (hb:s.c.blo≤s.c.bhi) (I:InI s t ρ σ) {kk:Fr→St→Prop} {K:Fl→Fr→St→Prop} (hk:∀ ρ' σ',InI s (t+1) ρ' σ'→kk ρ' σ') (hf:∀ ρ' σ',i7 s ρ' σ'→K .next ρ' σ') :
  dk C fB (upd ρ 17 (.int j)) σ (qo kk K):=by
 have T:=uK k.lt e
 have ht:t<s.ps.length:=(bb.mp e).1
 have I0:=I
 cases I
 have F1:s.c.F (upd ρ 17 (.int (j:Int))):=F.up (by decide)
 have B1:FB (upd ρ 17 (.int (j:Int))) bi bj bk:=B.up (by decide)
 refine⟨.int j,rfl,.int s.c.blo,F1.r3,?_⟩
 show(if decide ((j:Int)<s.c.blo)=true then _ else _)
 by_cases c1:j<s.c.blo
 ·rw [bc (by simpa using c1)]
  exact hk _ _ (I0.skip T c1 hb)
 rw [aw (by simpa using c1)]
 refine⟨.int j,rfl,.int s.c.bhi,F1.r4,?_⟩
 show(if decide ((s.c.bhi:Int)≤j)=true then _ else _)
 by_cases c2:s.c.bhi≤j
 ·rw [bc (by simpa using c2)]
  exact hf _ _ (InI.fin k (t:=t) (.mk bi bj bk es lim len k_1 F1 B1 cd nd r13 r14 r15 r16 row sc) fun j' h1 h2=>T.of j' h2 (wc h1 c2))
 rw [aw (by simpa using c2)]
 have c2:=Nat.lt_of_not_le c2
 refine⟨.yo s.cd,r15,.int j,rfl,s.es,.int ((j:Int)-1),cd,rfl,?_⟩
 rw [k.row j c2]
 have pl:=k.pl
 have sl:=ok.s
 refine⟨.dct s.nd,r16,.int j,rfl,es,.int j,nd,rfl,by(exact Ar.a4 [] [_,_,_,_,_] (.l .v0 .v1) [[1,1,1,1,1]] (.l .v2 .v3) (.k .v0 .v2) (.k .v3 .v4) (.l .v4 .v1) ht len pl sl),?_⟩
 have hel1:s.c.e (s.i+1) (j+1)=s.c.e s.i j+1:=by
  rw [show s.c.e (s.i+1) (j+1)=_ from hW,bc ⟨k.ai,Nat.le_of_not_lt c1,(k.mem j).mp T.mem⟩]
 have hv2:(V.int (((s.c.e s.i j:Nat):Int)+1))=.int ((s.c.e (s.i+1) (j+1):Nat):Int):=by
  rw [hel1];rfl
 show dk C _ (upd (upd ρ 17 (.int (j:Int))) 18 (V.int (((s.c.e s.i j:Nat):Int)+1))) (σ.ki s.nd (putD es (.int j) (V.int (((s.c.e s.i j:Nat):Int)+1)))) _
 rw [hv2]
 have hr2:yb s.c.as s.c.bs s.c.rm s.c.alo s.c.blo s.c.bhi s.i (s.ps.take (t+1)) (putD es (.int j) (.int (s.c.e (s.i+1) (j+1):Nat))):=by
  rw [T.th];exact row.put j
 have hlen2:(putD es (.int j) (.int (s.c.e (s.i+1) (j+1):Nat))).length≤t+1:=nk s7 (Nat.succ_le_succ len)
 obtain⟨hE1,hE2,_⟩:=hY (as:=s.c.as) (bs:=s.c.bs) (rm:=s.c.rm) (alo:=s.c.alo) (blo:=s.c.blo) (i:=s.i+1) (j:=j+1)
 have tk:=fun h=>vL k T c2 sc h
 have sm:=fun h=>vN k T sc h
 have hE1:s.c.e (s.i+1) (j+1)≤s.i+1:=hE1
 have hE2:s.c.e (s.i+1) (j+1)≤j+1:=hE2
 generalize s.c.e (s.i+1) (j+1)=E at hr2 hlen2 tk sm hE1 hE2
 have F2:s.c.F (upd (upd ρ 17 (.int (j:Int))) 18 (.int (E:Int))):=F1.up (by decide)
 have B2:FB (upd (upd ρ 17 (.int (j:Int))) 18 (.int (E:Int))) bi bj bk:=B1.up (by decide)
 have k2:Kp s.c.σ₀ (σ.ki s.nd (putD es (.int j) (.int (E:Int)))):=k_1.ki k.no
 have cd2:(σ.ki s.nd (putD es (.int j) (.int (E:Int)))).D s.cd=some s.es:=(cn k.ne).trans cd
 have nd2:(σ.ki s.nd (putD es (.int j) (.int (E:Int)))).D s.nd=some (putD es (.int j) (.int (E:Int))):=bp _ _ _
 have r14:upd (upd ρ 17 (.int (j:Int))) 18 (.int (E:Int)) 14=some (.int s.i):=r14
 have r16:upd (upd ρ 17 (.int (j:Int))) 18 (.int (E:Int)) 16=some (.dct s.nd):=r16
 have r15:upd (upd ρ 17 (.int (j:Int))) 18 (.int (E:Int)) 15=some (.yo s.cd):=r15
 have r13:upd (upd ρ 17 (.int (j:Int))) 18 (.int (E:Int)) 13=some (.lst s.c.nl):=r13
 have r17:upd (upd ρ 17 (.int (j:Int))) 18 (.int (E:Int)) 17=some (.int j):=rfl
 have r18:upd (upd ρ 17 (.int (j:Int))) 18 (.int (E:Int)) 18=some (.int E):=rfl
 generalize upd (upd ρ 17 (.int (j:Int))) 18 (.int (E:Int))=ρ2 at F2 B2 r13 r14 r15 r16 r17 r18
 generalize σ.ki s.nd (putD es (.int j) (.int (E:Int)))=σ2 at k2 cd2 nd2
 refine⟨.int E,r18,.int bk,B2.r11,?_⟩
 show(if decide ((bk:Int)<E)=true then _ else _)
 have lim2:=jC T lim c2
 by_cases c3:bk<E
 ·rw [bc (by simpa using c3)]
  refine⟨.int s.i,r14,.int E,r18,.int j,r17,.int E,r18,.int E,r18,by simp [av],_,rfl,rfl,?_⟩
  refine hk _ _ (.mk (s.i+1-E) (j+1-E) E _ lim2 hlen2 k2 (((F2.up (by decide)).up (by decide)).up (by decide)) ⟨?_,?_,rfl⟩ cd2 nd2 r13 r14 r15 r16 hr2 (tk c3))
  ·show some (V.int ((s.i:Int)-E+1))=_
   congr 2;(exact Ar.a1 [] [_,_,_] (.ie (.a (.s (.t .v0) (.t .v1)) .n1) (.t .v2)) [[1,1],[1,-1]] (.e (.a .v2 .v1) (.a .v0 .n1)) (aa (Ar.a1 [] [_,_] (.k .v0 (.a .v1 .n1)) [[1,1]] (.k .v0 (.a .v1 .n1)) hE1)))
  ·show some (V.int ((j:Int)-E+1))=_
   congr 2;(exact Ar.a1 [] [_,_,_] (.ie (.a (.s (.t .v0) (.t .v1)) .n1) (.t .v2)) [[1,1],[1,-1]] (.e (.a .v2 .v1) (.a .v0 .n1)) (aa (Ar.a1 [] [_,_] (.k .v0 (.a .v1 .n1)) [[1,1]] (.k .v0 (.a .v1 .n1)) hE2)))
 ·rw [aw (by simpa using c3)]
  exact hk _ _ (.mk bi bj bk _ lim2 hlen2 k2 F2 B2 cd2 nd2 r13 r14 r15 r16 hr2 (sm (Nat.le_of_not_lt c3)))
theorem kJ {C:Cal} {c:Fc} (ok:Fk c) {i bi bj bk:Nat} {cd nd:Addr} {es:List (Key × V)} {σ:St} {ρ:Fr} {K:Fl→Fr→St→Prop} (hai:c.alo≤i) (hia:i<c.ahi) (hb:c.blo≤c.bhi) (k0:Kp c.σ₀ σ) (F:c.F ρ) (B:FB ρ bi bj bk)
  (h13:ρ 13=some (.lst c.nl)) (h14:ρ 14=some (.int i)) (h15:ρ 15=some (.yo cd)) (h16:ρ 16=some (.dct nd)) (hcd:σ.D cd=some es) (hrow:c.R i es) (hnd:σ.D nd=some []) (hne:cd≠nd) (h0d:c.σ₀.D nd=none)
  (sc:c.S (fun i' j'=>i'<i∧j'<c.bhi) bi bj bk) (h:∀ ρ' σ' ps,i7 ⟨c,i,cd,nd,es,ps⟩ ρ' σ'→K .next ρ' σ'):wpS C eX ρ σ K:=by
 have al:=ok.al
 have ea:c.as[i]?=some c.as[i]:=cf (by(exact Ar.a2 [] [_,_,_] (.l .v0 .v1) [[1,1,1]] (.l .v0 .v2) (.k .v2 .v1) hia al))
 obtain⟨tb,l,hD,hg,hc⟩:=ok.T.get ok.n c.as[i]
 generalize hps:(if c.rm c.as[i] then [] else posOf c.as[i] c.bs)=ps at hc
 have sk:Sk ⟨c,i,cd,nd,es,ps⟩:=by
  refine⟨hai,hia,hrow,hne,h0d,fun j=>?_,?_,?_⟩
  ·show j∈ps↔hit c.as c.bs c.rm i j=true
   rw [qg,← hps]
   cases hr:c.rm c.as[i] with
   | true =>
    rw [bc rfl]
    refine⟨(fun q=>nomatch q),?_⟩
    rintro ⟨a,e1,_,e3⟩
    obtain rfl:=af (ea.symm.trans e1)
    rw [hr] at e3;cases e3
   | false =>
    rw [aw (by decide),oQ]
    refine⟨fun q=>⟨_,ea,q,hr⟩,?_⟩
    rintro ⟨a,e1,e2,e3⟩
    obtain rfl:=af (ea.symm.trans e1)
    exact e2
  ·show ps.Pairwise (·<·)
   rw [← hps];split
   ·exact .nil
   ·exact s8
  ·show ps.length≤c.bs.length
   rw [← hps];split
   ·exact ba _
   ·exact oS
 refine⟨.dct c.db,F.r7,?_,.lst c.la,F.r5,.int i,h14,c.as.map Key.v,c.as[i].v,k0.L _ _ ok.La,by rw [ir];(exact Ar.a0 [] [_] (.ik .n0 (.t .v0)) [[1]]),by rw [ir,eh,bq,ea];rfl,.lst c.nl,h13,tb,c.as[i],k0.D _ _ hD,nA _,?_⟩
 ·show(σ.D c.db).isSome=true
  rw [k0.D _ _ hD];rfl
 rw [hg]
 refine⟨_,k0.L _ _ hc,?_⟩
 refine ll (InI ⟨c,i,cd,nd,es,ps⟩) ?_ ?_ ?_
 ·intro t v ρ' σ' hv I
  rw [bq] at hv
  obtain⟨j,e,rfl⟩:=fb.mp hv
  cases I
  exact⟨k.L _ _ hc,fun kk hk=>wL ok sk e hb (.mk bi_1 bj_1 bk_1 es_1 lim len k F_1 B_1 cd_1 nd_1 r13 r14 r15 r16 row sc_1) hk fun ρ' σ'=>h ρ' σ' ps⟩
 ·intro ρ' σ' I
  rw [ax] at I
  have I0:=I
  cases I
  exact⟨k.L _ _ hc,h _ _ _ (I0.fin sk fun j _ q=>by show j∈ps.take ps.length;rw [ke];exact q)⟩
 ·refine .mk bi bj bk [] (fun j hj=>nomatch hj) (aj _) k0 F B hcd hnd h13 h14 h15 h16 ?_ (sc.skip (fun i' j' q=>.inl q) fun i' j' q=>?_)
  ·intro j hj
   rw [aw (by simp)]
   rfl
  ·rcases q with q | ⟨_,q⟩
   ·exact .inl q
   ·exact nomatch q
theorem hO {as bs:List Key} {ok:Key→Bool} {alo blo:Nat}:∀ {i j k:Nat},(sy as bs ok alo blo i j k).1≤i∧(sy as bs ok alo blo i j k).2.1≤j
 | 0,j,k=>⟨aj _,aj _⟩
 | i+1,0,k=>⟨aj _,aj _⟩
 | i+1,j+1,k=>by
  rw [vi]
  split
  ·have:=hO (as:=as) (bs:=bs) (ok:=ok) (alo:=alo) (blo:=blo) (i:=i) (j:=j) (k:=k+1)
   (exact⟨(Ar.a1 [] [_,_] (.k .v0 (.a .v1 .n1)) [[1,1]] (.k .v0 .v1) this.1),(Ar.a1 [] [_,_] (.k .v0 (.a .v1 .n1)) [[1,1]] (.k .v0 .v1) this.2)⟩)
  ·exact⟨aj _,aj _⟩
noncomputable def vR:jf:=(.cons (.assign [(.var 15)] (.dgetOf (.loc 12)))
 (.cons (.assign [(.var 16)] .dct0)
 (.cons eX
 (.cons (.assign [(.var 12)] (.loc 16))
 .nil))))
inductive xQ (c:Fc) (t:Nat) (ρ:Fr) (σ:St):Prop
 | mk (bi bj bk:Nat) (cd:Addr) (es:List (Key × V)) (k:Kp c.σ₀ σ) (F:c.F ρ) (r13:ρ 13=some (.lst c.nl)) (B:FB ρ bi bj bk) (r12:ρ 12=some (.dct cd)) (hcd:σ.D cd=some es) (row:c.R (c.alo+t) es) (sc:c.S (fun i' j'=>i'<c.alo+t∧j'<c.bhi) bi bj bk):xQ c t ρ σ
theorem sD {C:Cal} {c:Fc} (ok:Fk c) {t:Nat} {ρ:Fr} {σ:St} {kk:Fr→St→Prop} {K:Fl→Fr→St→Prop} (ht:c.alo+t<c.ahi) (hb:c.blo≤c.bhi) (I:xQ c t ρ σ) (hk:∀ ρ' σ',xQ c (t+1) ρ' σ'→kk ρ' σ') :
  dk C vR (upd ρ 14 (.int ((c.alo+t:Nat):Int))) σ (qo kk K):=by
 cases I
 refine⟨_,r12,cd,rfl,by rw [hcd];rfl,fun nd hnd=>?_⟩
 have hne:cd≠nd:=fun q=>by rw [q,hnd] at hcd;cases hcd
 refine kJ ok (cd:=cd) (nd:=nd) (sd _ _) ht hb (k.ki (k.noD hnd)) (((F.up (by decide)).up (by decide)).up (by decide)) (((B.up (by decide)).up (by decide)).up (by decide)) r13 rfl rfl rfl ((cn hne).trans hcd) row (bp _ _ _) hne (k.noD hnd) sc fun ρ2 σ2 ps E=>?_
 cases E
 refine⟨_,r16,?_⟩
 refine hk _ _ (.mk bi_1 bj_1 bk_1 nd es_1 k_1 (F_1.up (by decide)) r13_1 (B_1.up (by decide)) rfl nd_1 row_1 (sc_1.skip (fun i' j' q=>?_) fun i' j' q=>?_))
 ·rcases q with q | q
  ·exact⟨Nat.lt_succ_of_lt q.1,q.2⟩
  ·exact⟨Nat.lt_succ_of_le (Nat.le_of_eq q.1),q.2.1⟩
 ·by_cases e:i'<c.alo+t
  ·exact .inl (.inl ⟨e,q.2⟩)
  ·have:i'=c.alo+t:=by have:=q.1;(exact Ar.a2 [] [_,_,_] (.e .v0 (.a .v1 .v2)) [[1,0,1],[1,1,0]] (.l .v0 (.a .v1 (.a .v2 .n1))) (.g .v0 (.a .v1 .v2)) q.1 e)
   subst this
   by_cases hh:c.h (c.alo+t) j'=true
   ·exact .inl (.inr ⟨rfl,q.2,hh⟩)
   ·refine .inr (.inl ?_)
    rw [hW]
    rw [aw (fun q=>hh q.2.2)]
theorem flm {P:Nat→Option Fn} (hP:P 5=some fn5) {n:Nat} {σ:St} {x la lb db sj:Addr} {as bs:List Key} {rm:Key→Bool} {js:List Key} {Q:V→St→Prop} {alo ahi blo bhi:Nat} {vah vbh:V}
  (hM:MAt σ x la lb db sj as bs rm js) (ha:∀ k∈as,pd k) (hb:∀ k∈bs,pd k) (hs:bs.length<av) (hsa:as.length<av)
  (hvah:vah=.int ahi∨(vah=.none∧ahi=as.length)) (hvbh:vbh=.int bhi∨(vbh=.none∧bhi=bs.length))
  (hla:alo≤ahi) (hlb:blo≤bhi) (hal:ahi≤as.length) (hbl:bhi≤bs.length)
  (h:∀ σ' i j k,Kp σ σ'→mE as bs rm alo ahi blo bhi i j k→(let g:=grow as bs (fun c=>decide (c∈js)) alo ahi blo bhi i j k;Q (mtV (g.1,g.2.1,g.2.2)) σ')):dn P (n+1) 5 [.obj x,.int alo,vah,.int blo,vbh] σ Q:=by
 refine⟨fn5,hP,by simp [fn5],by simp [fn5],?_⟩
 obtain⟨d,f,hI,f1,f2,f7,f8⟩:=hM.I
 have h0:frameOf fn5 [.obj x,.int alo,vah,.int blo,vbh] 0=some (.obj x):=rfl
 have h1:frameOf fn5 [.obj x,.int alo,vah,.int blo,vbh] 1=some (.int alo):=rfl
 have h2:frameOf fn5 [.obj x,.int alo,vah,.int blo,vbh] 2=some vah:=rfl
 have h3:frameOf fn5 [.obj x,.int alo,vah,.int blo,vbh] 3=some (.int blo):=rfl
 have h4:frameOf fn5 [.obj x,.int alo,vah,.int blo,vbh] 4=some vbh:=rfl
 generalize frameOf fn5 [.obj x,.int alo,vah,.int blo,vbh]=ρ at h0 h1 h2 h3 h4
 refine⟨.obj x,h0,x,d,f,_,rfl,hI,f1,.obj x,h0,x,d,f,_,rfl,hI,f2,.obj x,h0,x,d,f,_,rfl,hI,f7,.obj x,h0,x,d,f,_,rfl,hI,f8,sj,rfl,by rw [hM.S];rfl,by simp [av],?_⟩
 refine⟨_,rfl,rfl,?_⟩
 have goA:∀ (ρ:Fr) (K:Fl→Fr→St→Prop),ρ 2=some vah→ρ 5=some (.lst la)→(∀ ρ',(∀ m,m≠2→ρ' m=ρ m)→ρ' 2=some (.int ahi)→K .next ρ' σ) →
   wpS (dn P n) (.cond (.cmp .is (.loc 2) .none) (.cons (.assign [(.var 2)] (.bf .len (.cons (.loc 5) .nil))) .nil) .nil) ρ σ K:=by
  intro ρ K e2 e5 hk
  refine⟨_,e2,?_⟩
  rcases hvah with rfl | ⟨rfl,rfl⟩
  ·exact hk ρ (fun _ _=>rfl) e2
  ·refine⟨_,e5,_,hM.La,?_⟩
   refine hk _ (fun m hm=>cn hm) ?_
   rw [bp,ax]
 have goB:∀ (ρ:Fr) (K:Fl→Fr→St→Prop),ρ 4=some vbh→ρ 6=some (.lst lb)→(∀ ρ',(∀ m,m≠4→ρ' m=ρ m)→ρ' 4=some (.int bhi)→K .next ρ' σ) →
   wpS (dn P n) (.cond (.cmp .is (.loc 4) .none) (.cons (.assign [(.var 4)] (.bf .len (.cons (.loc 6) .nil))) .nil) .nil) ρ σ K:=by
  intro ρ K e2 e5 hk
  refine⟨_,e2,?_⟩
  rcases hvbh with rfl | ⟨rfl,rfl⟩
  ·exact hk ρ (fun _ _=>rfl) e2
  ·refine⟨_,e5,_,hM.Lb,?_⟩
   refine hk _ (fun m hm=>cn hm) ?_
   rw [bp,ax]
 refine goA _ _ h2 rfl fun ρ1 s1 e12=>?_
 refine goB _ _ (by rw [s1 4 (by decide)];exact h4) (by rw [s1 6 (by decide)];rfl) fun ρ2 s2 e24=>?_
 have F0:FF ρ2 la lb db sj alo ahi blo bhi:=by
  refine⟨?_,?_,?_,e24,?_,?_,?_,?_⟩<;>rw [s2 _ (by decide)]
  ·rw [s1 _ (by decide)];exact h1
  ·exact e12
  ·rw [s1 _ (by decide)];exact h3
  ·rw [s1 _ (by decide)];rfl
  ·rw [s1 _ (by decide)];rfl
  ·rw [s1 _ (by decide)];rfl
  ·rw [s1 _ (by decide)];rfl
 refine⟨_,F0.r1,_,F0.r3,by simp [av],_,rfl,rfl,?_⟩
 refine fun d0 hd0=>?_
 refine⟨by simp [av],fun nl hnl=>?_⟩
 refine⟨_,F0.r1,_,F0.r2,(alo:Int),(ahi:Int),rfl,rfl,by simp [av] at *;(exact Ar.a3 [] [_,_,_] (.l .v0 (.n 1099511627776)) [[1,1,1,1]] (.l .v1 (.n 1000000)) (.k .v0 .v2) (.k .v2 .v1) hsa hla hal),by simp [av] at *;(exact Ar.a2 [] [_,_] (.l .v0 (.n 1099511627776)) [[1,1,1]] (.l .v1 (.n 1000000)) (.k .v0 .v1) hsa hal),?_⟩
 generalize hσ₀:((σ.ki d0 []).cw nl [])=σ₀
 have k0:Kp σ σ₀:=by
  rw [← hσ₀]
  exact((Kp.refl σ).ki hd0).cw (by exact hnl)
 have hM0:=hM.keep k0
 have hn0:σ₀.L nl=some []:=by rw [← hσ₀];exact bp _ _ _
 have hd00:σ₀.D d0=some []:=by rw [← hσ₀];exact bp _ _ _
 have ok:Fk ⟨σ₀,la,lb,db,sj,nl,as,bs,rm,alo,ahi,blo,bhi⟩:=⟨hM0.La,hM0.D,hn0,hs,hbl,hal⟩
 refine ll (xQ ⟨σ₀,la,lb,db,sj,nl,as,bs,rm,alo,ahi,blo,bhi⟩) ?_ ?_ ?_
 ·intro t v ρ' σ' hv I
  obtain⟨ht,rfl⟩:=su hv
  exact⟨trivial,fun k hk=>sD ok ht hlb I hk⟩
 ·intro ρ' σ' I
  obtain⟨bi,bj,bk,cd,es,kk,F,r13,B,r12,hcd,hrow,hsc⟩:=I
  rw [tq] at hrow hsc
  have best:mE as bs rm alo ahi blo bhi bi bj bk:=hsc.best fun i' j' h1 h2 h3 h4 h5=>⟨by(exact Ar.a2 [] [_,_,_,_] (.l .v0 (.a .v1 .v2)) [[1,1,-1]] (.l .v0 .v3) (.e (.a .v2 .v1) .v3) h2 (aa (Ar.a2 [] [_,_,_] (.k .v0 .v1) [[1,1,1]] (.k .v0 .v2) (.l .v2 .v1) h1 h2))),h4⟩
  refine⟨trivial,?_⟩
  have hLa:=kk.L _ _ hM0.La
  have hLb:=kk.L _ _ hM0.Lb
  have hS:σ'.S sj=some js:=by rw [kk.S];exact hM0.S
  have notJ:∀ (ρ:Fr) (e:Ex) (j:Nat) (b:Key) (Q:Bool→St→Prop),ρ 8=some (.zd sj)→bs[j]?=some b→(∀ Q:V→St→Prop,Q (.int j) σ'→wpE (dn P n) e ρ σ' Q)→ρ 6=some (.lst lb)→Q (!decide (b∈js)) σ'→wpT (dn P n) (.not (.callv 8 (.cons (.sub (.loc 6) e) .nil))) ρ σ' Q:=fun ρ e j b Q r8 eb he r6 q=>by
   refine⟨_,r8,_,r6,he _ ?_⟩
   refine⟨_,b.v,hLb,by rw [ir];(first | exact Ar.a0 [] [_] (.ik .n0 (.t .v0)) [[1]] Ar.y | omega),by rw [ir,eh,bq,eb];rfl,js,b,hS,nA _,q⟩
  have isJ:∀ (ρ:Fr) (e:Ex) (j:Nat) (b:Key) (Q:Bool→St→Prop),ρ 8=some (.zd sj)→bs[j]?=some b→(∀ Q:V→St→Prop,Q (.int j) σ'→wpE (dn P n) e ρ σ' Q)→ρ 6=some (.lst lb)→Q (decide (b∈js)) σ'→wpT (dn P n) (.callv 8 (.cons (.sub (.loc 6) e) .nil)) ρ σ' Q:=fun ρ e j b Q r8 eb he r6 q=>by
   refine⟨_,r8,_,r6,he _ ?_⟩
   refine⟨_,b.v,hLb,by rw [ir];(first | exact Ar.a0 [] [_] (.ik .n0 (.t .v0)) [[1]] Ar.y | omega),by rw [ir,eh,bq,eb];rfl,js,b,hS,nA _,q⟩
  have left:∀ (ρ:Fr) (j:Nat),ρ 10=some (.int ((j+1:Nat):Int))→∀ Q:V→St→Prop,Q (.int j) σ'→wpE (dn P n) (.bin .sub (.loc 10) (.int 1)) ρ σ' Q:=fun ρ j r Q q=>by
   refine⟨_,r,?_⟩
   have e:((j+1:Nat):Int)-1=(j:Int):=by(exact Ar.a0 [] [_] (.ie (.s (.t (.a .v0 .n1)) .n1) (.t .v0)) [[1],[1]])
   show Q (.int _) σ'
   rw [e];exact q
  have right:∀ (ρ:Fr) (j k:Nat),ρ 10=some (.int (j:Int))→ρ 11=some (.int (k:Int))→∀ Q:V→St→Prop,Q (.int ((j+k:Nat):Int)) σ'→wpE (dn P n) (.bin .add (.loc 10) (.loc 11)) ρ σ' Q:=fun ρ j k r r' Q q=>⟨_,r,_,r',q⟩
  have R:=best.run
  have:=R.ia;have:=R.jb
  refine yD (σ:=σ') (js:=js) (ok:=fun c=>!decide (c∈js)) hLa hLb ha hb (by simp [av] at *;(exact Ar.a1 [] [_] (.l .v0 (.n 1099511627776)) [[1,1]] (.l .v0 (.n 1000000)) hsa)) (by simp [av] at *;(exact Ar.a1 [] [_] (.l .v0 (.n 1099511627776)) [[1,1]] (.l .v0 (.n 1000000)) hs)) (fun ρ j b Q F r10 eb q=>notJ ρ _ j b Q F.r8 eb (left ρ j r10) F.r6 q) (i:=bi) (j:=bj) (k:=bk) (by(rename_i z1;exact Ar.a2 [] [_,_,_,_] (.k .v0 .v1) [[1,1,1]] (.k .v2 .v1) (.k (.a .v0 .v3) .v2) hal z1)) (by(exact Ar.a2 [] [_,_,_,_] (.k .v0 .v1) [[1,1,1]] (.k .v2 .v1) (.k (.a .v0 .v3) .v2) hbl this)) (fun ρ F B=>?_) F B
  refine yC (σ:=σ') (js:=js) (ok:=fun c=>!decide (c∈js)) (.inl rfl) hLa hLb ha hb hal hbl (fun ρ j k b Q F r10 r11 eb q=>notJ ρ _ (j+k) b Q F.r8 eb (right ρ j k r10 r11) F.r6 q) (fun ρ F B=>?_) F B
  refine yD (σ:=σ') (js:=js) (ok:=fun c=>decide (c∈js)) hLa hLb ha hb (by simp [av] at *;(exact Ar.a1 [] [_] (.l .v0 (.n 1099511627776)) [[1,1]] (.l .v0 (.n 1000000)) hsa)) (by simp [av] at *;(exact Ar.a1 [] [_] (.l .v0 (.n 1099511627776)) [[1,1]] (.l .v0 (.n 1000000)) hs)) (fun ρ j b Q F r10 eb q=>isJ ρ _ j b Q F.r8 eb (left ρ j r10) F.r6 q) ?_ ?_ (fun ρ F B=>?_) F B
  ·have:=hO (as:=as) (bs:=bs) (ok:=fun c=>!decide (c∈js)) (alo:=alo) (blo:=blo) (i:=bi) (j:=bj) (k:=bk)
   (rename_i z5 z4 z3 z2 z1;exact Ar.a3 [] [_,_,_,_,_] (.k .v0 .v1) [[1,1,1,1]] (.k .v2 .v1) (.k (.a .v3 .v4) .v2) (.k .v0 .v3) hal z5 this.1)
  ·have:=hO (as:=as) (bs:=bs) (ok:=fun c=>!decide (c∈js)) (alo:=alo) (blo:=blo) (i:=bi) (j:=bj) (k:=bk)
   (rename_i z4 z3 z2 z1;exact Ar.a3 [] [_,_,_,_,_] (.k .v0 .v1) [[1,1,1,1]] (.k .v2 .v1) (.k (.a .v3 .v4) .v2) (.k .v0 .v3) hbl z4 this.2)
  refine yC (σ:=σ') (js:=js) (ok:=fun c=>decide (c∈js)) (.inr rfl) hLa hLb ha hb hal hbl (fun ρ j k b Q F r10 r11 eb q=>isJ ρ _ (j+k) b Q F.r8 eb (right ρ j k r10 r11) F.r6 q) (fun ρ F B=>?_) F B
  refine⟨_,B.r9,_,B.r10,_,B.r11,?_⟩
  exact h σ' bi bj bk (k0.trans kk) best
 ·refine .mk alo blo 0 d0 [] (Kp.refl _) (((F0.up (by(exact Ar.a0 [] [] (.k (.n 9) (.n 9)) [[1]]))).up (by(exact Ar.a0 [] [] (.k (.n 9) (.n 10)) [[1]]))).up (by(exact Ar.a0 [] [] (.k (.n 9) (.n 11)) [[1]])) |>.up (by(exact Ar.a0 [] [] (.k (.n 9) (.n 12)) [[1]])) |>.up (by(exact Ar.a0 [] [] (.k (.n 9) (.n 13)) [[1]]))) rfl ⟨rfl,rfl,rfl⟩ rfl hd00 ?_ ?_
  ·intro j hj
   rw [Nat.add_zero,tC];rfl
  ·refine(Scan.start hla hlb).skip (fun _ _ q=>q.elim) fun i' j' q=>.inr (.inl ?_)
   rw [hW]
   rw [aw (by(exact fun q1=>(Ar.a2 [] [_,_] .ff [[0,1,1]] (.l .v0 (.a .v1 .n0)) (.k .v1 .v0) q.1 q1.1)))]
end SM
end MP
end
section
namespace MP
noncomputable def Flm (as bs:List Key) (rm js:Key→Bool) (alo ahi blo bhi:Nat) (t:Nat × Nat × Nat):Prop :=
 ∃ i j k,mE as bs rm alo ahi blo bhi i j k∧t=grow as bs js alo ahi blo bhi i j k
noncomputable def Within (alo ahi blo bhi:Nat) (t:Nat × Nat × Nat):Prop:=alo≤t.1∧t.1+t.2.2≤ahi∧blo≤t.2.1∧t.2.1+t.2.2≤bhi
section
variable {as bs:List Key} {ok rm js:Key→Bool} {alo ahi blo bhi:Nat}
theorem hU:∀ {i j k:Nat},Within alo ahi blo bhi (i,j,k)→Within alo ahi blo bhi (sy as bs ok alo blo i j k)
 | 0,j,k,h=>h
 | i+1,0,k,h=>h
 | i+1,j+1,k,h=>by
  rw [vi]
  split
  ·rename_i c
   refine hU ?_
   unfold Within at *
   simp only at *
   (exact⟨(Ar.a1 [] [_,_] (.k .v0 .v1) [[1,1]] (.l .v0 (.a .v1 .n1)) c.1),⟨(Ar.a1 [] [_,_,_] (.k (.a .v0 (.a .v1 .n1)) .v2) [[1,1]] (.k (.a (.a .v0 .n1) .v1) .v2) h.2.1),⟨(Ar.a1 [] [_,_] (.k .v0 .v1) [[1,1]] (.l .v0 (.a .v1 .n1)) c.2.1),(Ar.a1 [] [_,_,_] (.k (.a .v0 (.a .v1 .n1)) .v2) [[1,1]] (.k (.a (.a .v0 .n1) .v1) .v2) h.2.2.2)⟩⟩⟩)
  ·exact h
theorem hJ:∀ {n i j k:Nat},Within alo ahi blo bhi (i,j,k)→Within alo ahi blo bhi (i,j,yn as bs ok ahi bhi n i j k)
 | 0,i,j,k,h=>h
 | n+1,i,j,k,h=>by
  rw [rv]
  split
  ·rename_i c
   refine hJ ?_
   unfold Within at *
   simp only at *
   (exact⟨(Ar.a1 [] [_,_] (.k .v0 .v1) [[1,1]] (.k .v0 .v1) h.1),⟨(Ar.a1 [] [_,_,_] (.k (.a .v0 (.a .v1 .n1)) .v2) [[1,1]] (.l (.a .v0 .v1) .v2) c.1),⟨(Ar.a1 [] [_,_] (.k .v0 .v1) [[1,1]] (.k .v0 .v1) h.2.2.1),(Ar.a1 [] [_,_,_] (.k (.a .v0 (.a .v1 .n1)) .v2) [[1,1]] (.l (.a .v0 .v1) .v2) c.2.1)⟩⟩⟩)
  ·exact h
theorem Flm.within {t:Nat × Nat × Nat} (h:Flm as bs rm js alo ahi blo bhi t):Within alo ahi blo bhi t:=by
 obtain⟨i,j,k,B,rfl⟩:=h
 have R:=B.run
 exact hJ (hU (hJ (hU (show Within alo ahi blo bhi (i,j,k) from⟨R.ai,R.ia,R.bj,R.jb⟩))))
end
inductive kr (F:Nat→Nat→Nat→Nat→Nat × Nat × Nat→Prop):Nat→Nat→Nat→Nat→List (Nat × Nat × Nat)→Prop
 | nil {alo ahi blo bhi i j:Nat}:F alo ahi blo bhi (i,j,0)→kr F alo ahi blo bhi []
 | node {alo ahi blo bhi i j k:Nat} {L R:List (Nat × Nat × Nat)}:F alo ahi blo bhi (i,j,k)→0<k→(alo<i→blo<j→kr F alo i blo j L)→(¬ (alo<i∧blo<j)→L=[]) →
   (i+k<ahi→j+k<bhi→kr F (i+k) ahi (j+k) bhi R)→(¬ (i+k<ahi∧j+k<bhi)→R=[])→kr F alo ahi blo bhi (L++(i,j,k)::R)
noncomputable def nr (t u:Nat × Nat × Nat):Prop:=t.1+t.2.2≤u.1∧t.2.1+t.2.2≤u.2.1
theorem kr.ok {F:Nat→Nat→Nat→Nat→Nat × Nat × Nat→Prop} (hF:∀ a b c d t,F a b c d t→Within a b c d t) {alo ahi blo bhi:Nat} {L:List (Nat × Nat × Nat)} (h:kr F alo ahi blo bhi L) :
  (∀ t∈L,Within alo ahi blo bhi t∧0<t.2.2)∧L.Pairwise nr:=by
 induction h with
 | nil _=>exact⟨fun t h=>(by cases h),.nil⟩
 | @node alo ahi blo bhi i j k L R hf hk hL hL' hR hR' ihL ihR =>
  have W:=hF _ _ _ _ _ hf
  unfold Within at W
  simp only at W
  have hl:(∀ t∈L,Within alo i blo j t∧0<t.2.2)∧L.Pairwise nr:=by
   by_cases c:alo<i∧blo<j
   ·exact ihL c.1 c.2
   ·rw [hL' c];exact⟨fun t h=>(by cases h),.nil⟩
  have hr:(∀ t∈R,Within (i+k) ahi (j+k) bhi t∧0<t.2.2)∧R.Pairwise nr:=by
   by_cases c:i+k<ahi∧j+k<bhi
   ·exact ihR c.1 c.2
   ·rw [hR' c];exact⟨fun t h=>(by cases h),.nil⟩
  refine⟨fun t ht=>?_,?_⟩
  ·rcases cy.mp ht with q | q
   ·have:=hl.1 t q
    unfold Within at *
    (exact⟨⟨(Ar.a1 [] [_,_] (.k .v0 .v1) [[1,1]] (.k .v0 .v1) this.1.1),⟨(Ar.a2 [] [_,_,_,_,_] (.k (.a .v0 .v1) .v2) [[1,1,1]] (.k (.a .v3 .v4) .v2) (.k (.a .v0 .v1) .v3) W.2.1 this.1.2.1),⟨(Ar.a1 [] [_,_] (.k .v0 .v1) [[1,1]] (.k .v0 .v1) this.1.2.2.1),(Ar.a2 [] [_,_,_,_,_] (.k (.a .v0 .v1) .v2) [[1,1,1]] (.k (.a .v3 .v4) .v2) (.k (.a .v0 .v1) .v3) W.2.2.2 this.1.2.2.2)⟩⟩⟩,(Ar.a1 [] [_] (.l .n0 .v0) [[1,1]] (.l .n0 .v0) this.2)⟩)
   ·rcases br.mp q with q | q
    ·subst q
     unfold Within
     simp only
     (exact⟨⟨(Ar.a1 [] [_,_] (.k .v0 .v1) [[1,1]] (.k .v0 .v1) W.1),⟨(Ar.a1 [] [_,_,_] (.k (.a .v0 .v1) .v2) [[1,1]] (.k (.a .v0 .v1) .v2) W.2.1),⟨(Ar.a1 [] [_,_] (.k .v0 .v1) [[1,1]] (.k .v0 .v1) W.2.2.1),(Ar.a1 [] [_,_,_] (.k (.a .v0 .v1) .v2) [[1,1]] (.k (.a .v0 .v1) .v2) W.2.2.2)⟩⟩⟩,(Ar.a1 [] [_] (.l .n0 .v0) [[1,1]] (.l .n0 .v0) hk)⟩)
    ·have:=hr.1 t q
     unfold Within at *
     (exact⟨⟨(Ar.a2 [] [_,_,_,_] (.k .v0 .v1) [[1,1,1]] (.k .v0 .v2) (.k (.a .v2 .v3) .v1) W.1 this.1.1),⟨(Ar.a1 [] [_,_,_] (.k (.a .v0 .v1) .v2) [[1,1]] (.k (.a .v0 .v1) .v2) this.1.2.1),⟨(Ar.a2 [] [_,_,_,_] (.k .v0 .v1) [[1,1,1]] (.k .v0 .v2) (.k (.a .v2 .v3) .v1) W.2.2.1 this.1.2.2.1),(Ar.a1 [] [_,_,_] (.k (.a .v0 .v1) .v2) [[1,1]] (.k (.a .v0 .v1) .v2) this.1.2.2.2)⟩⟩⟩,(Ar.a1 [] [_] (.l .n0 .v0) [[1,1]] (.l .n0 .v0) this.2)⟩)
  ·rw [List.pairwise_append]
   refine⟨hl.2,.cons (fun u hu=>?_) hr.2,fun t ht u hu=>?_⟩
   ·have:=hr.1 u hu
    unfold Within at this
    unfold nr
    simp only
    (exact⟨(Ar.a1 [] [_,_,_] (.k (.a .v0 .v1) .v2) [[1,1]] (.k (.a .v0 .v1) .v2) this.1.1),(Ar.a1 [] [_,_,_] (.k (.a .v0 .v1) .v2) [[1,1]] (.k (.a .v0 .v1) .v2) this.1.2.2.1)⟩)
   ·have:=hl.1 t ht
    unfold Within at this
    unfold nr
    rcases br.mp hu with q | q
    ·subst q
     simp only
     (exact⟨(Ar.a1 [] [_,_,_] (.k (.a .v0 .v1) .v2) [[1,1]] (.k (.a .v0 .v1) .v2) this.1.2.1),(Ar.a1 [] [_,_,_] (.k (.a .v0 .v1) .v2) [[1,1]] (.k (.a .v0 .v1) .v2) this.1.2.2.2)⟩)
    ·have:=hr.1 u q
     unfold Within at this
     (rename_i z1;exact⟨(Ar.a2 [] [_,_,_,_,_] (.k (.a .v0 .v1) .v2) [[1,1,1]] (.k (.a .v0 .v1) .v3) (.k (.a .v3 .v4) .v2) z1.1.2.1 this.1.1),(Ar.a2 [] [_,_,_,_,_] (.k (.a .v0 .v1) .v2) [[1,1,1]] (.k (.a .v0 .v1) .v3) (.k (.a .v3 .v4) .v2) z1.1.2.2.2 this.1.2.2.1)⟩)
noncomputable def mrg:Nat→Nat→Nat→List (Nat × Nat × Nat)→List (Nat × Nat × Nat)
 | i,j,k,[]=>if k=0 then [] else [(i,j,k)]
 | i,j,k,(i',j',k')::r=>if i+k=i'∧j+k=j' then mrg i j (k+k') r else if k=0 then mrg i' j' k' r else (i,j,k)::mrg i' j' k' r
noncomputable def Apart (t u:Nat × Nat × Nat):Prop:=¬ (t.1+t.2.2=u.1∧t.2.1+t.2.2=u.2.1)
noncomputable def ub:List (Nat × Nat × Nat)→Prop
 | t::u::r=>Apart t u∧ub (u::r)
 | _=>True
theorem j8:∀ {L:List (Nat × Nat × Nat)} {t:Nat × Nat × Nat},ub (t::L)→(∀ u∈t::L,0<u.2.2)→mrg t.1 t.2.1 t.2.2 L=t::L
 | [],(i,j,k),h,hp=>by
  have:=hp (i,j,k) (.head _)
  simp only [mrg]
  rw [aw (by simp only at this;(exact Ar.a1 [] [_] (.u .v0 .n0) [[1,1]] (.l .n0 .v0) this))]
 | (i',j',k')::r,(i,j,k),h,hp=>by
  have:=hp (i,j,k) (.head _)
  simp only [mrg]
  rw [aw h.1,aw (by simp only at this;(exact Ar.a1 [] [_] (.u .v0 .n0) [[1,1]] (.l .n0 .v0) this))]
  have:=j8 (L:=r) (t:=(i',j',k')) h.2 fun u hu=>hp u (.tail _ hu)
  simp only at this
  rw [this]
theorem vY {L:List (Nat × Nat × Nat)} (h:ub L) (hp:∀ u∈L,0<u.2.2):mrg 0 0 0 L=L:=by
 cases L with
 | nil=>rfl
 | cons t r =>
  obtain⟨i,j,k⟩:=t
  have:=j8 h hp
  simp only at this
  simp only [mrg]
  split
  ·rename_i c
   obtain⟨rfl,rfl⟩:=c
   simpa using this
  ·exact this
end MP
end
section
namespace MP
open PySem
theorem fA {v:V} (h:isNone v=true):v=.none:=by
 cases v<;>first | rfl | exact Bool.noConfusion h
theorem nO {α:Type} {P:Prop} {x:α} (h:none=some x):P:=nomatch h
theorem ic {α β:Type} {o:Option α} {f:α→Option β} {b:β} (h:o.bind f=some b):∃ a,o=some a∧f a=some b:=cq.mp h
theorem omap {α β:Type} {o:Option α} {f:α→β} {b:β} (h:o.map f=some b):∃ a,o=some a∧f a=b:=fb.mp h
noncomputable def d7 (a b:V):Option (Int × Int):=(vInt a).bind fun i=>(vInt b).map fun j=>(i,j)
theorem tu {a b:V} {p:Int × Int} (h:d7 a b=some p):a=.int p.1∧b=.int p.2:=by
 obtain⟨i,e,h⟩:=ic h
 obtain⟨j,e',rfl⟩:=omap h
 exact⟨kg e,kg e'⟩
noncomputable def jd {α:Type} (c:Prop) [Decidable c] (x:α):Option α:=if c then some x else none
theorem oe {α:Type} {c:Prop} [Decidable c] {x y:α} (h:jd c x=some y):c∧x=y:=by
 unfold jd at h
 by_cases q:c
 ·rw [bc q] at h;exact⟨q,af h⟩
 ·rw [aw q] at h;cases h
noncomputable def xw (op:Bop) (a b:V):Option V:=(d7 a b).bind fun p=>match op with
 | .add=>some (.int (p.1+p.2))
 | .sub=>some (.int (p.1-p.2))
 | .mul=>jd (p.1.natAbs<2^60∨p.2.natAbs<2^60) (.int (p.1*p.2))
 | .fdiv=>jd (0<p.2∧p.2.natAbs<2^60) (.int (p.1/p.2))
 | .mod=>jd (0<p.2) (.int (p.1%p.2))
 | .pow=>jd (0≤p.2∧p.2≤1000∧p.1.natAbs<2^64) (.int (p.1^p.2.toNat))
theorem jJ {op:Bop} {a b v:V} {σ:St} {Q:V→St→Prop} (h:xw op a b=some v) (q:Q v σ):b6 op a b σ Q:=by
 obtain⟨⟨i,j⟩,e,h⟩:=ic h
 obtain⟨rfl,rfl⟩:=tu e
 clear e
 cases op with
 | add=>cases h;exact q
 | sub=>cases h;exact q
 | mul=>obtain⟨c,rfl⟩:=oe h;exact⟨c,q⟩
 | fdiv =>
  obtain⟨c,rfl⟩:=oe h
  have c:0<j∧j.natAbs<2^60:=c
  refine⟨(by(rename_i z2 z1;exact Ar.a1 [_] [] (.iu .v0 .n0) [[1,1]] (.il .n0 .v0) z2.1):j≠0),c.2,?_⟩
  rw [Int.fdiv_eq_ediv_of_nonneg _ (by show 0≤j;(rename_i z2 z1;exact Ar.a1 [_] [] (.ik .n0 .v0) [[1,1]] (.il .n0 .v0) z2.1))];exact q
 | mod =>
  obtain⟨c,rfl⟩:=oe h
  have c:0<j:=c
  refine⟨(by(rename_i z2 z1;exact Ar.a1 [_] [] (.iu .v0 .n0) [[1,1]] (.il .n0 .v0) z2):j≠0),?_⟩
  rw [Int.fmod_eq_emod_of_nonneg _ (by show 0≤j;(rename_i z2 z1;exact Ar.a1 [_] [] (.ik .n0 .v0) [[1,1]] (.il .n0 .v0) z2))];exact q
 | pow=>obtain⟨c,rfl⟩:=oe h;exact⟨c.1,c.2.1,c.2.2,q⟩
noncomputable def lJ (σ:St):V→Option Bool
 | .none=>some false
 | .bool b=>some b
 | .int i=>some (i != 0)
 | .lst a=>(σ.L a).map fun xs=>!xs.isEmpty
 | .clo _ _=>some true
 | _=>none
theorem zo {σ:St}:∀ (v:V) {b:Bool} {K:Bool→Prop},lJ σ v=some b→K b→mv v σ K:=by
 intro v b K h q
 cases v
 case none=>obtain rfl:=af h;exact q
 case bool=>obtain rfl:=af h;exact q
 case int=>obtain rfl:=af h;exact q
 case lst=>obtain⟨xs,e,rfl⟩:=omap h;exact⟨xs,e,q⟩
 case clo=>obtain rfl:=af h;exact q
 all_goals exact nO h
noncomputable def ug (σ:St) (op:Cop) (a b:V):Option Bool:=match op with
 | .eq=>(vInt a).elim ((vStr a).bind fun x=>(vStr b).map fun y=>x==y) fun i=>(vInt b).map fun j=>decide (i=j)
 | .ne=>(vInt a).elim ((vStr a).bind fun x=>(vStr b).map fun y=>!(x==y)) fun i=>(vInt b).map fun j=>decide (i≠j)
 | .lt=>(d7 a b).map fun p=>decide (p.1<p.2)
 | .le=>(d7 a b).map fun p=>decide (p.1≤p.2)
 | .gt=>(d7 a b).map fun p=>decide (p.2<p.1)
 | .ge=>(d7 a b).map fun p=>decide (p.2≤p.1)
 | .is=>jd (isNone b=true) (isNone a)
 | .isNot=>jd (isNone b=true) (!(isNone a))
 | _=>none
theorem deq (x y:Int):(x==y)=decide (x=y):=by
 by_cases e:x=y
 ·simp [e]
 ·simp [e]
theorem dne (x y:Int):(!(x==y))=decide (x≠y):=by rw [deq];by_cases e:x=y<;>simp [e]
theorem jI {σ:St} {op:Cop} {a b:V} {r:Bool} {K:Bool→Prop} (h:ug σ op a b=some r) (q:K r):b5 op a b σ K:=by
 have is_:∀ {a:V} {K:Bool→Prop},K (isNone a)→u4 a .none σ K:=fun {a K} q=>q
 cases op with
 | eq =>
  cases e:vInt a with
  | some i =>
   obtain rfl:=kg e
   obtain⟨j,e',rfl⟩:=omap h
   obtain rfl:=kg e'
   show K (i==j)
   rw [deq];exact q
  | none =>
   unfold ug at h
   rw [e] at h
   obtain⟨x,e1,h⟩:=ic h
   obtain⟨y,e2,rfl⟩:=omap h
   obtain rfl:=wh e1
   obtain rfl:=wh e2
   exact q
 | ne =>
  cases e:vInt a with
  | some i =>
   obtain rfl:=kg e
   obtain⟨j,e',rfl⟩:=omap h
   obtain rfl:=kg e'
   show K (!(i==j))
   rw [dne];exact q
  | none =>
   unfold ug at h
   rw [e] at h
   obtain⟨x,e1,h⟩:=ic h
   obtain⟨y,e2,rfl⟩:=omap h
   obtain rfl:=wh e1
   obtain rfl:=wh e2
   exact q
 | lt=>obtain⟨p,e,rfl⟩:=omap h;obtain⟨rfl,rfl⟩:=tu e;exact q
 | le=>obtain⟨p,e,rfl⟩:=omap h;obtain⟨rfl,rfl⟩:=tu e;exact q
 | gt=>obtain⟨p,e,rfl⟩:=omap h;obtain⟨rfl,rfl⟩:=tu e;exact q
 | ge=>obtain⟨p,e,rfl⟩:=omap h;obtain⟨rfl,rfl⟩:=tu e;exact q
 | is=>obtain⟨c,rfl⟩:=oe h;obtain rfl:=fA c;exact is_ q
 | isNot=>obtain⟨c,rfl⟩:=oe h;obtain rfl:=fA c;exact is_ (K:=fun r=>K (!r)) q
 | isIn=>cases h
 | notIn=>cases h
theorem ifO {α:Type} {c:Prop} [Decidable c] {x:Option α} {y:α} (h:(if c then x else none)=some y):c∧x=some y:=by
 by_cases q:c
 ·rw [bc q] at h;exact⟨q,h⟩
 ·rw [aw q] at h;cases h
noncomputable def dC (xs:List V) (i:Int):Option V:=if 0≤fm xs.length i then xs[(fm xs.length i).toNat]? else none
noncomputable def jH (σ:St) (a i:V):Option V:=(vInt i).bind fun i=>match bT a with
 | some a=>(σ.L a).bind fun xs=>dC xs i
 | none=>(yN a).bind fun xs=>if i.natAbs<2^60 then dC xs i else none
theorem jG {σ:St} {a i v:V} {K:V→Prop} (h0:jH σ a i=some v) (q:K v):mF a i σ K:=by
 obtain⟨j,e,h⟩:=ic h0
 clear h0
 have e:=kg e
 subst e
 cases e:bT a with
 | some b =>
  rw [e] at h
  have e:=yw e
  subst e
  obtain⟨xs,e,h⟩:=ic (o:=σ.L b) h
  obtain⟨c,h⟩:=ifO h
  exact⟨xs,v,e,c,h,q⟩
 | none =>
  rw [e] at h
  obtain⟨xs,e,h⟩:=ic (o:=yN a) h
  have e:=uC e
  subst e
  obtain⟨c,h⟩:=ifO h
  obtain⟨c2,h⟩:=ifO h
  exact⟨v,c,c2,h,q⟩
noncomputable def jL (σ:St) (k:BF) (vs:List V):Option V:=match k with
 | .len=>match vs with
  | [v]=>(bT v).elim ((uE v).bind fun a=>(σ.D a).map fun xs=>.int xs.length) fun a=>(σ.L a).map fun xs=>.int xs.length
  | _=>none
 | .min=>match vs with
  | [a,b]=>(d7 a b).map fun p=>.int (min p.1 p.2)
  | _=>none
 | .max=>match vs with
  | [a,b]=>(d7 a b).map fun p=>.int (max p.1 p.2)
  | _=>none
 | .divmod=>match vs with
  | [a,b]=>(d7 a b).bind fun p=>jd (0<p.2∧p.2.natAbs<2^60) (.tup [.int (p.1/p.2),.int (p.1%p.2)])
  | _=>none
 | _=>none
theorem wU {σ:St} (k:BF) (vs:List V) {v:V} {Q:V→St→Prop} (h:jL σ k vs=some v) (q:Q v σ):o6 k vs σ Q:=by
 cases vs with
 | nil=>cases k<;>exact nO h
 | cons u r =>
  cases k
  case len =>
   cases r with
   | cons=>exact nO h
   | nil =>
    cases e:bT u with
    | some a =>
     obtain rfl:=yw e
     obtain⟨xs,e,rfl⟩:=omap h
     exact⟨xs,e,q⟩
    | none =>
     have h:(bT u).elim ((uE u).bind fun a=>(σ.D a).map fun xs=>V.int xs.length) (fun a=>(σ.L a).map fun xs=>.int xs.length)=some v:=h
     rw [e] at h
     obtain⟨a,e1,h⟩:=ic (o:=uE u) h
     obtain rfl:=uD e1
     obtain⟨xs,e,rfl⟩:=omap h
     exact⟨xs,e,q⟩
  case lrange=>exact nO h
  case set=>exact nO h
  all_goals cases r with
  | nil=>exact nO h
  | cons w r =>
   cases r with
   | cons=>exact nO h
   | nil =>
    first
    | (obtain⟨p,e,rfl⟩:=omap (o:=d7 u w) h;obtain⟨rfl,rfl⟩:=tu e;exact q)
    | (obtain⟨⟨i,j⟩,e,h⟩:=ic (o:=d7 u w) h;obtain⟨rfl,rfl⟩:=tu e;obtain⟨c,rfl⟩:=oe h;have c:0<j∧j.natAbs<2^60:=c;refine⟨(by(rename_i z2 z1;exact Ar.a1 [_] [] (.iu .v0 .n0) [[1,1]] (.il .n0 .v0) z2.1):j≠0),c.2,?_⟩;rw [Int.fdiv_eq_ediv_of_nonneg _ (by show 0≤j;(rename_i z2 z1;exact Ar.a1 [_] [] (.ik .n0 .v0) [[1,1]] (.il .n0 .v0) z2.1)),Int.fmod_eq_emod_of_nonneg _ (by show 0≤j;(rename_i z2 z1;exact Ar.a1 [_] [] (.ik .n0 .v0) [[1,1]] (.il .n0 .v0) z2.1))];exact q)
mutual
noncomputable def evV (σ:St) (ρ:Fr):Ex→Option V
 | .none=>some .none
 | .bool b=>some (.bool b)
 | .int i=>some (.int i)
 | .str s=>some (.str s)
 | .loc x=>ρ x
 | .bin op a b=>(evV σ ρ a).bind fun va=>(evV σ ρ b).bind fun vb=>xw op va vb
 | .neg a=>(evV σ ρ a).bind fun v=>(vInt v).map fun i=>.int (-i)
 | .not a=>(evV σ ρ a).bind fun v=>(lJ σ v).map fun b=>.bool !b
 | .cmp op a b=>(evV σ ρ a).bind fun va=>(evV σ ρ b).bind fun vb=>(ug σ op va vb).map .bool
 | .ite c a b=>(evT σ ρ c).bind fun t=>if t then evV σ ρ a else evV σ ρ b
 | .tup es=>(bW σ ρ es).bind fun vs=>if vs.length≤av then some (.tup vs) else none
 | .attr e x=>(evV σ ρ e).bind fun v=>(yQ v).bind fun a=>(σ.I a).bind fun p=>p.2 x
 | .sub e i=>(evV σ ρ e).bind fun v=>(evV σ ρ i).bind fun j=>jH σ v j
 | .bf k es=>(bW σ ρ es).bind fun vs=>jL σ k vs
 | _=>none
noncomputable def bW (σ:St) (ρ:Fr):Exs→Option (List V)
 | .nil=>some []
 | .cons e es=>(evV σ ρ e).bind fun v=>(bW σ ρ es).map fun vs=>v::vs
noncomputable def evT (σ:St) (ρ:Fr):Ex→Option Bool
 | .not a=>(evT σ ρ a).map fun b=>!b
 | .and a b=>(evT σ ρ a).bind fun t=>if t then evT σ ρ b else some false
 | .or a b=>(evT σ ρ a).bind fun t=>if t then some true else evT σ ρ b
 | .cmp op a b=>(evV σ ρ a).bind fun va=>(evV σ ρ b).bind fun vb=>ug σ op va vb
 | .ite c a b=>(evT σ ρ c).bind fun t=>if t then evT σ ρ a else evT σ ρ b
 | .loc x=>(ρ x).bind fun v=>lJ σ v
 | .int i=>some (i != 0)
 | .bool b=>some b
 | .attr e x=>(evV σ ρ e).bind fun v=>(yQ v).bind fun a=>(σ.I a).bind fun p=>(p.2 x).bind fun u=>lJ σ u
 | .sub e i=>(evV σ ρ e).bind fun v=>(evV σ ρ i).bind fun j=>(jH σ v j).bind fun r=>lJ σ r
 | .bin op a b=>(evV σ ρ a).bind fun va=>(evV σ ρ b).bind fun vb=>(xw op va vb).bind fun r=>lJ σ r
 | _=>none
end
section
variable {σ:St} {ρ:Fr} {e a b c:Ex} {es:Exs}
@[simp] theorem BI:evV σ ρ .none=some .none:=rfl
@[simp] theorem BJ {x:Bool}:evV σ ρ (.bool x)=some (.bool x):=rfl
@[simp] theorem CA {i:Int}:evV σ ρ (.int i)=some (.int i):=rfl
@[simp] theorem ow {x:Nat}:evV σ ρ (.loc x)=ρ x:=rfl
@[simp] theorem zm {op:Bop}:evV σ ρ (.bin op a b)=(evV σ ρ a).bind fun va=>(evV σ ρ b).bind fun vb=>xw op va vb:=rfl
@[simp] theorem C9:evV σ ρ (.neg a)=(evV σ ρ a).bind fun v=>(vInt v).map fun i=>.int (-i):=rfl
@[simp] theorem CB {op:Cop}:evV σ ρ (.cmp op a b)=(evV σ ρ a).bind fun va=>(evV σ ρ b).bind fun vb=>(ug σ op va vb).map .bool:=rfl
@[simp] theorem zk:evV σ ρ (.tup es)=(bW σ ρ es).bind fun vs=>if vs.length≤av then some (.tup vs) else none:=rfl
@[simp] theorem zl {i:Ex}:evV σ ρ (.sub e i)=(evV σ ρ e).bind fun v=>(evV σ ρ i).bind fun j=>jH σ v j:=rfl
@[simp] theorem t9 {k:BF}:evV σ ρ (.bf k es)=(bW σ ρ es).bind fun vs=>jL σ k vs:=rfl
@[simp] theorem BH:bW σ ρ .nil=some []:=rfl
@[simp] theorem ee:bW σ ρ (.cons e es)=(evV σ ρ e).bind fun v=>(bW σ ρ es).map fun vs=>v::vs:=rfl
@[simp] theorem CC:evT σ ρ (.not a)=(evT σ ρ a).map fun b=>!b:=rfl
@[simp] theorem c7:evT σ ρ (.and a b)=(evT σ ρ a).bind fun t=>if t then evT σ ρ b else some false:=rfl
@[simp] theorem CS:evT σ ρ (.or a b)=(evT σ ρ a).bind fun t=>if t then some true else evT σ ρ b:=rfl
@[simp] theorem wu {op:Cop}:evT σ ρ (.cmp op a b)=(evV σ ρ a).bind fun va=>(evV σ ρ b).bind fun vb=>ug σ op va vb:=rfl
@[simp] theorem wR {x:Nat}:evT σ ρ (.loc x)=(ρ x).bind fun v=>lJ σ v:=rfl
@[simp] theorem AM {i:Int}:vInt (.int i)=some i:=rfl
@[simp] theorem AJ {i j:Int}:xw .add (.int i) (.int j)=some (.int (i+j)):=rfl
@[simp] theorem AG {i j:Int}:xw .sub (.int i) (.int j)=some (.int (i-j)):=rfl
@[simp] theorem AH {i j:Int}:xw .mul (.int i) (.int j)=jd (i.natAbs<2^60∨j.natAbs<2^60) (.int (i*j)):=rfl
@[simp] theorem zZ {i j:Int}:xw .fdiv (.int i) (.int j)=jd (0<j∧j.natAbs<2^60) (.int (i/j)):=rfl
@[simp] theorem AI {i j:Int}:xw .mod (.int i) (.int j)=jd (0<j) (.int (i%j)):=rfl
@[simp] theorem jK {l:Addr}:jL σ .len [.lst l]=(σ.L l).map fun xs=>.int xs.length:=rfl
@[simp] theorem BQ {i j:Int}:jL σ .min [.int i,.int j]=some (.int (min i j)):=rfl
@[simp] theorem BR {i j:Int}:jL σ .max [.int i,.int j]=some (.int (max i j)):=rfl
@[simp] theorem BK {i j:Int}:ug σ .lt (.int i) (.int j)=some (decide (i<j)):=rfl
@[simp] theorem BL {i j:Int}:ug σ .le (.int i) (.int j)=some (decide (i≤j)):=rfl
@[simp] theorem BN {i j:Int}:ug σ .gt (.int i) (.int j)=some (decide (j<i)):=rfl
@[simp] theorem BO {i j:Int}:ug σ .ge (.int i) (.int j)=some (decide (j≤i)):=rfl
@[simp] theorem BP {i j:Int}:ug σ .eq (.int i) (.int j)=some (decide (i=j)):=rfl
end
section
variable {C:Cal} {σ:St} {ρ:Fr}
mutual
theorem eg:∀ (e:Ex) {v:V} {Q:V→St→Prop},evV σ ρ e=some v→Q v σ→wpE C e ρ σ Q
 | .none=>fun h q=>by cases (h:some _=some _);exact q
 | .bool b=>fun h q=>by cases (h:some _=some _);exact q
 | .int b=>fun h q=>by cases (h:some _=some _);exact q
 | .str b=>fun h q=>by cases (h:some _=some _);exact q
 | .loc x=>fun h q=>⟨_,h,q⟩
 | .bin op a b=>fun h q=>by
  obtain⟨va,e1,h⟩:=ic h
  obtain⟨vb,e2,h⟩:=cq.mp h
  exact eg a e1 (eg b e2 (jJ h q))
 | .neg a=>fun h q=>by
  obtain⟨va,e1,h⟩:=ic h
  refine eg a e1 ?_
  obtain⟨i,e2,rfl⟩:=omap h
  exact⟨i,kg e2,q⟩
 | .not a=>fun h q=>by
  obtain⟨va,e1,h⟩:=ic h
  obtain⟨b,e2,rfl⟩:=fb.mp h
  exact eg a e1 (zo _ e2 q)
 | .cmp op a b=>fun h q=>by
  obtain⟨va,e1,h⟩:=ic h
  obtain⟨vb,e2,h⟩:=cq.mp h
  obtain⟨r,e3,rfl⟩:=fb.mp h
  exact eg a e1 (eg b e2 (jI e3 q))
 | .ite c a b=>fun h q=>by
  obtain⟨t,e1,h⟩:=ic h
  refine pn c e1 ?_
  cases t with
  | true=>exact aN (eg a h q)
  | false=>exact xj (eg b h q)
 | .tup es=>fun h q=>by
  obtain⟨vs,e1,h⟩:=ic h
  obtain⟨c,h⟩:=ifO h
  cases h
  exact tw es e1 ⟨c,q⟩
 | .attr e x=>fun h q=>by
  obtain⟨va,e1,h⟩:=ic h
  refine eg e e1 ?_
  obtain⟨a,e0,h⟩:=ic h
  obtain⟨⟨d,f⟩,e2,h⟩:=ic h
  exact⟨a,d,f,_,mJ e0,e2,h,q⟩
 | .sub e i=>fun h q=>by
  obtain⟨va,e1,h⟩:=ic h
  obtain⟨vb,e2,h⟩:=cq.mp h
  exact eg e e1 (eg i e2 (jG h q))
 | .bf k es=>fun h q=>by
  obtain⟨vs,e1,h⟩:=ic h
  exact tw es e1 (wU _ _ h q)
 | .and ..=>fun h q=>nO h
 | .or ..=>fun h q=>nO h
 | .lst ..=>fun h q=>nO h
 | .dct0=>fun h q=>nO h
 | .call ..=>fun h q=>nO h
 | .meth ..=>fun h q=>nO h
 | .dgetOf ..=>fun h q=>nO h
 | .shasOf ..=>fun h q=>nO h
 | .bm ..=>fun h q=>nO h
 | .callv ..=>fun h q=>nO h
 | .slc ..=>fun h q=>nO h
 | .comp ..=>fun h q=>nO h
 | .newM ..=>fun h q=>nO h
 | .newMatch ..=>fun h q=>nO h
 | .mkMatches ..=>fun h q=>nO h
 | .dead=>fun h q=>nO h
theorem tw:∀ (es:Exs) {vs:List V} {Q:List V→St→Prop},bW σ ρ es=some vs→Q vs σ→nz C es ρ σ Q
 | .nil,vs,Q,h,q=>by cases (h:some _=some vs);exact q
 | .cons e es,vs,Q,h,q=>by
  obtain⟨v,e1,h⟩:=ic h
  obtain⟨us,e2,rfl⟩:=fb.mp h
  exact eg e e1 (tw es e2 q)
theorem pn:∀ (e:Ex) {b:Bool} {Q:Bool→St→Prop},evT σ ρ e=some b→Q b σ→wpT C e ρ σ Q
 | .not a=>fun h q=>by
  obtain⟨b,e2,rfl⟩:=omap h
  exact pn a e2 q
 | .and a b=>fun h q=>by
  obtain⟨t,e1,h⟩:=ic h
  refine pn a e1 ?_
  cases t with
  | true=>exact aN (pn b h q)
  | false=>cases h;exact xj q
 | .or a b=>fun h q=>by
  obtain⟨t,e1,h⟩:=ic h
  refine pn a e1 ?_
  cases t with
  | true=>cases h;exact aN q
  | false=>exact xj (pn b h q)
 | .cmp op a b=>fun h q=>by
  obtain⟨va,e1,h⟩:=ic h
  obtain⟨vb,e2,h⟩:=cq.mp h
  exact eg a e1 (eg b e2 (jI h q))
 | .ite c a b=>fun h q=>by
  obtain⟨t,e1,h⟩:=ic h
  refine pn c e1 ?_
  cases t with
  | true=>exact aN (pn a h q)
  | false=>exact xj (pn b h q)
 | .loc x=>fun h q=>by
  obtain⟨u,e1,h⟩:=ic h
  exact⟨u,e1,zo _ h q⟩
 | .int i=>fun h q=>by cases (h:some _=some _);exact q
 | .bool i=>fun h q=>by cases (h:some _=some _);exact q
 | .attr e x=>fun h q=>by
  obtain⟨va,e1,h⟩:=ic h
  refine eg e e1 ?_
  obtain⟨a,e0,h⟩:=ic h
  obtain⟨⟨d,f⟩,e2,h⟩:=ic h
  obtain⟨u,e3,h⟩:=ic h
  exact⟨a,d,f,u,mJ e0,e2,e3,zo _ h q⟩
 | .sub e i=>fun h q=>by
  obtain⟨va,e1,h⟩:=ic h
  obtain⟨vb,e2,h⟩:=cq.mp h
  obtain⟨u,e3,h⟩:=cq.mp h
  exact eg e e1 (eg i e2 (jG e3 (zo _ h q)))
 | .bin op a b=>fun h q=>by
  obtain⟨va,e1,h⟩:=ic h
  obtain⟨vb,e2,h⟩:=cq.mp h
  obtain⟨u,e3,h⟩:=cq.mp h
  exact eg a e1 (eg b e2 (jJ e3 (zo _ h q)))
 | .none=>fun h q=>nO h
 | .str ..=>fun h q=>nO h
 | .neg ..=>fun h q=>nO h
 | .tup ..=>fun h q=>nO h
 | .bf ..=>fun h q=>nO h
 | .lst ..=>fun h q=>nO h
 | .dct0=>fun h q=>nO h
 | .call ..=>fun h q=>nO h
 | .meth ..=>fun h q=>nO h
 | .dgetOf ..=>fun h q=>nO h
 | .shasOf ..=>fun h q=>nO h
 | .bm ..=>fun h q=>nO h
 | .callv ..=>fun h q=>nO h
 | .slc ..=>fun h q=>nO h
 | .comp ..=>fun h q=>nO h
 | .newM ..=>fun h q=>nO h
 | .newMatch ..=>fun h q=>nO h
 | .mkMatches ..=>fun h q=>nO h
 | .dead=>fun h q=>nO h
end
variable {K:Fl→Fr→St→Prop} {ss:jf}
theorem zv {x:Nat} {e:Ex} (v:V) (h:evV σ ρ e=some v) (k:dk C ss (upd ρ x v) σ K):dk C (.cons (.assign [.var x] e) ss) ρ σ K:=eg e h k
theorem fS {xs:List Nat} {e:Ex} (vs:List V) (h:evV σ ρ e=some (.tup vs)) (l:xs.length=vs.length) (k:dk C ss (ez xs vs ρ) σ K):dk C (.cons (.assign [.tup xs] e) ss) ρ σ K :=
 eg e h ⟨vs,rfl,l,k⟩
theorem yH {x:Nat} {es:Exs} (vs:List V) (h:bW σ ρ es=some vs) (l:vs.length≤av) (k:∀ c,σ.L c=none→dk C ss (upd ρ x (.lst c)) (σ.cw c vs) K):dk C (.cons (.assign [.var x] (.lst es)) ss) ρ σ K :=
 tw (Q:=fun vs σ=>vs.length≤av∧∀ c,σ.L c=none→dk C ss (upd ρ x (.lst c)) (σ.cw c vs) K) es h ⟨l,k⟩
theorem mD {c:Ex} {t e:jf} (b:Bool) (h:evT σ ρ c=some b) (k:if b then dk C t ρ σ (fun fl ρ σ=>match fl with | .next=>dk C ss ρ σ K | fl=>K fl ρ σ) else dk C e ρ σ (fun fl ρ σ=>match fl with | .next=>dk C ss ρ σ K | fl=>K fl ρ σ)):dk C (.cons (.cond c t e) ss) ρ σ K:=pn c h k
theorem bO {x:Nat} {e:Ex} {a:Addr} {xs:List V} (v:V) (hx:ρ x=some (.lst a)) (ha:σ.L a=some xs) (h:evV σ ρ e=some v) (l:xs.length<av) (k:dk C ss ρ (σ.cw a (xs++[v])) K):dk C (.cons (.expr (.bm .append (.loc x) (.cons e .nil))) ss) ρ σ K:=by
 refine⟨_,hx,(show(σ.L a).isSome=true by rw [ha];rfl),?_⟩
 rw [ja]
 refine eg e h ?_
 exact⟨xs,ha,l,rfl,k⟩
theorem nW {e:Ex} (v:V) (h:evV σ ρ e=some v) (k:K (.ret v) ρ σ):dk C (.cons (.ret e) ss) ρ σ K:=eg (Q:=fun v σ=>K (.ret v) ρ σ) e h k
theorem gk (k:K .next ρ σ):dk C .nil ρ σ K:=k
theorem i9 (k:dk C ss ρ σ K):dk C (.cons .pass ss) ρ σ K:=k
theorem iB {c:Ex} {t e:jf} (p:Prop) [Decidable p] (h:evT σ ρ c=some (decide p)) (k1:p→dk C t ρ σ (fun fl ρ σ=>match fl with | .next=>dk C ss ρ σ K | fl=>K fl ρ σ)) (k2:¬ p→dk C e ρ σ (fun fl ρ σ=>match fl with | .next=>dk C ss ρ σ K | fl=>K fl ρ σ)):dk C (.cons (.cond c t e) ss) ρ σ K:=by
 refine mD _ h ?_
 by_cases q:p
 ·rw [dv q,bc rfl];exact k1 q
 ·rw [dp q,aw (by simp)];exact k2 q
end
end MP
end
section
namespace MP
namespace SM
open PySem
noncomputable abbrev T3:=Nat × Nat × Nat
noncomputable abbrev T4:=Nat × Nat × Nat × Nat
noncomputable def zT (t:T3):Int × Int × Int:=(t.1,t.2.1,t.2.2)
noncomputable def mV (t:T3):V:=mtV (zT t)
noncomputable def tV (t:T3):V:=.tup [.int t.1,.int t.2.1,.int t.2.2]
noncomputable def qV (r:T4):V:=.tup [.int r.1,.int r.2.1,.int r.2.2.1,.int r.2.2.2]
theorem AU {L mb:List T3} (hp:L.Perm mb) (hs:L.Pairwise nr) (hk:∀ t∈L,0<t.2.2):((mb.map zT).mergeSort leT).map mtV=L.map mV:=by
 have e:(mb.map zT).mergeSort leT=L.map zT:=by
  refine List.Perm.eq_of_pairwise (le:=LeT) ?_ (xu _) ?_ ((List.mergeSort_perm _ _).trans (hp.symm.map zT))
  ·intro a b _ _ h1 h2
   unfold LeT at h1 h2
   obtain⟨a1,a2,a3⟩:=a
   obtain⟨b1,b2,b3⟩:=b
   simp only [jo] at *
   (exact⟨(h1.elim (fun q1=>(h2.elim (fun q2=>(Ar.a2 [_,_] [] (.ie .v0 .v1) [[1,0,1],[1,1,0]] (.il .v0 .v1) (.il .v1 .v0) q1 q2)) fun q2=>(Ar.a1 [_,_] [] (.ie .v0 .v1) [[1,1],[1,-1]] (.ie .v1 .v0) q2.1))) fun q1=>(Ar.a1 [_,_] [] (.ie .v0 .v1) [[1,-1],[1,1]] (.ie .v0 .v1) q1.1)),⟨(h1.elim (fun q1=>(h2.elim (fun q2=>(Ar.a2 [_,_,_,_] [] (.ie .v0 .v1) [[0,1,1],[0,1,1]] (.il .v2 .v3) (.il .v3 .v2) q1 q2)) fun q2=>(Ar.a2 [_,_,_,_] [] (.ie .v0 .v1) [[0,1,1],[0,1,1]] (.il .v2 .v3) (.ie .v3 .v2) q1 q2.1))) fun q1=>(h2.elim (fun q2=>(Ar.a2 [_,_,_,_] [] (.ie .v0 .v1) [[0,1,1],[0,1,1]] (.ie .v2 .v3) (.il .v3 .v2) q1.1 q2)) fun q2=>(q1.2.elim (fun q3=>(q2.2.elim (fun q4=>(Ar.a2 [_,_] [] (.ie .v0 .v1) [[1,0,1],[1,1,0]] (.il .v0 .v1) (.il .v1 .v0) q3 q4)) fun q4=>(Ar.a1 [_,_] [] (.ie .v0 .v1) [[1,1],[1,-1]] (.ie .v1 .v0) q4.1))) fun q3=>(Ar.a1 [_,_] [] (.ie .v0 .v1) [[1,-1],[1,1]] (.ie .v0 .v1) q3.1)))),(h1.elim (fun q1=>(h2.elim (fun q2=>(Ar.a2 [_,_,_,_] [] (.ie .v0 .v1) [[0,1,1],[0,1,1]] (.il .v2 .v3) (.il .v3 .v2) q1 q2)) fun q2=>(Ar.a2 [_,_,_,_] [] (.ie .v0 .v1) [[0,1,1],[0,1,1]] (.il .v2 .v3) (.ie .v3 .v2) q1 q2.1))) fun q1=>(h2.elim (fun q2=>(Ar.a2 [_,_,_,_] [] (.ie .v0 .v1) [[0,1,1],[0,1,1]] (.ie .v2 .v3) (.il .v3 .v2) q1.1 q2)) fun q2=>(q1.2.elim (fun q3=>(q2.2.elim (fun q4=>(Ar.a2 [_,_,_,_] [] (.ie .v0 .v1) [[0,1,1],[0,1,1]] (.il .v2 .v3) (.il .v3 .v2) q3 q4)) fun q4=>(Ar.a2 [_,_,_,_] [] (.ie .v0 .v1) [[0,1,1],[0,1,1]] (.il .v2 .v3) (.ie .v3 .v2) q3 q4.1))) fun q3=>(q2.2.elim (fun q4=>(Ar.a2 [_,_,_,_] [] (.ie .v0 .v1) [[0,1,1],[0,1,1]] (.ie .v2 .v3) (.il .v3 .v2) q3.1 q4)) fun q4=>(Ar.a2 [_,_] [] (.ie .v0 .v1) [[1,0,1],[1,1,0]] (.ik .v0 .v1) (.ik .v1 .v0) q3.2 q4.2)))))⟩⟩)
  ·rw [List.pairwise_map]
   refine List.Pairwise.imp_of_mem (fun {a b} ha hb h=>?_) hs
   have:=hk a ha
   unfold nr at h
   unfold LeT zT
   simp only
   (exact .inl (Ar.a2 [] [_,_,_] (.il (.t .v0) (.t .v1)) [[1,1,1]] (.k (.a .v0 .v2) .v1) (.l .n0 .v2) h.1 this))
 rw [e,ky]
 rfl
noncomputable def qw (q:List T4):Nat:=(q.map fun r=>2*(r.2.1-r.1)+1).sum
theorem c5 {q:List T4} {r:T4}:qw (q++[r])=qw q+(2*(r.2.1-r.1)+1):=by simp [qw]
theorem rZ {q:List T4}:q.length≤qw q:=by
 induction q with
 | nil=>exact aj _
 | cons r q ih =>
  unfold qw at *
  simp only [fu,gm,List.sum_cons]
  (exact Ar.a1 [] [_,_,_] (.k (.a .v0 .n1) (.a (.a (.m 2 .v1) .n1) .v2)) [[1,1]] (.k .v0 .v2) ih)
inductive i8 (F:Nat→Nat→Nat→Nat→T3→Prop):List T4→List (List T3)→Prop
 | nil:i8 F [] []
 | snoc {q:List T4} {Ls:List (List T3)} {r:T4} {L:List T3}:i8 F q Ls→kr F r.1 r.2.1 r.2.2.1 r.2.2.2 L→i8 F (q++[r]) (Ls++[L])
theorem i8.inv {F:Nat→Nat→Nat→Nat→T3→Prop} {q:List T4} {r:T4} {Ms:List (List T3)} (h:i8 F (q++[r]) Ms):∃ Ls L,Ms=Ls++[L]∧i8 F q Ls∧kr F r.1 r.2.1 r.2.2.1 r.2.2.2 L:=by
 generalize e:q++[r]=q' at h
 cases h with
 | nil=>exact absurd (bu List.length e) (by simp)
 | @snoc q2 Ls r2 L h1 h2 =>
  have:=List.append_inj' e rfl
  obtain⟨rfl,e2⟩:=this
  cases e2
  exact⟨Ls,L,rfl,h1,h2⟩
theorem AO {r:T4} {σ:St}:uF (qV r) σ=some [.int r.1,.int r.2.1,.int r.2.2.1,.int r.2.2.2]:=rfl
theorem qD {t:T3} {σ:St}:uF (mV t) σ=some [.int t.1,.int t.2.1,.int t.2.2]:=rfl
noncomputable def kn (p:Prop) [Decidable p] (q:List T4) (r:T4):List T4:=if p then q++[r] else q
theorem qj {σ:St} {a:Addr} {xs:List V} (h:σ.L a=some xs):σ.cw a xs=σ:=by
 have:upd σ.L a xs=σ.L:=by
  funext z
  by_cases e:z=a
  ·rw [e,bp,h]
  ·exact cn e
 unfold St.cw
 rw [this]
section
variable {σ:St} {ρ:Fr} {a b c e:Ex} {m n k l:Nat}
theorem og (ha:evV σ ρ a=some (.int m)) (hb:evV σ ρ b=some (.int n)):evT σ ρ (.cmp .lt a b)=some (decide (m<n)):=by
 rw [wu,ha,hb]
 exact bu some (kc.mpr Int.ofNat_lt)
theorem dD (ha:evV σ ρ a=some (.int m)) (hb:evV σ ρ b=some (.int n)):evT σ ρ (.cmp .eq a b)=some (decide (m=n)):=by
 rw [wu,ha,hb]
 exact bu some (kc.mpr Int.ofNat_inj)
theorem fx (ha:evV σ ρ a=some (.int m)) (hb:evV σ ρ b=some (.int n)):evV σ ρ (.bin .add a b)=some (.int (m+n:Nat)):=by
 rw [zm,ha,hb];rfl
theorem sz {p q:Prop} [Decidable p] [Decidable q] (ha:evT σ ρ a=some (decide p)) (hb:evT σ ρ b=some (decide q)):evT σ ρ (.and a b)=some (decide (p∧q)):=by
 rw [c7,ha]
 by_cases h:p
 ·rw [dv h]
  exact hb.trans (bu some (kc.mpr ⟨fun x=>⟨h,x⟩,fun x=>x.2⟩))
 ·rw [dp h]
  exact bu some (dp fun x=>h x.1).symm
theorem aR {x:Nat} (h:ρ x=some (.int k)):evT σ ρ (.loc x)=some (decide (k≠0)):=by
 rw [wR,h]
 cases k<;>rfl
theorem ev3 (ha:evV σ ρ a=some (.int m)) (hb:evV σ ρ b=some (.int n)) (hc:evV σ ρ c=some (.int k)):evV σ ρ (.tup (.cons a (.cons b (.cons c .nil))))=some (tV (m,n,k)):=by
 rw [zk,ee,ha,ee,hb,ee,hc];rfl
theorem ev4 (ha:evV σ ρ a=some (.int m)) (hb:evV σ ρ b=some (.int n)) (hc:evV σ ρ c=some (.int k)) (he:evV σ ρ e=some (.int l)):evV σ ρ (.tup (.cons a (.cons b (.cons c (.cons e .nil)))))=some (qV (m,n,k,l)):=by
 rw [zk,ee,ha,ee,hb,ee,hc,ee,he];rfl
variable {C:Cal} {K:Fl→Fr→St→Prop} {ss:jf}
theorem push {ql:Addr} {q:List T4} {p:Prop} [Decidable p] (r:T4) (h3:ρ 3=some (.lst ql)) (hq:σ.L ql=some (q.map qV)) (hl:q.length<av) (hT:evT σ ρ c=some (decide p)) (hE:evV σ ρ e=some (qV r)) (h:dk C ss ρ (σ.cw ql ((kn p q r).map qV)) K) :
  dk C (.cons (.cond c (.cons (.expr (.bm .append (.loc 3) (.cons e .nil))) .nil) .nil) ss) ρ σ K:=by
 unfold kn at h
 refine iB p hT (fun y=>?_) fun y=>?_
 ·rw [bc y,di] at h
  exact bO (qV r) h3 hq hE (by rw [ax];exact hl) (gk h)
 ·rw [aw y,qj hq] at h
  exact gk h
end
noncomputable def In4 (as bs:List Key) (r:T4):Prop:=r.1≤r.2.1∧r.2.2.1≤r.2.2.2∧r.2.1≤as.length∧r.2.2.2≤bs.length
section
variable {as bs:List Key} {F:Nat→Nat→Nat→Nat→T3→Prop} {q:List T4} {r:T4} {mb:List T3} {p:Prop} [Decidable p]
theorem nC (h:∀ u∈q,In4 as bs u) (h':p→In4 as bs r):∀ u∈kn p q r,In4 as bs u:=by
 unfold kn
 split
 ·rename_i c
  intro u hu
  rcases cy.mp hu with hu | hu
  ·exact h u hu
  ·rw [aq.mp hu];exact h' c
 ·exact h
theorem gI:qw (kn p q r)≤qw q+(2*(r.2.1-r.1)+1):=by
 unfold kn
 split
 ·rw [c5];exact aj _
 ·exact sd _ _
theorem eZ {Ls:List (List T3)} (o:i8 F (kn p q r) Ls):∃ Ls' R,i8 F q Ls'∧Ls.flatten=Ls'.flatten++R∧(p→kr F r.1 r.2.1 r.2.2.1 r.2.2.2 R)∧(¬ p→R=[]):=by
 unfold kn at o
 split at o
 ·rename_i c
  obtain⟨Ls5,R,rfl,o5,bR⟩:=o.inv
  exact⟨Ls5,R,o5,by rw [List.flatten_append,List.flatten_cons,aC,cv],fun _=>bR,fun q=>absurd c q⟩
 ·rename_i c
  exact⟨Ls,[],o,(cv _).symm,fun c1=>absurd c1 c,fun _=>rfl⟩
noncomputable def bX (F:Nat→Nat→Nat→Nat→T3→Prop) (na nb:Nat) (q:List T4) (mb:List T3):Prop:=∀ Ls,i8 F q Ls→∃ L,kr F 0 na 0 nb L∧L.Perm (mb++Ls.flatten)
variable {na nb alo ahi blo bhi i j k:Nat}
theorem bX.drop (h:bX F na nb (q++[(alo,ahi,blo,bhi)]) mb) (hf:F alo ahi blo bhi (i,j,0)):bX F na nb q mb:=fun Ls o=>by
 obtain⟨L,b,p⟩:=h _ (.snoc o (.nil hf))
 exact⟨L,b,by rwa [List.flatten_append,List.flatten_cons,aC,cv,cv] at p⟩
theorem bX.part (h:bX F na nb (q++[(alo,ahi,blo,bhi)]) mb) (hf:F alo ahi blo bhi (i,j,k)) (hk:0<k) :
  bX F na nb (kn (i+k<ahi∧j+k<bhi) (kn (alo<i∧blo<j) q (alo,i,blo,j)) (i+k,ahi,j+k,bhi)) (mb++[(i,j,k)]):=fun Ls o=>by
 obtain⟨Ls5,R,o5,e5,bR,bR0⟩:=eZ o
 obtain⟨Ls4,L,o4,e4,bL,bL0⟩:=eZ o5
 obtain⟨M,bM,pM⟩:=h _ (.snoc o4 (.node hf hk (fun a b=>bL ⟨a,b⟩) bL0 (fun a b=>bR ⟨a,b⟩) bR0))
 refine⟨M,bM,pM.trans ?_⟩
 rw [e5,e4,List.flatten_append,List.flatten_cons,aC,cv,gu]
 refine List.Perm.append_left _ ?_
 rw [← gu,gu Ls4.flatten,← gu Ls4.flatten]
 exact List.perm_middle
theorem bX.start:bX F na nb [(0,na,0,nb)] []:=fun Ls o=>by
 obtain⟨Ls',L,rfl,o',b⟩:=o.inv (q:=[])
 have e:Ls'=[]:=by
  generalize e:([]:List T4)=q at o'
  cases o' with
  | nil=>rfl
  | snoc _ _=>exact absurd (bu List.length e) (by simp)
 subst e
 exact⟨L,b,by simp⟩
end
structure QN (σ:St) (ql ml:Addr):Prop where
 ne:ql≠ml
 q:σ.L ql=none
 m:σ.L ml=none
structure QS (σ σ':St) (ql ml:Addr) (q:List T4) (mb:List T3):Prop where
 kp:Kp σ σ'
 q:σ'.L ql=some (q.map qV)
 m:σ'.L ml=some (mb.map mV)
section
variable {σ σ':St} {ql ml:Addr} {q:List T4} {mb:List T3}
theorem QS.AW (N:QN σ ql ml) (S:QS σ σ' ql ml q mb) (q':List T4):QS σ (σ'.cw ql (q'.map qV)) ql ml q' mb:=⟨S.kp.cw N.q,bp _ _ _,(cn (Ne.symm N.ne)).trans S.m⟩
theorem QS.setM (N:QN σ ql ml) (S:QS σ σ' ql ml q mb) (mb':List T3):QS σ (σ'.cw ml (mb'.map mV)) ql ml q mb':=⟨S.kp.cw N.m,(cn N.ne).trans S.q,bp _ _ _⟩
theorem QS.kept {σ2:St} (S:QS σ σ' ql ml q mb) (k:Kp σ' σ2):QS σ σ2 ql ml q mb:=⟨S.kp.trans k,k.L _ _ S.q,k.L _ _ S.m⟩
end
structure R6 (ρ:Fr) (x:Addr) (ql ml:Addr) (na nb:Nat):Prop where
 r0:ρ 0=some (.obj x)
 r1:ρ 1=some (.int na)
 r2:ρ 2=some (.int nb)
 r3:ρ 3=some (.lst ql)
 r4:ρ 4=some (.lst ml)
inductive xP (σ:St) (x ql ml:Addr) (as bs:List Key) (F:Nat→Nat→Nat→Nat→T3→Prop) (w:Nat) (ρ:Fr) (σ':St):Prop
 | mk (q:List T4) (mb:List T3):R6 ρ x ql ml as.length bs.length→w=qw q→QS σ σ' ql ml q mb→qw q+mb.length≤2*as.length+1→(∀ r∈q,In4 as bs r)→bX F as.length bs.length q mb→xP σ x ql ml as bs F w ρ σ'
theorem vQ {w6 w5 w0 i alo ahi k:Nat} (h2:w5≤w0+(2*(i-alo)+1)) (h3:w6≤w5+(2*(ahi-(i+k))+1)) (a:alo≤i) (b:i+k≤ahi) (hk:0<k):w6<w0+(2*(ahi-alo)+1):=by(exact Ar.a6 [] [_,_,_,_,_,_,_,_,_,_] (.l .v0 (.a .v1 (.a (.m 2 .v2) .n1))) [[1,1,1,2,2,2,-2]] (.k .v3 (.a .v1 (.a (.m 2 .v4) .n1))) (.k .v0 (.a .v3 (.a (.m 2 .v5) .n1))) (.l .n0 .v6) (.e (.a .v4 .v7) .v8) (.e (.a .v5 (.a .v8 .v6)) .v9) (.e (.a .v2 .v7) .v9) h2 h3 hk (aa (Ar.a1 [] [_,_] (.k .v0 .v1) [[1,1]] (.k .v0 .v1) a)) (aa (Ar.a1 [] [_,_,_] (.k (.a .v0 .v1) .v2) [[1,1]] (.k (.a .v0 .v1) .v2) b)) (aa (Ar.a2 [] [_,_,_,_] (.k .v0 .v1) [[1,1,1]] (.k .v0 .v2) (.k (.a .v2 .v3) .v1) a b)))
theorem t6 {C:Cal} {σ σ':St} {x ql ml:Addr} {as bs:List Key} {F:Nat→Nat→Nat→Nat→T3→Prop} {q:List T4} {mb:List T3} {ρ:Fr} {K:Fl→Fr→St→Prop} {alo ahi blo bhi i j k:Nat} (hsa:as.length<400000) (N:QN σ ql ml) (H:R6 ρ x ql ml as.length bs.length) (S:QS σ σ' ql ml q mb)
  (r5:ρ 5=some (.int alo)) (r6:ρ 6=some (.int ahi)) (r7:ρ 7=some (.int blo)) (r8:ρ 8=some (.int bhi)) (r9:ρ 9=some (.int i)) (r10:ρ 10=some (.int j)) (r11:ρ 11=some (.int k)) (r12:ρ 12=some (mV (i,j,k)))
  (W:Within alo ahi blo bhi (i,j,k)) (hr:In4 as bs (alo,ahi,blo,bhi)) (hin:∀ r∈q,In4 as bs r) (hw:qw (q++[(alo,ahi,blo,bhi)])+mb.length≤2*as.length+1) (hk:0<k) (hf:F alo ahi blo bhi (i,j,k)) (hown:bX F as.length bs.length (q++[(alo,ahi,blo,bhi)]) mb)
  (h:∀ w σ2,w<qw (q++[(alo,ahi,blo,bhi)])→xP σ x ql ml as bs F w ρ σ2→K .next ρ σ2) :
  dk C (.cons (.expr (.bm .append (.loc 4) (.cons (.loc 12) .nil)))
   (.cons (.cond (.and (.cmp .lt (.loc 5) (.loc 9)) (.cmp .lt (.loc 7) (.loc 10))) (.cons (.expr (.bm .append (.loc 3) (.cons (.tup (.cons (.loc 5) (.cons (.loc 9) (.cons (.loc 7) (.cons (.loc 10) .nil))))) .nil))) .nil) .nil)
   (.cons (.cond (.and (.cmp .lt (.bin .add (.loc 9) (.loc 11)) (.loc 6)) (.cmp .lt (.bin .add (.loc 10) (.loc 11)) (.loc 8))) (.cons (.expr (.bm .append (.loc 3) (.cons (.tup (.cons (.bin .add (.loc 9) (.loc 11)) (.cons (.loc 6) (.cons (.bin .add (.loc 10) (.loc 11)) (.cons (.loc 8) .nil))))) .nil))) .nil) .nil) .nil))) ρ σ' K:=by
 have W:alo≤i∧i+k≤ahi∧blo≤j∧j+k≤bhi:=W
 have hr:alo≤ahi∧blo≤bhi∧ahi≤as.length∧bhi≤bs.length:=hr
 rw [c5] at hw h
 have hw:qw q+(2*(ahi-alo)+1)+mb.length≤2*as.length+1:=hw
 have h1:=rZ (q:=q)
 have lt:=vQ (gI (p:=alo<i∧blo<j) (q:=q) (r:=(alo,i,blo,j))) (gI (p:=i+k<ahi∧j+k<bhi) (q:=kn (alo<i∧blo<j) q (alo,i,blo,j)) (r:=(i+k,ahi,j+k,bhi))) W.1 W.2.1 hk
 have h2:qw (kn (alo<i∧blo<j) q (alo,i,blo,j))≤qw q+(2*(i-alo)+1):=gI
 have h4:=rZ (q:=kn (alo<i∧blo<j) q (alo,i,blo,j))
 refine bO (mV (i,j,k)) H.r4 S.m r12 (by rw [ax];unfold av;(rename_i z1;exact Ar.a2 [] [_,_,_,_] (.l .v0 (.n 1000000)) [[1,2,1]] (.l .v1 (.n 400000)) (.k (.a (.a .v2 (.a (.m 2 .v3) .n1)) .v0) (.a (.m 2 .v1) .n1)) hsa z1)) ?_
 have S1:=S.setM N (mb++[(i,j,k)])
 rw [di] at S1
 refine push (p:=alo<i∧blo<j) (alo,i,blo,j) H.r3 S1.q (by unfold av;(rename_i z1;exact Ar.a3 [] [_,_,_,_,_] (.l .v0 (.n 1000000)) [[1,2,1,1]] (.l .v1 (.n 400000)) (.k (.a (.a .v2 (.a (.m 2 .v3) .n1)) .v4) (.a (.m 2 .v1) .n1)) (.k .v0 .v2) hsa z1 h1)) (sz (og r5 r9) (og r7 r10)) (ev4 r5 r9 r7 r10) ?_
 have S2:=S1.AW N (kn (alo<i∧blo<j) q (alo,i,blo,j))
 refine push (p:=i+k<ahi∧j+k<bhi) (i+k,ahi,j+k,bhi) H.r3 S2.q (by unfold av;(rename_i z1;exact Ar.a7 [] [_,_,_,_,_,_,_,_,_,_,_] (.l .v0 (.n 1000000)) [[1,2,1,2,1,1,-2,2]] (.l .v1 (.n 400000)) (.k (.a (.a .v2 (.a (.m 2 .v3) .n1)) .v4) (.a (.m 2 .v1) .n1)) (.k (.a .v5 .v6) .v7) (.k .v8 (.a .v2 (.a (.m 2 .v9) .n1))) (.k .v0 .v8) (.e (.a .v3 (.v 10)) .v7) (.e (.a .v9 (.v 10)) .v5) hsa z1 W.2.1 h2 h4 (aa (Ar.a2 [] [_,_,_,_] (.k .v0 .v1) [[1,1,1]] (.k .v0 .v2) (.k (.a .v2 .v3) .v1) W.1 W.2.1)) (aa (Ar.a1 [] [_,_] (.k .v0 .v1) [[1,1]] (.k .v0 .v1) W.1)))) (sz (og (fx r9 r11) r6) (og (fx r10 r11) r8)) (ev4 (fx r9 r11) r6 (fx r10 r11) r8) ?_
 have S3:=S2.AW N (kn (i+k<ahi∧j+k<bhi) (kn (alo<i∧blo<j) q (alo,i,blo,j)) (i+k,ahi,j+k,bhi))
 refine h _ _ lt ⟨_,mb++[(i,j,k)],H,rfl,S3,?_,?_,hown.part hf hk⟩
 ·rw [bx,ib];(rename_i z1;exact Ar.a2 [] [_,_,_,_,_] (.k (.a .v0 (.a .v1 .n1)) (.a (.m 2 .v2) .n1)) [[1,1,1]] (.k (.a (.a .v3 (.a (.m 2 .v4) .n1)) .v1) (.a (.m 2 .v2) .n1)) (.l .v0 (.a .v3 (.a (.m 2 .v4) .n1))) z1 lt)
 ·exact nC (nC hin fun c=>⟨kx c.1,kx c.2,by show i≤as.length;(exact Ar.a2 [] [_,_,_,_] (.k .v0 .v1) [[1,1,1]] (.k (.a .v0 .v2) .v3) (.k .v3 .v1) W.2.1 hr.2.2.1),by show j≤bs.length;(exact Ar.a2 [] [_,_,_,_] (.k .v0 .v1) [[1,1,1]] (.k (.a .v0 .v2) .v3) (.k .v3 .v1) W.2.2.2 hr.2.2.2)⟩) fun c=>⟨kx c.1,kx c.2,hr.2.2.1,hr.2.2.2⟩
theorem t5 {P:Nat→Option Fn} (hP5:P 5=some fn5) {n:Nat} {σ σ':St} {x la lb db sj ql ml:Addr} {as bs:List Key} {rm:Key→Bool} {js:List Key} {q:List T4} {r:T4} {mb:List T3} {ρ:Fr} {again:Fr→St→Prop} {K:Fl→Fr→St→Prop}
  (hM:MAt σ x la lb db sj as bs rm js) (ha:∀ k∈as,pd k) (hb:∀ k∈bs,pd k) (hs:bs.length<400000) (hsa:as.length<400000) (N:QN σ ql ml) (H:R6 ρ x ql ml as.length bs.length) (S:QS σ σ' ql ml (q++[r]) mb) (hw:qw (q++[r])+mb.length≤2*as.length+1) (hin:∀ u∈q++[r],In4 as bs u)
  (hown:bX (Flm as bs rm fun c=>decide (c∈js)) as.length bs.length (q++[r]) mb) (hag:∀ w ρ' σ2,w<qw (q++[r])→xP σ x ql ml as bs (Flm as bs rm fun c=>decide (c∈js)) w ρ' σ2→again ρ' σ2) :
  dk (dn P (n+1)) (.cons (.assign [(.tup [5,6,7,8])] (.bm .pop (.loc 3) .nil))
   (.cons (.assign [(.tup [9,10,11]),(.var 12)] (.meth (.loc 0) 5 (.cons (.loc 5) (.cons (.loc 6) (.cons (.loc 7) (.cons (.loc 8) .nil))))))
   (.cons (.cond (.loc 11) (.cons (.expr (.bm .append (.loc 4) (.cons (.loc 12) .nil)))
    (.cons (.cond (.and (.cmp .lt (.loc 5) (.loc 9)) (.cmp .lt (.loc 7) (.loc 10))) (.cons (.expr (.bm .append (.loc 3) (.cons (.tup (.cons (.loc 5) (.cons (.loc 9) (.cons (.loc 7) (.cons (.loc 10) .nil))))) .nil))) .nil) .nil)
    (.cons (.cond (.and (.cmp .lt (.bin .add (.loc 9) (.loc 11)) (.loc 6)) (.cmp .lt (.bin .add (.loc 10) (.loc 11)) (.loc 8))) (.cons (.expr (.bm .append (.loc 3) (.cons (.tup (.cons (.bin .add (.loc 9) (.loc 11)) (.cons (.loc 6) (.cons (.bin .add (.loc 10) (.loc 11)) (.cons (.loc 8) .nil))))) .nil))) .nil) .nil) .nil))) .nil) .nil))) ρ σ' (qo again K):=by
 obtain⟨alo,ahi,blo,bhi⟩:=r
 have hq:=S.q
 rw [di] at hq
 refine⟨_,H.r3,(by show(σ'.L ql).isSome=true;rw [hq];rfl),q.map qV,qV (alo,ahi,blo,bhi),hq,_,AO,rfl,?_⟩
 have hr:alo≤ahi∧blo≤bhi∧ahi≤as.length∧bhi≤bs.length:=hin (alo,ahi,blo,bhi) (fo _ (.head _))
 have hin':∀ u∈q,In4 as bs u:=fun u hu=>hin u (fq _ hu)
 have S0:QS σ (σ'.cw ql (q.map qV)) ql ml q mb:=⟨S.kp.cw N.q,bp _ _ _,(cn (Ne.symm N.ne)).trans S.m⟩
 obtain⟨d,f,hI,_⟩:=hM.I
 refine⟨_,H.r0,x,rfl,(by show(σ'.I x).isSome=true;rw [S.kp.I,hI];rfl),_,rfl,_,rfl,_,rfl,_,rfl,?_⟩
 refine flm hP5 (hM.keep S0.kp) ha hb (by unfold av;(exact Ar.a1 [] [_] (.l .v0 (.n 1000000)) [[1,1]] (.l .v0 (.n 400000)) hs)) (by unfold av;(exact Ar.a1 [] [_] (.l .v0 (.n 1000000)) [[1,1]] (.l .v0 (.n 400000)) hsa)) (.inl rfl) (.inl rfl) hr.1 hr.2.1 hr.2.2.1 hr.2.2.2 fun σ2 i0 j0 k0 k2 best=>?_
 have hf:Flm as bs rm (fun c=>decide (c∈js)) alo ahi blo bhi (grow as bs (fun c=>decide (c∈js)) alo ahi blo bhi i0 j0 k0):=⟨_,_,_,best,rfl⟩
 have S2:=S0.kept k2
 generalize grow as bs (fun c=>decide (c∈js)) alo ahi blo bhi i0 j0 k0=t at hf
 obtain⟨i,j,k⟩:=t
 refine⟨_,qD (t:=(i,j,k)),rfl,?_⟩
 refine iB (k≠0) (aR rfl) (fun c=>?_) fun c=>?_
 ·exact t6 hsa N ⟨H.r0,H.r1,H.r2,H.r3,H.r4⟩ S2 rfl rfl rfl rfl rfl rfl rfl rfl hf.within hr hin' hw (Nat.pos_of_ne_zero c) hf hown fun w σ3 lt Q=>hag w _ σ3 lt Q
 ·obtain rfl:=Classical.not_not.mp c
  have hw1:qw q+(2*(ahi-alo)+1)+mb.length≤2*as.length+1:=by rw [c5] at hw;exact hw
  refine gk (hag (qw q) _ _ (by rw [c5];(exact Ar.a0 [] [_,_] (.l .v0 (.a .v0 (.a (.m 2 .v1) .n1))) [[1]])) ⟨q,mb,⟨H.r0,H.r1,H.r2,H.r3,H.r4⟩,rfl,S2,by(exact Ar.a1 [] [_,_,_,_] (.k (.a .v0 .v1) (.a (.m 2 .v2) .n1)) [[1,1]] (.k (.a (.a .v0 (.a (.m 2 .v3) .n1)) .v1) (.a (.m 2 .v2) .n1)) hw1),hin',hown.drop hf⟩)
structure R7 (ρ:Fr) (x nl:Addr) (na nb:Nat):Prop where
 r0:ρ 0=some (.obj x)
 r1:ρ 1=some (.int na)
 r2:ρ 2=some (.int nb)
 r16:ρ 16=some (.lst nl)
inductive xR (σ1:St) (x nl:Addr) (na nb:Nat) (L:List T3) (t:Nat) (ρ:Fr) (σ2:St):Prop
 | mk (i j k:Nat) (acc:List T3):R7 ρ x nl na nb→Kp σ1 σ2→ρ 13=some (.int i)→ρ 14=some (.int j)→ρ 15=some (.int k)→σ2.L nl=some (acc.map tV)→acc.length≤t→acc++mrg i j k (L.drop t)=mrg 0 0 0 L→xR σ1 x nl na nb L t ρ σ2
theorem n5 {C:Cal} {σ2:St} {ρ:Fr} {K:Fl→Fr→St→Prop} {ss:jf} {nl:Addr} {acc:List T3} {i j k:Nat} (r16:ρ 16=some (.lst nl)) (r13:ρ 13=some (.int i)) (r14:ρ 14=some (.int j)) (r15:ρ 15=some (.int k)) (hacc:σ2.L nl=some (acc.map tV)) (hl:acc.length<av)
  (h:dk C ss ρ (σ2.cw nl ((acc++if k=0 then [] else [(i,j,k)]).map tV)) K) :
  dk C (.cons (.cond (.loc 15) (.cons (.expr (.bm .append (.loc 16) (.cons (.tup (.cons (.loc 13) (.cons (.loc 14) (.cons (.loc 15) .nil)))) .nil))) .nil) .nil) ss) ρ σ2 K:=by
 refine iB (k≠0) (aR r15) (fun c=>?_) fun c=>?_
 ·rw [aw c,di] at h
  exact bO (tV (i,j,k)) r16 hacc (ev3 r13 r14 r15) (by rw [ax];exact hl) (gk h)
 ·rw [bc (Classical.not_not.mp c),cv,qj hacc] at h
  exact gk h
theorem sJ {C:Cal} {σ1 σ2:St} {x nl:Addr} {na nb t:Nat} {L:List T3} {ρ:Fr} {K:Fl→Fr→St→Prop} {again:Fr→St→Prop} (hn:σ1.L nl=none) (hL:L.length<64) (ht:t<L.length) (I:xR σ1 x nl na nb L t ρ σ2) (hag:∀ ρ' σ',xR σ1 x nl na nb L (t+1) ρ' σ'→again ρ' σ') :
  dk C (.cons (.cond (.and (.cmp .eq (.bin .add (.loc 13) (.loc 15)) (.loc 17)) (.cmp .eq (.bin .add (.loc 14) (.loc 15)) (.loc 18))) (.cons (.aug 15 .add (.loc 19)) .nil)
   (.cons (.cond (.loc 15) (.cons (.expr (.bm .append (.loc 16) (.cons (.tup (.cons (.loc 13) (.cons (.loc 14) (.cons (.loc 15) .nil)))) .nil))) .nil) .nil)
   (.cons (.assign [.tup [13,14,15]] (.tup (.cons (.loc 17) (.cons (.loc 18) (.cons (.loc 19) .nil))))) .nil))) .nil) (ez [17,18,19] [.int L[t].1,.int L[t].2.1,.int L[t].2.2] ρ) σ2 (qo again K):=by
 obtain⟨i,j,k,acc,H,kp,r13,r14,r15,hacc,hal,hm⟩:=I
 rw [gw ht] at hm
 generalize L[t]=u at *
 obtain⟨i2,j2,k2⟩:=u
 have hm:acc++(if i+k=i2∧j+k=j2 then mrg i j (k+k2) (L.drop (t+1)) else if k=0 then mrg i2 j2 k2 (L.drop (t+1)) else (i,j,k)::mrg i2 j2 k2 (L.drop (t+1)))=mrg 0 0 0 L:=hm
 refine iB (i+k=i2∧j+k=j2) (sz (dD (fx r13 r15) rfl) (dD (fx r14 r15) rfl)) (fun c=>?_) fun c=>?_
 ·rw [bc c] at hm
  exact⟨_,r15,_,rfl,hag _ _ ⟨i,j,k+k2,acc,⟨H.r0,H.r1,H.r2,H.r16⟩,kp,r13,r14,rfl,hacc,Nat.le_succ_of_le hal,hm⟩⟩
 ·rw [aw c] at hm
  refine n5 H.r16 r13 r14 r15 hacc (by unfold av;(exact Ar.a3 [] [_,_,_] (.l .v0 (.n 1000000)) [[1,1,1,1]] (.l .v1 (.n 64)) (.l .v2 .v1) (.k .v0 .v2) hL ht hal)) ?_
  refine fS [.int i2,.int j2,.int k2] rfl rfl (gk (gk (hag _ _ ⟨i2,j2,k2,acc++(if k=0 then [] else [(i,j,k)]),⟨H.r0,H.r1,H.r2,H.r16⟩,kp.cw hn,rfl,rfl,rfl,bp _ _ _,?_,?_⟩)))
  ·rw [bx]
   by_cases c0:k=0
   ·rw [bc c0];show acc.length+0≤_;(exact Ar.a1 [] [_,_] (.k (.a .v0 .n0) (.a .v1 .n1)) [[1,1]] (.k .v0 .v1) hal)
   ·rw [aw c0];show acc.length+1≤_;(exact Ar.a1 [] [_,_] (.k (.a .v0 .n1) (.a .v1 .n1)) [[1,1]] (.k .v0 .v1) hal)
  ·rw [← hm]
   by_cases c0:k=0
   ·rw [bc c0,bc c0,cv]
   ·rw [aw c0,aw c0,gu];rfl
theorem wM {C:Cal} {σ σ3:St} {x d nl:Addr} {f:Nat→Option V} {na nb:Nat} {acc:List T3} {ρ:Fr} {Q:V→St→Prop} (hI:σ.I x=some (d,f)) (kp:Kp σ σ3) (H:R7 ρ x nl na nb) (hn:σ.L nl=none) (hl:acc.length<av) (hacc:σ3.L nl=some (acc.map tV))
  (h:∀ c σ',Kp σ σ'→σ.L c=none→σ'.L c=some ((acc++[(na,nb,0)]).map mV)→Q (.lst c) (σ'.fj x d (upd f 4 (.lst c)))) :
  dk C (.cons (.expr (.bm .append (.loc 16) (.cons (.tup (.cons (.loc 1) (.cons (.loc 2) (.cons (.int 0) .nil)))) .nil)))
   (.cons (.assign [(.attr (.loc 0) 4)] (.mkMatches (.loc 16))) (.cons (.ret (.attr (.loc 0) 4)) .nil))) ρ σ3 (rT Q):=by
 refine bO (tV (na,nb,0)) H.r16 hacc (ev3 H.r1 H.r2 rfl) (by rw [ax];exact hl) ?_
 rw [show acc.map tV++[tV (na,nb,0)]=(acc++[(na,nb,0)]).map tV from by rw [di];rfl]
 refine⟨_,H.r16,nl,(acc++[(na,nb,0)]).map fun t:T3=>[V.int t.1,V.int t.2.1,V.int t.2.2],rfl,(by rw [ky];exact bp _ _ _),(by intro t ht;obtain⟨u,_,rfl⟩:=dh.mp ht;rfl),fun c hc=>?_⟩
 have hcn:c≠nl:=fun q=>by
  rw [q] at hc
  have:upd σ3.L nl _ nl=none:=hc
  rw [bp] at this;cases this
 have hc0:σ.L c=none:=by
  have:upd σ3.L nl _ c=none:=hc
  rw [cn hcn] at this
  exact kp.noL this
 rw [ky]
 have k4:Kp σ ((σ3.cw nl ((acc++[(na,nb,0)]).map tV)).cw c ((acc++[(na,nb,0)]).map mV)):=(kp.cw hn).cw hc0
 have hI4:((σ3.cw nl ((acc++[(na,nb,0)]).map tV)).cw c ((acc++[(na,nb,0)]).map mV)).I x=some (d,f):=(gb k4.I x).trans hI
 exact⟨_,H.r0,x,d,f,rfl,hI4,_,H.r0,x,d,upd f 4 (.lst c),_,rfl,bp _ _ _,bp _ _ _,h c _ k4 hc0 (bp _ _ _)⟩
theorem gmb {P:Nat→Option Fn} (hP:P 6=some fn6) (hP5:P 5=some fn5) {n:Nat} {σ:St} {x la lb db sj d:Addr} {f:Nat→Option V} {as bs:List Key} {rm:Key→Bool} {js:List Key} {Q:V→St→Prop}
  (hM:MAt σ x la lb db sj as bs rm js) (hI:σ.I x=some (d,f)) (f4:f 4=some .none) (ha:∀ k∈as,pd k) (hb:∀ k∈bs,pd k) (hs:bs.length<400000) (hsa:as.length<400000)
  (hsz:∀ L,kr (Flm as bs rm fun c=>decide (c∈js)) 0 as.length 0 bs.length L→L.length<64)
  (h:∀ σ' c L,Kp σ σ'→kr (Flm as bs rm fun c=>decide (c∈js)) 0 as.length 0 bs.length L→σ.L c=none→σ'.L c=some ((mrg 0 0 0 L++[(as.length,bs.length,0)]).map mV)→Q (.lst c) (σ'.fj x d (upd f 4 (.lst c)))):dn P (n+2) 6 [.obj x] σ Q:=by
 refine⟨fn6,hP,aj 1,aj 1,?_⟩
 obtain⟨d',f',hI',f1,f2,f7,f8⟩:=hM.I
 obtain⟨rfl,rfl⟩:d=d'∧f=f':=by rw [hI] at hI';cases hI';exact⟨rfl,rfl⟩
 have h0:frameOf fn6 [.obj x] 0=some (.obj x):=rfl
 generalize frameOf fn6 [.obj x]=ρ at h0
 refine⟨.obj x,h0,x,d,f,.none,rfl,hI,f4,?_⟩
 refine⟨_,h0,x,d,f,_,rfl,hI,f1,_,hM.La,_,h0,x,d,f,_,rfl,hI,f2,_,hM.Lb,cm rfl,?_⟩
 refine⟨_,rfl,rfl,?_⟩
 rw [ax,ax]
 refine⟨_,rfl,_,rfl,cm rfl,cm rfl,fun ql hql=>?_⟩
 refine⟨cm rfl,fun ml hml=>?_⟩
 have hne:ql≠ml:=fun q=>by
  rw [← q] at hml
  have:upd σ.L ql _ ql=none:=hml
  rw [bp] at this;cases this
 have N:QN σ ql ml:=⟨hne,hql,(cn (Ne.symm hne)).symm.trans hml⟩
 refine⟨2*as.length+2,sr (xP σ x ql ml as bs (Flm as bs rm fun c=>decide (c∈js))) ?_ (2*as.length+2) (2*as.length+1) (Nat.lt_succ_self _) ?_⟩
 ·rintro w ρ' σ' ⟨q,mb,H,rfl,S,hw,hin,hown⟩ again hag
  refine⟨_,H.r3,_,S.q,?_⟩
  rcases List.eq_nil_or_concat q with rfl | ⟨q,r,rfl⟩
  ·refine xj ?_
   obtain⟨L,bL,pL⟩:=hown [] .nil
   rw [aC,cv] at pL
   have hok:=bL.ok fun _ _ _ _ _ h=>h.within
   have hlen:=hsz L bL
   refine⟨_,H.r4,(by show(σ'.L ml).isSome=true;rw [S.m];rfl),mb.map zT,(by rw [S.m,ky];rfl),(by rw [ax,← pL.length_eq];exact hlen),rfl,?_⟩
   rw [AU pL hok.2 fun t ht=>(hok.1 t ht).2]
   have S1:=S.setM N L
   generalize (σ'.cw ml (L.map mV))=σ1 at S1
   refine⟨cm rfl,fun nl hnl=>?_⟩
   have hnm:ml≠nl:=fun q=>by rw [← q,S1.m] at hnl;cases hnl
   refine⟨_,H.r4,L.map mV,(cn hnm).trans S1.m,?_⟩
   refine ll (xR σ1 x nl as.length bs.length L) ?_ ?_ ⟨0,0,0,[],⟨H.r0,H.r1,H.r2,rfl⟩,(Kp.refl _).cw hnl,rfl,rfl,rfl,bp _ _ _,aj _,rfl⟩
   ·intro t v ρ2 σ2 hv I
    have ht:t<L.length:=(ax (f:=mV) (as:=L))▸(bb.mp hv).1
    rw [bq,cf ht] at hv
    obtain rfl:=af hv
    have I':=I
    obtain⟨_,_,_,_,_,kp,_⟩:=I'
    exact⟨kp.L _ _ S1.m,fun kk hk2=>⟨_,qD,rfl,sJ hnl hlen ht I hk2⟩⟩
   ·rintro ρ2 σ2 ⟨i,j,k,acc,H2,kp,r13,r14,r15,hacc,hal,hm⟩
    rw [ax] at hm hal
    rw [List.drop_length] at hm
    refine⟨kp.L _ _ S1.m,?_⟩
    have hn0:=S1.kp.noL hnl
    refine n5 H2.r16 r13 r14 r15 hacc (by unfold av;(exact Ar.a2 [] [_,_] (.l .v0 (.n 1000000)) [[1,1,1]] (.l .v1 (.n 64)) (.k .v0 .v1) hlen hal)) ?_
    have hm:acc++(if k=0 then [] else [(i,j,k)])=mrg 0 0 0 L:=hm
    have hl:(mrg 0 0 0 L).length<av:=by
     rw [← hm,bx]
     by_cases c0:k=0
     ·rw [bc c0];show acc.length+0<_;unfold av;(exact Ar.a2 [] [_,_] (.l (.a .v0 .n0) (.n 1000000)) [[1,1,1]] (.l .v1 (.n 64)) (.k .v0 .v1) hlen hal)
     ·rw [aw c0];show acc.length+1<_;unfold av;(exact Ar.a2 [] [_,_] (.l (.a .v0 .n1) (.n 1000000)) [[1,1,1]] (.l .v1 (.n 64)) (.k .v0 .v1) hlen hal)
    rw [hm]
    exact wM hI ((S1.kp.trans kp).cw hn0) H2 hn0 hl (bp _ _ _) fun c σ4 k4 hc e=>h σ4 c L k4 bL hc e
  ·rw [List.concat_eq_append] at *
   have:((q++[r]).map qV).isEmpty=false:=by rw [di];cases q<;>rfl
   rw [this]
   refine aN ?_
   exact t5 hP5 hM ha hb hs hsa N H S hw hin hown fun w ρ2 σ2 lt I=>hag w ρ2 σ2 lt I
 ·refine⟨[(0,as.length,0,bs.length)],[],⟨h0,rfl,rfl,rfl,rfl⟩,?_,⟨((Kp.refl σ).cw hql).cw N.m,(cn hne).trans (bp _ _ _),bp _ _ _⟩,?_,?_,bX.start⟩
  ·simp [qw]
  ·simp [qw]
  ·intro r hr
   rw [aq.mp hr]
   exact⟨ba _,ba _,aj _,aj _⟩
end SM
end MP
end
section
namespace MP
namespace SM
open PySem
section
variable {C:Cal} {σ:St} {ρ:Fr} {K:Fl→Fr→St→Prop} {ss:jf} {x d:Addr} {f:Nat→Option V} {i a b:Nat} {e:Ex}
theorem iC (v:V) (h:evV σ ρ e=some v) (hx:ρ i=some (.obj x)) (hI:σ.I x=some (d,f)) (k:dk C ss ρ (σ.fj x d (upd f a v)) K):dk C (.cons (.assign [.attr (.loc i) a] e) ss) ρ σ K :=
 eg e h ⟨.obj x,hx,x,d,f,rfl,hI,k⟩
theorem nX (v:V) (h:evV (σ.fj x d f) ρ e=some v) (hx:ρ i=some (.obj x)) (k:dk C ss ρ (σ.fj x d (upd f a v)) K):dk C (.cons (.assign [.attr (.loc i) a] e) ss) ρ (σ.fj x d f) K :=
 iC v h hx gv (by rw [oa];exact k)
theorem xS (v:V) (h:evV σ ρ e=some v) (hx:ρ i=some (.obj x)) (hI:σ.I x=some (d,f)) (k:dk C ss ρ (σ.fj x d (upd (upd f a v) b v)) K):dk C (.cons (.assign [.attr (.loc i) a,.attr (.loc i) b] e) ss) ρ σ K :=
 eg e h ⟨.obj x,hx,x,d,f,rfl,hI,.obj x,hx,x,d,_,rfl,gv,by rw [oa];exact k⟩
theorem dW (v:V) (h:evV (σ.fj x d f) ρ e=some v) (hx:ρ i=some (.obj x)) (k:dk C ss ρ (σ.fj x d (upd (upd f a v) b v)) K):dk C (.cons (.assign [.attr (.loc i) a,.attr (.loc i) b] e) ss) ρ (σ.fj x d f) K :=
 xS v h hx gv (by rw [oa];exact k)
theorem iA {es:Exs} {m:Nat} (vs:List V) (hx:ρ i=some (.obj x)) (hI:(σ.I x).isSome=true) (h:bW σ ρ es=some vs) (k:C m (.obj x::vs) σ fun v σ=>v=.none∧dk C ss ρ σ K):dk C (.cons (.expr (.meth (.loc i) m es)) ss) ρ σ K :=
 ⟨.obj x,hx,x,rfl,hI,tw (Q:=fun vs σ=>C m (.obj x::vs) σ fun v σ=>v=.none∧dk C ss ρ σ K) es h k⟩
end
theorem rQ {P:Nat→Option Fn} (hP:P 2=some fn2) {n:Nat} {x d la:Addr} {f:Nat→Option V} {σ:St} {Q:V→St→Prop} (hI:σ.I x=some (d,f)) (hf:f 1=some .none) (h:Q .none (σ.fj x d (upd (upd (upd f 1 (.lst la)) 4 .none) 5 .none))):dn P (n+1) 2 [.obj x,.lst la] σ Q :=
 ⟨fn2,hP,aj 2,aj 2,i9 (mD false (by
   show((σ.I x).bind fun p=>p.2 1).bind _=_
   rw [hI];show(f 1).bind _=_;rw [hf];rfl) (xj (gk (iC (.lst la) rfl rfl hI (dW .none rfl rfl (gk h))))))⟩
theorem rO {P:Nat→Option Fn} (hP:P 1=some fn1) {n:Nat} {x:Addr} {va vb:V} {σ:St} {Q:V→St→Prop} (hI:(σ.I x).isSome=true) (h:dn P n 2 [.obj x,va] σ fun v σ=>v=.none∧(σ.I x).isSome=true∧dn P n 3 [.obj x,vb] σ fun v σ=>v=.none∧Q .none σ):dn P (n+1) 1 [.obj x,va,vb] σ Q :=
 ⟨fn1,hP,aj 3,aj 3,i9 (iA [va] rfl hI rfl (Eq.mp (bu (dn P n 2 [.obj x,va] σ) (funext fun v=>funext fun σ'=>propext ⟨fun q=>⟨q.1,iA [vb] rfl q.2.1 rfl q.2.2⟩,fun q=>⟨q.1,by
  obtain⟨_,_,e,y,e',h1,_,e2,h2⟩:=q
  cases e;cases e';cases e2
  exact⟨h1,h2⟩⟩⟩)) h))⟩
theorem rP {P:Nat→Option Fn} (hP:P 3=some fn3) {n:Nat} {x d lb:Addr} {f:Nat→Option V} {σ:St} {Q:V→St→Prop} (hI:σ.I x=some (d,f)) (hf:f 2=some .none)
  (h:dn P n 4 [.obj x] (σ.fj x d (upd (upd (upd (upd f 2 (.lst lb)) 4 .none) 5 .none) 6 .none)) fun v σ=>v=.none∧Q .none σ):dn P (n+1) 3 [.obj x,.lst lb] σ Q :=
 ⟨fn3,hP,aj 2,aj 2,i9 (mD false (by
   show((σ.I x).bind fun p=>p.2 2).bind _=_
   rw [hI];show(f 2).bind _=_;rw [hf];rfl) (xj (gk (iC (.lst lb) rfl rfl hI (dW .none rfl rfl (nX .none rfl rfl (iA [] rfl (by rw [gv];rfl) rfl h)))))))⟩
theorem init {P:Nat→Option Fn} (hP:P 0=some fn0) {n:Nat} {x d:Addr} {va vb:V} {σ:St} {Q:V→St→Prop} (hI:σ.I x=some (d,fun _=>none))
  (h:dn P n 1 [.obj x,va,vb] (σ.fj x d (upd (upd (upd (upd (fun _=>none) 0 .none) 1 .none) 2 .none) 3 (.bool false))) fun v σ=>v=.none∧Q .none σ):dn P (n+1) 0 [.obj x,.none,va,vb,.bool false] σ Q :=
 ⟨fn0,hP,aj 5,sd 5 4,i9 (iC .none rfl rfl hI (dW .none rfl rfl (nX (.bool false) rfl rfl (iA [va,vb] rfl (by rw [gv];rfl) rfl h))))⟩
theorem xJ {P:Nat→Option Fn} (hP:P 4=some fn4) {n:Nat} {x d lb:Addr} {f:Nat→Option V} {bs:List Key} {σ:St} {Q:V→St→Prop} (hI:σ.I x=some (d,f)) (hf0:f 0=some .none) (hf2:f 2=some (.lst lb)) (hf3:f 3=some (.bool false)) (hL:σ.L lb=some (bs.map Key.v)) (hz:bs.length<av)
  (h:∀ σ₁ db s1 s2,B2J (σ.fj x d (upd f 7 (.dct db))) σ₁ db bs→σ.D db=none→σ.S s1=none→σ.S s2=none→s1≠s2 →
   Q .none (((σ₁.rh s1 []).rh s2 []).fj x d (upd (upd (upd f 7 (.dct db)) 8 (.set s1)) 9 (.set s2)))):dn P (n+1) 4 [.obj x] σ Q:=by
 refine⟨fn4,hP,by simp [fn4],by simp [fn4],?_⟩
 have h0:frameOf fn4 [.obj x] 0=some (.obj x):=rfl
 generalize frameOf fn4 [.obj x]=ρ at h0
 refine⟨.obj x,h0,x,d,f,.lst lb,rfl,hI,hf2,?_⟩
 refine fun db hdb=>⟨.obj x,h0,x,d,f,rfl,hI,?_⟩
 refine⟨.lst lb,rfl,lb,bs.map Key.v,rfl,hL,?_⟩
 refine ll (fun i ρ' σ'=>ρ' 0=some (.obj x)∧ρ' 1=some (.lst lb)∧ρ' 2=some (.dct db)∧B2J (σ.fj x d (upd f 7 (.dct db))) σ' db (bs.take i)) ?_ ?_ ?_
 ·intro i v ρ' σ' hv ⟨r0,r1,r2,hB⟩
  refine⟨hB.old lb _ hL,fun k hk=>?_⟩
  have hi:i<bs.length:=by
   have:=(bb.mp hv).1
   simpa using this
  have hv':v=.tup [.int i,bs[i].v]:=by
   rw [bq,List.getElem?_zipIdx] at hv
   simp [hi] at hv
   exact hv.symm
  subst hv'
  refine⟨_,rfl,rfl,?_⟩
  refine⟨.dct db,r2,?_,bs[i].v,rfl,?_⟩
  ·obtain⟨es,hes,_⟩:=hB.tab
   show(σ'.D db).isSome=true
   rw [hes];rfl
  refine⟨by simp [av],fun c hc=>?_⟩
  obtain⟨es,hes,hlen,c',e1,e2,hB'⟩:=hB.step hc bs[i]
  have htl:(bs.take i).length=i:=by simp;(exact(Ar.jr _ _).2.2.elim (fun q1=>(Ar.a2 [] [_,_] (.e .v0 .v1) [[1,0,1],[1,1,0]] (.k .v0 .v1) (.k .v1 .v0) (Ar.jr _ _).1 q1)) fun q1=>(Ar.a3 [] [_,_,_] (.e .v0 .v1) [[1,1,0,1],[1,0,1,0]] (.l .v1 .v2) (.k .v0 .v1) (.k .v2 .v0) hi (Ar.jr _ _).1 q1))
  have htk:bs.take i++[bs[i]]=bs.take (i+1):=(jl hi).symm
  rw [htl] at hlen hB'
  rw [htk] at hB'
  refine⟨es,bs[i],hes,nA _,by(first | exact Ar.a3 [] [_,_,_,_] (.l .v0 .v1) [[1,1,1,1]] (.l .v2 .v1) (.l .v3 .v2) (.k .v0 .v3) hz hi hlen Ar.y | omega),?_⟩
  rw [e1]
  refine⟨.lst c',rfl,?_,.int i,rfl,?_⟩
  ·show(St.L _ c').isSome=true
   rw [e2];rfl
  refine⟨aJ bs[i] (bs.take i),e2,?_,rfl,?_⟩
  ·unfold aJ posOf
   have:=List.length_filter_le (fun j=>decide ((bs.take i)[j]?=some bs[i])) (List.range (bs.take i).length)
   simp only [ax,List.length_range] at this ⊢
   (exact Ar.a4 [] [_,_,_,_,_] (.l .v0 .v1) [[1,1,1,1,1]] (.l .v2 .v1) (.l .v3 .v2) (.e .v4 .v3) (.k .v0 .v4) hz hi htl this)
  exact hk _ _ ⟨r0,r1,r2,hB'⟩
 ·intro ρ' σ' ⟨r0,r1,r2,hB⟩
  have hlen:((bs.map Key.v).zipIdx.map fun p=>V.tup [.int p.2,p.1]).length=bs.length:=by simp
  rw [hlen,ke] at hB
  refine⟨hB.old lb _ hL,?_⟩
  have hI2:σ'.I x=some (d,upd f 7 (.dct db)):=by rw [hB.I];exact gv
  intro s1 hs1
  refine⟨.obj x,r0,x,d,_,rfl,hI2,?_⟩
  refine⟨.obj x,r0,x,d,_,.none,rfl,gv,by simp [upd,hf0],?_⟩
  refine⟨.none,rfl,fun s2 hs2=>?_⟩
  have hne:s1≠s2:=fun e=>by
   have:upd σ'.S s1 [] s2=none:=hs2
   rw [← e,bp] at this;cases this
  refine⟨.obj x,r0,x,d,_,rfl,gv,?_⟩
  refine⟨.lst lb,r1,bs.map Key.v,hB.old lb _ hL,?_⟩
  refine⟨.obj x,r0,x,d,_,.bool false,rfl,gv,by simp [upd,hf3],?_⟩
  have hs1':σ.S s1=none:=by
   have:σ'.S s1=none:=hs1
   rw [hB.S] at this;exact this
  have hs2':σ.S s2=none:=by
   have:upd σ'.S s1 [] s2=none:=hs2
   rw [cn (Ne.symm hne),hB.S] at this;exact this
  have:=h σ' db s1 s2 hB hdb hs1' hs2' hne
  show Q .none _
  have e:((((σ'.rh s1 []).fj x d (upd (upd f 7 (V.dct db)) 8 (V.set s1))).rh s2 []).fj x d (upd (upd (upd f 7 (V.dct db)) 8 (V.set s1)) 9 (V.set s2)))=(((σ'.rh s1 []).rh s2 []).fj x d (upd (upd (upd f 7 (.dct db)) 8 (.set s1)) 9 (.set s2))):=by
   unfold St.rh St.fj
   congr 1
   funext j
   simp only [upd]
   split<;>rfl
  rw [← e] at this
  exact this
 ·exact⟨h0,rfl,rfl,B2J.start⟩
end SM
end MP
end
section
namespace MP
open PySem
structure Ext (σ σ':St):Prop where
 L:∀ a xs,σ.L a=some xs→σ'.L a=some xs
 D:∀ a es,σ.D a=some es→σ'.D a=some es
 S:∀ a es,σ.S a=some es→σ'.S a=some es
 I:∀ a es,σ.I a=some es→σ'.I a=some es
 Z:∀ a es,σ.Z a=some es→σ'.Z a=some es
theorem Ext.refl (σ:St):Ext σ σ:=⟨fun _ _ e=>e,fun _ _ e=>e,fun _ _ e=>e,fun _ _ e=>e,fun _ _ e=>e⟩
theorem Ext.trans {σ σ₁ σ₂:St} (h:Ext σ σ₁) (h':Ext σ₁ σ₂):Ext σ σ₂:=⟨fun _ _ e=>h'.L _ _ (h.L _ _ e),fun _ _ e=>h'.D _ _ (h.D _ _ e),fun _ _ e=>h'.S _ _ (h.S _ _ e),fun _ _ e=>h'.I _ _ (h.I _ _ e),fun _ _ e=>h'.Z _ _ (h.Z _ _ e)⟩
theorem Kp.ext {σ σ':St} (h:Kp σ σ'):Ext σ σ':=⟨h.L,h.D,fun _ _ e=>by rw [h.S];exact e,fun _ _ e=>by rw [h.I];exact e,fun _ _ e=>by rw [h.Z];exact e⟩
theorem Ext.noL {σ σ₁:St} (h:Ext σ σ₁) {c:Addr} (hc:σ₁.L c=none):σ.L c=none:=by
 cases q:σ.L c with
 | none=>rfl
 | some xs=>rw [h.L _ _ q] at hc;cases hc
theorem Ext.noD {σ σ₁:St} (h:Ext σ σ₁) {c:Addr} (hc:σ₁.D c=none):σ.D c=none:=by
 cases q:σ.D c with
 | none=>rfl
 | some xs=>rw [h.D _ _ q] at hc;cases hc
theorem ux {α:Type} {f g:Nat→Option α} (h:∀ a x,f a=some x→g a=some x) {c:Nat} {x:α} (hc:f c=none):∀ a y,f a=some y→upd g c x a=some y:=fun a y e=>by
 have:a≠c:=fun q=>by rw [q,hc] at e;cases e
 rw [cn this];exact h a y e
theorem Ext.cw {σ σ₁:St} (h:Ext σ σ₁) {c:Addr} {xs:List V} (hc:σ.L c=none):Ext σ (σ₁.cw c xs):=⟨ux h.L hc,h.D,h.S,h.I,h.Z⟩
theorem Ext.ki {σ σ₁:St} (h:Ext σ σ₁) {c:Addr} {xs:List (Key × V)} (hc:σ.D c=none):Ext σ (σ₁.ki c xs):=⟨h.L,ux h.D hc,h.S,h.I,h.Z⟩
theorem Ext.rh {σ σ₁:St} (h:Ext σ σ₁) {c:Addr} {xs:List Key} (hc:σ.S c=none):Ext σ (σ₁.rh c xs):=⟨h.L,h.D,ux h.S hc,h.I,h.Z⟩
theorem Ext.fj {σ σ₁:St} (h:Ext σ σ₁) {c d:Addr} {f:Nat→Option V} (hc:σ.I c=none):Ext σ (σ₁.fj c d f):=⟨h.L,h.D,h.S,ux h.I hc,h.Z⟩
theorem B2J.ext {σ₀ σ₁:St} {db:Addr} {bs:List Key} (h:B2J σ₀ σ₁ db bs) (hd:σ₀.D db=none):Ext σ₀ σ₁ :=
 ⟨h.old,fun a es e=>by rw [h.D a (fun q=>by rw [q,hd] at e;cases e)];exact e,fun _ _ e=>by rw [h.S];exact e,fun _ _ e=>by rw [h.I];exact e,fun _ _ e=>by rw [h.Z];exact e⟩
theorem TabAt.ext {σ σ':St} {db:Addr} {bs:List Key} {rm:Key→Bool} (h:TabAt σ db bs rm) (k:Ext σ σ'):TabAt σ' db bs rm:=by
 obtain⟨es,h1,h2,h3⟩:=h
 exact⟨es,k.D _ _ h1,h2,fun q hq=>(h3 q hq).imp_right fun zz0=>by obtain⟨c,e1,e2⟩:=zz0;exact⟨c,e1,k.L _ _ e2⟩⟩
namespace SM
theorem make {P:Nat→Option Fn} (h0:P 0=some fn0) (h1:P 1=some fn1) (h2:P 2=some fn2) (h3:P 3=some fn3) (h4:P 4=some fn4) {n:Nat} {σ:St} {la lb:Addr} {as bs:List Key} {es:Exs} {ρ:Fr} {Q:V→St→Prop}
  (hE:∀ Q:List V→St→Prop,Q [.none,.lst la,.lst lb,.bool false] σ→nz (dn P (n+4)) es ρ σ Q)
  (hLa:σ.L la=some (as.map Key.v)) (hLb:σ.L lb=some (bs.map Key.v)) (hz:bs.length<av)
  (h:∀ σ' x d f db sj,Ext σ σ'→σ.I x=none→σ'.I x=some (d,f)→f 4=some .none→f 5=some .none→MAt σ' x la lb db sj as bs (fun _=>false) []→Q (.obj x) σ'):wpE (dn P (n+4)) (.newM es) ρ σ Q:=by
 rw [pZ]
 refine hE _ ?_
 intro x d hx
 refine init h0 (d:=d) (bp _ _ _) ?_
 refine rO h1 (by rw [gv];rfl) ?_
 refine rQ h2 gv rfl ?_
 refine⟨rfl,by rw [gv];rfl,?_⟩
 refine rP h3 gv rfl ?_
 rw [oa,oa,oa]
 refine xJ h4 (lb:=lb) (bs:=bs) gv rfl rfl rfl hLb hz fun σ₁ db s1 s2 hB hdb hs1 hs2 hne=>?_
 refine⟨rfl,rfl,rfl,rfl,?_⟩
 rw [oa] at hB
 generalize hf:(upd (upd (upd (upd (upd (upd (upd (upd (upd (upd (upd (fun x=>(none:Option V)) 0 V.none) 1 V.none) 2 V.none) 3 (V.bool false)) 1 (V.lst la)) 4 V.none) 5 V.none) 2 (V.lst lb)) 4 V.none) 5 V.none) 6 V.none)=f at hB ⊢
 have hE1:Ext σ σ₁:=((Ext.refl σ).fj hx).trans (hB.ext hdb)
 have hI1:σ₁.I x=some (d,upd f 7 (.dct db)):=by rw [hB.I];exact gv
 have E2:Ext σ ((σ₁.rh s1 []).rh s2 []):=(hE1.rh hs1).rh hs2
 have hI2:((σ₁.rh s1 []).rh s2 []).I x=some (d,upd f 7 (.dct db)):=hI1
 refine h _ x d (upd (upd (upd f 7 (.dct db)) 8 (.set s1)) 9 (.set s2)) db s1 (E2.fj hx) hx gv (by rw [← hf];rfl) (by rw [← hf];rfl) ⟨⟨d,_,gv,by rw [← hf];rfl,by rw [← hf];rfl,rfl,rfl⟩,E2.L _ _ hLa,E2.L _ _ hLb,?_,?_⟩
 ·obtain⟨es,q1,q2,q3⟩:=hB.tabAt
  exact⟨es,q1,q2,q3⟩
 ·show upd (upd σ₁.S s1 []) s2 [] s1=_
  rw [cn hne,bp]
end SM
end MP
end
section
namespace MP
structure ur (H:Nat→Nat→Prop) (alo ahi blo bhi i j k:Nat):Prop where
 ai:alo≤i
 ia:i+k≤ahi
 bj:blo≤j
 jb:j+k≤bhi
 eq:∀ t,t<k→H (i+t) (j+t)
structure tf (H:Nat→Nat→Prop) (alo ahi blo bhi i j k:Nat):Prop where
 pos:0<k
 run:ur H alo ahi blo bhi i j k
 max:∀ i' j' k',0<k'→ur H alo ahi blo bhi i' j' k'→k'<k∨(k'=k∧(i<i'∨(i=i'∧j≤j')))
inductive BT (H:Nat→Nat→Prop):Nat→Nat→Nat→Nat→List (Nat × Nat × Nat)→Prop
 | nil {alo ahi blo bhi:Nat}:(∀ i j,alo≤i→i<ahi→blo≤j→j<bhi→¬ H i j)→BT H alo ahi blo bhi []
 | node {alo ahi blo bhi i j k:Nat} {L R:List (Nat × Nat × Nat)}:tf H alo ahi blo bhi i j k→BT H alo i blo j L→BT H (i+k) ahi (j+k) bhi R→BT H alo ahi blo bhi (L++(i,j,k)::R)
section
variable {H:Nat→Nat→Prop} {alo ahi blo bhi:Nat}
theorem tf.j6 {i j k:Nat} (h:tf H alo ahi blo bhi i j k) (q:∀ i j,alo≤i→i<ahi→blo≤j→j<bhi→¬ H i j):False:=by
 have R:=h.run
 have:=h.pos;have:=R.ai;have:=R.ia;have:=R.bj;have:=R.jb
 exact q i j (by(rename_i z3 z2 z1;exact Ar.a1 [] [_,_] (.k .v0 .v1) [[1,1]] (.k .v0 .v1) z3)) (by(rename_i z4 z3 z2 z1;exact Ar.a2 [] [_,_,_] (.l .v0 .v1) [[1,1,1]] (.l .n0 .v2) (.k (.a .v0 .v2) .v1) z4 z2)) (by(rename_i z1;exact Ar.a1 [] [_,_] (.k .v0 .v1) [[1,1]] (.k .v0 .v1) z1)) (by(rename_i z4 z3 z2 z1;exact Ar.a2 [] [_,_,_] (.l .v0 .v1) [[1,1,1]] (.l .n0 .v2) (.k (.a .v0 .v2) .v1) z4 this)) (by simpa using R.eq 0 h.pos)
theorem tf.uniq {i j k i' j' k':Nat} (h:tf H alo ahi blo bhi i j k) (h':tf H alo ahi blo bhi i' j' k'):i=i'∧j=j'∧k=k':=by
 have a:=h.max _ _ _ h'.pos h'.run
 have b:=h'.max _ _ _ h.pos h.run
 (exact⟨(a.elim (fun q1=>(b.elim (fun q2=>(Ar.a2 [] [_,_,_,_] (.e .v0 .v1) [[0,1,1],[0,1,1]] (.l .v2 .v3) (.l .v3 .v2) q1 q2)) fun q2=>(Ar.a2 [] [_,_,_,_] (.e .v0 .v1) [[0,1,1],[0,1,1]] (.l .v2 .v3) (.e .v3 .v2) q1 q2.1))) fun q1=>(b.elim (fun q2=>(Ar.a2 [] [_,_,_,_] (.e .v0 .v1) [[0,1,1],[0,1,1]] (.e .v2 .v3) (.l .v3 .v2) q1.1 q2)) fun q2=>(q1.2.elim (fun q3=>(q2.2.elim (fun q4=>(Ar.a2 [] [_,_] (.e .v0 .v1) [[1,0,1],[1,1,0]] (.l .v0 .v1) (.l .v1 .v0) q3 q4)) fun q4=>(Ar.a1 [] [_,_] (.e .v0 .v1) [[1,1],[1,-1]] (.e .v1 .v0) q4.1))) fun q3=>(Ar.a1 [] [_,_] (.e .v0 .v1) [[1,-1],[1,1]] (.e .v0 .v1) q3.1)))),⟨(a.elim (fun q1=>(b.elim (fun q2=>(Ar.a2 [] [_,_,_,_] (.e .v0 .v1) [[0,1,1],[0,1,1]] (.l .v2 .v3) (.l .v3 .v2) q1 q2)) fun q2=>(Ar.a2 [] [_,_,_,_] (.e .v0 .v1) [[0,1,1],[0,1,1]] (.l .v2 .v3) (.e .v3 .v2) q1 q2.1))) fun q1=>(b.elim (fun q2=>(Ar.a2 [] [_,_,_,_] (.e .v0 .v1) [[0,1,1],[0,1,1]] (.e .v2 .v3) (.l .v3 .v2) q1.1 q2)) fun q2=>(q1.2.elim (fun q3=>(q2.2.elim (fun q4=>(Ar.a2 [] [_,_,_,_] (.e .v0 .v1) [[0,1,1],[0,1,1]] (.l .v2 .v3) (.l .v3 .v2) q3 q4)) fun q4=>(Ar.a2 [] [_,_,_,_] (.e .v0 .v1) [[0,1,1],[0,1,1]] (.l .v2 .v3) (.e .v3 .v2) q3 q4.1))) fun q3=>(q2.2.elim (fun q4=>(Ar.a2 [] [_,_,_,_] (.e .v0 .v1) [[0,1,1],[0,1,1]] (.e .v2 .v3) (.l .v3 .v2) q3.1 q4)) fun q4=>(Ar.a2 [] [_,_] (.e .v0 .v1) [[1,0,1],[1,1,0]] (.k .v0 .v1) (.k .v1 .v0) q3.2 q4.2))))),(a.elim (fun q1=>(b.elim (fun q2=>(Ar.a2 [] [_,_] (.e .v0 .v1) [[1,1,0],[1,0,1]] (.l .v1 .v0) (.l .v0 .v1) q1 q2)) fun q2=>(Ar.a1 [] [_,_] (.e .v0 .v1) [[1,-1],[1,1]] (.e .v0 .v1) q2.1))) fun q1=>(Ar.a1 [] [_,_] (.e .v0 .v1) [[1,1],[1,-1]] (.e .v1 .v0) q1.1))⟩⟩)
theorem BT.uniq {L L':List (Nat × Nat × Nat)} (h:BT H alo ahi blo bhi L) (h':BT H alo ahi blo bhi L'):L=L':=by
 induction h generalizing L' with
 | nil q =>
  cases h' with
  | nil _=>rfl
  | node B _ _=>exact(B.j6 q).elim
 | node B _ _ ih1 ih2 =>
  cases h' with
  | nil q=>exact(B.j6 q).elim
  | node B' h1 h2 =>
   obtain⟨rfl,rfl,rfl⟩:=B.uniq B'
   rw [ih1 h1,ih2 h2]
theorem BT.ok {L:List (Nat × Nat × Nat)} (h:BT H alo ahi blo bhi L):(∀ t∈L,Within alo ahi blo bhi t∧0<t.2.2)∧L.Pairwise nr∧∀ t∈L,ur H alo ahi blo bhi t.1 t.2.1 t.2.2:=by
 induction h with
 | nil _=>exact⟨fun t h=>(by cases h),.nil,fun t h=>(by cases h)⟩
 | @node alo ahi blo bhi i j k L R B _ _ hl hr =>
  have Rn:=B.run
  have:=B.pos;have:=Rn.ai;have:=Rn.ia;have:=Rn.bj;have:=Rn.jb
  refine⟨fun t ht=>?_,?_,fun t ht=>?_⟩
  ·rcases cy.mp ht with q | q
   ·have:=hl.1 t q
    unfold Within at *
    (rename_i z3 z2 z1;exact⟨⟨(Ar.a1 [] [_,_] (.k .v0 .v1) [[1,1]] (.k .v0 .v1) this.1.1),⟨(Ar.a2 [] [_,_,_,_,_] (.k (.a .v0 .v1) .v2) [[1,1,1]] (.k (.a .v3 .v4) .v2) (.k (.a .v0 .v1) .v3) z3 this.1.2.1),⟨(Ar.a1 [] [_,_] (.k .v0 .v1) [[1,1]] (.k .v0 .v1) this.1.2.2.1),(Ar.a2 [] [_,_,_,_,_] (.k (.a .v0 .v1) .v2) [[1,1,1]] (.k (.a .v3 .v4) .v2) (.k (.a .v0 .v1) .v3) z1 this.1.2.2.2)⟩⟩⟩,(Ar.a1 [] [_] (.l .n0 .v0) [[1,1]] (.l .n0 .v0) this.2)⟩)
   ·rcases br.mp q with q | q
    ·subst q
     unfold Within
     simp only
     (rename_i z4 z3 z2 z1;exact⟨⟨(Ar.a1 [] [_,_] (.k .v0 .v1) [[1,1]] (.k .v0 .v1) z3),⟨(Ar.a1 [] [_,_,_] (.k (.a .v0 .v1) .v2) [[1,1]] (.k (.a .v0 .v1) .v2) z2),⟨(Ar.a1 [] [_,_] (.k .v0 .v1) [[1,1]] (.k .v0 .v1) z1),(Ar.a1 [] [_,_,_] (.k (.a .v0 .v1) .v2) [[1,1]] (.k (.a .v0 .v1) .v2) this)⟩⟩⟩,(Ar.a1 [] [_] (.l .n0 .v0) [[1,1]] (.l .n0 .v0) z4)⟩)
    ·have:=hr.1 t q
     unfold Within at *
     (rename_i z5 z4 z3 z2 z1;exact⟨⟨(Ar.a2 [] [_,_,_,_] (.k .v0 .v1) [[1,1,1]] (.k .v0 .v2) (.k (.a .v2 .v3) .v1) z5 this.1.1),⟨(Ar.a1 [] [_,_,_] (.k (.a .v0 .v1) .v2) [[1,1]] (.k (.a .v0 .v1) .v2) this.1.2.1),⟨(Ar.a2 [] [_,_,_,_] (.k .v0 .v1) [[1,1,1]] (.k .v0 .v2) (.k (.a .v2 .v3) .v1) z3 this.1.2.2.1),(Ar.a1 [] [_,_,_] (.k (.a .v0 .v1) .v2) [[1,1]] (.k (.a .v0 .v1) .v2) this.1.2.2.2)⟩⟩⟩,(Ar.a1 [] [_] (.l .n0 .v0) [[1,1]] (.l .n0 .v0) this.2)⟩)
  ·rw [List.pairwise_append]
   refine⟨hl.2.1,.cons (fun u hu=>?_) hr.2.1,fun t ht u hu=>?_⟩
   ·have:=hr.1 u hu
    unfold Within at this
    unfold nr
    simp only
    (exact⟨(Ar.a1 [] [_,_,_] (.k (.a .v0 .v1) .v2) [[1,1]] (.k (.a .v0 .v1) .v2) this.1.1),(Ar.a1 [] [_,_,_] (.k (.a .v0 .v1) .v2) [[1,1]] (.k (.a .v0 .v1) .v2) this.1.2.2.1)⟩)
   ·have:=hl.1 t ht
    unfold Within at this
    unfold nr
    rcases br.mp hu with q | q
    ·subst q
     simp only
     (exact⟨(Ar.a1 [] [_,_,_] (.k (.a .v0 .v1) .v2) [[1,1]] (.k (.a .v0 .v1) .v2) this.1.2.1),(Ar.a1 [] [_,_,_] (.k (.a .v0 .v1) .v2) [[1,1]] (.k (.a .v0 .v1) .v2) this.1.2.2.2)⟩)
    ·have:=hr.1 u q
     unfold Within at this
     (rename_i z1;exact⟨(Ar.a2 [] [_,_,_,_,_] (.k (.a .v0 .v1) .v2) [[1,1,1]] (.k (.a .v0 .v1) .v3) (.k (.a .v3 .v4) .v2) z1.1.2.1 this.1.1),(Ar.a2 [] [_,_,_,_,_] (.k (.a .v0 .v1) .v2) [[1,1,1]] (.k (.a .v0 .v1) .v3) (.k (.a .v3 .v4) .v2) z1.1.2.2.2 this.1.2.2.1)⟩)
  ·rcases cy.mp ht with q | q
   ·have:=hl.2.2 t q
    exact⟨this.ai,by have:=this.ia;(rename_i z4 z3 z2 z1;exact Ar.a2 [] [_,_,_,_,_] (.k (.a .v0 .v1) .v2) [[1,1,1]] (.k (.a .v3 .v4) .v2) (.k (.a .v0 .v1) .v3) z4 this),this.bj,by have:=this.jb;(rename_i z2 z1;exact Ar.a2 [] [_,_,_,_,_] (.k (.a .v0 .v1) .v2) [[1,1,1]] (.k (.a .v3 .v4) .v2) (.k (.a .v0 .v1) .v3) z2 this),this.eq⟩
   ·rcases br.mp q with q | q
    ·subst q
     exact Rn
    ·have:=hr.2.2 t q
     exact⟨by have:=this.ai;(rename_i z6 z5 z4 z3 z2 z1;exact Ar.a2 [] [_,_,_,_] (.k .v0 .v1) [[1,1,1]] (.k .v0 .v2) (.k (.a .v2 .v3) .v1) z6 this),this.ia,by have:=this.bj;(rename_i z4 z3 z2 z1;exact Ar.a2 [] [_,_,_,_] (.k .v0 .v1) [[1,1,1]] (.k .v0 .v2) (.k (.a .v2 .v3) .v1) z4 this),this.jb,this.eq⟩
theorem tf.sub {i j k alo' ahi' blo' bhi':Nat} (h:tf H alo ahi blo bhi i j k) (h1:alo≤alo') (h2:ahi'≤ahi) (h3:blo≤blo') (h4:bhi'≤bhi) (a1:alo'≤i) (a2:i+k≤ahi') (a3:blo'≤j) (a4:j+k≤bhi'):tf H alo' ahi' blo' bhi' i j k :=
 ⟨h.pos,⟨a1,a2,a3,a4,h.run.eq⟩,fun i' j' k' p R=>h.max i' j' k' p ⟨by have:=R.ai;(exact Ar.a2 [] [_,_,_] (.k .v0 .v1) [[1,1,1]] (.k .v0 .v2) (.k .v2 .v1) h1 this),by have:=R.ia;(exact Ar.a2 [] [_,_,_,_] (.k (.a .v0 .v1) .v2) [[1,1,1]] (.k .v3 .v2) (.k (.a .v0 .v1) .v3) h2 this),by have:=R.bj;(exact Ar.a2 [] [_,_,_] (.k .v0 .v1) [[1,1,1]] (.k .v0 .v2) (.k .v2 .v1) h3 this),by have:=R.jb;(exact Ar.a2 [] [_,_,_,_] (.k (.a .v0 .v1) .v2) [[1,1,1]] (.k .v3 .v2) (.k (.a .v0 .v1) .v3) h4 this),R.eq⟩⟩
theorem BT.cut {L:List (Nat × Nat × Nat)} (h:BT H alo ahi blo bhi L) {p q:Nat} (hp:alo≤p∧p≤ahi) (hq:blo≤q∧q≤bhi)
  (hc:∀ t∈L,(t.1+t.2.2≤p∧t.2.1+t.2.2≤q)∨(p≤t.1∧q≤t.2.1)):∃ L1 L2,L=L1++L2∧BT H alo p blo q L1∧BT H p ahi q bhi L2:=by
 induction h with
 | nil e=>exact⟨[],[],rfl,.nil fun i j a b c d=>e i j a (by(exact Ar.a2 [] [_,_,_] (.l .v0 .v1) [[1,1,1]] (.k .v2 .v1) (.l .v0 .v2) hp.2 b)) c (by(exact Ar.a2 [] [_,_,_] (.l .v0 .v1) [[1,1,1]] (.k .v2 .v1) (.l .v0 .v2) hq.2 d)),.nil fun i j a b c d=>e i j (by(exact Ar.a2 [] [_,_,_] (.k .v0 .v1) [[1,1,1]] (.k .v0 .v2) (.k .v2 .v1) hp.1 a)) b (by(exact Ar.a2 [] [_,_,_] (.k .v0 .v1) [[1,1,1]] (.k .v0 .v2) (.k .v2 .v1) hq.1 c)) d⟩
 | @node alo ahi blo bhi i j k L R B hL hR ihL ihR =>
  have Rn:=B.run
  have:=B.pos;have:=Rn.ai;have:=Rn.ia;have:=Rn.bj;have:=Rn.jb
  have c0:=hc (i,j,k) (fo _ (.head _))
  simp only at c0
  rcases c0 with ⟨c1,c2⟩ | ⟨c1,c2⟩
  ·obtain⟨R1,R2,rfl,b1,b2⟩:=ihR ⟨c1,hp.2⟩ ⟨c2,hq.2⟩ fun t ht=>hc t (fo _ (.tail _ ht))
   refine⟨L++(i,j,k)::R1,R2,by simp,.node (B.sub (by(exact Ar.a0 [] [_] (.k .v0 .v0) [[1]])) (by(exact Ar.a1 [] [_,_] (.k .v0 .v1) [[1,1]] (.k .v0 .v1) hp.2)) (by(exact Ar.a0 [] [_] (.k .v0 .v0) [[1]])) (by(exact Ar.a1 [] [_,_] (.k .v0 .v1) [[1,1]] (.k .v0 .v1) hq.2)) (by(rename_i z3 z2 z1;exact Ar.a1 [] [_,_] (.k .v0 .v1) [[1,1]] (.k .v0 .v1) z3)) c1 (by(rename_i z1;exact Ar.a1 [] [_,_] (.k .v0 .v1) [[1,1]] (.k .v0 .v1) z1)) c2) hL b1,b2⟩
  ·obtain⟨L1,L2,rfl,b1,b2⟩:=ihL ⟨hp.1,c1⟩ ⟨hq.1,c2⟩ fun t ht=>hc t (fq _ ht)
   exact⟨L1,L2++(i,j,k)::R,by simp,b1,.node (B.sub (by(exact Ar.a1 [] [_,_] (.k .v0 .v1) [[1,1]] (.k .v0 .v1) hp.1)) (by(exact Ar.a0 [] [_] (.k .v0 .v0) [[1]])) (by(exact Ar.a1 [] [_,_] (.k .v0 .v1) [[1,1]] (.k .v0 .v1) hq.1)) (by(exact Ar.a0 [] [_] (.k .v0 .v0) [[1]])) c1 (by(rename_i z2 z1;exact Ar.a1 [] [_,_,_] (.k (.a .v0 .v1) .v2) [[1,1]] (.k (.a .v0 .v1) .v2) z2)) c2 (by(exact Ar.a1 [] [_,_,_] (.k (.a .v0 .v1) .v2) [[1,1]] (.k (.a .v0 .v1) .v2) this))) b2 hR⟩
theorem BT.congr {H':Nat→Nat→Prop} {L:List (Nat × Nat × Nat)} (h:BT H alo ahi blo bhi L) (e:∀ i j,alo≤i→i<ahi→blo≤j→j<bhi→(H i j↔H' i j)):BT H' alo ahi blo bhi L:=by
 induction h with
 | nil q=>exact .nil fun i j a b c d=>fun x=>q i j a b c d ((e i j a b c d).mpr x)
 | @node alo ahi blo bhi i j k L R B _ _ ihL ihR =>
  have Rn:=B.run
  have:=B.pos;have:=Rn.ai;have:=Rn.ia;have:=Rn.bj;have:=Rn.jb
  refine .node ⟨B.pos,⟨Rn.ai,Rn.ia,Rn.bj,Rn.jb,fun t ht=>(e _ _ (by(rename_i z3 z2 z1;exact Ar.a1 [] [_,_,_] (.k .v0 (.a .v1 .v2)) [[1,1]] (.k .v0 .v1) z3)) (by(rename_i z2 z1;exact Ar.a2 [] [_,_,_,_] (.l (.a .v0 .v1) .v2) [[1,1,1]] (.k (.a .v0 .v3) .v2) (.l .v1 .v3) z2 ht)) (by(rename_i z1;exact Ar.a1 [] [_,_,_] (.k .v0 (.a .v1 .v2)) [[1,1]] (.k .v0 .v1) z1)) (by(exact Ar.a2 [] [_,_,_,_] (.l (.a .v0 .v1) .v2) [[1,1,1]] (.k (.a .v0 .v3) .v2) (.l .v1 .v3) this ht))).mp (Rn.eq t ht)⟩,fun i' j' k' p R'=>B.max i' j' k' p ⟨R'.ai,R'.ia,R'.bj,R'.jb,fun t ht=>?_⟩⟩ (ihL fun i j a b c d=>e i j a (by(rename_i z2 z1;exact Ar.a2 [] [_,_,_,_] (.l .v0 .v1) [[1,1,1]] (.k (.a .v2 .v3) .v1) (.l .v0 .v2) z2 b)) c (by(exact Ar.a2 [] [_,_,_,_] (.l .v0 .v1) [[1,1,1]] (.k (.a .v2 .v3) .v1) (.l .v0 .v2) this d))) (ihR fun i j a b c d=>e i j (by(rename_i z3 z2 z1;exact Ar.a2 [] [_,_,_,_] (.k .v0 .v1) [[1,1,1]] (.k .v0 .v2) (.k (.a .v2 .v3) .v1) z3 a)) b (by(rename_i z1;exact Ar.a2 [] [_,_,_,_] (.k .v0 .v1) [[1,1,1]] (.k .v0 .v2) (.k (.a .v2 .v3) .v1) z1 c)) d)
  have:=R'.ai;have:=R'.ia;have:=R'.bj;have:=R'.jb
  exact(e _ _ (by(rename_i z3 z2 z1;exact Ar.a1 [] [_,_,_] (.k .v0 (.a .v1 .v2)) [[1,1]] (.k .v0 .v1) z3)) (by(rename_i z2 z1;exact Ar.a2 [] [_,_,_,_] (.l (.a .v0 .v1) .v2) [[1,1,1]] (.l .v1 .v3) (.k (.a .v0 .v3) .v2) ht z2)) (by(rename_i z1;exact Ar.a1 [] [_,_,_] (.k .v0 (.a .v1 .v2)) [[1,1]] (.k .v0 .v1) z1)) (by(exact Ar.a2 [] [_,_,_,_] (.l (.a .v0 .v1) .v2) [[1,1,1]] (.l .v1 .v3) (.k (.a .v0 .v3) .v2) ht this))).mpr (R'.eq t ht)
theorem cT {L:List (Nat × Nat × Nat)} {t:Nat × Nat × Nat} {R:List (Nat × Nat × Nat)} (hL:ub L) (hR:ub (t::R)) (h:∀ u∈L,Apart u t):ub (L++t::R):=by
 induction L with
 | nil=>exact hR
 | cons u L ih =>
  cases L with
  | nil=>exact⟨h u (.head _),hR⟩
  | cons v L=>exact⟨hL.1,ih hL.2 fun w hw=>h w (.tail _ hw)⟩
theorem BT.vW {L:List (Nat × Nat × Nat)} (h:BT H alo ahi blo bhi L):ub L:=by
 induction h with
 | nil _=>trivial
 | @node alo ahi blo bhi i j k L R B hL hR ihL ihR =>
  have Rn:=B.run
  have:=B.pos;have:=Rn.ai;have:=Rn.ia;have:=Rn.bj;have:=Rn.jb
  have oL:=hL.ok;have oR:=hR.ok
  refine cT ihL ?_ ?_
  ·cases R with
   | nil=>trivial
   | cons u R =>
    refine⟨?_,ihR⟩
    rintro ⟨e1,e2⟩
    have Ru:=oR.2.2 u (.head _)
    have hu:=(oR.1 u (.head _)).2
    have:=Ru.ia;have:=Ru.jb
    simp only at e1 e2
    have:=B.max i j (k+u.2.2) (by(exact Ar.a1 [] [_,_] (.l .n0 (.a .v0 .v1)) [[1,1]] (.l .n0 .v1) hu)) ⟨by(rename_i z5 z4 z3 z2 z1;exact Ar.a1 [] [_,_] (.k .v0 .v1) [[1,1]] (.k .v0 .v1) z5),by(rename_i z1;exact Ar.a2 [] [_,_,_,_,_] (.k (.a .v0 (.a .v1 .v2)) .v3) [[1,1,1]] (.e (.a .v0 .v1) .v4) (.k (.a .v4 .v2) .v3) e1 z1),by(rename_i z3 z2 z1;exact Ar.a1 [] [_,_] (.k .v0 .v1) [[1,1]] (.k .v0 .v1) z3),by(exact Ar.a2 [] [_,_,_,_,_] (.k (.a .v0 (.a .v1 .v2)) .v3) [[1,1,1]] (.e (.a .v0 .v1) .v4) (.k (.a .v4 .v2) .v3) e2 this),fun t ht=>by
     by_cases c:t<k
     ·exact Rn.eq t c
     ·have:=Ru.eq (t-k) (by(exact Ar.a2 [] [_,_,_,_] (.l .v0 .v1) [[1,1,1]] (.l .v2 (.a .v3 .v1)) (.e (.a .v0 .v3) .v2) ht (aa (Ar.a1 [] [_,_] (.k .v0 .v1) [[1,1]] (.g .v1 .v0) c))))
      have x1:u.1+(t-k)=i+t:=by(exact Ar.a2 [] [_,_,_,_,_] (.e (.a .v0 .v1) (.a .v2 .v3)) [[1,1,-1],[1,-1,1]] (.e (.a .v2 .v4) .v0) (.e (.a .v1 .v4) .v3) e1 (aa (Ar.a1 [] [_,_] (.k .v0 .v1) [[1,1]] (.g .v1 .v0) c)))
      have x2:u.2.1+(t-k)=j+t:=by(exact Ar.a3 [] [_,_,_,_,_,_,_] (.e (.a .v0 .v1) (.a .v2 .v3)) [[1,-1,1,-1],[1,1,-1,1]] (.e (.a .v4 .v5) .v6) (.e (.a .v2 .v5) .v0) (.e (.a .v6 .v1) (.a .v4 .v3)) e1 e2 x1)
      rw [x1,x2] at this
      exact this⟩
    (exact this.elim (fun q1=>(Ar.a1 [] [_,_] .ff [[0,1]] (.l (.a .v0 .v1) .v0) q1)) fun q1=>(Ar.a2 [] [_,_] .ff [[0,1,1]] (.l .n0 .v0) (.e (.a .v1 .v0) .v1) hu q1.1))
  ·rintro u hu ⟨e1,e2⟩
   have Ru:=oL.2.2 u hu
   have hu':=(oL.1 u hu).2
   have:=Ru.ai;have:=Ru.bj
   simp only at e1 e2
   have:=B.max u.1 u.2.1 (u.2.2+k) (by(exact Ar.a1 [] [_,_] (.l .n0 (.a .v0 .v1)) [[1,1]] (.l .n0 .v0) hu')) ⟨by(rename_i z1;exact Ar.a1 [] [_,_] (.k .v0 .v1) [[1,1]] (.k .v0 .v1) z1),by(rename_i z4 z3 z2 z1;exact Ar.a2 [] [_,_,_,_,_] (.k (.a .v0 (.a .v1 .v2)) .v3) [[1,1,1]] (.k (.a .v4 .v2) .v3) (.e (.a .v0 .v1) .v4) z4 e1),by(exact Ar.a1 [] [_,_] (.k .v0 .v1) [[1,1]] (.k .v0 .v1) this),by(rename_i z2 z1;exact Ar.a2 [] [_,_,_,_,_] (.k (.a .v0 (.a .v1 .v2)) .v3) [[1,1,1]] (.k (.a .v4 .v2) .v3) (.e (.a .v0 .v1) .v4) z2 e2),fun t ht=>by
    by_cases c:t<u.2.2
    ·exact Ru.eq t c
    ·have:=Rn.eq (t-u.2.2) (by(exact Ar.a2 [] [_,_,_,_] (.l .v0 .v1) [[1,1,1]] (.l .v2 (.a .v3 .v1)) (.e (.a .v0 .v3) .v2) ht (aa (Ar.a1 [] [_,_] (.k .v0 .v1) [[1,1]] (.g .v1 .v0) c))))
     have x1:i+(t-u.2.2)=u.1+t:=by(exact Ar.a2 [] [_,_,_,_,_] (.e (.a .v0 .v1) (.a .v2 .v3)) [[1,1,-1],[1,-1,1]] (.e (.a .v2 .v4) .v0) (.e (.a .v1 .v4) .v3) e1 (aa (Ar.a1 [] [_,_] (.k .v0 .v1) [[1,1]] (.g .v1 .v0) c)))
     have x2:j+(t-u.2.2)=u.2.1+t:=by(exact Ar.a3 [] [_,_,_,_,_,_,_] (.e (.a .v0 .v1) (.a .v2 .v3)) [[1,-1,1,-1],[1,1,-1,1]] (.e (.a .v4 .v5) .v6) (.e (.a .v2 .v5) .v0) (.e (.a .v6 .v1) (.a .v4 .v3)) e1 e2 x1)
     rw [x1,x2] at this
     exact this⟩
   (exact this.elim (fun q1=>(Ar.a1 [] [_,_] .ff [[0,1]] (.l (.a .v0 .v1) .v1) q1)) fun q1=>(Ar.a2 [] [_,_] .ff [[0,1,1]] (.l .n0 .v0) (.e (.a .v0 .v1) .v1) hu' q1.1))
end
noncomputable def kq (as bs:List Key) (i j:Nat):Prop:=hit as bs (fun _=>false) i j=true
theorem kq.iff {as bs:List Key} {i j:Nat}:kq as bs i j↔∃ c,as[i]?=some c∧bs[j]?=some c:=by
 unfold kq
 rw [qg]
 simp
section
variable {as bs:List Key} {alo ahi blo bhi:Nat}
theorem mE.toH {i j k:Nat} (h:mE as bs (fun _=>false) alo ahi blo bhi i j k) (hk:0<k):tf (kq as bs) alo ahi blo bhi i j k :=
 ⟨hk,⟨h.run.ai,h.run.ia,h.run.bj,h.run.jb,h.run.eq⟩,fun i' j' k' p R=>h.max i' j' k' p ⟨R.ai,R.ia,R.bj,R.jb,R.eq⟩⟩
theorem nI {ok:Key→Bool} {i j k:Nat} (h:∀ i0 j0,i=i0+1→j=j0+1→alo<i→blo<j→hit as bs (fun c=>!ok c) i0 j0=true→False):sy as bs ok alo blo i j k=(i,j,k):=by
 cases i with
 | zero=>rfl
 | succ i =>
  cases j with
  | zero=>rfl
  | succ j =>
   rw [vi]
   rw [aw (fun q=>h i j rfl rfl q.1 q.2.1 q.2.2)]
theorem nH {ok:Key→Bool} {n i j k:Nat} (h:i+k<ahi→j+k<bhi→hit as bs (fun c=>!ok c) (i+k) (j+k)=true→False):yn as bs ok ahi bhi n i j k=k:=by
 cases n with
 | zero=>rfl
 | succ n =>
  rw [rv]
  rw [aw (fun q=>h q.1 q.2.1 q.2.2)]
theorem nD {i j:Nat} (h:hit as bs (fun _=>true) i j=true):False:=by
 obtain⟨c,_,_,h⟩:=qg.mp h
 cases h
theorem d8 {i j k:Nat} (h:mE as bs (fun _=>false) alo ahi blo bhi i j k):grow as bs (fun _=>false) alo ahi blo bhi i j k=(i,j,k):=by
 have R:=h.run
 have l1:sy as bs (fun _=>true) alo blo i j k=(i,j,k):=by
  refine nI ?_
  rintro i0 j0 rfl rfl c1 c2 hh
  have:=R.ia;have:=R.jb
  have:=h.max i0 j0 (k+1) (by(exact Ar.a0 [] [_] (.l .n0 (.a .v0 .n1)) [[1]])) ⟨by(exact Ar.a1 [] [_,_] (.k .v0 .v1) [[1,1]] (.l .v0 (.a .v1 .n1)) c1),by(rename_i z1;exact Ar.a1 [] [_,_,_] (.k (.a .v0 (.a .v1 .n1)) .v2) [[1,1]] (.k (.a (.a .v0 .n1) .v1) .v2) z1),by(exact Ar.a1 [] [_,_] (.k .v0 .v1) [[1,1]] (.l .v0 (.a .v1 .n1)) c2),by(exact Ar.a1 [] [_,_,_] (.k (.a .v0 (.a .v1 .n1)) .v2) [[1,1]] (.k (.a (.a .v0 .n1) .v1) .v2) this),fun t ht=>?_⟩
  ·(exact this.elim (fun q1=>(Ar.a1 [] [_] .ff [[0,1]] (.l (.a .v0 .n1) .v0) q1)) fun q1=>(Ar.a1 [] [_] .ff [[0,1]] (.e (.a .v0 .n1) .v0) q1.1))
  ·cases t with
   | zero=>exact hh
   | succ t =>
    have:=R.eq t (by(exact Ar.a1 [] [_,_] (.l .v0 .v1) [[1,1]] (.l (.a .v0 .n1) (.a .v1 .n1)) ht))
    have x1:i0+(t+1)=i0+1+t:=by(exact Ar.a0 [] [_,_] (.e (.a .v0 (.a .v1 .n1)) (.a (.a .v0 .n1) .v1)) [[1],[1]])
    have x2:j0+(t+1)=j0+1+t:=by(exact Ar.a0 [] [_,_] (.e (.a .v0 (.a .v1 .n1)) (.a (.a .v0 .n1) .v1)) [[1],[1]])
    rw [x1,x2];exact this
 have l2:∀ n,yn as bs (fun _=>true) ahi bhi n i j k=k:=fun n=>by
  refine nH ?_
  intro c1 c2 hh
  have:=R.ai;have:=R.bj
  have:=h.max i j (k+1) (by(exact Ar.a0 [] [_] (.l .n0 (.a .v0 .n1)) [[1]])) ⟨by(rename_i z1;exact Ar.a1 [] [_,_] (.k .v0 .v1) [[1,1]] (.k .v0 .v1) z1),by(exact Ar.a1 [] [_,_,_] (.k (.a .v0 (.a .v1 .n1)) .v2) [[1,1]] (.l (.a .v0 .v1) .v2) c1),by(exact Ar.a1 [] [_,_] (.k .v0 .v1) [[1,1]] (.k .v0 .v1) this),by(exact Ar.a1 [] [_,_,_] (.k (.a .v0 (.a .v1 .n1)) .v2) [[1,1]] (.l (.a .v0 .v1) .v2) c2),fun t ht=>?_⟩
  ·(exact this.elim (fun q1=>(Ar.a1 [] [_] .ff [[0,1]] (.l (.a .v0 .n1) .v0) q1)) fun q1=>(Ar.a1 [] [_] .ff [[0,1]] (.e (.a .v0 .n1) .v0) q1.1))
  ·by_cases c:t<k
   ·exact R.eq t c
   ·have:t=k:=by(exact Ar.a2 [] [_,_] (.e .v0 .v1) [[1,0,1],[1,1,0]] (.l .v0 (.a .v1 .n1)) (.g .v0 .v1) ht c)
    subst this
    exact hh
 have l3:sy as bs (fun _=>false) alo blo i j k=(i,j,k):=nI fun _ _ _ _ _ _ hh=>nD hh
 have l4:∀ n,yn as bs (fun _=>false) ahi bhi n i j k=k:=fun n=>nH fun _ _ hh=>nD hh
 have t0:(fun c:Key=>!((fun _=>false) c))=fun _=>true:=rfl
 show(_,_,_)=_
 simp only [Bool.not_false,l1,l2,l3,l4]
theorem kr.AP {L:List (Nat × Nat × Nat)} (h:kr (Flm as bs (fun _=>false) (fun _=>false)) alo ahi blo bhi L):BT (kq as bs) alo ahi blo bhi L:=by
 induction h with
 | @nil alo ahi blo bhi i j hf =>
  obtain⟨i',j',k',B,e⟩:=hf
  rw [d8 B] at e
  cases e
  refine .nil fun i' j' a b c d hh=>?_
  have:=B.max i' j' 1 (by(exact Ar.a0 [] [] (.l .n0 .n1) [[1]])) ⟨a,by(exact Ar.a1 [] [_,_] (.k (.a .v0 .n1) .v1) [[1,1]] (.l .v0 .v1) b),c,by(exact Ar.a1 [] [_,_] (.k (.a .v0 .n1) .v1) [[1,1]] (.l .v0 .v1) d),fun t ht=>by
   have:t=0:=by(exact Ar.a1 [] [_] (.e .v0 .n0) [[1,0],[1,1]] (.l .v0 .n1) ht)
   subst this;exact hh⟩
  (exact this.elim (fun q1=>(Ar.a1 [] [] .ff [[0,1]] (.l .n1 .n0) q1)) fun q1=>(Ar.a1 [] [] .ff [[0,1]] (.e .n1 .n0) q1.1))
 | @node alo ahi blo bhi i j k L R hf hk hL hL0 hR hR0 ihL ihR =>
  obtain⟨i',j',k',B,e⟩:=hf
  rw [d8 B] at e
  cases e
  refine .node (B.toH hk) ?_ ?_
  ·by_cases c:alo<i∧blo<j
   ·exact ihL c.1 c.2
   ·rw [hL0 c]
    exact .nil fun i j a b c d=>by(rename_i z1;exact fun q1=>((Ar.imp hL).elim (fun q2=>(Ar.a3 [] [_,_,_] .ff [[0,1,1,1]] (.k .v0 .v1) (.l .v1 .v2) (.g .v0 .v2) a b q2)) fun q2=>((Ar.imp ihL).elim (fun q3=>(Ar.a3 [] [_,_,_] .ff [[0,1,1,1]] (.k .v0 .v1) (.l .v1 .v2) (.g .v0 .v2) a b q3)) fun q3=>((ah.mp z1).elim (fun q4=>(Ar.a3 [] [_,_,_] .ff [[0,1,1,1]] (.k .v0 .v1) (.l .v1 .v2) (.g .v0 .v2) a b q4)) fun q4=>(Ar.a3 [] [_,_,_] .ff [[0,1,1,1]] (.k .v0 .v1) (.l .v1 .v2) (.g .v0 .v2) c d q4)))))
  ·by_cases c:i+k<ahi∧j+k<bhi
   ·exact ihR c.1 c.2
   ·rw [hR0 c]
    exact .nil fun i j a b c d=>by(rename_i z1;exact fun q1=>((Ar.imp hR).elim (fun q2=>(Ar.a3 [] [_,_,_,_] .ff [[0,1,1,1]] (.k (.a .v0 .v1) .v2) (.l .v2 .v3) (.g (.a .v0 .v1) .v3) a b q2)) fun q2=>((Ar.imp ihR).elim (fun q3=>(Ar.a3 [] [_,_,_,_] .ff [[0,1,1,1]] (.k (.a .v0 .v1) .v2) (.l .v2 .v3) (.g (.a .v0 .v1) .v3) a b q3)) fun q3=>((ah.mp z1).elim (fun q4=>(Ar.a3 [] [_,_,_,_] .ff [[0,1,1,1]] (.k (.a .v0 .v1) .v2) (.l .v2 .v3) (.g (.a .v0 .v1) .v3) a b q4)) fun q4=>(Ar.a3 [] [_,_,_,_] .ff [[0,1,1,1]] (.k (.a .v0 .v1) .v2) (.l .v2 .v3) (.g (.a .v0 .v1) .v3) c d q4)))))
end
end MP
end
section
namespace MP
open PySem
noncomputable def dT (t:SM.T3):PyData:=.tuple [.int t.1,.int t.2.1,.int t.2.2]
theorem A8 (t:SM.T3):PyData.eqv (dT t) (dT t)=true:=by simp [dT,PyData.eqv,PyData.eqvAll]
theorem fE:∀ L:List SM.T3,PyData.eqvAll (L.map dT) (L.map dT)=true
 | []=>by simp [PyData.eqvAll]
 | t::L=>by simp [PyData.eqvAll,A8,fE L]
theorem mapM_some {α β:Type} {f:α→Option β} {g:α→β} {xs:List α} (h:∀ x∈xs,f x=some (g x)):xs.mapM f=some (xs.map g):=by
 induction xs with
 | nil=>rfl
 | cons x r ih=>rw [List.mapM_cons,h x (.head _),ih fun y hy=>h y (.tail _ hy)];rfl
theorem xB {σ:St} {n:Nat} (t:SM.T3):vj σ (n+1) (SM.tV t)=some (dT t):=by
 cases n<;>rfl
theorem nN {σ:St} {n:Nat} {a:Addr} {L:List SM.T3} (h:σ.L a=some (L.map SM.tV)):vj σ (n+2) (.lst a)=some (.list (L.map dT)):=by
 show((σ.L a).bind fun xs=>(xs.mapM (vj σ (n+1))).map PyData.list)=_
 rw [h]
 show((L.map SM.tV).mapM (vj σ (n+1))).map PyData.list=_
 rw [mapM_some (g:=fun v=>match v with | .tup [.int a,.int b,.int c]=>PyData.tuple [.int a,.int b,.int c] | _=>.none)]
 ·rw [ky];rfl
 ·intro v hv
  obtain⟨t,_,rfl⟩:=dh.mp hv
  exact xB t
theorem yK {σ:St} {a b:Addr} {L:List SM.T3} {K:Bool→Prop} (ha:σ.L a=some (L.map SM.tV)) (hb:σ.L b=some (L.map SM.tV)) (h:K true):fV (.lst a) (.lst b) σ K:=by
 refine⟨_,_,nN ha,nN hb,?_⟩
 have:PyData.eqv (.list (L.map dT)) (.list (L.map dT))=true:=by
  simp [PyData.eqv,fE]
 rw [this];exact h
theorem pW {σ:St} {a b:Addr} {L:List SM.T3} {K:Bool→Prop} (ha:σ.L a=some (L.map SM.tV)) (hb:σ.L b=some (L.map SM.tV)) (h:K false):b5 .ne (.lst a) (.lst b) σ K:=yK (K:=fun r=>K (!r)) ha hb h
namespace SM
end SM
end MP
end
section
namespace MP
open PySem
structure Hp (σ:St) (l:List (Addr × List V)):Prop where
 nd:(l.map (·.1)).Nodup
 at_:∀ p∈l,σ.L p.1=some p.2
theorem Hp.nil {σ:St}:Hp σ []:=⟨.nil,fun p h=>(by cases h)⟩
theorem Hp.get {σ:St} {l:List (Addr × List V)} (h:Hp σ l) (i:Nat) {a:Addr} {xs:List V} (e:l[i]?=some (a,xs)):σ.L a=some xs:=h.at_ _ (cu e)
theorem Hp.new {σ:St} {l:List (Addr × List V)} (h:Hp σ l) {c:Addr} (hc:σ.L c=none) (xs:List V):Hp (σ.cw c xs) ((c,xs)::l):=by
 have hn:∀ p∈l,p.1≠c:=fun p hp q=>by
  have:=h.at_ p hp
  rw [q,hc] at this;cases this
 refine⟨?_,fun p hp=>?_⟩
 ·rw [gm,pg]
  refine⟨fun q=>?_,h.nd⟩
  obtain⟨p,hp,e⟩:=dh.mp q
  exact hn p hp e
 ·rcases br.mp hp with rfl | hp
  ·exact bp _ _ _
  ·show upd σ.L c xs p.1=_
   rw [cn (hn p hp)];exact h.at_ p hp
theorem Hp.set {σ:St} {l:List (Addr × List V)} (h:Hp σ l) (i:Nat) {a:Addr} {xs:List V} (e:l[i]?=some (a,xs)) (ys:List V):Hp (σ.cw a ys) (l.set i (a,ys)):=by
 obtain⟨hi,ei⟩:=bb.mp e
 have hm:(l.set i (a,ys)).map (·.1)=l.map (·.1):=by
  rw [List.map_set]
  refine List.ext_getElem (by simp) fun j h1 h2=>?_
  rw [List.getElem_set]
  split
  ·rename_i q;subst q;simp [ei]
  ·rfl
 refine⟨by rw [hm];exact h.nd,fun p hp=>?_⟩
 obtain⟨j,hj,rfl⟩:=uk hp
 rw [List.length_set] at hj
 rw [List.getElem_set]
 split
 ·exact bp _ _ _
 ·rename_i q
  show upd σ.L a ys l[j].1=_
  have:l[j].1≠a:=fun e'=>by
   have:=h.nd
   rw [List.nodup_iff_pairwise_ne,nv] at this
   rcases ak q with c | c
   ·have:=this i j (by simpa using hi) (by simpa using hj) c
    simp [ei,e'] at this
   ·have:=this j i (by simpa using hj) (by simpa using hi) c
    simp [ei,e'] at this
  rw [cn this]
  exact h.at_ _ (kf _)
theorem Hp.ext {σ σ':St} {l:List (Addr × List V)} (h:Hp σ l) (k:Ext σ σ'):Hp σ' l:=⟨h.nd,fun p hp=>k.L _ _ (h.at_ p hp)⟩
theorem Hp.ne {σ:St} {l:List (Addr × List V)} (h:Hp σ l) (i j:Nat) (hij:i≠j) {a b:Addr} {xs ys:List V} (e:l[i]?=some (a,xs)) (e':l[j]?=some (b,ys)):a≠b:=by
 obtain⟨hi,ei⟩:=bb.mp e
 obtain⟨hj,ej⟩:=bb.mp e'
 have:=h.nd
 rw [List.nodup_iff_pairwise_ne,nv] at this
 intro q
 rcases ak hij with c | c
 ·have:=this i j (by simpa using hi) (by simpa using hj) c
  simp [ei,ej,q] at this
 ·have:=this j i (by simpa using hj) (by simpa using hi) c
  simp [ei,ej,q] at this
theorem Hp.tail {σ:St} {p:Addr × List V} {l:List (Addr × List V)} (h:Hp σ (p::l)):Hp σ l:=⟨(pg.mp h.nd).2,fun q hq=>h.at_ q (.tail _ hq)⟩
theorem Hp.sub {σ:St} {l:List (Addr × List V)} (h:Hp σ l) (is:List Nat) (hn:is.Nodup):Hp σ (is.filterMap fun i=>l[i]?):=by
 refine⟨?_,fun p hp=>?_⟩
 ·induction is with
  | nil=>exact .nil
  | cons i is ih =>
   rw [pg] at hn
   cases e:l[i]? with
   | none=>rw [List.filterMap_cons_none (by exact e)];exact ih hn.2
   | some p =>
    rw [List.filterMap_cons_some (by exact e),gm,pg]
    refine⟨fun q=>?_,ih hn.2⟩
    obtain⟨p',hp',e'⟩:=dh.mp q
    obtain⟨j,hj,ej⟩:=List.mem_filterMap.mp hp'
    exact h.ne i j (fun q=>hn.1 (q▸hj)) (a:=p.1) (b:=p'.1) (xs:=p.2) (ys:=p'.2) e ej e'.symm
 ·obtain⟨i,hi,e⟩:=List.mem_filterMap.mp hp
  exact h.at_ p (cu e)
noncomputable abbrev iV (xs:List Int):List V:=xs.map V.int
theorem BB (xs:List Int):(xs.map Key.int).map Key.v=iV xs:=by rw [ky];rfl
theorem yA (xs:List Int):∀ k∈xs.map Key.int,pd k:=by
 intro k hk
 obtain⟨x,_,rfl⟩:=dh.mp hk
 trivial
end MP
end
section
namespace MP
open PySem
structure uu (x:Addr) (σ σ':St):Prop where
 L:∀ a xs,σ.L a=some xs→σ'.L a=some xs
 D:∀ a es,σ.D a=some es→σ'.D a=some es
 S:∀ a es,σ.S a=some es→σ'.S a=some es
 I:∀ a es,a≠x→σ.I a=some es→σ'.I a=some es
 Z:∀ a es,σ.Z a=some es→σ'.Z a=some es
theorem Ext.x {σ σ':St} {x:Addr} (h:Ext σ σ'):uu x σ σ':=⟨h.L,h.D,h.S,fun a es _ e=>h.I a es e,h.Z⟩
theorem uu.trans {x:Addr} {σ σ₁ σ₂:St} (h:uu x σ σ₁) (h':uu x σ₁ σ₂):uu x σ σ₂:=⟨fun _ _ e=>h'.L _ _ (h.L _ _ e),fun _ _ e=>h'.D _ _ (h.D _ _ e),fun _ _ e=>h'.S _ _ (h.S _ _ e),fun _ _ n e=>h'.I _ _ n (h.I _ _ n e),fun _ _ e=>h'.Z _ _ (h.Z _ _ e)⟩
theorem uu.fj {x d:Addr} {f:Nat→Option V} {σ σ₁:St} (h:uu x σ σ₁):uu x σ (σ₁.fj x d f):=⟨h.L,h.D,h.S,fun a es n e=>(cn n).trans (h.I a es n e),h.Z⟩
theorem uu.cw {x c:Addr} {xs:List V} {σ σ₁:St} (h:uu x σ σ₁) (hc:σ.L c=none):uu x σ (σ₁.cw c xs):=⟨ux h.L hc,h.D,h.S,h.I,h.Z⟩
theorem uu.ext {x:Addr} {σ₀ σ σ':St} (h:uu x σ σ') (E:Ext σ₀ σ) (hx:σ₀.I x=none):Ext σ₀ σ':=⟨fun _ _ e=>h.L _ _ (E.L _ _ e),fun _ _ e=>h.D _ _ (E.D _ _ e),fun _ _ e=>h.S _ _ (E.S _ _ e),fun a _ e=>h.I _ _ (fun q=>by rw [q,hx] at e;cases e) (E.I _ _ e),fun _ _ e=>h.Z _ _ (E.Z _ _ e)⟩
theorem uu.noL {x:Addr} {σ σ₁:St} (h:uu x σ σ₁) {c:Addr} (hc:σ₁.L c=none):σ.L c=none:=by
 cases q:σ.L c with
 | none=>rfl
 | some xs=>rw [h.L _ _ q] at hc;cases hc
namespace SM
open PySem
noncomputable abbrev O5:=Str × Nat × Nat × Nat × Nat
noncomputable def oV (t:O5):V:=.tup [.str t.1,.int t.2.1,.int t.2.2.1,.int t.2.2.2.1,.int t.2.2.2.2]
noncomputable def chg (i a j b:Nat):List O5:=if i<a∧j<b then [("replace",i,a,j,b)] else if i<a then [("delete",i,a,j,b)] else if j<b then [("insert",i,a,j,b)] else []
noncomputable def eql (a b s:Nat):List O5:=if s=0 then [] else [("equal",a,a+s,b,b+s)]
noncomputable def codes:Nat→Nat→List T3→List O5
 | _,_,[]=>[]
 | i,j,t::r=>chg i t.1 j t.2.1++(eql t.1 t.2.1 t.2.2++codes (t.1+t.2.2) (t.2.1+t.2.2) r)
theorem nR (i a j b:Nat):(chg i a j b).length≤1:=by
 unfold chg
 split
 ·exact aj _
 ·split
  ·exact aj _
  ·split
   ·exact aj _
   ·exact ba _
theorem nJ (a b s:Nat):(eql a b s).length≤1:=by
 unfold eql
 split
 ·exact ba _
 ·exact aj _
section
variable {C:Cal} {σ:St} {ρ:Fr} {K:Fl→Fr→St→Prop} {ss:jf} {al:Addr} {acc:List O5} {i j a b s:Nat}
theorem ev5 {e1 e2 e3 e4 e5:Ex} {t:Str} (h1:evV σ ρ e1=some (.str t)) (h2:evV σ ρ e2=some (.int i)) (h3:evV σ ρ e3=some (.int a)) (h4:evV σ ρ e4=some (.int j)) (h5:evV σ ρ e5=some (.int b)) :
  evV σ ρ (.tup (.cons e1 (.cons e2 (.cons e3 (.cons e4 (.cons e5 .nil))))))=some (oV (t,i,a,j,b)):=by
 rw [zk,ee,h1,ee,h2,ee,h3,ee,h4,ee,h5];rfl
structure R8o (ρ:Fr) (x al:Addr) (i j a b s:Nat):Prop where
 r0:ρ 0=some (.obj x)
 r1:ρ 1=some (.int i)
 r2:ρ 2=some (.int j)
 r3:ρ 3=some (.lst al)
 r4:ρ 4=some (.int a)
 r5:ρ 5=some (.int b)
 r6:ρ 6=some (.int s)
theorem fZ {x:Addr} {t:Str} (H:R8o ρ x al i j a b s) (h7:ρ 7=some (.str t)) (ht:Nat.ble t.cps.size av=true) (hn:(t.cps.size != 0)=true) (hL:σ.L al=some (acc.map oV)) (hl:acc.length<av)
  (h:dk C ss ρ (σ.cw al ((acc++[(t,i,a,j,b)]).map oV)) K) :
  dk C (.cons (.cond (.loc 7) (.cons (.expr (.bm .append (.loc 3) (.cons (.tup (.cons (.loc 7) (.cons (.loc 1) (.cons (.loc 4) (.cons (.loc 2) (.cons (.loc 5) .nil)))))) .nil))) .nil) .nil) ss) ρ σ K:=by
 refine⟨_,h7,cm ht,?_⟩
 rw [hn]
 refine aN (bO (oV (t,i,a,j,b)) H.r3 hL (ev5 h7 H.r1 H.r4 H.r2 H.r5) (by rw [ax];exact hl) (gk ?_))
 rw [di] at h
 exact h
theorem qJ {t:Ex} {e:jf} (h7:ρ 7=some (.str "")) (h:dk C ss ρ σ K):dk C (.cons (.cond (.loc 7) e .nil) ss) ρ σ K:=by
 refine⟨_,h7,ba _,?_⟩
 exact xj (gk h)
theorem xI {x:Addr} (H:R8o ρ x al i j a b s) (h7:ρ 7=some (.str "")) (hL:σ.L al=some (acc.map oV)) (hl:acc.length<av)
  (h:∀ ρ',R8o ρ' x al i j a b s→dk C ss ρ' (σ.cw al ((acc++chg i a j b).map oV)) K) :
  dk C (.cons (.cond (.and (.cmp .lt (.loc 1) (.loc 4)) (.cmp .lt (.loc 2) (.loc 5))) (.cons (.assign [(.var 7)] (.str "replace"))
 .nil) (.cons (.cond (.cmp .lt (.loc 1) (.loc 4)) (.cons (.assign [(.var 7)] (.str "delete"))
 .nil) (.cons (.cond (.cmp .lt (.loc 2) (.loc 5)) (.cons (.assign [(.var 7)] (.str "insert"))
 .nil) .nil)
 .nil))
 .nil))
 (.cons (.cond (.loc 7) (.cons (.expr (.bm .append (.loc 3) (.cons (.tup (.cons (.loc 7) (.cons (.loc 1) (.cons (.loc 4) (.cons (.loc 2) (.cons (.loc 5) .nil)))))) .nil)))
 .nil) .nil) ss)) ρ σ K:=by
 have up:∀ v,R8o (upd ρ 7 v) x al i j a b s:=fun v=>⟨H.r0,H.r1,H.r2,H.r3,H.r4,H.r5,H.r6⟩
 unfold chg at h
 refine iB (i<a∧j<b) (sz (og H.r1 H.r4) (og H.r2 H.r5)) (fun c=>?_) fun c=>?_
 ·rw [bc c] at h
  exact zv (.str "replace") rfl (gk (fZ (up _) rfl (by decide +kernel) (by decide +kernel) hL hl (h _ (up _))))
 ·rw [aw c] at h
  refine iB (i<a) (og H.r1 H.r4) (fun c=>?_) fun c=>?_
  ·rw [bc c] at h
   exact zv (.str "delete") rfl (gk (gk (fZ (up _) rfl (by decide +kernel) (by decide +kernel) hL hl (h _ (up _)))))
  ·rw [aw c] at h
   refine iB (j<b) (og H.r2 H.r5) (fun c=>?_) fun c=>?_
   ·rw [bc c] at h
    exact zv (.str "insert") rfl (gk (gk (gk (fZ (up _) rfl (by decide +kernel) (by decide +kernel) hL hl (h _ (up _))))))
   ·rw [aw c,cv,qj hL] at h
    exact gk (gk (gk (qJ (t:=.none) h7 (h _ H))))
theorem wV {x:Addr} (H:R8o ρ x al i j a b s) (hL:σ.L al=some (acc.map oV)) (hl:acc.length<av)
  (h:∀ ρ',ρ' 0=some (.obj x)→ρ' 1=some (.int (a+s:Nat))→ρ' 2=some (.int (b+s:Nat))→ρ' 3=some (.lst al)→dk C ss ρ' (σ.cw al ((acc++eql a b s).map oV)) K) :
  dk C (.cons (.assign [.tup [1,2]] (.tup (.cons (.bin .add (.loc 4) (.loc 6)) (.cons (.bin .add (.loc 5) (.loc 6)) .nil))))
 (.cons (.cond (.loc 6) (.cons (.expr (.bm .append (.loc 3) (.cons (.tup (.cons (.str "equal") (.cons (.loc 4) (.cons (.loc 1) (.cons (.loc 5) (.cons (.loc 2) .nil)))))) .nil)))
 .nil) .nil) ss)) ρ σ K:=by
 refine fS [.int (a+s:Nat),.int (b+s:Nat)] ?_ rfl ?_
 ·rw [zk,ee,fx (a:=.loc 4) (b:=.loc 6) H.r4 H.r6,ee,fx (a:=.loc 5) (b:=.loc 6) H.r5 H.r6];rfl
 unfold eql at h
 refine iB (s≠0) (aR (x:=6) (k:=s) H.r6) (fun c=>?_) fun c=>?_
 ·rw [aw c,di] at h
  exact bO (oV ("equal",a,a+s,b,b+s)) H.r3 hL (ev5 rfl H.r4 rfl H.r5 rfl) (by rw [ax];exact hl) (gk (h _ H.r0 rfl rfl H.r3))
 ·rw [bc (Classical.not_not.mp c),cv,qj hL] at h
  exact gk (h _ H.r0 rfl rfl H.r3)
end
theorem wm {σ:St} {a:Addr} {xs ys:List V}:(σ.cw a xs).cw a ys=σ.cw a ys:=by
 unfold St.cw
 congr 1
 funext j
 simp only [upd]
 split<;>rfl
inductive C7 (x:Addr) (σ:St) (al:Addr) (Ls:List T3) (t:Nat) (ρ:Fr) (σ':St):Prop
 | mk (i j:Nat) (acc:List O5):ρ 0=some (.obj x)→ρ 1=some (.int i)→ρ 2=some (.int j)→ρ 3=some (.lst al)→(∃ ys,σ'=σ.cw al ys)→σ'.L al=some (acc.map oV)→acc.length≤2*t→acc++codes i j (Ls.drop t)=codes 0 0 Ls→C7 x σ al Ls t ρ σ'
theorem vS {P:Nat→Option Fn} (hP:P 7=some fn7) (hP6:P 6=some fn6) (hP5:P 5=some fn5) {n:Nat} {σ:St} {x la lb db sj d:Addr} {f:Nat→Option V} {as bs:List Key} {rm:Key→Bool} {js:List Key} {Q:V→St→Prop}
  (hM:MAt σ x la lb db sj as bs rm js) (hI:σ.I x=some (d,f)) (f4:f 4=some .none) (f5:f 5=some .none) (ha:∀ k∈as,pd k) (hb:∀ k∈bs,pd k) (hs:bs.length<400000) (hsa:as.length<400000)
  (hsz:∀ L,kr (Flm as bs rm fun c=>decide (c∈js)) 0 as.length 0 bs.length L→L.length<64)
  (h:∀ σ' c L g,uu x σ σ'→kr (Flm as bs rm fun c=>decide (c∈js)) 0 as.length 0 bs.length L→σ.L c=none→σ'.I x=some (d,g)→(∀ m,m≠4→m≠5→g m=f m)→(mrg 0 0 0 L).length≤L.length →
   σ'.L c=some ((codes 0 0 (mrg 0 0 0 L++[(as.length,bs.length,0)])).map oV)→Q (.lst c) σ'):dn P (n+3) 7 [.obj x] σ Q:=by
 refine⟨fn7,hP,aj 1,aj 1,?_⟩
 obtain⟨d',f',hI',f1,f2,f7,f8⟩:=hM.I
 obtain⟨rfl,rfl⟩:d=d'∧f=f':=by rw [hI] at hI';cases hI';exact⟨rfl,rfl⟩
 have h0:frameOf fn7 [.obj x] 0=some (.obj x):=rfl
 generalize frameOf fn7 [.obj x]=ρ at h0
 refine⟨.obj x,h0,x,d,f,.none,rfl,hI,f5,?_⟩
 refine⟨cm rfl,fun al hal=>?_⟩
 refine⟨.obj x,h0,x,d,f,rfl,hI,?_⟩
 have hx2:((σ.cw al []).fj x d (upd f 5 (.lst al))).I x=some (d,upd f 5 (.lst al)):=gv
 have E2:uu x σ ((σ.cw al []).fj x d (upd f 5 (.lst al))):=(((Ext.refl σ).cw hal).x).fj
 have M2:MAt ((σ.cw al []).fj x d (upd f 5 (.lst al))) x la lb db sj as bs rm js:=by
  refine⟨⟨d,_,gv,f1,f2,f7,f8⟩,E2.L _ _ hM.La,E2.L _ _ hM.Lb,?_,E2.S _ _ hM.S⟩
  have D2:=hM.D.ext ((Ext.refl σ).cw (xs:=[]) hal)
  exact D2
 have hal2:((σ.cw al []).fj x d (upd f 5 (.lst al))).L al=some []:=bp _ _ _
 generalize ((σ.cw al []).fj x d (upd f 5 (.lst al)))=σ2 at hx2 E2 M2 hal2
 refine⟨.obj x,h0,x,rfl,by rw [hx2];rfl,?_⟩
 refine gmb hP6 hP5 M2 hx2 f4 ha hb hs hsa hsz fun σ3 c L k3 b hc0 hc=>?_
 have hal3:=k3.L _ _ hal2
 have hcn:c≠al:=fun q=>by rw [q,hal2] at hc0;cases hc0
 have E3:uu x σ (σ3.fj x d (upd (upd f 5 (.lst al)) 4 (.lst c))):=(E2.trans k3.ext.x).fj
 have hlen:(mrg 0 0 0 L).length≤L.length:=by
  have:∀ (L:List T3) (i j k:Nat),(mrg i j k L).length≤L.length+(if k=0 then 0 else 1):=by
   intro L
   induction L with
   | nil =>
    intro i j k
    unfold mrg
    by_cases c0:k=0
    ·rw [bc c0];exact ba _
    ·rw [aw c0,aw c0];exact aj _
   | cons t r ih =>
    intro i j k
    obtain⟨i',j',k'⟩:=t
    unfold mrg
    rw [fu]
    split
    ·have:=ih i j (k+k')
     by_cases c0:k=0
     ·subst c0
      rw [bc rfl]
      by_cases c1:0+k'=0
      ·rw [bc c1] at this;(exact Ar.a1 [] [_,_] (.k .v0 (.a (.a .v1 .n1) .n0)) [[1,1]] (.k .v0 (.a .v1 .n0)) this)
      ·rw [aw c1] at this;(exact Ar.a1 [] [_,_] (.k .v0 (.a (.a .v1 .n1) .n0)) [[1,1]] (.k .v0 (.a .v1 .n1)) this)
     ·rw [aw c0]
      rw [aw (by(exact(ak c0).elim (fun q1=>(Ar.a1 [] [_,_] (.u (.a .v0 .v1) .n0) [[0,1]] (.l .v0 .n0) q1)) fun q1=>(Ar.a1 [] [_,_] (.u (.a .v0 .v1) .n0) [[1,1]] (.l .n0 .v0) q1)))] at this
      (exact Ar.a1 [] [_,_] (.k .v0 (.a (.a .v1 .n1) .n1)) [[1,1]] (.k .v0 (.a .v1 .n1)) this)
    ·by_cases c0:k=0
     ·rw [bc c0,bc c0]
      have:=ih i' j' k'
      by_cases c1:k'=0
      ·rw [bc c1] at this;(exact Ar.a1 [] [_,_] (.k .v0 (.a (.a .v1 .n1) .n0)) [[1,1]] (.k .v0 (.a .v1 .n0)) this)
      ·rw [aw c1] at this;(exact Ar.a1 [] [_,_] (.k .v0 (.a (.a .v1 .n1) .n0)) [[1,1]] (.k .v0 (.a .v1 .n1)) this)
     ·rw [aw c0,aw c0,fu]
      have:=ih i' j' k'
      by_cases c1:k'=0
      ·rw [bc c1] at this;(exact Ar.a1 [] [_,_] (.k (.a .v0 .n1) (.a (.a .v1 .n1) .n1)) [[1,1]] (.k .v0 (.a .v1 .n0)) this)
      ·rw [aw c1] at this;(exact Ar.a1 [] [_,_] (.k (.a .v0 .n1) (.a (.a .v1 .n1) .n1)) [[1,1]] (.k .v0 (.a .v1 .n1)) this)
  have:=this L 0 0 0
  rwa [bc rfl] at this
 have hL64:=hsz L b
 have hc3:(σ3.fj x d (upd (upd f 5 (.lst al)) 4 (.lst c))).L c=some ((mrg 0 0 0 L++[(as.length,bs.length,0)]).map mV):=hc
 have hal4:(σ3.fj x d (upd (upd f 5 (.lst al)) 4 (.lst c))).L al=some []:=hal3
 have hx3:(σ3.fj x d (upd (upd f 5 (.lst al)) 4 (.lst c))).I x=some (d,upd (upd f 5 (.lst al)) 4 (.lst c)):=gv
 have hg:∀ m,m≠4→m≠5→(upd (upd f 5 (.lst al)) 4 (.lst c)) m=f m:=fun m h4 h5=>(cn h4).trans (cn h5)
 generalize (upd (upd f 5 (.lst al)) 4 (.lst c))=g at hg hx3 hc3 hal4 E3
 generalize σ3.fj x d g=σ4 at hx3 hc3 hal4 E3
 generalize hLs:mrg 0 0 0 L++[(as.length,bs.length,0)]=Ls at hc3
 have hLsl:Ls.length≤64:=by rw [← hLs,bx,ib];(exact Ar.a2 [] [_,_] (.k (.a .v0 .n1) (.n 64)) [[1,1,1]] (.k .v0 .v1) (.l .v1 (.n 64)) hlen hL64)
 refine⟨_,hc3,?_⟩
 refine ll (C7 x σ4 al Ls) ?_ ?_ ⟨0,0,[],h0,rfl,rfl,rfl,⟨[],(qj hal4).symm⟩,hal4,ba _,rfl⟩
 ·rintro t v ρ' σ' hv ⟨i,j,acc,r0,r1,r2,r3,⟨ys,rfl⟩,hacc,hal',e⟩
  refine⟨(cn hcn).trans hc3,fun kk hag=>?_⟩
  rw [bq] at hv
  obtain⟨u,hu,rfl⟩:=omap hv
  obtain⟨ht,hu'⟩:=bb.mp hu
  rw [gw ht,hu'] at e
  obtain⟨a,b',s⟩:=u
  refine⟨_,qD (t:=(a,b',s)),rfl,?_⟩
  refine zv (.str "") rfl ?_
  refine xI (x:=x) (al:=al) (i:=i) (j:=j) (a:=a) (b:=b') (s:=s) (acc:=acc) ⟨r0,r1,r2,r3,rfl,rfl,rfl⟩ rfl hacc (by unfold av;(exact Ar.a3 [] [_,_,_] (.l .v0 (.n 1000000)) [[1,2,1,2]] (.k .v1 (.n 64)) (.k .v0 (.m 2 .v2)) (.l .v2 .v1) hLsl hal' ht)) fun ρ2 H2=>?_
  have h1:=nR i a j b'
  refine wV H2 (acc:=acc++chg i a j b') (bp _ _ _) (by rw [bx];unfold av;(exact Ar.a4 [] [_,_,_,_] (.l (.a .v0 .v1) (.n 1000000)) [[1,2,1,2,1]] (.k .v2 (.n 64)) (.k .v0 (.m 2 .v3)) (.l .v3 .v2) (.k .v1 .n1) hLsl hal' ht h1)) fun ρ3 q0 q1 q2 q3=>?_
  have h2:=nJ a b' s
  rw [wm,wm]
  refine gk (hag _ _ ⟨a+s,b'+s,acc++chg i a j b'++eql a b' s,q0,q1,q2,q3,⟨_,rfl⟩,bp _ _ _,?_,?_⟩)
  ·rw [bx,bx];(exact Ar.a3 [] [_,_,_,_] (.k (.a (.a .v0 .v1) .v2) (.m 2 (.a .v3 .n1))) [[1,1,1,1]] (.k .v0 (.m 2 .v3)) (.k .v1 .n1) (.k .v2 .n1) hal' h1 h2)
  ·rw [← e,gu,gu];rfl
 ·rintro ρ' σ' ⟨i,j,acc,r0,r1,r2,r3,⟨ys,rfl⟩,hacc,hal',e⟩
  refine⟨(cn hcn).trans hc3,?_⟩
  rw [ax,List.drop_length] at e
  have e:acc++[]=codes 0 0 Ls:=e
  rw [cv] at e
  refine nW (.lst al) r3 ?_
  refine h _ al L g ⟨fun a xs e1=>?_,E3.D,E3.S,E3.I,E3.Z⟩ b hal hx3 hg hlen ?_
  ·have:a≠al:=fun q=>by rw [q,hal] at e1;cases e1
   exact(cn this).trans (E3.L a xs e1)
  ·rw [hLs,← e];exact hacc
end SM
end MP
end
section
namespace MP
open PySem SM
noncomputable abbrev ks (xs:List Int):List Key:=xs.map Key.int
theorem kq.ints {xs ys:List Int} {i j:Nat}:kq (ks xs) (ks ys) i j↔∃ c,xs[i]?=some c∧ys[j]?=some c:=by
 rw [kq.iff]
 constructor
 ·rintro ⟨c,h1,h2⟩
  rw [bq] at h1 h2
  obtain⟨x,e1,rfl⟩:=omap h1
  obtain⟨y,e2,e⟩:=omap h2
  cases e
  exact⟨_,e1,e2⟩
 ·rintro ⟨c,h1,h2⟩
  exact⟨.int c,by rw [bq,h1];rfl,by rw [bq,h2];rfl⟩
theorem aY {alo ahi blo bhi:Nat}:∀ {L:List T3} {lo:Nat},(∀ t∈L,Within alo ahi blo bhi t∧0<t.2.2)→L.Pairwise nr→(∀ t∈L,lo≤t.1)→lo≤ahi→lo+L.length≤ahi
 | [],lo,_,_,_,h=>h
 | t::L,lo,hw,hp,hl,h=>by
  have h1:=hw t (.head _)
  have h2:=hl t (.head _)
  obtain⟨ha,hp⟩:=pz.mp hp
  have:=aY (lo:=lo+1) (fun u hu=>hw u (.tail _ hu)) hp (fun u hu=>by have:=(ha u hu).1;(exact Ar.a3 [] [_,_,_,_] (.k (.a .v0 .n1) .v1) [[1,1,1,1]] (.l .n0 .v2) (.k .v0 .v3) (.k (.a .v3 .v2) .v1) h1.2 h2 this)) (by have:=h1.1.2.1;(exact Ar.a3 [] [_,_,_,_] (.k (.a .v0 .n1) .v1) [[1,1,1,1]] (.l .n0 .v2) (.k .v0 .v3) (.k (.a .v3 .v2) .v1) h1.2 h2 this))
  rw [fu];(exact Ar.a1 [] [_,_,_] (.k (.a .v0 (.a .v1 .n1)) .v2) [[1,1]] (.k (.a (.a .v0 .n1) .v1) .v2) this)
noncomputable abbrev P2:=Nat × Nat
noncomputable def stp (k:Nat) (p q:P2):List O5:=if p=q then [] else [(if k%2=0 then "equal" else if p.1=q.1 then "insert" else if p.2=q.2 then "delete" else "replace",p.1,q.1,p.2,q.2)]
noncomputable def iI:Nat→P2→List P2→List O5
 | _,_,[]=>[]
 | k,p,q::r=>stp k p q++iI (k+1) q r
noncomputable def qb (L:List T3):List P2:=L.flatMap fun t=>[(t.1,t.2.1),(t.1+t.2.2,t.2.1+t.2.2)]
noncomputable def k8:Nat→Nat→List T3→Prop
 | _,_,[]=>True
 | i,j,t::r=>i≤t.1∧j≤t.2.1∧k8 (t.1+t.2.2) (t.2.1+t.2.2) r
theorem k8.of:∀ {L:List T3} {i j:Nat},L.Pairwise nr→(∀ t∈L,i≤t.1∧j≤t.2.1)→k8 i j L
 | [],_,_,_,_=>trivial
 | t::L,i,j,hp,h=>by
  obtain⟨ha,hp⟩:=pz.mp hp
  exact⟨(h t (.head _)).1,(h t (.head _)).2,k8.of hp fun u hu=>ha u hu⟩
theorem mO {k i j a b:Nat} (hk:k%2=1) (h1:i≤a) (h2:j≤b):stp k (i,j) (a,b)=chg i a j b:=by
 unfold stp chg
 rw [aw (show ¬ k%2=0 by(exact Ar.a1 [] [_] (.u .v0 .n0) [[1,-1]] (.e .v0 .n1) hk))]
 by_cases c1:i=a
 ·subst c1
  rw [aw (show ¬ (i<i∧j<b) by(exact fun q1=>(Ar.a1 [] [_] .ff [[0,1]] (.l .v0 .v0) q1.1))),aw (gc i)]
  by_cases c2:j=b
  ·subst c2;rw [bc rfl,aw (gc j)]
  ·rw [aw (fun q=>c2 (iz q).2),bc (show j<b by(exact(ak c2).elim (fun q1=>(Ar.a1 [] [_,_] (.l .v0 .v1) [[1,1]] (.l .v0 .v1) q1)) fun q1=>(Ar.a2 [] [_,_] (.l .v0 .v1) [[0,1,1]] (.k .v0 .v1) (.l .v1 .v0) h2 q1))),bc rfl]
 ·rw [aw (fun q=>c1 (iz q).1)]
  by_cases c2:j=b
  ·subst c2
   rw [aw (show ¬ (i<a∧j<j) by(exact fun q1=>(Ar.a1 [] [_] .ff [[0,1]] (.l .v0 .v0) q1.2))),bc (show i<a by(exact(ak c1).elim (fun q1=>(Ar.a1 [] [_,_] (.l .v0 .v1) [[1,1]] (.l .v0 .v1) q1)) fun q1=>(Ar.a2 [] [_,_] (.l .v0 .v1) [[0,1,1]] (.k .v0 .v1) (.l .v1 .v0) h1 q1))),aw (show ¬ ((i,j).1=(a,j).1) from c1),bc rfl]
  ·rw [bc (show i<a∧j<b by(exact⟨((ak c1).elim (fun q1=>(Ar.a1 [] [_,_] (.l .v0 .v1) [[1,1]] (.l .v0 .v1) q1)) fun q1=>(Ar.a2 [] [_,_] (.l .v0 .v1) [[0,1,1]] (.k .v0 .v1) (.l .v1 .v0) h1 q1)),((ak c1).elim (fun q1=>((ak c2).elim (fun q2=>(Ar.a1 [] [_,_] (.l .v0 .v1) [[1,1]] (.l .v0 .v1) q2)) fun q2=>(Ar.a2 [] [_,_] (.l .v0 .v1) [[0,1,1]] (.k .v0 .v1) (.l .v1 .v0) h2 q2))) fun q1=>(Ar.a2 [] [_,_,_,_] (.l .v0 .v1) [[0,1,1]] (.k .v2 .v3) (.l .v3 .v2) h1 q1))⟩)),aw (show ¬ ((i,j).1=(a,b).1) from c1),aw (show ¬ ((i,j).2=(a,b).2) from c2)]
theorem qK {k a b s:Nat} (hk:k%2=0):stp k (a,b) (a+s,b+s)=eql a b s:=by
 unfold stp eql
 rw [bc hk]
 by_cases c:s=0
 ·subst c;exact(bc (show(a,b)=(a+0,b+0) from rfl)).trans (bc (show(0:Nat)=0 from rfl)).symm
 ·rw [aw c,aw (fun q=>c (by have:=(iz q).1;(exact Ar.a1 [] [_,_] (.e .v0 .n0) [[1,0],[1,-1]] (.e .v1 (.a .v1 .v0)) this)))]
theorem b7:∀ {L:List T3} {k i j na nb:Nat},k%2=1→k8 i j (L++[(na,nb,0)])→iI k (i,j) (qb L++[(na,nb)])=codes i j (L++[(na,nb,0)])
 | [],k,i,j,na,nb,hk,h=>by
  show stp k (i,j) (na,nb)++[]=chg i na j nb++([]++[])
  rw [mO hk (show i≤na from h.1) (show j≤nb from h.2.1)]
  rfl
 | (a,b,s)::L,k,i,j,na,nb,hk,h=>by
  have ih:=b7 (L:=L) (k:=k+2) (i:=a+s) (j:=b+s) (na:=na) (nb:=nb) (by omega) h.2.2
  show stp k (i,j) (a,b)++(stp (k+1) (a,b) (a+s,b+s)++iI (k+2) (a+s,b+s) (qb L++[(na,nb)]))=_
  rw [mO hk h.1 h.2.1,qK (by omega),ih]
  rfl
noncomputable def isEq (c:O5):Bool:=c.1 == "equal"
noncomputable def vh (p q:Nat) (c:O5):List T3:=if isEq c=true then [(p+c.2.1,q+c.2.2.2.1,c.2.2.1-c.2.1)] else []
theorem sV (p q i a j b:Nat):(chg i a j b).flatMap (vh p q)=[]:=by
 unfold chg
 split
 ·rfl
 ·split
  ·rfl
  ·split<;>rfl
noncomputable def shT (p q:Nat) (t:T3):T3:=(p+t.1,q+t.2.1,t.2.2)
theorem d4 (p q:Nat):∀ (L:List T3) (i j:Nat),(codes i j L).flatMap (vh p q)=(L.filter fun t=>decide (0<t.2.2)).map (shT p q)
 | [],_,_=>rfl
 | (a,b,s)::L,i,j=>by
  show(chg i a j b++(eql a b s++codes (a+s) (b+s) L)).flatMap _=_
  rw [um,sV,List.nil_append,um,d4 p q L (a+s) (b+s)]
  unfold eql
  by_cases c:s=0
  ·subst c;rfl
  ·rw [aw c,aD (by simpa using Nat.pos_of_ne_zero c)]
   show(p+a,q+b,a+s-a)::_=(p+a,q+b,s)::_
   rw [Nat.add_sub_cancel_left];rfl
theorem jE {p q na nb:Nat} {L:List T3} (h:∀ t∈L,0<t.2.2) (i j:Nat):(codes i j (L++[(na,nb,0)])).flatMap (vh p q)=L.map (shT p q):=by
 rw [d4,List.filter_append,List.filter_eq_self.mpr fun t ht=>dv (h t ht)]
 show(L++[]).map _=_
 rw [cv]
theorem iU (L:List T3):L.map (shT 0 0)=L:=by
 have:shT 0 0=id:=by funext t;show(0+t.1,0+t.2.1,t.2.2)=t;rw [ku,ku]
 rw [this,List.map_id]
theorem ur.shift {H H':Nat→Nat→Prop} {p q alo ahi blo bhi i j k:Nat} (e:∀ i j,H' i j↔H (p+i) (q+j)) (h:ur H' alo ahi blo bhi i j k):ur H (p+alo) (p+ahi) (q+blo) (q+bhi) (p+i) (q+j) k :=
 ⟨by have:=h.ai;(exact Ar.a1 [] [_,_,_] (.k (.a .v0 .v1) (.a .v0 .v2)) [[1,1]] (.k .v1 .v2) this),by have:=h.ia;(exact Ar.a1 [] [_,_,_,_] (.k (.a (.a .v0 .v1) .v2) (.a .v0 .v3)) [[1,1]] (.k (.a .v1 .v2) .v3) this),by have:=h.bj;(exact Ar.a1 [] [_,_,_] (.k (.a .v0 .v1) (.a .v0 .v2)) [[1,1]] (.k .v1 .v2) this),by have:=h.jb;(exact Ar.a1 [] [_,_,_,_] (.k (.a (.a .v0 .v1) .v2) (.a .v0 .v3)) [[1,1]] (.k (.a .v1 .v2) .v3) this),fun t ht=>by
  have:=(e _ _).mp (h.eq t ht)
  rwa [← Nat.add_assoc,← Nat.add_assoc] at this⟩
theorem ur.back {H H':Nat→Nat→Prop} {p q alo ahi blo bhi i j k:Nat} (e:∀ i j,H' i j↔H (p+i) (q+j)) (h:ur H (p+alo) (p+ahi) (q+blo) (q+bhi) i j k):ur H' alo ahi blo bhi (i-p) (j-q) k :=
 have:=h.ai;have:=h.bj
 ⟨by(rename_i z1;exact Ar.a2 [] [_,_,_,_] (.k .v0 .v1) [[1,1,-1]] (.k (.a .v2 .v0) .v3) (.e (.a .v1 .v2) .v3) z1 (aa (Ar.a1 [] [_,_,_] (.k .v0 .v1) [[1,1]] (.k (.a .v0 .v2) .v1) z1))),by have:=h.ia;(rename_i z2 z1;exact Ar.a2 [] [_,_,_,_,_] (.k (.a .v0 .v1) .v2) [[1,1,1]] (.k (.a .v3 .v1) (.a .v4 .v2)) (.e (.a .v0 .v4) .v3) this (aa (Ar.a1 [] [_,_,_] (.k .v0 .v1) [[1,1]] (.k (.a .v0 .v2) .v1) z2))),by(exact Ar.a2 [] [_,_,_,_] (.k .v0 .v1) [[1,1,-1]] (.k (.a .v2 .v0) .v3) (.e (.a .v1 .v2) .v3) this (aa (Ar.a1 [] [_,_,_] (.k .v0 .v1) [[1,1]] (.k (.a .v0 .v2) .v1) this))),by have:=h.jb;(rename_i z1;exact Ar.a2 [] [_,_,_,_,_] (.k (.a .v0 .v1) .v2) [[1,1,1]] (.k (.a .v3 .v1) (.a .v4 .v2)) (.e (.a .v0 .v4) .v3) this (aa (Ar.a1 [] [_,_,_] (.k .v0 .v1) [[1,1]] (.k (.a .v0 .v2) .v1) z1))),fun t ht=>(e _ _).mpr (by
  have:=h.eq t ht
  rw [show p+(i-p+t)=i+t by(rename_i z2 z1;exact Ar.a1 [] [_,_,_,_] (.e (.a .v0 (.a .v1 .v2)) (.a .v3 .v2)) [[1,-1],[1,1]] (.e (.a .v1 .v0) .v3) (aa (Ar.a1 [] [_,_,_] (.k .v0 .v1) [[1,1]] (.k (.a .v0 .v2) .v1) z2))),show q+(j-q+t)=j+t by(rename_i z1;exact Ar.a1 [] [_,_,_,_] (.e (.a .v0 (.a .v1 .v2)) (.a .v3 .v2)) [[1,-1],[1,1]] (.e (.a .v1 .v0) .v3) (aa (Ar.a1 [] [_,_,_] (.k .v0 .v1) [[1,1]] (.k (.a .v0 .v2) .v1) z1)))];exact this)⟩
theorem BT.shift {H H':Nat→Nat→Prop} {p q alo ahi blo bhi:Nat} {L:List T3} (e:∀ i j,H' i j↔H (p+i) (q+j)) (h:BT H' alo ahi blo bhi L):BT H (p+alo) (p+ahi) (q+blo) (q+bhi) (L.map (shT p q)):=by
 induction h with
 | nil n=>exact .nil fun i j a b c d hh=>n (i-p) (j-q) (by(exact Ar.a2 [] [_,_,_,_] (.k .v0 .v1) [[1,1,-1]] (.k (.a .v2 .v0) .v3) (.e (.a .v1 .v2) .v3) a (aa (Ar.a1 [] [_,_,_] (.k .v0 .v1) [[1,1]] (.k (.a .v0 .v2) .v1) a)))) (by(exact Ar.a2 [] [_,_,_,_] (.l .v0 .v1) [[1,1,1]] (.l .v2 (.a .v3 .v1)) (.e (.a .v0 .v3) .v2) b (aa (Ar.a1 [] [_,_,_] (.k .v0 .v1) [[1,1]] (.k (.a .v0 .v2) .v1) a)))) (by(exact Ar.a2 [] [_,_,_,_] (.k .v0 .v1) [[1,1,-1]] (.k (.a .v2 .v0) .v3) (.e (.a .v1 .v2) .v3) c (aa (Ar.a1 [] [_,_,_] (.k .v0 .v1) [[1,1]] (.k (.a .v0 .v2) .v1) c)))) (by(exact Ar.a2 [] [_,_,_,_] (.l .v0 .v1) [[1,1,1]] (.l .v2 (.a .v3 .v1)) (.e (.a .v0 .v3) .v2) d (aa (Ar.a1 [] [_,_,_] (.k .v0 .v1) [[1,1]] (.k (.a .v0 .v2) .v1) c)))) ((e _ _).mpr (by rw [show p+(i-p)=i by(exact Ar.a1 [] [_,_,_] (.e (.a .v0 .v1) .v2) [[1,-1],[1,1]] (.e (.a .v1 .v0) .v2) (aa (Ar.a1 [] [_,_,_] (.k .v0 .v1) [[1,1]] (.k (.a .v0 .v2) .v1) a))),show q+(j-q)=j by(exact Ar.a1 [] [_,_,_] (.e (.a .v0 .v1) .v2) [[1,-1],[1,1]] (.e (.a .v1 .v0) .v2) (aa (Ar.a1 [] [_,_,_] (.k .v0 .v1) [[1,1]] (.k (.a .v0 .v2) .v1) c)))];exact hh))
 | @node alo ahi blo bhi i j k L R B _ _ ihL ihR =>
  rw [di,gm]
  refine .node ⟨B.pos,B.run.shift e,fun i' j' k' h0 R'=>?_⟩ ihL ?_
  ·have m:k'<k∨(k'=k∧(i<i'-p∨(i=i'-p∧j≤j'-q))):=B.max _ _ _ h0 (R'.back e)
   have:=R'.ai;have:=R'.bj
   show k'<k∨(k'=k∧(p+i<i'∨(p+i=i'∧q+j≤j')))
   omega
  ·rw [Nat.add_assoc,Nat.add_assoc];exact ihR
theorem BT.AV {xs ys:List Int} {L:List T3} (h:BT (kq (ks xs) (ks ys)) 0 xs.length 0 ys.length L) {p q:Nat} (hp:p≤xs.length) (hq:q≤ys.length)
  (hc:∀ t∈L,(t.1+t.2.2≤p∧t.2.1+t.2.2≤q)∨(p≤t.1∧q≤t.2.1)) {L1 L2:List T3} (h1:BT (kq (ks (xs.take p)) (ks (ys.take q))) 0 (xs.take p).length 0 (ys.take q).length L1) (h2:BT (kq (ks (xs.drop p)) (ks (ys.drop q))) 0 (xs.drop p).length 0 (ys.drop q).length L2) :
  L1++L2.map (shT p q)=L:=by
 obtain⟨M1,M2,rfl,b1,b2⟩:=h.cut ⟨ba _,hp⟩ ⟨ba _,hq⟩ hc
 rw [dq,dq,Nat.min_eq_left hp,Nat.min_eq_left hq] at h1
 have h1:=h1.congr (H':=kq (ks xs) (ks ys)) fun i j _ a _ b=>by
  rw [kq.ints,kq.ints,List.getElem?_take_of_lt a,List.getElem?_take_of_lt b]
 have h2:=h2.shift (H:=kq (ks xs) (ks ys)) (p:=p) (q:=q) fun i j=>by
  rw [kq.ints,kq.ints,List.getElem?_drop,List.getElem?_drop]
 rw [fk,fk,Nat.add_zero,Nat.add_zero,Nat.add_sub_cancel' hp,Nat.add_sub_cancel' hq] at h2
 rw [h1.uniq b1,h2.uniq b2]
structure LB (H:Nat→Nat→Prop) (na nb:Nat) (S:Nat→Nat→Prop) (i j k:Nat):Prop where
 run:ur H 0 na 0 nb i j k
 zero:k=0→i=0∧j=0
 here:0<k→S i j
 max:∀ i' j' k',S i' j'→0<k'→ur H 0 na 0 nb i' j' k'→k'<k∨(k'=k∧(i<i'∨(i=i'∧j≤j')))
section
variable {H:Nat→Nat→Prop} {na nb:Nat} {S S':Nat→Nat→Prop} {i j k a b r:Nat}
theorem LB.start:LB H na nb (fun _ _=>False) 0 0 0:=⟨⟨aj _,ba _,aj _,ba _,fun t ht=>absurd ht (jh _)⟩,fun _=>⟨rfl,rfl⟩,fun h=>absurd h (gc 0),fun _ _ _ h=>h.elim⟩
theorem LB.cell (h:LB H na nb S i j k) (hs:∀ x y,S' x y↔S x y∨(x=a∧y=b)) (hl:∀ x y,S x y→x<a∨(x=a∧y<b)) (hr:ur H 0 na 0 nb a b r) (hm:∀ k',ur H 0 na 0 nb a b k'→k'≤r) :
  if k<r then LB H na nb S' a b r else LB H na nb S' i j k:=by
 by_cases c:k<r
 ·rw [bc c]
  refine⟨hr,fun q=>by(exact⟨(Ar.a2 [] [_,_,_] (.e .v0 .n0) [[0,1,1],[0,1,1]] (.l .v1 .v2) (.e .v2 .n0) c q),(Ar.a2 [] [_,_,_] (.e .v0 .n0) [[0,1,1],[0,1,1]] (.l .v1 .v2) (.e .v2 .n0) c q)⟩),fun _=>(hs a b).mpr (.inr ⟨rfl,rfl⟩),fun i' j' k' s p R=>?_⟩
  rcases (hs i' j').mp s with s | ⟨rfl,rfl⟩
  ·have:=h.max _ _ _ s p R;(exact .inl (this.elim (fun q1=>(Ar.a2 [] [_,_,_] (.l .v0 .v1) [[1,1,1]] (.l .v2 .v1) (.l .v0 .v2) c q1)) fun q1=>(Ar.a2 [] [_,_,_] (.l .v0 .v1) [[1,1,1]] (.l .v2 .v1) (.e .v0 .v2) c q1.1)))
  ·have:=hm _ R;(exact gx fun q1=>((ah.mp (jz.mp q1).2).elim (fun q2=>((ak q2).elim (fun q3=>(Ar.a2 [] [_,_] .ff [[0,1,1]] (.g .v0 .v1) (.l .v0 .v1) (jz.mp q1).1 q3)) fun q3=>(Ar.a2 [] [_,_] .ff [[0,1,1]] (.k .v0 .v1) (.l .v1 .v0) this q3))) fun q2=>((ah.mp (jz.mp q2).2).elim (fun q3=>((ak q3).elim (fun q4=>(Ar.a1 [] [_] .ff [[0,1]] (.l .v0 .v0) q4)) fun q4=>(Ar.a1 [] [_] .ff [[0,1]] (.l .v0 .v0) q4))) fun q3=>(Ar.a1 [] [_] .ff [[0,1]] (.j .v0 .v0) q3))))
 ·rw [aw c]
  refine⟨h.run,h.zero,fun q=>(hs _ _).mpr (.inl (h.here q)),fun i' j' k' s p R=>?_⟩
  rcases (hs i' j').mp s with s | ⟨rfl,rfl⟩
  ·exact h.max _ _ _ s p R
  ·have:=hm _ R
   have:=hl _ _ (h.here (by(exact Ar.a3 [] [_,_,_] (.l .n0 .v0) [[1,1,1,1]] (.g .v0 .v1) (.l .n0 .v2) (.k .v2 .v1) c p this)))
   (rename_i z1;exact gx fun q1=>((ah.mp (jz.mp q1).2).elim (fun q2=>((ak q2).elim (fun q3=>(Ar.a2 [] [_,_] .ff [[0,1,1]] (.g .v0 .v1) (.l .v0 .v1) (jz.mp q1).1 q3)) fun q3=>(Ar.a3 [] [_,_,_] .ff [[0,1,1,1]] (.g .v0 .v1) (.k .v2 .v1) (.l .v0 .v2) c z1 q3))) fun q2=>(this.elim (fun q3=>(Ar.a2 [] [_,_] .ff [[0,1,1]] (.g .v0 .v1) (.l .v0 .v1) (jz.mp q2).1 q3)) fun q3=>((ah.mp (jz.mp q2).2).elim (fun q4=>((ak q4).elim (fun q5=>(Ar.a2 [] [_,_] .ff [[0,-1,1]] (.e .v0 .v1) (.l .v0 .v1) q3.1 q5)) fun q5=>(Ar.a2 [] [_,_] .ff [[0,1,1]] (.e .v0 .v1) (.l .v1 .v0) q3.1 q5))) fun q4=>(Ar.a2 [] [_,_] .ff [[0,1,1]] (.l .v0 .v1) (.j .v0 .v1) q3.2 q4)))))
theorem LB.congr (h:LB H na nb S i j k) (hs:∀ x y,S' x y↔S x y):LB H na nb S' i j k:=⟨h.run,h.zero,fun q=>(hs _ _).mpr (h.here q),fun i' j' k' s=>h.max i' j' k' ((hs _ _).mp s)⟩
theorem LB.best (h:LB H na nb S i j k) (hs:∀ x y,x<na→y<nb→S x y) {L:List T3} (hL:BT H 0 na 0 nb L):(k=0∧L=[])∨(0<k∧(i,j,k)∈L∧tf H 0 na 0 nb i j k):=by
 have mx:∀ i' j' k',0<k'→ur H 0 na 0 nb i' j' k'→k'<k∨(k'=k∧(i<i'∨(i=i'∧j≤j'))):=fun i' j' k' p R=>h.max _ _ _ (hs _ _ (by have:=R.ia;(exact Ar.a2 [] [_,_,_] (.l .v0 .v1) [[1,1,1]] (.l .n0 .v2) (.k (.a .v0 .v2) .v1) p this)) (by have:=R.jb;(exact Ar.a2 [] [_,_,_] (.l .v0 .v1) [[1,1,1]] (.l .n0 .v2) (.k (.a .v0 .v2) .v1) p this))) p R
 cases hL with
 | nil n =>
  refine .inl ⟨?_,rfl⟩
  by_cases c:k=0
  ·exact c
  ·have R:=h.run
   exact(n i j R.ai (by have:=R.ia;(exact(ak c).elim (fun q1=>(Ar.a1 [] [_,_,_] (.l .v0 .v1) [[0,1]] (.l .v2 .n0) q1)) fun q1=>(Ar.a2 [] [_,_,_] (.l .v0 .v1) [[1,1,1]] (.k (.a .v0 .v2) .v1) (.l .n0 .v2) this q1))) R.bj (by have:=R.jb;(exact(ak c).elim (fun q1=>(Ar.a1 [] [_,_,_] (.l .v0 .v1) [[0,1]] (.l .v2 .n0) q1)) fun q1=>(Ar.a2 [] [_,_,_] (.l .v0 .v1) [[1,1,1]] (.k (.a .v0 .v2) .v1) (.l .n0 .v2) this q1))) (R.eq 0 (Nat.pos_of_ne_zero c))).elim
 | node B _ _ =>
  have p:0<k:=by have:=mx _ _ _ B.pos B.run;have:=B.pos;(rename_i z1;exact z1.elim (fun q1=>(Ar.a1 [] [_,_] (.l .n0 .v0) [[1,1]] (.l .v1 .v0) q1)) fun q1=>(Ar.a2 [] [_,_] (.l .n0 .v0) [[1,1,1]] (.l .n0 .v1) (.e .v1 .v0) this q1.1))
  have B':tf H 0 na 0 nb i j k:=⟨p,h.run,mx⟩
  obtain⟨rfl,rfl,rfl⟩:=B.uniq B'
  exact .inr ⟨p,fo _ (.head _),B'⟩
end
theorem lH {H:Nat→Nat→Prop} {na nb i j k:Nat} {L:List T3} (hp:L.Pairwise nr) (hr:∀ t∈L,0<t.2.2∧ur H 0 na 0 nb t.1 t.2.1 t.2.2) (hm:(i,j,k)∈L) (B:tf H 0 na 0 nb i j k):(L.filter fun t=>decide (k≤t.2.2)).take 1=[(i,j,k)]:=by
 induction L with
 | nil=>cases hm
 | cons t L ih =>
  obtain⟨ha,hp⟩:=pz.mp hp
  have ht:=hr t (.head _)
  have m:=B.max _ _ _ ht.1 ht.2
  by_cases c:k≤t.2.2
  ·rw [aD (p:=fun t:T3=>decide (k≤t.2.2)) (dv c)]
   show [t]=_
   rcases br.mp hm with e | e
   ·rw [e]
   ·have:=ha _ e
    unfold nr at this
    simp only at this
    (exact False.elim (m.elim (fun q1=>(Ar.a2 [] [_,_] .ff [[0,1,1]] (.k .v0 .v1) (.l .v1 .v0) c q1)) fun q1=>(q1.2.elim (fun q2=>(Ar.a2 [] [_,_,_] .ff [[0,1,1]] (.k (.a .v0 .v1) .v2) (.l .v2 .v0) this.1 q2)) fun q2=>(Ar.a3 [] [_,_,_] .ff [[0,1,1,1]] (.l .n0 .v0) (.k (.a .v1 .v0) .v2) (.e .v2 .v1) ht.1 this.1 q2.1))))
  ·rw [List.filter_cons_of_neg (p:=fun t:T3=>decide (k≤t.2.2)) (by simpa using c)]
   rcases br.mp hm with e | e
   ·rw [← e] at c;exact absurd (aj k) c
   ·exact ih hp (fun u hu=>hr u (.tail _ hu)) e
end MP
end
section
namespace MP
open PySem SM
noncomputable def Gv (C:Cal) (ρ:Fr) (σb:St) (e:Ex) (xs:List V):Prop:=∀ (σ:St) (Q:V→St→Prop),Ext σb σ→(∀ c σ',Ext σ σ'→σ'.L c=some xs→Q (.lst c) σ')→wpE C e ρ σ Q
noncomputable def Fv (C:Cal) (ρ:Fr) (σb:St) (e:Ex) (xs:List V):Prop:=∀ (σ:St) (Q:V→St→Prop),Ext σb σ→(∀ c σ',Ext σ σ'→σ.L c=none→σ'.L c=some xs→Q (.lst c) σ')→wpE C e ρ σ Q
section
variable {C:Cal} {ρ:Fr} {σb:St} {e f:Ex} {xs ys:List V}
theorem Fv.g (h:Fv C ρ σb e xs):Gv C ρ σb e xs:=fun σ Q E k=>h σ Q E fun c σ' E' _=>k c σ' E'
theorem Gv.loc {x:Nat} {l:Addr} (hx:ρ x=some (.lst l)) (hl:σb.L l=some xs):Gv C ρ σb (.loc x) xs:=fun σ Q E k=>⟨_,hx,k l σ (Ext.refl σ) (E.L _ _ hl)⟩
theorem Fv.lst {es:Exs} (h:∀ σ,Ext σb σ→bW σ ρ es=some xs) (hl:xs.length≤av):Fv C ρ σb (.lst es) xs:=fun σ Q E k =>
 tw (Q:=fun vs σ=>vs.length≤av∧∀ c,σ.L c=none→Q (.lst c) (σ.cw c vs)) es (h σ E) ⟨hl,fun c hc=>k c _ ((Ext.refl σ).cw hc) hc (bp _ _ _)⟩
theorem Gv.cat (h1:Gv C ρ σb e xs) (h2:Gv C ρ σb f ys) (hl:xs.length+ys.length≤av):Fv C ρ σb (.bin .add e f) (xs++ys):=fun σ Q E k =>
 h1 σ _ E fun a σ1 E1 ha=>h2 σ1 _ (E.trans E1) fun b σ2 E2 hb=>⟨xs,ys,E2.L _ _ ha,hb,hl,fun c hc=>k c _ ((E1.trans E2).cw ((E1.trans E2).noL hc)) ((E1.trans E2).noL hc) (bp _ _ _)⟩
theorem Gv.slc {lo hi:Ex} {i j:Int} (h:Gv C ρ σb e xs) (hlo:∀ σ,Ext σb σ→∃ v,evV σ ρ lo=some v∧zi 0 v=some i) (hhi:∀ σ,Ext σb σ→∃ v,evV σ ρ hi=some v∧zi xs.length v=some j) (h1:i.natAbs<2^60) (h2:j.natAbs<2^60) :
  Fv C ρ σb (.slc e lo hi) ((xs.take (dj xs.length j)).drop (dj xs.length i)):=fun σ Q E k=>by
 refine h σ _ E fun a σ1 E1 ha=>?_
 obtain⟨v,ev,iv⟩:=hlo σ1 (E.trans E1)
 obtain⟨u,eu,iu⟩:=hhi σ1 (E.trans E1)
 refine eg (Q:=fun va σ=>wpE C hi ρ σ fun vb σ=>mG (.lst a) va vb σ Q) lo ev ?_
 refine eg (Q:=fun vb σ=>mG (.lst a) v vb σ Q) hi eu ?_
 exact⟨xs,i,j,ha,iv,iu,h1,h2,fun c hc=>k c _ (E1.cw (E1.noL hc)) (E1.noL hc) (bp _ _ _)⟩
theorem pH {α:Type} {us:List α} {G:St→Prop} {T:V→Fr→List V→St→(Fr→List V→St→Prop)→Prop} {K:Fr→List V→St→Prop} (f:α→V) (g:α→List V) (hg:∀ v∈us,(g v).length≤1) (Inv:Fr→Prop) {σ:St} (hG:G σ)
  (hT:∀ v∈us,∀ ρ acc K',Inv ρ→acc.length<us.length→(∀ ρ',Inv ρ'→K' ρ' (acc++g v) σ)→T (f v) ρ acc σ K') {ρ:Fr} (hi:Inv ρ) (hK:∀ ρ,K ρ (us.flatMap g) σ):eG (us.map f) G T ρ [] σ K:=by
 have go:∀ (ws vs:List α) (ρ:Fr) (acc:List V),vs++ws=us→acc=vs.flatMap g→acc.length≤vs.length→Inv ρ→eG (ws.map f) G T ρ acc σ K:=by
  intro ws
  induction ws with
  | nil =>
   intro vs ρ acc e ha _ _
   rw [cv] at e
   subst e;subst ha
   exact⟨hG,hK ρ⟩
  | cons w ws ih =>
   intro vs ρ acc e ha hl hi
   have hw:w∈us:=by rw [← e];exact fo _ (.head _)
   have hn:us.length=vs.length+(ws.length+1):=by rw [← e,bx,fu]
   have:=hg w hw
   refine⟨hG,hT w hw ρ acc _ hi (by(exact Ar.a2 [] [_,_,_,_] (.l .v0 .v1) [[1,1,-1]] (.k .v0 .v2) (.e .v1 (.a .v2 (.a .v3 .n1))) hl hn)) fun ρ' hi'=>ih (vs++[w]) ρ' _ (by rw [gu];exact e) (by rw [ha,um,List.flatMap_cons,List.flatMap_nil,cv]) (by rw [bx,bx,ib];(exact Ar.a2 [] [_,_,_] (.k (.a .v0 .v1) (.a .v2 .n1)) [[1,1,1]] (.k .v0 .v2) (.k .v1 .n1) hl this)) hi'⟩
 exact go us [] ρ [] rfl rfl (aj _) hi
noncomputable def Gives (C:Cal) (σ:St) (ρ:Fr) (cs:Exs) (el:Ex) (r:List V):Prop:=∃ ok:Bool,(∀ Q:Bool→St→Prop,Q ok σ→ti C cs ρ σ Q)∧if ok then ∃ w,evV σ ρ el=some w∧r=[w] else r=[]
theorem Gives.one {σ:St} {el:Ex} {w:V} (h:evV σ ρ el=some w):Gives C σ ρ .nil el [w]:=⟨true,fun Q q=>q,w,h,rfl⟩
theorem Gives.test {σ:St} {c el:Ex} {r:List V} {b:Bool} (hc:evT σ ρ c=some b) (h:if b then ∃ w,evV σ ρ el=some w∧r=[w] else r=[]):Gives C σ ρ (.cons c .nil) el r:=⟨b,fun Q q=>pn c hc (by cases b with
 | true=>exact aN q
 | false=>exact xj q),h⟩
theorem Fv.comp {α:Type} {us:List α} {fv:List (Nat × Nat)} {t:Tg} {cs:Exs} {el:Ex} {u:α→V} (g:α→List V) (Inv:Fr→Prop) (hsrc:Gv C ρ σb e (us.map u)) (hi:Inv (aV fv ρ)) (hlen:us.length≤av)
  (hb:∀ σ,Ext σb σ→∀ v∈us,∀ ρ',Inv ρ'→∀ K:Fr→Prop,(∀ ρ'',Inv ρ''→Gives C σ ρ'' cs el (g v)→K ρ'')→mj t (u v) σ ρ' K):Fv C ρ σb (.comp fv (.seq e) t cs (.elt el)) (us.flatMap g):=fun σ Q E k=>by
 rw [qA,pX]
 refine hsrc σ _ E fun a σ1 E1 ha=>⟨_,ha,?_⟩
 have hg:∀ v∈us,(g v).length≤1:=fun v hv=>by
  have:=hb σ1 (E.trans E1) v hv _ hi (fun _=>(g v).length≤1) fun ρ'' _ G=>by
   obtain⟨ok,_,h⟩:=G
   cases ok with
   | true=>obtain⟨w,_,e⟩:=h;rw [e];exact aj _
   | false=>rw [show g v=[] from h];exact ba _
  cases t with
  | var x=>exact this
  | tup ys=>obtain⟨_,_,_,this⟩:=this;exact this
 refine pH u g hg Inv ha (fun v hv ρ' acc K' hi' hacc hK=>?_) hi fun ρ' c hc=>k c _ (E1.cw (E1.noL hc)) (E1.noL hc) (bp _ _ _)
 refine hb σ1 (E.trans E1) v hv ρ' hi' _ fun ρ'' hi'' G=>?_
 obtain⟨ok,h1,h2⟩:=G
 refine h1 _ ?_
 cases ok with
 | true =>
  obtain⟨w,hw,e⟩:=h2
  refine aN (eg el hw ⟨by(exact Ar.a2 [] [_,_,_] (.l .v0 .v1) [[1,1,1]] (.k .v2 .v1) (.l .v0 .v2) hlen hacc),?_⟩)
  rw [← e]
  exact hK _ hi''
 | false =>
  refine xj ?_
  have:=hK _ hi''
  rw [show g v=[] from h2,cv] at this
  exact this
end
theorem tY {C:Cal} {ρ:Fr} {σ:St} {K:Fl→Fr→St→Prop} {ss:jf} {x:Nat} {e:Ex} {xs:List V} (h:Fv C ρ σ e xs) (k:∀ c σ',Ext σ σ'→σ.L c=none→σ'.L c=some xs→dk C ss (upd ρ x (.lst c)) σ' K):dk C (.cons (.assign [.var x] e) ss) ρ σ K :=
 h σ _ (Ext.refl σ) fun c σ' E hc hx=>k c σ' E hc hx
theorem yp (n:Nat):dj n 0=0:=by unfold dj fm;rw [aw (by(exact Ar.a0 [] [] (.ig .n0 .n0) [[1]]))];exact Nat.min_zero n
theorem om {n i:Nat} (h:i≤n):dj n (i:Int)=i:=by unfold dj fm;rw [aw (by(exact Ar.a0 [] [_] (.ig (.t .v0) .n0) [[1]])),eh];exact Nat.min_eq_right h
noncomputable def dO (t:O5):PyData:=.tuple [.str t.1,.int t.2.1,.int t.2.2.1,.int t.2.2.2.1,.int t.2.2.2.2]
theorem A9 (t:O5):PyData.eqv (dO t) (dO t)=true:=by simp [dO,PyData.eqv,PyData.eqvAll]
theorem fF:∀ L:List O5,PyData.eqvAll (L.map dO) (L.map dO)=true
 | []=>by simp [PyData.eqvAll]
 | t::L=>by simp [PyData.eqvAll,A9,fF L]
theorem xC {σ:St} {n:Nat} {t:O5} (h:PyData.strOk t.1=true):vj σ (n+1) (oV t)=some (dO t):=by
 have e:vj σ n (.str t.1)=some (.str t.1):=by
  cases n<;>exact bc h
 show(([V.str t.1,.int t.2.1,.int t.2.2.1,.int t.2.2.2.1,.int t.2.2.2.2].mapM (vj σ n)).map PyData.tuple)=_
 rw [mapM_some (g:=fun v=>match v with | .str s=>PyData.str s | .int i=>.int i | _=>.none)]
 ·rfl
 ·intro v hv
  rcases br.mp hv with rfl | hv
  ·exact e
  ·have:∃ i,v=.int i:=by
    rcases br.mp hv with rfl | hv
    ·exact⟨_,rfl⟩
    rcases br.mp hv with rfl | hv
    ·exact⟨_,rfl⟩
    rcases br.mp hv with rfl | hv
    ·exact⟨_,rfl⟩
    ·exact⟨_,aq.mp hv⟩
   obtain⟨i,rfl⟩:=this
   cases n<;>rfl
theorem nP {σ:St} {n:Nat} {a:Addr} {L:List O5} (h:σ.L a=some (L.map oV)) (hs:∀ t∈L,PyData.strOk t.1=true):vj σ (n+2) (.lst a)=some (.list (L.map dO)):=by
 show((σ.L a).bind fun xs=>(xs.mapM (vj σ (n+1))).map PyData.list)=_
 rw [h]
 show((L.map oV).mapM (vj σ (n+1))).map PyData.list=_
 rw [mapM_some (g:=fun v=>match v with | .tup [.str s,.int a,.int b,.int c,.int d]=>PyData.tuple [.str s,.int a,.int b,.int c,.int d] | _=>.none)]
 ·rw [ky];rfl
 ·intro v hv
  obtain⟨t,ht,rfl⟩:=dh.mp hv
  exact xC (hs t ht)
theorem uO:PyData.strOk "replace"=true:=by decide +kernel
theorem uN:PyData.strOk "delete"=true:=by decide +kernel
theorem uM:PyData.strOk "insert"=true:=by decide +kernel
theorem uL:PyData.strOk "equal"=true:=by decide +kernel
theorem AB {i a j b:Nat}:∀ t∈chg i a j b,PyData.strOk t.1=true:=by
 unfold chg
 intro t ht
 split at ht
 ·rw [aq.mp ht];exact uO
 ·split at ht
  ·rw [aq.mp ht];exact uN
  ·split at ht
   ·rw [aq.mp ht];exact uM
   ·cases ht
theorem jU:∀ {L:List T3} {i j:Nat},∀ t∈codes i j L,PyData.strOk t.1=true
 | [],_,_,_,h=>by cases h
 | (a,b,s)::L,i,j,t,h=>by
  rcases cy.mp h with h | h
  ·exact AB t h
  ·rcases cy.mp h with h | h
   ·unfold eql at h
    split at h
    ·cases h
    ·rw [aq.mp h];exact uL
   ·exact jU t h
theorem yL {σ:St} {a b:Addr} {L:List O5} {K:Bool→Prop} (ha:σ.L a=some (L.map oV)) (hb:σ.L b=some (L.map oV)) (hs:∀ t∈L,PyData.strOk t.1=true) (h:K true):fV (.lst a) (.lst b) σ K:=by
 refine⟨_,_,nP ha hs,nP hb hs,?_⟩
 have:PyData.eqv (.list (L.map dO)) (.list (L.map dO))=true:=by
  simp [PyData.eqv,fF]
 rw [this];exact h
theorem yJ {σ:St} {a b:Addr} {L:List O5} {K:Bool→Prop} (ha:σ.L a=some (L.map oV)) (hb:σ.L b=some (L.map oV)) (hs:∀ t∈L,PyData.strOk t.1=true) (h:K false):b5 .ne (.lst a) (.lst b) σ K:=yL (K:=fun r=>K (!r)) ha hb hs h
namespace SM
theorem told {P:Nat→Option Fn} (h0:P 0=some fn0) (h1:P 1=some fn1) (h2:P 2=some fn2) (h3:P 3=some fn3) (h4:P 4=some fn4) (h5:P 5=some fn5) (h6:P 6=some fn6) (h7:P 7=some fn7) {n:Nat} {es:Exs} {ρ:Fr} {σ:St} {la lb:Addr} {xs ys:List Int} {Q:V→St→Prop}
  (hE:∀ Q:List V→St→Prop,Q [.none,.lst la,.lst lb,.bool false] σ→nz (dn P (n+4)) es ρ σ Q) (hLa:σ.L la=some (iV xs)) (hLb:σ.L lb=some (iV ys)) (hza:xs.length<64) (hzb:ys.length<400000)
  (h:∀ σ' c L,Ext σ σ'→BT (kq (ks xs) (ks ys)) 0 xs.length 0 ys.length L→σ.L c=none→σ'.L c=some ((codes 0 0 (L++[(xs.length,ys.length,0)])).map oV)→Q (.lst c) σ'):wpE (dn P (n+4)) (.meth (.newM es) 7 .nil) ρ σ Q:=by
 rw [q9]
 have lx:(ks xs).length=xs.length:=ax _
 have ly:(ks ys).length=ys.length:=ax _
 refine make h0 h1 h2 h3 h4 (la:=la) (lb:=lb) (as:=ks xs) (bs:=ks ys) hE (by rw [BB];exact hLa) (by rw [BB];exact hLb) (by rw [ly];unfold av;(exact Ar.a1 [] [_] (.l .v0 (.n 1000000)) [[1,1]] (.l .v0 (.n 400000)) hzb)) fun σ1 x d f db sj E1 hx0 hx f4 f5 M=>?_
 refine⟨x,rfl,by rw [hx];rfl,?_⟩
 have hj:(fun c:Key=>decide (c∈([]:List Key)))=fun _=>false:=by funext c;simp
 refine vS h7 h6 h5 (n:=n+1) M hx f4 f5 (yA _) (yA _) (by rw [ly];exact hzb) (by rw [lx];(exact Ar.a1 [] [_] (.l .v0 (.n 400000)) [[1,1]] (.l .v0 (.n 64)) hza)) (fun L b=>?_) fun σ2 c L g E2 b hc hg _ _ hcL=>?_
 ·rw [hj] at b
  have bt:=b.AP
  have:=aY (lo:=0) bt.ok.1 bt.ok.2.1 (fun _ _=>ba _) (ba _)
  rw [lx] at this;(exact Ar.a2 [] [_,_] (.l .v0 (.n 64)) [[1,1,1]] (.l .v1 (.n 64)) (.k (.a .n0 .v0) .v1) hza this)
 rw [hj] at b
 have bt:=b.AP
 rw [vY bt.vW fun u hu=>(bt.ok.1 u hu).2] at hcL
 rw [lx,ly] at hcL bt
 exact h σ2 c L (E2.ext E1 hx0) bt (E1.noL hc) hcL
end SM
end MP
end
section
namespace MP
open PySem SM
noncomputable def pV (p:P2):V:=.tup [.int p.1,.int p.2]
section
variable {σ:St} {ρ:Fr} {a b c e:Ex} {m n k l:Nat}
theorem ev2 (ha:evV σ ρ a=some (.int m)) (hb:evV σ ρ b=some (.int n)):evV σ ρ (.tup (.cons a (.cons b .nil)))=some (pV (m,n)):=by
 rw [zk,ee,ha,ee,hb];rfl
theorem hV (ha:evV σ ρ a=some (.int m)) (hb:evV σ ρ b=some (.int n)) (h:n≤m):evV σ ρ (.bin .sub a b)=some (.int (m-n:Nat)):=by
 rw [zm,ha,hb]
 show some (V.int ((m:Int)-n))=_
 rw [Int.ofNat_sub h]
theorem aS {x:Nat} {al:Addr} {xs:List V} {v:V} (hx:ρ x=some (.lst al)) (hL:σ.L al=some xs) (hi:evV σ ρ e=some (.int n)) (hv:xs[n]?=some v):evV σ ρ (.sub (.loc x) e)=some v:=by
 rw [zl,ow,hx,hi]
 show jH σ (.lst al) (.int n)=_
 show(σ.L al).bind (fun xs=>dC xs n)=_
 rw [hL]
 show dC xs n=_
 unfold dC
 rw [ir,bc (by(exact Ar.a0 [] [_] (.ik .n0 (.t .v0)) [[1]])),eh]
 exact hv
theorem yI {p q:P2} {K:Bool→Prop} (h:K (decide (p≠q))):b5 .ne (pV p) (pV q) σ K:=by
 refine⟨.tuple [.int p.1,.int p.2],.tuple [.int q.1,.int q.2],rfl,rfl,?_⟩
 have:(!PyData.eqv (.tuple [.int p.1,.int p.2]) (.tuple [.int q.1,.int q.2]))=decide (p≠q):=by
  obtain⟨a,b⟩:=p
  obtain⟨c,d⟩:=q
  by_cases e1:a=c
  ·by_cases e2:b=d
   ·simp [PyData.eqv,PyData.eqvAll,e1,e2]
   ·simp [PyData.eqv,PyData.eqvAll,e1,e2];(exact(ak e2).elim (fun q1=>(Ar.a1 [] [_,_] (.iu (.t .v0) (.t .v1)) [[-1,1]] (.l .v0 .v1) q1)) fun q1=>(Ar.a1 [] [_,_] (.iu (.t .v0) (.t .v1)) [[1,1]] (.l .v1 .v0) q1))
  ·simp [PyData.eqv,PyData.eqvAll,e1];(exact .inl ((ak e1).elim (fun q1=>(Ar.a1 [] [_,_] (.iu (.t .v0) (.t .v1)) [[-1,1]] (.l .v0 .v1) q1)) fun q1=>(Ar.a1 [] [_,_] (.iu (.t .v0) (.t .v1)) [[1,1]] (.l .v1 .v0) q1)))
 show K (!PyData.eqv _ _)
 rw [this];exact h
end
noncomputable def sW:jf:=(.cons (.ret (.comp [(6,1),(7,2)] (.seq (.loc 0)) (.tup [1,2,3,4,5]) (.cons (.cmp .eq (.loc 1) (.str "equal")) .nil) (.elt (.tup (.cons (.bin .add (.loc 6) (.loc 2)) (.cons (.bin .add (.loc 7) (.loc 4)) (.cons (.bin .sub (.loc 3) (.loc 2)) .nil)))))))
 .nil)
theorem n9 {P:Nat→Option Fn} {k n p q:Nat} (hk:P k=some ⟨3,[],sW⟩) {σ:St} {lc:Addr} {cs:List O5} {Q:V→St→Prop} (hc:σ.L lc=some (cs.map oV)) (hl:cs.length<av) (hm:∀ t∈cs,isEq t=true→t.2.1≤t.2.2.1)
  (h:∀ c σ',Ext σ σ'→σ.L c=none→σ'.L c=some ((cs.flatMap (vh p q)).map tV)→Q (.lst c) σ'):dn P (n+1) k [.lst lc,.int p,.int q] σ Q:=by
 refine⟨_,hk,aj 3,aj 3,?_⟩
 have e:(cs.flatMap fun t=>(vh p q t).map tV)=(cs.flatMap (vh p q)).map tV:=by rw [List.map_flatMap]
 rw [← e] at h
 refine Fv.comp (C:=dn P n) (u:=oV) (us:=cs) (fun t=>(vh p q t).map tV) (fun ρ=>ρ 6=some (.int p)∧ρ 7=some (.int q)) (Gv.loc rfl hc) ⟨rfl,rfl⟩ (kx hl) (fun σ' E t ht ρ' zz K hK=>?_) σ _ (Ext.refl σ) h
 obtain⟨r6,r7⟩:=zz
 refine⟨_,rfl,rfl,hK _ ⟨r6,r7⟩ ?_⟩
 refine Gives.test (b:=isEq t) (by unfold isEq;rfl) ?_
 unfold vh
 cases q:isEq t with
 | false=>rfl
 | true=>exact⟨_,ev3 (fx (a:=.loc 6) (b:=.loc 2) r6 rfl) (fx (a:=.loc 7) (b:=.loc 4) r7 rfl) (hV (a:=.loc 3) (b:=.loc 2) rfl rfl (hm t ht q)),rfl⟩
theorem dN:∀ {L:List T3} {i j:Nat},∀ t∈codes i j L,isEq t=true→t.2.1≤t.2.2.1
 | [],_,_,_,h,_=>by cases h
 | (a,b,s)::L,i,j,t,h,q=>by
  rcases cy.mp h with h | h
  ·unfold chg at h
   split at h
   ·rw [aq.mp h] at q;cases q
   ·split at h
    ·rw [aq.mp h] at q;cases q
    ·split at h
     ·rw [aq.mp h] at q;cases q
     ·cases h
  ·rcases cy.mp h with h | h
   ·unfold eql at h
    split at h
    ·cases h
    ·rw [aq.mp h];exact sd _ _
   ·exact dN t h q
theorem fI:∀ {L:List T3} {i j:Nat},(codes i j L).length≤2*L.length
 | [],_,_=>aj _
 | (a,b,s)::L,i,j=>by
  have:=fI (L:=L) (i:=a+s) (j:=b+s)
  have h1:=nR i a j b
  have h2:=nJ a b s
  show(chg i a j b++(eql a b s++codes (a+s) (b+s) L)).length≤_
  rw [bx,bx,fu]
  (exact Ar.a3 [] [_,_,_,_] (.k (.a .v0 (.a .v1 .v2)) (.m 2 (.a .v3 .n1))) [[1,1,1,1]] (.k .v2 (.m 2 .v3)) (.k .v0 .n1) (.k .v1 .n1) this h1 h2)
noncomputable def pO:jf:=(.cons (.assign [(.var 3)] (.lst (.cons (.tup (.cons (.int 0) (.cons (.int 0) .nil))) .nil)))
 (.cons (.each (.tup [4,5,6]) (.seq (.loc 0)) (.cons (.expr (.bm .extend (.loc 3) (.cons (.lst (.cons (.tup (.cons (.loc 4) (.cons (.loc 5) .nil))) (.cons (.tup (.cons (.bin .add (.loc 4) (.loc 6)) (.cons (.bin .add (.loc 5) (.loc 6)) .nil))) .nil))) .nil)))
 .nil))
 (.cons (.expr (.bm .append (.loc 3) (.cons (.tup (.cons (.loc 1) (.cons (.loc 2) .nil))) .nil)))
 (.cons (.assign [(.var 7)] (.lst .nil))
 (.cons (.each (.var 8) (.rng2 (.int 1) (.bf .len (.cons (.loc 3) .nil))) (.cons (.assign [(.tup [9,10])] (.sub (.loc 3) (.bin .sub (.loc 8) (.int 1))))
 (.cons (.assign [(.tup [11,12])] (.sub (.loc 3) (.loc 8)))
 (.cons (.assign [(.var 13)] (.ite (.cmp .eq (.bin .mod (.loc 8) (.int 2)) (.int 0)) (.str "equal") (.ite (.cmp .eq (.loc 9) (.loc 11)) (.str "insert") (.ite (.cmp .eq (.loc 10) (.loc 12)) (.str "delete") (.str "replace")))))
 (.cons (.cond (.cmp .ne (.tup (.cons (.loc 9) (.cons (.loc 10) .nil))) (.tup (.cons (.loc 11) (.cons (.loc 12) .nil)))) (.cons (.expr (.bm .append (.loc 7) (.cons (.tup (.cons (.loc 13) (.cons (.loc 9) (.cons (.loc 11) (.cons (.loc 10) (.cons (.loc 12) .nil)))))) .nil)))
 .nil) .nil)
 .nil)))))
 (.cons (.ret (.loc 7))
 .nil))))))
theorem lA {σ:St} {ρ:Fr} {c a b:Ex} {p:Prop} [Decidable p] {x y:Str} (hc:evT σ ρ c=some (decide p)) (ha:evV σ ρ a=some (.str x)) (hb:evV σ ρ b=some (.str y)):evV σ ρ (.ite c a b)=some (.str (if p then x else y)):=by
 show(evT σ ρ c).bind (fun t=>if t then evV σ ρ a else evV σ ρ b)=_
 rw [hc]
 by_cases h:p
 ·rw [dv h,bc h];exact ha
 ·rw [dp h,aw h];exact hb
theorem lT {C:Cal} {σ:St} {ρ:Fr} {K:Fl→Fr→St→Prop} {again:Fr→St→Prop} {el tl:Addr} {E:List P2} {acc:List O5} {t:Nat} {p q:P2} (r3:ρ 3=some (.lst el)) (r7:ρ 7=some (.lst tl)) (hE:σ.L el=some (E.map pV)) (hT:σ.L tl=some (acc.map oV)) (hacc:acc.length<av)
  (hp:E[t]?=some p) (hq:E[t+1]?=some q) (h:∀ ρ',ρ' 3=some (.lst el)→ρ' 7=some (.lst tl)→again ρ' (σ.cw tl ((acc++stp (t+1) p q).map oV))) :
  dk C (.cons (.assign [(.tup [9,10])] (.sub (.loc 3) (.bin .sub (.loc 8) (.int 1))))
 (.cons (.assign [(.tup [11,12])] (.sub (.loc 3) (.loc 8)))
 (.cons (.assign [(.var 13)] (.ite (.cmp .eq (.bin .mod (.loc 8) (.int 2)) (.int 0)) (.str "equal") (.ite (.cmp .eq (.loc 9) (.loc 11)) (.str "insert") (.ite (.cmp .eq (.loc 10) (.loc 12)) (.str "delete") (.str "replace")))))
 (.cons (.cond (.cmp .ne (.tup (.cons (.loc 9) (.cons (.loc 10) .nil))) (.tup (.cons (.loc 11) (.cons (.loc 12) .nil)))) (.cons (.expr (.bm .append (.loc 7) (.cons (.tup (.cons (.loc 13) (.cons (.loc 9) (.cons (.loc 11) (.cons (.loc 10) (.cons (.loc 12) .nil)))))) .nil)))
 .nil) .nil)
 .nil)))) (upd ρ 8 (.int (t+1:Nat))) σ (qo again K):=by
 have at_:∀ {i:Nat} {p:P2},E[i]?=some p→(E.map pV)[i]?=some (pV p):=fun {i p} h=>by rw [bq,h];rfl
 refine fS [.int p.1,.int p.2] (aS (n:=t) r3 hE ((hV (a:=.loc 8) (b:=.int 1) (m:=t+1) (n:=1) rfl rfl (Nat.le_add_left 1 t)).trans (by rw [Nat.add_sub_cancel])) (at_ hp)) rfl ?_
 refine fS [.int q.1,.int q.2] (aS (n:=t+1) r3 hE rfl (at_ hq)) rfl ?_
 have hmod:evT σ (ez [11,12] [.int q.1,.int q.2] (ez [9,10] [.int p.1,.int p.2] (upd ρ 8 (.int (t+1:Nat))))) (.cmp .eq (.bin .mod (.loc 8) (.int 2)) (.int 0))=some (decide ((t+1)%2=0)) :=
  dD (m:=(t+1)%2) (n:=0) (by
   show jd ((0:Int)<2) (V.int (((t+1:Nat):Int)%2))=_
   unfold jd
   rw [bc (by decide)]
   exact bu (fun i=>some (V.int i)) (by omega)) rfl
 refine zv _ (lA hmod rfl (lA (dD (a:=.loc 9) (b:=.loc 11) rfl rfl) rfl (lA (dD (a:=.loc 10) (b:=.loc 12) rfl rfl) rfl rfl))) ?_
 refine eg _ (ev2 (m:=p.1) (n:=p.2) rfl rfl) (eg _ (ev2 (m:=q.1) (n:=q.2) rfl rfl) (yI ?_))
 unfold stp at h
 by_cases c:p=q
 ·rw [bc c,cv,qj hT] at h
  rw [dp (fun n=>n c)]
  exact xj (gk (h _ r3 r7))
 ·rw [aw c,di] at h
  rw [dv c]
  exact aN (bO (oV _) r7 hT (ev5 rfl rfl rfl rfl rfl) (by rw [ax];exact hacc) (gk (gk (h _ r3 r7))))
inductive C8 (σ:St) (lk el:Addr) (na nb:Nat) (L:List T3) (t:Nat) (ρ:Fr) (σ':St):Prop
 | mk:ρ 0=some (.lst lk)→ρ 1=some (.int na)→ρ 2=some (.int nb)→ρ 3=some (.lst el)→Ext σ σ'→σ'.L el=some (((0,0)::qb (L.take t)).map pV)→C8 σ lk el na nb L t ρ σ'
inductive C5 (σ:St) (el tl:Addr) (E:List P2) (t:Nat) (ρ:Fr) (σ':St):Prop
 | mk (acc:List O5) (p:P2):ρ 3=some (.lst el)→ρ 7=some (.lst tl)→Ext σ σ'→σ'.L el=some (E.map pV)→σ'.L tl=some (acc.map oV)→acc.length≤t→E[t]?=some p→acc++iI (t+1) p (E.drop (t+1))=iI 1 (0,0) (E.drop 1)→C5 σ el tl E t ρ σ'
theorem aT:∀ {L:List T3},(qb L).length=2*L.length
 | []=>rfl
 | t::L=>by
  have:=aT (L:=L)
  show(qb L).length+2=_
  rw [this,fu];rfl
theorem sS {P:Nat→Option Fn} {k n na nb:Nat} (hk:P k=some ⟨3,[],pO⟩) {σ:St} {lk:Addr} {L:List T3} {Q:V→St→Prop} (hL:σ.L lk=some (L.map tV)) (hl:L.length<100000) (hm:k8 0 0 (L++[(na,nb,0)]))
  (h:∀ c σ',Ext σ σ'→σ.L c=none→σ'.L c=some ((codes 0 0 (L++[(na,nb,0)])).map oV)→Q (.lst c) σ'):dn P (n+1) k [.lst lk,.int na,.int nb] σ Q:=by
 refine⟨_,hk,aj 3,aj 3,?_⟩
 refine yH [pV (0,0)] rfl (cm rfl) fun el hel=>?_
 refine⟨_,rfl,_,((Ext.refl σ).cw (xs:=[pV (0,0)]) hel).L _ _ hL,?_⟩
 have hne:lk≠el:=fun q=>by rw [q,hel] at hL;cases hL
 refine ll (C8 σ lk el na nb L) ?_ ?_ ⟨rfl,rfl,rfl,rfl,(Ext.refl σ).cw hel,bp _ _ _⟩
 ·rintro t v ρ' σ' hv ⟨r0,r1,r2,r3,E,he⟩
  refine⟨E.L _ _ hL,fun kk hag=>?_⟩
  rw [bq] at hv
  obtain⟨u,hu,rfl⟩:=omap hv
  obtain⟨ht,hu'⟩:=bb.mp hu
  obtain⟨a,b,s⟩:=u
  refine⟨_,rfl,rfl,?_⟩
  refine⟨_,r3,(by show(σ'.L el).isSome=true;rw [he];rfl),?_⟩
  rw [ja,u7]
  refine tw (Q:=_) _ (vs:=[pV (a,b),pV (a+s,b+s)]) ?_ ⟨cm rfl,fun c hc=>?_⟩
  ·rw [ee,ev2 (a:=.loc 4) (b:=.loc 5) (m:=a) (n:=b) rfl rfl,ee,ev2 (fx (a:=.loc 4) (b:=.loc 6) (m:=a) (n:=s) rfl rfl) (fx (a:=.loc 5) (b:=.loc 6) (m:=b) (n:=s) rfl rfl)];rfl
  have hc2:el≠c:=fun q=>by rw [q,hc] at he;cases he
  refine⟨_,_,hc2,(cn hc2).trans he,bp _ _ _,?_,rfl,?_⟩
  ·have:=aT (L:=L.take t)
   simp only [ax,fu,List.length_nil,this,dq]
   unfold av;(exact Ar.a3 [] [_,_,_] (.k (.a (.a (.m 2 .v0) .n1) (.a (.a .n0 .n1) .n1)) (.n 1000000)) [[1,2,2,2]] (.l .v1 (.n 100000)) (.l .v2 .v1) (.k .v0 .v2) hl ht (Ar.jr _ _).1)
  refine hag _ _ ⟨r0,r1,r2,r3,(E.cw (E.noL hc)).cw hel,?_⟩
  refine(bp _ _ _).trans (bu some ?_)
  rw [jl ht,hu']
  show _=((0,0)::(L.take t++[(a,b,s)]).flatMap _).map pV
  rw [um,← aE,di]
  rfl
 rintro ρ' σ' ⟨r0,r1,r2,r3,E,he⟩
 refine⟨E.L _ _ hL,?_⟩
 rw [ax,ke] at he
 have hel2:=aT (L:=L)
 refine bO (pV (na,nb)) r3 he (ev2 r1 r2) (by rw [ax,fu,hel2];unfold av;(exact Ar.a1 [] [_] (.l (.a (.m 2 .v0) .n1) (.n 1000000)) [[1,2]] (.l .v0 (.n 100000)) hl)) ?_
 rw [show((0,0)::qb L).map pV++[pV (na,nb)]=((0,0)::(qb L++[(na,nb)])).map pV by rw [← aE,di];rfl]
 have E2:=E.cw (c:=el) (xs:=((0,0)::(qb L++[(na,nb)])).map pV) hel
 have he2:(σ'.cw el (((0,0)::(qb L++[(na,nb)])).map pV)).L el=some (((0,0)::(qb L++[(na,nb)])).map pV):=bp _ _ _
 generalize σ'.cw el (((0,0)::(qb L++[(na,nb)])).map pV)=σ2 at E2 he2
 refine yH [] rfl (ba _) fun tl htl=>?_
 have hne2:el≠tl:=fun q=>by rw [q,htl] at he2;cases he2
 have htl0:=E2.noL htl
 have hlen:((0,0)::(qb L++[(na,nb)])).length=2*L.length+2:=by rw [fu,bx,ib,hel2]
 have hc:=b7 (k:=1) rfl hm
 have hd:((0,0)::(qb L++[(na,nb)])).drop 1=qb L++[(na,nb)]:=rfl
 rw [← hd] at hc
 have h00:((0,0)::(qb L++[(na,nb)]))[0]?=some (0,0):=rfl
 generalize (0,0)::(qb L++[(na,nb)])=EE at he2 hlen hc h00
 refine⟨_,r3,_,(cn hne2).trans he2,1,((EE.map pV).length:Int),rfl,rfl,by decide,by rw [ax,hlen];(exact(Ar.nab _).elim (fun q1=>(Ar.a2 [] [_,_] (.l .v0 (.n (2^40))) [[1,2,1]] (.l .v1 (.n 100000)) (.ie (.t .v0) (.t (.a (.m 2 .v1) .n2))) hl q1.2)) fun q1=>(Ar.a1 [] [_,_] (.l .v0 (.n (2^40))) [[1,1]] (.ie (.t .v0) (.g (.t (.a (.m 2 .v1) .n2)))) q1.2)),?_⟩
 refine ll (C5 σ el tl EE) ?_ ?_ ⟨[],(0,0),r3,rfl,E2.cw htl0,(cn hne2).trans he2,bp _ _ _,ba _,h00,rfl⟩
 ·rintro t v ρ2 σ3 hv ⟨acc,p,q3,q7,E3,g1,g2,hal,hp,e⟩
  refine⟨trivial,fun kk hag=>?_⟩
  obtain⟨hlt,rfl⟩:=su (a:=1) hv
  rw [ax] at hlt
  have hq:EE[t+1]?=some EE[t+1]:=cf (by(exact Ar.a1 [] [_,_] (.l (.a .v0 .n1) .v1) [[1,1]] (.l (.a .n1 .v0) .v1) hlt))
  rw [gw (i:=t+1) (by(exact Ar.a1 [] [_,_] (.l (.a .v0 .n1) .v1) [[1,1]] (.l (.a .n1 .v0) .v1) hlt))] at e
  generalize EE[t+1]=q at hq e
  rw [Nat.add_comm 1 t]
  refine lT q3 q7 g1 g2 (by unfold av;(exact Ar.a4 [] [_,_,_,_] (.l .v0 (.n 1000000)) [[1,2,1,1,1]] (.l .v1 (.n 100000)) (.e .v2 (.a (.m 2 .v1) .n2)) (.k .v0 .v3) (.l (.a .n1 .v3) .v2) hl hlen hal hlt)) hp hq fun ρ4 p3 p7=>?_
  refine hag _ _ ⟨acc++stp (t+1) p q,q,p3,p7,E3.cw htl0,(cn hne2).trans g1,bp _ _ _,?_,hq,?_⟩
  ·rw [bx]
   have:(stp (t+1) p q).length≤1:=by
    unfold stp
    split
    ·exact ba _
    ·exact aj _
   (exact Ar.a2 [] [_,_,_] (.k (.a .v0 .v1) (.a .v2 .n1)) [[1,1,1]] (.k .v0 .v2) (.k .v1 .n1) hal this)
  ·rw [← e,gu];rfl
 rintro ρ2 σ3 ⟨acc,p,q3,q7,E3,g1,g2,hal,hp,e⟩
 refine⟨trivial,?_⟩
 have hl2:(mi 1 ((EE.map pV).length:Int)).length=EE.length-1:=(tq (a:=1) (b:=(EE.map pV).length)).trans (by rw [ax])
 rw [hl2,show EE.length-1+1=EE.length by(exact Ar.a1 [] [_,_] (.e (.a .v0 .n1) .v1) [[1,-1],[1,1]] (.e (.a .v0 .n1) .v1) (aa (Ar.a1 [] [_,_] (.k .n1 .v0) [[1,-1]] (.e .v0 (.a (.m 2 .v1) .n2)) hlen))),List.drop_length] at e
 have e:acc++[]=_:=e
 rw [cv] at e
 refine nW (.lst tl) q7 (h _ _ E3 htl0 ?_)
 rw [← hc,← e]
 exact g2
end MP
end
section
namespace MP
namespace R4
open PySem SM
structure RL (ρ:Fr) (la lb:Addr) (b:T3):Prop where
 r0:ρ 0=some (.lst la)
 r1:ρ 1=some (.lst lb)
 r2:ρ 2=some (tV b)
section
variable {C:Cal} {σ:St} {la lb:Addr} {xs ys:List Int} {K:Fl→Fr→St→Prop}
theorem md {ρ:Fr} {x:Nat} {l:Addr} {zs:List Int} (hx:ρ x=some (.lst l)) (hl:σ.L l=some (iV zs)):evV σ ρ (.bf .len (.cons (.loc x) .nil))=some (.int zs.length):=by
 rw [t9,ee,ow,hx]
 show jL σ .len [.lst l]=_
 rw [jK,hl]
 show some (V.int (List.length (iV zs):Nat))=_
 rw [ax]
theorem vO (hLa:σ.L la=some (iV xs)) (hLb:σ.L lb=some (iV ys)) {i j:Nat} {b:T3} {ρ:Fr} (hi:i≤xs.length) (hj:j≤ys.length) (H:RL ρ la lb b) (r3:ρ 3=some (.int i)) (r4:ρ 4=some (.int j)) (r5:ρ 5=some (.int 0))
  (h:∀ ρ' r,RL ρ' la lb b→ρ' 3=some (.int i)→ρ' 4=some (.int j)→ρ' 5=some (.int (r:Nat))→ur (kq (ks xs) (ks ys)) 0 xs.length 0 ys.length i j r→(∀ k',ur (kq (ks xs) (ks ys)) 0 xs.length 0 ys.length i j k'→k'≤r)→K .next ρ' σ) :
  wpS C (.loop (.and (.cmp .lt (.bin .add (.loc 3) (.loc 5)) (.bf .len (.cons (.loc 0) .nil))) (.and (.cmp .lt (.bin .add (.loc 4) (.loc 5)) (.bf .len (.cons (.loc 1) .nil))) (.cmp .eq (.sub (.loc 0) (.bin .add (.loc 3) (.loc 5))) (.sub (.loc 1) (.bin .add (.loc 4) (.loc 5)))))) (.cons (.aug 5 .add (.int 1)) .nil)) ρ σ K:=by
 refine⟨xs.length+1,sr (fun n ρ' σ'=>σ'=σ∧RL ρ' la lb b∧ρ' 3=some (.int i)∧ρ' 4=some (.int j)∧∃ r:Nat,n=xs.length-(i+r)∧ρ' 5=some (.int r)∧ur (kq (ks xs) (ks ys)) 0 xs.length 0 ys.length i j r) ?_ (xs.length+1) (xs.length-(i+0)) (by(exact Ar.a1 [] [_,_,_] (.l .v0 (.a .v1 .n1)) [[1,1]] (.e (.a .v0 (.a .v2 .n0)) .v1) (aa (Ar.a1 [] [_,_] (.k (.a .v0 .n0) .v1) [[1,1]] (.k .v0 .v1) hi)))) ⟨rfl,H,r3,r4,0,rfl,r5,⟨ba _,hi,ba _,hj,fun t ht=>absurd ht (jh _)⟩⟩⟩
 rintro n ρ' σ' ⟨rfl,H',r3',r4',r,rfl,r5',R⟩ again hag
 have stop:¬ (i+r<xs.length∧j+r<ys.length∧xs[i+r]?=ys[j+r]?)→K .next ρ' σ':=fun q=>h ρ' r H' r3' r4' r5' R fun k' R'=>by
  rcases rf r k' with c | c
  ·obtain⟨v,e1,e2⟩:=kq.ints.mp (R'.eq r c)
   exact absurd ⟨by have:=R'.ia;(exact Ar.a2 [] [_,_,_,_] (.l (.a .v0 .v1) .v2) [[1,1,1]] (.l .v1 .v3) (.k (.a .v0 .v3) .v2) c this),by have:=R'.jb;(exact Ar.a2 [] [_,_,_,_] (.l (.a .v0 .v1) .v2) [[1,1,1]] (.l .v1 .v3) (.k (.a .v0 .v3) .v2) c this),e1.trans e2.symm⟩ q
  ·exact c
 refine pn (b:=decide (i+r<xs.length∧j+r<ys.length∧xs[i+r]?=ys[j+r]?)) _ ?_ ?_
 ·by_cases c1:i+r<xs.length
  ·by_cases c2:j+r<ys.length
   ·have e1:xs[i+r]?=some xs[i+r]:=cf c1
    have e2:ys[j+r]?=some ys[j+r]:=cf c2
    have v1:=aS (e:=.bin .add (.loc 3) (.loc 5)) (v:=.int xs[i+r]) H'.r0 hLa (fx r3' r5') (by rw [bq,e1];rfl)
    have v2:=aS (e:=.bin .add (.loc 4) (.loc 5)) (v:=.int ys[j+r]) H'.r1 hLb (fx r4' r5') (by rw [bq,e2];rfl)
    have v3:evT σ' ρ' (.cmp .eq (.sub (.loc 0) (.bin .add (.loc 3) (.loc 5))) (.sub (.loc 1) (.bin .add (.loc 4) (.loc 5))))=some (decide (xs[i+r]?=ys[j+r]?)):=by
     rw [wu,v1,v2]
     show some (decide (xs[i+r]=ys[j+r]))=_
     rw [e1,e2]
     exact bu some (kc.mpr (Option.some_inj).symm)
    exact sz (og (fx r3' r5') (md H'.r0 hLa)) (sz (og (fx r4' r5') (md H'.r1 hLb)) v3)
   ·rw [dp (fun q=>c2 q.2.1),c7,og (fx (a:=.loc 3) (b:=.loc 5) r3' r5') (md H'.r0 hLa),dv c1]
    show evT σ' ρ' _=_
    rw [c7,og (fx (a:=.loc 4) (b:=.loc 5) r4' r5') (md H'.r1 hLb),dp c2];rfl
  ·rw [dp (fun q=>c1 q.1),c7,og (fx (a:=.loc 3) (b:=.loc 5) r3' r5') (md H'.r0 hLa),dp c1];rfl
 by_cases c:i+r<xs.length∧j+r<ys.length∧xs[i+r]?=ys[j+r]?
 ·rw [dv c]
  refine aN ⟨_,r5',?_⟩
  refine hag (xs.length-(i+(r+1))) _ _ (by(exact Ar.a2 [] [_,_,_,_,_] (.l .v0 .v1) [[1,1,-1]] (.e (.a .v0 (.a .v2 (.a .v3 .n1))) .v4) (.e (.a .v1 (.a .v2 .v3)) .v4) (aa (Ar.a1 [] [_,_,_] (.k (.a .v0 (.a .v1 .n1)) .v2) [[1,1]] (.l (.a .v0 .v1) .v2) c.1)) (aa (Ar.a1 [] [_,_,_] (.k (.a .v0 .v1) .v2) [[1,1]] (.l (.a .v0 .v1) .v2) c.1)))) ⟨rfl,⟨H'.r0,H'.r1,H'.r2⟩,r3',r4',r+1,rfl,rfl,⟨ba _,by(exact Ar.a1 [] [_,_,_] (.k (.a .v0 (.a .v1 .n1)) .v2) [[1,1]] (.l (.a .v0 .v1) .v2) c.1),ba _,by(exact Ar.a1 [] [_,_,_] (.k (.a .v0 (.a .v1 .n1)) .v2) [[1,1]] (.l (.a .v0 .v1) .v2) c.2.1),fun t ht=>?_⟩⟩
  rcases rf t r with q | q
  ·exact R.eq t q
  ·obtain rfl:t=r:=by(exact Ar.a2 [] [_,_] (.e .v0 .v1) [[1,0,1],[1,1,0]] (.l .v0 (.a .v1 .n1)) (.k .v1 .v0) ht q)
   have e1:xs[i+t]?=some xs[i+t]:=cf c.1
   exact kq.ints.mpr ⟨_,e1,c.2.2.symm.trans e1⟩
 ·rw [dp c]
  exact xj (stop c)
theorem kY {n:Nat} {Q:V→St→Prop} (hLa:σ.L la=some (iV xs)) (hLb:σ.L lb=some (iV ys)) (hza:xs.length<10000) (hzb:ys.length<10000)
  (h:∀ i j k,LB (kq (ks xs) (ks ys)) xs.length ys.length (fun x y=>x<xs.length∧y<ys.length) i j k→Q (tV (i,j,k)) σ):dn P (n+1) 13 [.lst la,.lst lb] σ Q:=by
 refine⟨wQ,rfl,aj 2,aj 2,?_⟩
 refine zv (tV (0,0,0)) rfl ?_
 have RL0:RL (upd (frameOf wQ [.lst la,.lst lb]) 2 (tV (0,0,0))) la lb (0,0,0):=⟨rfl,rfl,rfl⟩
 generalize upd (frameOf wQ [.lst la,.lst lb]) 2 (tV (0,0,0))=ρ at RL0
 refine eg (Q:=_) _ (md RL0.r0 hLa) ⟨xs.length,rfl,by(exact(Ar.nab _).elim (fun q1=>(Ar.a2 [] [_,_] (.l .v0 (.n (2^40))) [[1,1,1]] (.l .v1 (.n 10000)) (.ie (.t .v0) (.t .v1)) hza q1.2)) fun q1=>(Ar.a1 [] [_,_] (.l .v0 (.n (2^40))) [[1,1]] (.ie (.t .v0) (.g (.t .v1))) q1.2)),?_⟩
 refine ll (fun i ρ' σ'=>σ'=σ∧∃ b:T3,RL ρ' la lb b∧LB (kq (ks xs) (ks ys)) xs.length ys.length (fun x y=>x<i∧y<ys.length) b.1 b.2.1 b.2.2) ?_ ?_ ⟨rfl,_,RL0,LB.start.congr fun x y=>⟨fun q=>absurd q.1 (jh _),fun q=>q.elim⟩⟩
 ·rintro i v ρ' σ' hv ⟨rfl,b,H,B⟩
  refine⟨trivial,fun kk hag=>?_⟩
  obtain⟨hi,rfl⟩:=su (a:=0) hv
  rw [ku] at hi ⊢
  have H1:RL (upd ρ' 3 (.int i)) la lb b:=⟨H.r0,H.r1,H.r2⟩
  have q3:upd ρ' 3 (.int i) 3=some (.int i):=rfl
  show dk _ _ (upd ρ' 3 (.int i)) σ' _
  generalize upd ρ' 3 (.int i)=ρ1 at H1 q3
  refine eg (Q:=_) _ (md H1.r1 hLb) ⟨ys.length,rfl,by(exact(Ar.nab _).elim (fun q1=>(Ar.a2 [] [_,_] (.l .v0 (.n (2^40))) [[1,1,1]] (.l .v1 (.n 10000)) (.ie (.t .v0) (.t .v1)) hzb q1.2)) fun q1=>(Ar.a1 [] [_,_] (.l .v0 (.n (2^40))) [[1,1]] (.ie (.t .v0) (.g (.t .v1))) q1.2)),?_⟩
  refine ll (fun j ρ2 σ2=>σ2=σ'∧ρ2 3=some (.int i)∧∃ b:T3,RL ρ2 la lb b∧LB (kq (ks xs) (ks ys)) xs.length ys.length (fun x y=>(x<i∧y<ys.length)∨(x=i∧y<j)) b.1 b.2.1 b.2.2) ?_ ?_ ⟨rfl,q3,b,H1,B.congr fun x y=>⟨fun q=>q.elim id fun q=>absurd q.2 (jh _),.inl⟩⟩
  ·rintro j v ρ2 σ2 hv ⟨rfl,p3,b2,H2,B2⟩
   refine⟨trivial,fun k2 hag2=>?_⟩
   obtain⟨hj,rfl⟩:=su (a:=0) hv
   rw [ku] at hj ⊢
   refine zv (.int 0) rfl ?_
   refine vO hLa hLb (kx hi) (kx hj) (b:=b2) ⟨H2.r0,H2.r1,H2.r2⟩ p3 rfl rfl fun ρ4 r H4 p3 p4 p5 R hm=>?_
   have nx:=B2.cell (S':=fun x y=>(x<i∧y<ys.length)∨(x=i∧y<j+1)) (a:=i) (b:=j) (fun x y=>by(exact⟨fun q1=>(gx fun q2=>(q1.elim (fun q3=>((ah.mp (jz.mp (jz.mp q2).1).1).elim (fun q4=>(Ar.a2 [] [_,_] .ff [[0,1,1]] (.l .v0 .v1) (.g .v0 .v1) q3.1 q4)) fun q4=>(Ar.a2 [] [_,_] .ff [[0,1,1]] (.l .v0 .v1) (.g .v0 .v1) q3.2 q4))) fun q3=>((ah.mp (jz.mp (jz.mp q2).1).1).elim (fun q4=>((ah.mp (jz.mp q2).2).elim (fun q5=>((ak q5).elim (fun q6=>(Ar.a2 [] [_,_] .ff [[0,-1,1]] (.e .v0 .v1) (.l .v0 .v1) q3.1 q6)) fun q6=>(Ar.a2 [] [_,_] .ff [[0,1,1]] (.e .v0 .v1) (.l .v1 .v0) q3.1 q6))) fun q5=>((ak q5).elim (fun q6=>((ah.mp (jz.mp (jz.mp q2).1).2).elim (fun q7=>((ak q7).elim (fun q8=>(Ar.a2 [] [_,_] .ff [[0,-1,1]] (.e .v0 .v1) (.l .v0 .v1) q3.1 q8)) fun q8=>(Ar.a2 [] [_,_] .ff [[0,1,1]] (.e .v0 .v1) (.l .v1 .v0) q3.1 q8))) fun q7=>(Ar.a2 [] [_,_] .ff [[0,1,1]] (.l .v0 .v1) (.g .v0 .v1) q6 q7))) fun q6=>(Ar.a2 [] [_,_] .ff [[0,1,1]] (.l .v0 (.a .v1 .n1)) (.l .v1 .v0) q3.2 q6)))) fun q4=>(Ar.a3 [] [_,_,_] .ff [[0,1,1,1]] (.l .v0 .v1) (.l .v2 (.a .v0 .n1)) (.g .v2 .v1) hj q3.2 q4)))),fun q1=>(gx fun q2=>(q1.elim (fun q3=>((ah.mp (jz.mp q2).1).elim (fun q4=>(q3.elim (fun q5=>(Ar.a2 [] [_,_] .ff [[0,1,1]] (.g .v0 .v1) (.l .v0 .v1) q4 q5.1)) fun q5=>((ah.mp (jz.mp q2).2).elim (fun q6=>((ak q6).elim (fun q7=>(Ar.a2 [] [_,_] .ff [[0,-1,1]] (.e .v0 .v1) (.l .v0 .v1) q5.1 q7)) fun q7=>(Ar.a2 [] [_,_] .ff [[0,1,1]] (.e .v0 .v1) (.l .v1 .v0) q5.1 q7))) fun q6=>(Ar.a2 [] [_,_] .ff [[0,1,1]] (.l .v0 .v1) (.g .v0 (.a .v1 .n1)) q5.2 q6)))) fun q4=>(q3.elim (fun q5=>(Ar.a2 [] [_,_] .ff [[0,1,1]] (.g .v0 .v1) (.l .v0 .v1) q4 q5.2)) fun q5=>(Ar.a3 [] [_,_,_] .ff [[0,1,1,1]] (.l .v0 .v1) (.g .v2 .v1) (.l .v2 .v0) hj q4 q5.2)))) fun q3=>((ah.mp (jz.mp q2).1).elim (fun q4=>((ah.mp (jz.mp q2).2).elim (fun q5=>((ak q5).elim (fun q6=>(Ar.a2 [] [_,_] .ff [[0,-1,1]] (.e .v0 .v1) (.l .v0 .v1) q3.1 q6)) fun q6=>(Ar.a2 [] [_,_] .ff [[0,1,1]] (.e .v0 .v1) (.l .v1 .v0) q3.1 q6))) fun q5=>(Ar.a2 [] [_,_] .ff [[0,1,1]] (.e .v0 .v1) (.g .v0 (.a .v1 .n1)) q3.2 q5))) fun q4=>(Ar.a3 [] [_,_,_] .ff [[0,1,1,1]] (.l .v0 .v1) (.e .v2 .v0) (.g .v2 .v1) hj q3.2 q4))))⟩)) (fun x y=>by(exact fun q1=>(gx fun q2=>(q1.elim (fun q3=>(Ar.a2 [] [_,_] .ff [[0,1,1]] (.g .v0 .v1) (.l .v0 .v1) (jz.mp q2).1 q3.1)) fun q3=>((ah.mp (jz.mp q2).2).elim (fun q4=>((ak q4).elim (fun q5=>(Ar.a2 [] [_,_] .ff [[0,-1,1]] (.e .v0 .v1) (.l .v0 .v1) q3.1 q5)) fun q5=>(Ar.a2 [] [_,_] .ff [[0,1,1]] (.e .v0 .v1) (.l .v1 .v0) q3.1 q5))) fun q4=>(Ar.a2 [] [_,_] .ff [[0,1,1]] (.l .v0 .v1) (.g .v0 .v1) q3.2 q4)))))) R hm
   have ev:evV σ2 ρ4 (.sub (.loc 2) (.int 2))=some (.int b2.2.2):=by
    rw [zl,ow,H4.r2];rfl
   refine iB (b2.2.2<r) ?_ (fun c=>?_) fun c=>?_
   ·rw [wu,ev,ow,p5]
    exact bu some (kc.mpr Int.ofNat_lt)
   ·rw [bc c] at nx
    refine zv (tV (i,j,r)) (ev3 p3 p4 p5) (gk (gk (hag2 _ _ ⟨rfl,p3,(i,j,r),⟨H4.r0,H4.r1,rfl⟩,nx⟩)))
   ·rw [aw c] at nx
    exact gk (gk (hag2 _ _ ⟨rfl,p3,b2,H4,nx⟩))
  ·rintro ρ2 σ2 ⟨rfl,p3,b2,H2,B2⟩
   have hl2:(mi 0 (ys.length:Int)).length=ys.length:=tq (a:=0)
   rw [hl2] at B2
   exact⟨trivial,gk (hag _ _ ⟨rfl,b2,H2,B2.congr fun x y=>by(exact⟨fun q1=>(gx fun q2=>((ah.mp (jz.mp q2).1).elim (fun q3=>((ah.mp (jz.mp q2).2).elim (fun q4=>((ak q4).elim (fun q5=>(Ar.a2 [] [_,_] .ff [[0,1,1]] (.g .v0 .v1) (.l .v0 .v1) q3 q5)) fun q5=>(Ar.a2 [] [_,_] .ff [[0,1,1]] (.l .v0 (.a .v1 .n1)) (.l .v1 .v0) q1.1 q5))) fun q4=>(Ar.a2 [] [_,_] .ff [[0,1,1]] (.l .v0 .v1) (.g .v0 .v1) q1.2 q4))) fun q3=>(Ar.a2 [] [_,_] .ff [[0,1,1]] (.l .v0 .v1) (.g .v0 .v1) q1.2 q3))),fun q1=>⟨(q1.elim (fun q2=>(Ar.a1 [] [_,_] (.l .v0 (.a .v1 .n1)) [[1,1]] (.l .v0 .v1) q2.1)) fun q2=>(Ar.a1 [] [_,_] (.l .v0 (.a .v1 .n1)) [[1,1]] (.e .v0 .v1) q2.1)),(q1.elim (fun q2=>(Ar.a1 [] [_,_] (.l .v0 .v1) [[1,1]] (.l .v0 .v1) q2.2)) fun q2=>(Ar.a1 [] [_,_] (.l .v0 .v1) [[1,1]] (.l .v0 .v1) q2.2))⟩⟩)⟩)⟩
 ·rintro ρ2 σ2 ⟨rfl,b2,H2,B2⟩
  have hl2:(mi 0 (xs.length:Int)).length=xs.length:=tq (a:=0)
  rw [hl2] at B2
  exact⟨trivial,nW (tV b2) H2.r2 (h _ _ _ B2)⟩
end
end R4
end MP
end
section
namespace MP
namespace R4
open PySem SM
theorem so {C:Cal} {k:Nat} {es:Exs} {ρ:Fr} {σ:St} {Q:V→St→Prop}:wpE C (.call k es) ρ σ Q=nz C es ρ σ fun vs σ=>C k vs σ Q:=rfl
section
variable {n:Nat} {ρ:Fr} {σb σ:St} {la lb:Addr} {xs ys:List Int} {Q:V→St→Prop}
theorem y0 (hLa:σ.L la=some (iV xs)) (hLb:σ.L lb=some (iV ys)) (hza:xs.length<64) (hzb:ys.length<400000)
  (h:∀ σ' c L,Ext σ σ'→BT (kq (ks xs) (ks ys)) 0 xs.length 0 ys.length L→σ'.L c=some ((codes 0 0 (L++[(xs.length,ys.length,0)])).map oV)→Q (.lst c) σ'):dn P (n+5) 10 [.lst la,.lst lb] σ Q:=by
 refine⟨BE,rfl,aj 2,aj 2,?_⟩
 exact SM.told (P:=P) rfl rfl rfl rfl rfl rfl rfl rfl (la:=la) (lb:=lb) (fun Q q=>⟨_,rfl,_,rfl,q⟩) hLa hLb hza hzb fun σ' c L E b _ hc=>h σ' c L E b hc
theorem BT.small {L:List T3} (hL:BT (kq (ks xs) (ks ys)) 0 xs.length 0 ys.length L):L.length≤xs.length:=by
 have:=aY (lo:=0) hL.ok.1 hL.ok.2.1 (fun _ _=>ba _) (ba _)
 (exact Ar.a1 [] [_,_] (.k .v0 .v1) [[1,1]] (.k (.a .n0 .v0) .v1) this)
theorem iK {L:List T3} (hL:BT (kq (ks xs) (ks ys)) 0 xs.length 0 ys.length L) (hza:xs.length<64):(codes 0 0 (L++[(xs.length,ys.length,0)])).length<av:=by
 have:=BT.small hL
 have h1:=fI (L:=L++[(xs.length,ys.length,0)]) (i:=0) (j:=0)
 rw [bx,ib] at h1
 unfold av;(exact Ar.a3 [] [_,_,_] (.l .v0 (.n 1000000)) [[1,2,2,1]] (.l .v1 (.n 64)) (.k .v2 .v1) (.k .v0 (.m 2 (.a .v2 .n1))) hza this h1)
theorem yB {e1 e2 e3 e4:Ex} {p q:Nat} (h1:Fv (dn P (n+5)) ρ σb e1 (iV xs)) (h2:Fv (dn P (n+5)) ρ σb e2 (iV ys)) (h3:∀ σ,evV σ ρ e3=some (.int p)) (h4:∀ σ,evV σ ρ e4=some (.int q)) (hza:xs.length<64) (hzb:ys.length<400000) (E:Ext σb σ)
  (h:∀ σ' c L,Ext σ σ'→BT (kq (ks xs) (ks ys)) 0 xs.length 0 ys.length L→σ'.L c=some ((L.map (shT p q)).map tV)→Q (.lst c) σ') :
  wpE (dn P (n+5)) (.call 11 (.cons (.call 10 (.cons e1 (.cons e2 .nil))) (.cons e3 (.cons e4 .nil)))) ρ σ Q:=by
 rw [so,ja,so,ja]
 refine h1 σ _ E fun a σ1 E1 _ ha=>?_
 rw [ja]
 refine h2 σ1 _ (E.trans E1) fun b σ2 E2 _ hb=>?_
 refine y0 (E2.L _ _ ha) hb hza hzb fun σ3 c L E3 bt hc=>?_
 rw [ja]
 refine eg _ (h3 _) ?_
 rw [ja]
 refine eg _ (h4 _) ?_
 refine n9 (P:=P) (k:=11) (n:=n+4) rfl hc (iK bt hza) dN fun d σ4 E4 _ hd=>?_
 rw [jE fun t ht=>(bt.ok.1 t ht).2] at hd
 exact h σ4 d L (((E1.trans E2).trans E3).trans E4) bt hd
theorem sR {p q:Nat} {lk:Addr} {L:List T3} {k:Fr→St→Prop} {K:Fl→Fr→St→Prop} (hLa:σ.L la=some (iV xs)) (hLb:σ.L lb=some (iV ys)) (hLk:σ.L lk=some (L.map tV)) (hza:xs.length<64) (hzb:ys.length<64) (bt:BT (kq (ks xs) (ks ys)) 0 xs.length 0 ys.length L)
  (r4:ρ 4=some (.lst la)) (r5:ρ 5=some (.lst lb)) (r7:ρ 7=some (.lst lk)) (r17:ρ 17=some (.int p)) (r18:ρ 18=some (.int q)) (hp:p≤xs.length) (hq:q≤ys.length)
  (hc:∀ t∈L,(t.1+t.2.2≤p∧t.2.1+t.2.2≤q)∨(p≤t.1∧q≤t.2.1)) (h:∀ ρ' σ',(∀ m,m<19→ρ' m=ρ m)→Ext σ σ'→k ρ' σ') :
  dk (dn P (n+5)) (.cons (.assign [(.var 19)] (.call 11 (.cons (.call 10 (.cons (.slc (.loc 4) .none (.loc 17)) (.cons (.slc (.loc 5) .none (.loc 18)) .nil))) (.cons (.int 0) (.cons (.int 0) .nil)))))
 (.cons (.assign [(.var 20)] (.call 11 (.cons (.call 10 (.cons (.slc (.loc 4) (.loc 17) .none) (.cons (.slc (.loc 5) (.loc 18) .none) .nil))) (.cons (.loc 17) (.cons (.loc 18) .nil)))))
 (.cons (.cond (.cmp .ne (.bin .add (.loc 19) (.loc 20)) (.loc 7)) (.cons (.ret (.bool false))
 .nil) .nil)
 .nil))) ρ σ (qo k K):=by
 have fr:∀ {ρ:Fr} {σ:St} {x y:Nat} {l:Addr} {zs:List Int} {m:Nat},ρ x=some (.lst l)→σ.L l=some (iV zs)→ρ y=some (.int m)→m≤zs.length→zs.length<64→Fv (dn P (n+5)) ρ σ (.slc (.loc x) .none (.loc y)) (iV (zs.take m)):=fun {ρ σ x y l zs m} hx hl hy hm hz=>by
  have:=Gv.slc (C:=dn P (n+5)) (lo:=.none) (hi:=.loc y) (i:=0) (j:=m) (Gv.loc hx hl) (fun _ _=>⟨_,rfl,rfl⟩) (fun _ _=>⟨_,hy,rfl⟩) (by decide) (by(exact(Ar.nab _).elim (fun q1=>(Ar.a3 [] [_,_,_] (.l .v0 (.n (2^60))) [[1,1,1,1]] (.k .v1 .v2) (.l .v2 (.n 64)) (.ie (.t .v0) (.t .v1)) hm hz q1.2)) fun q1=>(Ar.a1 [] [_,_] (.l .v0 (.n (2^60))) [[1,1]] (.ie (.t .v0) (.g (.t .v1))) q1.2)))
  rw [ax,yp,om hm,wd,← sh] at this
  exact this
 have bk:∀ {ρ:Fr} {σ:St} {x y:Nat} {l:Addr} {zs:List Int} {m:Nat},ρ x=some (.lst l)→σ.L l=some (iV zs)→ρ y=some (.int m)→m≤zs.length→zs.length<64→Fv (dn P (n+5)) ρ σ (.slc (.loc x) (.loc y) .none) (iV (zs.drop m)):=fun {ρ σ x y l zs m} hx hl hy hm hz=>by
  have:=Gv.slc (C:=dn P (n+5)) (lo:=.loc y) (hi:=.none) (i:=m) (j:=zs.length) (Gv.loc hx hl) (fun _ _=>⟨_,hy,rfl⟩) (fun _ _=>⟨_,rfl,bu (fun m:Nat=>some (m:Int)) (ax _)⟩) (by(exact(Ar.nab _).elim (fun q1=>(Ar.a3 [] [_,_,_] (.l .v0 (.n (2^60))) [[1,1,1,1]] (.k .v1 .v2) (.l .v2 (.n 64)) (.ie (.t .v0) (.t .v1)) hm hz q1.2)) fun q1=>(Ar.a1 [] [_,_] (.l .v0 (.n (2^60))) [[1,1]] (.ie (.t .v0) (.g (.t .v1))) q1.2))) (by(exact(Ar.nab _).elim (fun q1=>(Ar.a2 [] [_,_] (.l .v0 (.n (2^60))) [[1,1,1]] (.l .v1 (.n 64)) (.ie (.t .v0) (.t .v1)) hz q1.2)) fun q1=>(Ar.a1 [] [_,_] (.l .v0 (.n (2^60))) [[1,1]] (.ie (.t .v0) (.g (.t .v1))) q1.2)))
  rw [ax,om hm,om (aj _),← sh,ke,← List.map_drop] at this
  exact this
 rw [mn]
 refine yB (p:=0) (q:=0) (fr r4 hLa r17 hp hza) (fr r5 hLb r18 hq hzb) (fun _=>rfl) (fun _=>rfl) (by rw [dq];(exact Ar.a2 [] [_,_] (.l .v0 (.n 64)) [[1,1,1]] (.l .v1 (.n 64)) (.k .v0 .v1) hza (Ar.jr _ _).2.1)) (by rw [dq];(exact Ar.a2 [] [_,_] (.l .v0 (.n 400000)) [[1,1,1]] (.l .v1 (.n 64)) (.k .v0 .v1) hzb (Ar.jr _ _).2.1)) (Ext.refl σ) fun σ1 c L1 E1 b1 hc1=>?_
 rw [iU] at hc1
 have q4:upd ρ 19 (.lst c) 4=some (.lst la):=r4
 have q5:upd ρ 19 (.lst c) 5=some (.lst lb):=r5
 have q17:upd ρ 19 (.lst c) 17=some (.int p):=r17
 have q18:upd ρ 19 (.lst c) 18=some (.int q):=r18
 show dk _ _ (upd ρ 19 (.lst c)) σ1 _
 rw [mn]
 refine yB (p:=p) (q:=q) (bk q4 (E1.L _ _ hLa) q17 hp hza) (bk q5 (E1.L _ _ hLb) q18 hq hzb) (fun _=>q17) (fun _=>q18) (by rw [fk];(exact Ar.a2 [] [_,_,_] (.l .v0 (.n 64)) [[1,1,1]] (.l .v1 (.n 64)) (.e (.a .v0 .v2) .v1) hza (aa (Ar.a1 [] [_,_] (.k .v0 .v1) [[1,1]] (.k .v0 .v1) hp)))) (by rw [fk];(exact Ar.a2 [] [_,_,_] (.l .v0 (.n 400000)) [[1,1,1]] (.l .v1 (.n 64)) (.e (.a .v0 .v2) .v1) hzb (aa (Ar.a1 [] [_,_] (.k .v0 .v1) [[1,1]] (.k .v0 .v1) hq)))) (Ext.refl σ1) fun σ2 d L2 E2 b2 hd=>?_
 have e:=bt.AV hp hq hc b1 b2
 have hl:=BT.small bt
 have hs:L1.length+(L2.map (shT p q)).length=L.length:=by rw [← e,bx]
 refine Gv.cat (xs:=L1.map tV) (ys:=(L2.map (shT p q)).map tV) (Gv.loc (x:=19) rfl (E2.L _ _ hc1)) (Gv.loc (x:=20) rfl hd) (by rw [ax,ax];unfold av;(exact Ar.a3 [] [_,_,_,_] (.k (.a .v0 .v1) (.n 1000000)) [[1,1,1,1]] (.l .v2 (.n 64)) (.k .v3 .v2) (.e (.a .v0 .v1) .v3) hza hl hs)) σ2 _ (Ext.refl σ2) fun f σ3 E3 _ hf=>?_
 rw [← di,e] at hf
 have E:=(E1.trans E2).trans E3
 refine⟨_,r7,pW hf (E.L _ _ hLk) (xj (gk (gk (h _ _ (fun m hm=>?_) E))))⟩
 show upd (upd ρ 19 _) 20 _ m=_
 rw [cn (by(exact Ar.a1 [] [_] (.u .v0 (.n 20)) [[-1,1]] (.l .v0 (.n 19)) hm)),cn (by(exact Ar.a1 [] [_] (.u .v0 (.n 19)) [[-1,1]] (.l .v0 (.n 19)) hm))]
noncomputable def jq (L:List T3) (na nb:Nat):List T3:=(0,0,0)::(L++[(na,nb,0)])
theorem lQ {L:List T3} {na nb t:Nat} {c0 c1:T3} (hp:L.Pairwise nr) (hw:∀ t∈L,Within 0 na 0 nb t∧0<t.2.2) (h0:(jq L na nb)[t]?=some c0) (h1:(jq L na nb)[t+1]?=some c1) {p q:Nat} (a1:c0.1+c0.2.2≤p) (a2:p≤c1.1) (b1:c0.2.1+c0.2.2≤q) (b2:q≤c1.2.1) :
  p≤na∧q≤nb∧∀ t∈L,(t.1+t.2.2≤p∧t.2.1+t.2.2≤q)∨(p≤t.1∧q≤t.2.1):=by
 have hP:(jq L na nb).Pairwise nr:=by
  refine .cons (fun u _=>⟨ba _,ba _⟩) (List.pairwise_append.mpr ⟨hp,.cons (fun u hu=>(by cases hu)) .nil,fun a ha b hb=>?_⟩)
  rw [aq.mp hb]
  exact⟨(hw a ha).1.2.1,(hw a ha).1.2.2.2⟩
 rw [nv] at hP
 obtain⟨l0,e0⟩:=bb.mp h0
 obtain⟨l1,e1⟩:=bb.mp h1
 have wi:∀ u∈jq L na nb,u.1≤na∧u.2.1≤nb:=fun u hu=>by
  rcases br.mp hu with rfl | hu
  ·exact⟨ba _,ba _⟩
  ·rcases cy.mp hu with hu | hu
   ·have:=(hw u hu).1
    unfold Within at this;(exact⟨(Ar.a1 [] [_,_,_] (.k .v0 .v1) [[1,1]] (.k (.a .v0 .v2) .v1) this.2.1),(Ar.a1 [] [_,_,_] (.k .v0 .v1) [[1,1]] (.k (.a .v0 .v2) .v1) this.2.2.2)⟩)
   ·rw [aq.mp hu];exact⟨aj _,aj _⟩
 have w1:=wi c1 (cu h1)
 refine⟨by(exact Ar.a2 [] [_,_,_] (.k .v0 .v1) [[1,1,1]] (.k .v0 .v2) (.k .v2 .v1) a2 w1.1),by(exact Ar.a2 [] [_,_,_] (.k .v0 .v1) [[1,1,1]] (.k .v0 .v2) (.k .v2 .v1) b2 w1.2),fun u hu=>?_⟩
 obtain⟨m,hm,rfl⟩:=uk hu
 have em:(jq L na nb)[m+1]?=some L[m]:=by
  show(L++[(na,nb,0)])[m]?=_
  rw [xp hm,cf hm]
 obtain⟨l2,e2⟩:=bb.mp em
 rcases rf m t with c | c
 ·refine .inl ?_
  rcases rf (m+1) t with d | d
  ·have:=hP _ _ l2 l0 d
   rw [e2,e0] at this
   unfold nr at this
   (exact⟨(Ar.a2 [] [_,_,_,_,_] (.k (.a .v0 .v1) .v2) [[1,1,1]] (.k (.a .v3 .v4) .v2) (.k (.a .v0 .v1) .v3) a1 this.1),(Ar.a2 [] [_,_,_,_,_] (.k (.a .v0 .v1) .v2) [[1,1,1]] (.k (.a .v3 .v4) .v2) (.k (.a .v0 .v1) .v3) b1 this.2)⟩)
  ·obtain rfl:t=m+1:=by(exact Ar.a2 [] [_,_] (.e .v0 (.a .v1 .n1)) [[1,1,0],[1,0,1]] (.l .v1 .v0) (.k .v0 (.a .v1 .n1)) c d)
   rw [e0] at e2
   rw [← e2];exact⟨a1,b1⟩
 ·refine .inr ?_
  rcases rf t m with d | d
  ·have:=hP _ _ l1 l2 (Nat.succ_lt_succ d)
   rw [e1,e2] at this
   unfold nr at this
   (exact⟨(Ar.a2 [] [_,_,_,_] (.k .v0 .v1) [[1,1,1]] (.k .v0 .v2) (.k (.a .v2 .v3) .v1) a2 this.1),(Ar.a2 [] [_,_,_,_] (.k .v0 .v1) [[1,1,1]] (.k .v0 .v2) (.k (.a .v2 .v3) .v1) b2 this.2)⟩)
  ·obtain rfl:t=m:=by(exact Ar.a2 [] [_,_] (.e .v0 .v1) [[1,0,1],[1,1,0]] (.k .v0 .v1) (.k .v1 .v0) c d)
   rw [e1] at e2
   rw [← e2];exact⟨a2,b2⟩
end
end R4
end MP
end
section
namespace MP
namespace R4
open PySem SM
structure Kn (ρ:Fr) (σ:St) (la lb lk lg:Addr) (xs ys:List Int) (L:List T3):Prop where
 r4:ρ 4=some (.lst la)
 r5:ρ 5=some (.lst lb)
 r7:ρ 7=some (.lst lk)
 r9:ρ 9=some (.lst lg)
 a:σ.L la=some (iV xs)
 b:σ.L lb=some (iV ys)
 k:σ.L lk=some (L.map tV)
 g:σ.L lg=some ((jq L xs.length ys.length).map tV)
theorem Kn.ext {ρ ρ':Fr} {σ σ':St} {la lb lk lg:Addr} {xs ys:List Int} {L:List T3} (h:Kn ρ σ la lb lk lg xs ys L) (hr:∀ m,m<10→ρ' m=ρ m) (E:Ext σ σ'):Kn ρ' σ' la lb lk lg xs ys L :=
 ⟨(hr 4 (by decide)).trans h.r4,(hr 5 (by decide)).trans h.r5,(hr 7 (by decide)).trans h.r7,(hr 9 (by decide)).trans h.r9,E.L _ _ h.a,E.L _ _ h.b,E.L _ _ h.k,E.L _ _ h.g⟩
noncomputable def tK:jf:=(.cons (.assign [(.var 19)] (.call 11 (.cons (.call 10 (.cons (.slc (.loc 4) .none (.loc 17)) (.cons (.slc (.loc 5) .none (.loc 18)) .nil))) (.cons (.int 0) (.cons (.int 0) .nil)))))
 (.cons (.assign [(.var 20)] (.call 11 (.cons (.call 10 (.cons (.slc (.loc 4) (.loc 17) .none) (.cons (.slc (.loc 5) (.loc 18) .none) .nil))) (.cons (.loc 17) (.cons (.loc 18) .nil)))))
 (.cons (.cond (.cmp .ne (.bin .add (.loc 19) (.loc 20)) (.loc 7)) (.cons (.ret (.bool false))
 .nil) .nil)
 .nil)))
noncomputable def iJ:jf:=(.cons (.assign [(.tup [11,12,13])] (.sub (.loc 9) (.bin .sub (.loc 10) (.int 1))))
 (.cons (.assign [(.tup [14,15,16])] (.sub (.loc 9) (.loc 10)))
 (.cons (.each (.var 17) (.rng2 (.bin .add (.loc 11) (.loc 13)) (.bin .add (.loc 14) (.int 1))) (.cons (.each (.var 18) (.rng2 (.bin .add (.loc 12) (.loc 13)) (.bin .add (.loc 15) (.int 1))) tK)
 .nil))
 .nil)))
theorem dI {C:Cal} {ρ:Fr} {σ:St} {K:Fl→Fr→St→Prop} {x:Nat} {e1 e2:Ex} {b ss:jf} {m n:Nat} (Inv:Fr→St→Prop) (h1:evV σ ρ e1=some (.int m)) (h2:evV σ ρ e2=some (.int n)) (hm:m<2^39) (hn:n<2^39) (h0:Inv ρ σ)
  (step:∀ i ρ' σ' (kk:Fr→St→Prop) (K':Fl→Fr→St→Prop),m≤i→i<n→Inv ρ' σ'→(∀ ρ2 σ2,Inv ρ2 σ2→kk ρ2 σ2)→dk C b (upd ρ' x (.int (i:Nat))) σ' (qo kk K'))
  (fin:∀ ρ' σ',Inv ρ' σ'→dk C ss ρ' σ' K):dk C (.cons (.each (.var x) (.rng2 e1 e2) b) ss) ρ σ K:=by
 refine eg (Q:=_) e1 h1 (eg (Q:=_) e2 h2 ⟨m,n,rfl,rfl,by(exact(Ar.nab _).elim (fun q1=>(Ar.a2 [] [_,_] (.l .v0 (.n (2^40))) [[1,1,1]] (.l .v1 (.n (2^39))) (.ie (.t .v0) (.t .v1)) hm q1.2)) fun q1=>(Ar.a1 [] [_,_] (.l .v0 (.n (2^40))) [[1,1]] (.ie (.t .v0) (.g (.t .v1))) q1.2)),by(exact(Ar.nab _).elim (fun q1=>(Ar.a2 [] [_,_] (.l .v0 (.n (2^40))) [[1,1,1]] (.l .v1 (.n (2^39))) (.ie (.t .v0) (.t .v1)) hn q1.2)) fun q1=>(Ar.a1 [] [_,_] (.l .v0 (.n (2^40))) [[1,1]] (.ie (.t .v0) (.g (.t .v1))) q1.2)),?_⟩)
 refine ll (fun _ ρ' σ'=>Inv ρ' σ') ?_ (fun ρ' σ' I=>⟨trivial,fin _ _ I⟩) h0
 intro i v ρ' σ' hv I
 obtain⟨hi,rfl⟩:=su hv
 exact⟨trivial,fun kk hk=>step _ _ _ kk _ (sd _ _) hi I hk⟩
section
variable {n:Nat} {ρ:Fr} {σ:St} {la lb lk lg:Addr} {xs ys:List Int} {L:List T3}
theorem sP {K:Fl→Fr→St→Prop} {kk:Fr→St→Prop} {t:Nat} (hza:xs.length<64) (hzb:ys.length<64) (bt:BT (kq (ks xs) (ks ys)) 0 xs.length 0 ys.length L) (H:Kn ρ σ la lb lk lg xs ys L) {c0 c1:T3} (h0:(jq L xs.length ys.length)[t]?=some c0) (h1:(jq L xs.length ys.length)[t+1]?=some c1)
  (h:∀ ρ' σ',Kn ρ' σ' la lb lk lg xs ys L→kk ρ' σ'):dk (dn P (n+5)) iJ (upd ρ 10 (.int (t+1:Nat))) σ (qo kk K):=by
 have at_:∀ {i:Nat} {c:T3},(jq L xs.length ys.length)[i]?=some c→((jq L xs.length ys.length).map tV)[i]?=some (tV c):=fun {i c} h=>by rw [bq,h];rfl
 refine fS [.int c0.1,.int c0.2.1,.int c0.2.2] (aS (n:=t) H.r9 H.g ((hV (a:=.loc 10) (b:=.int 1) (m:=t+1) (n:=1) rfl rfl (Nat.le_add_left 1 t)).trans (by rw [Nat.add_sub_cancel])) (at_ h0)) rfl ?_
 refine fS [.int c1.1,.int c1.2.1,.int c1.2.2] (aS (n:=t+1) H.r9 H.g rfl (at_ h1)) rfl ?_
 have H1:Kn (ez [14,15,16] [.int c1.1,.int c1.2.1,.int c1.2.2] (ez [11,12,13] [.int c0.1,.int c0.2.1,.int c0.2.2] (upd ρ 10 (.int (t+1:Nat))))) σ la lb lk lg xs ys L:=⟨H.r4,H.r5,H.r7,H.r9,H.a,H.b,H.k,H.g⟩
 have e11:ez [14,15,16] [.int c1.1,.int c1.2.1,.int c1.2.2] (ez [11,12,13] [.int c0.1,.int c0.2.1,.int c0.2.2] (upd ρ 10 (.int (t+1:Nat)))) 11=some (.int c0.1):=rfl
 have e12:ez [14,15,16] [.int c1.1,.int c1.2.1,.int c1.2.2] (ez [11,12,13] [.int c0.1,.int c0.2.1,.int c0.2.2] (upd ρ 10 (.int (t+1:Nat)))) 12=some (.int c0.2.1):=rfl
 have e13:ez [14,15,16] [.int c1.1,.int c1.2.1,.int c1.2.2] (ez [11,12,13] [.int c0.1,.int c0.2.1,.int c0.2.2] (upd ρ 10 (.int (t+1:Nat)))) 13=some (.int c0.2.2):=rfl
 have e14:ez [14,15,16] [.int c1.1,.int c1.2.1,.int c1.2.2] (ez [11,12,13] [.int c0.1,.int c0.2.1,.int c0.2.2] (upd ρ 10 (.int (t+1:Nat)))) 14=some (.int c1.1):=rfl
 have e15:ez [14,15,16] [.int c1.1,.int c1.2.1,.int c1.2.2] (ez [11,12,13] [.int c0.1,.int c0.2.1,.int c0.2.2] (upd ρ 10 (.int (t+1:Nat)))) 15=some (.int c1.2.1):=rfl
 generalize ez [14,15,16] [.int c1.1,.int c1.2.1,.int c1.2.2] (ez [11,12,13] [.int c0.1,.int c0.2.1,.int c0.2.2] (upd ρ 10 (.int (t+1:Nat))))=ρ1 at H1 e11 e12 e13 e14 e15
 have ok:=bt.ok
 have cc:=@lQ L xs.length ys.length t c0 c1 ok.2.1 ok.1 h0 h1
 have wi:∀ {i:Nat} {u:T3},(jq L xs.length ys.length)[i]?=some u→u.1≤xs.length∧u.2.1≤ys.length∧u.1+u.2.2≤xs.length∧u.2.1+u.2.2≤ys.length:=fun {i u} hu=>by
  have hu:=cu hu
  rcases br.mp hu with rfl | hu
  ·exact⟨ba _,ba _,ba _,ba _⟩
  ·rcases cy.mp hu with hu | hu
   ·have:=(ok.1 u hu).1
    unfold Within at this;(exact⟨(Ar.a1 [] [_,_,_] (.k .v0 .v1) [[1,1]] (.k (.a .v0 .v2) .v1) this.2.1),⟨(Ar.a1 [] [_,_,_] (.k .v0 .v1) [[1,1]] (.k (.a .v0 .v2) .v1) this.2.2.2),⟨(Ar.a1 [] [_,_,_] (.k (.a .v0 .v1) .v2) [[1,1]] (.k (.a .v0 .v1) .v2) this.2.1),(Ar.a1 [] [_,_,_] (.k (.a .v0 .v1) .v2) [[1,1]] (.k (.a .v0 .v1) .v2) this.2.2.2)⟩⟩⟩)
   ·rw [aq.mp hu];exact⟨aj _,aj _,aj _,aj _⟩
 have w0:=wi h0
 have w1:=wi h1
 refine dI (m:=c0.1+c0.2.2) (n:=c1.1+1) (fun ρ' σ'=>(∀ m,m<17→ρ' m=ρ1 m)∧Ext σ σ') (fx (a:=.loc 11) (b:=.loc 13) e11 e13) (fx (a:=.loc 14) (b:=.int 1) (n:=1) e14 rfl) (by(exact Ar.a2 [] [_,_,_] (.l (.a .v0 .v1) (.n (2^39))) [[1,1,1]] (.l .v2 (.n 64)) (.k (.a .v0 .v1) .v2) hza w0.2.2.1)) (by(exact Ar.a2 [] [_,_] (.l (.a .v0 .n1) (.n (2^39))) [[1,1,1]] (.l .v1 (.n 64)) (.k .v0 .v1) hza w1.1)) ⟨fun _ _=>rfl,Ext.refl σ⟩ ?_ fun ρ' σ' zz=>gk (h _ _ (H1.ext (fun m hm=>zz.1 m (by(exact Ar.a1 [] [_] (.l .v0 (.n 17)) [[1,1]] (.l .v0 (.n 10)) hm))) zz.2))
 rintro p ρ2 σ2 k2 K2 hp1 hp2 ⟨f2,E2⟩ hk2
 have f2':∀ m,m<17→upd ρ2 17 (.int (p:Nat)) m=ρ1 m:=fun m hm=>(cn (by(exact Ar.a1 [] [_] (.u .v0 (.n 17)) [[-1,1]] (.l .v0 (.n 17)) hm))).trans (f2 m hm)
 have e17:upd ρ2 17 (.int (p:Nat)) 17=some (.int p):=rfl
 generalize upd ρ2 17 (.int (p:Nat))=ρ3 at f2' e17
 refine dI (m:=c0.2.1+c0.2.2) (n:=c1.2.1+1) (fun ρ' σ'=>(∀ m,m<18→ρ' m=ρ3 m)∧Ext σ2 σ') (fx (a:=.loc 12) (b:=.loc 13) ((f2' 12 (by decide)).trans e12) ((f2' 13 (by decide)).trans e13)) (fx (a:=.loc 15) (b:=.int 1) (n:=1) ((f2' 15 (by decide)).trans e15) rfl) (by(exact Ar.a2 [] [_,_,_] (.l (.a .v0 .v1) (.n (2^39))) [[1,1,1]] (.l .v2 (.n 64)) (.k (.a .v0 .v1) .v2) hzb w0.2.2.2)) (by(exact Ar.a2 [] [_,_] (.l (.a .v0 .n1) (.n (2^39))) [[1,1,1]] (.l .v1 (.n 64)) (.k .v0 .v1) hzb w1.2.1)) ⟨fun _ _=>rfl,Ext.refl σ2⟩ ?_ fun ρ' σ' zz=>gk (hk2 _ _ ⟨fun m hm=>(zz.1 m (by(exact Ar.a1 [] [_] (.l .v0 (.n 18)) [[1,1]] (.l .v0 (.n 17)) hm))).trans (f2' m hm),E2.trans zz.2⟩)
 rintro q ρ4 σ4 k4 K4 hq1 hq2 ⟨f4,E4⟩ hk4
 have f4':∀ m,m<18→upd ρ4 18 (.int (q:Nat)) m=ρ3 m:=fun m hm=>(cn (by(exact Ar.a1 [] [_] (.u .v0 (.n 18)) [[-1,1]] (.l .v0 (.n 18)) hm))).trans (f4 m hm)
 have e18:upd ρ4 18 (.int (q:Nat)) 18=some (.int q):=rfl
 generalize upd ρ4 18 (.int (q:Nat))=ρ5 at f4' e18
 obtain⟨hp,hq,hc⟩:=cc hp1 (ye hp2) hq1 (ye hq2)
 have H5:Kn ρ5 σ4 la lb lk lg xs ys L:=H1.ext (fun m hm=>(f4' m (by(exact Ar.a1 [] [_] (.l .v0 (.n 18)) [[1,1]] (.l .v0 (.n 10)) hm))).trans (f2' m (by(exact Ar.a1 [] [_] (.l .v0 (.n 17)) [[1,1]] (.l .v0 (.n 10)) hm)))) (E2.trans E4)
 exact sR H5.a H5.b H5.k hza hzb bt H5.r4 H5.r5 H5.r7 ((f4' 17 (by decide)).trans e17) e18 hp hq hc fun ρ6 σ6 f6 E6=>hk4 _ _ ⟨fun m hm=>(f6 m (by(exact Ar.a1 [] [_] (.l .v0 (.n 19)) [[1,1]] (.l .v0 (.n 18)) hm))).trans (f4' m hm),E4.trans E6⟩
theorem sQ {K:Fl→Fr→St→Prop} {ss:jf} (hza:xs.length<64) (hzb:ys.length<64) (bt:BT (kq (ks xs) (ks ys)) 0 xs.length 0 ys.length L) (H:Kn ρ σ la lb lk lg xs ys L) (h:∀ ρ' σ',dk (dn P (n+5)) ss ρ' σ' K) :
  dk (dn P (n+5)) (.cons (.each (.var 10) (.rng2 (.int 1) (.bf .len (.cons (.loc 9) .nil))) iJ) ss) ρ σ K:=by
 have hl:=BT.small bt
 have hlen:(jq L xs.length ys.length).length=L.length+2:=by
  show(L++[(xs.length,ys.length,0)]).length+1=_
  rw [bx,ib]
 refine dI (m:=1) (n:=L.length+2) (fun ρ' σ'=>Kn ρ' σ' la lb lk lg xs ys L) rfl ?_ (by decide) (by(exact Ar.a2 [] [_,_] (.l (.a .v0 .n2) (.n (2^39))) [[1,1,1]] (.l .v1 (.n 64)) (.k .v0 .v1) hza hl)) H ?_ fun ρ' σ' _=>h ρ' σ'
 ·rw [t9,ee,ow,H.r9]
  show jL σ .len [.lst lg]=_
  rw [jK,H.g]
  show some (V.int (((jq L xs.length ys.length).map tV).length:Nat))=_
  rw [ax,hlen]
 intro i ρ' σ' kk K' h1 h2 H' hk
 obtain⟨t,rfl⟩:∃ t,i=t+1:=⟨i-1,by(exact Ar.a1 [] [_,_] (.e .v0 (.a .v1 .n1)) [[1,1],[1,-1]] (.e (.a .v1 .n1) .v0) (aa (Ar.a1 [] [_] (.k .n1 .v0) [[1,1]] (.k .n1 .v0) h1)))⟩
 exact sP hza hzb bt H' (cf (by(exact Ar.a2 [] [_,_,_] (.l .v0 .v1) [[1,-1,1]] (.e .v1 (.a .v2 .n2)) (.l (.a .v0 .n1) (.a .v2 .n2)) hlen h2))) (cf (by(exact Ar.a2 [] [_,_,_] (.l (.a .v0 .n1) .v1) [[1,-1,1]] (.e .v1 (.a .v2 .n2)) (.l (.a .v0 .n1) (.a .v2 .n2)) hlen h2))) hk
end
theorem bK {α β:Type} {f:α→β}:∀ {L:List α},(L.flatMap fun x=>[f x])=L.map f
 | []=>rfl
 | x::L=>bu (f x::·) (bK (L:=L))
theorem dB {α β:Type} (p:α→Prop) [DecidablePred p] (f:α→β):∀ L:List α,(L.flatMap fun x=>if p x then [f x] else [])=(L.filter fun x=>decide (p x)).map f
 | []=>rfl
 | x::L=>by
  rw [List.flatMap_cons,dB p f L]
  by_cases c:p x
  ·rw [bc c,aD (p:=fun x=>decide (p x)) (dv c)];rfl
  ·rw [aw c,List.filter_cons_of_neg (p:=fun x=>decide (p x)) (by simpa using c)];rfl
noncomputable def eQ (ns:List Int):Int:=ns.headD 0
noncomputable def gOf (way x:Int):Int:=if 0<way%4 then x%(way%4+2) else x
theorem CM (ns:List Int) (hns:ns.length≤63) (σ:St):dn P 7 14 [.ro ns] σ fun v σ=>v=.bool true:=by
 refine⟨wO,rfl,aj 1,aj 1,?_⟩
 have h0:frameOf wO [.ro ns] 0=some (.ro ns):=rfl
 generalize frameOf wO [.ro ns]=ρ at h0
 have hz:ns.length≤av:=by unfold av;(exact Ar.a1 [] [_] (.k .v0 (.n 1000000)) [[1,1]] (.k .v0 (.n 63)) hns)
 refine⟨.ro ns,h0,hz,?_⟩
 suffices hw:dk (dn P 6) _ (upd ρ 1 (.int (eQ ns))) σ _ by
  cases ns with
  | nil=>exact xj hw
  | cons x r=>exact aN ⟨.ro (x::r),h0,x,hz,by rw [show(0:Int)=((0:Nat):Int) from rfl,ir];exact Int.le_refl _,by rw [show(0:Int)=((0:Nat):Int) from rfl,ir];rfl,hw⟩
 have r0:upd ρ 1 (.int (eQ ns)) 0=some (.ro ns):=h0
 have r1:upd ρ 1 (.int (eQ ns)) 1=some (.int (eQ ns)):=rfl
 generalize upd ρ 1 (.int (eQ ns))=ρ1 at r0 r1
 generalize eQ ns=way at r1
 have src:Fv (dn P 6) ρ1 σ (.slc (.loc 0) (.int 1) (.int 63)) (iV ((ns.take 63).drop 1)):=fun σ' Q E k=>by
  refine⟨_,r0,1,63,hz,rfl,rfl,by decide,by decide,fun c hc=>?_⟩
  have e1:dj ns.length 63=ns.length:=by unfold dj fm;rw [aw (by(exact Ar.a0 [] [] (.ig (.n 63) .n0) [[1]]))];(exact(Ar.jr _ _).2.2.elim (fun q1=>(Ar.a2 [] [_,_] (.e .v0 .v1) [[1,0,1],[1,1,0]] (.k .v0 .v1) (.k .v1 .v0) (Ar.jr _ _).1 q1)) fun q1=>((Ar.ton _).elim (fun q2=>(Ar.a4 [] [_,_,_] (.e .v0 .v1) [[1,1,0,1,-1],[1,0,1,0,0]] (.k .v1 (.n 63)) (.k .v0 .v1) (.k .v2 .v0) (.ie (.t .v2) (.n 63)) hns (Ar.jr _ _).1 q1 q2.2)) fun q2=>(Ar.a1 [] [_,_] (.e .v0 .v1) [[0,1],[0,1]] (.ik (.n 63) .n0) q2.1)))
  have e2:(ns.take (dj ns.length 63)).drop (dj ns.length 1)=(ns.take 63).drop 1:=by
   rw [e1,ke,List.take_of_length_le hns]
   unfold dj fm
   rw [aw (by(exact Ar.a0 [] [] (.ig .n1 .n0) [[1]]))]
   cases ns with
   | nil=>rfl
   | cons x r =>
    have:min (x::r).length (1:Int).toNat=1:=by show min (r.length+1) 1=1;(exact(Ar.jr _ _).2.2.elim (fun q1=>(Ar.a2 [] [_,_] (.e .v0 .n1) [[1,0,1],[1,1,0]] (.k .v0 .n1) (.k (.a .v1 .n1) .v0) (Ar.jr _ _).2.1 q1)) fun q1=>(Ar.a2 [] [_] (.e .v0 .n1) [[1,0,1],[1,1,0]] (.k .v0 .n1) (.k .n1 .v0) (Ar.jr _ _).2.1 q1))
    rw [this]
  rw [e2]
  exact k c _ ((Ext.refl σ').cw hc) hc (bp _ _ _)
 have hms:((ns.take 63).drop 1).length≤62:=by rw [fk,dq];(exact Ar.sub _ _ (fun q1 p1=>(Ar.a2 [] [_,_] (.k .v0 (.n 62)) [[1,1,1]] (.k .v1 (.n 63)) (.e (.a .v0 .n1) .v1) (Ar.jr _ _).1 p1)) fun q1 p1=>(Ar.a1 [] [_] (.k .v0 (.n 62)) [[1,1]] (.e .v0 .n0) p1))
 generalize (ns.take 63).drop 1=ms at src hms
 refine tY (Fv.comp (u:=V.int) (fun x=>[V.int (gOf way x)]) (fun ρ'=>ρ' 2=some (.int way)) src.g r1 (by unfold av;(exact Ar.a1 [] [_] (.k .v0 (.n 1000000)) [[1,1]] (.k .v0 (.n 62)) hms)) fun σ' E x hx ρ' q2 K' hK'=>hK' _ q2 (Gives.one ?_)) fun l2 σ2 E2 _ hl2=>?_
 ·have hc:evT σ' (upd ρ' 1 (.int x)) (.cmp .gt (.bin .mod (.loc 2) (.int 4)) (.int 0))=some (decide (0<way%4)):=by
   have:upd ρ' 1 (.int x) 2=some (.int way):=q2
   simp [jd,this]
  show(evT σ' (upd ρ' 1 (.int x)) _).bind (fun t=>if t then _ else _)=_
  rw [hc]
  unfold gOf
  by_cases c:0<way%4
  ·rw [dv c,bc c]
   show evV σ' (upd ρ' 1 (.int x)) (.bin .mod (.loc 1) (.bin .add (.bin .mod (.loc 2) (.int 4)) (.int 2)))=_
   have h2:upd ρ' 1 (.int x) 2=some (.int way):=q2
   have h1:upd ρ' 1 (.int x) 1=some (.int x):=rfl
   simp [jd,h1,h2]
   (exact Ar.a1 [_] [] (.il .n0 (.a .v0 .n2)) [[1,1]] (.il .n0 .v0) c)
  ·rw [dp c,aw c];rfl
 rw [bK] at hl2
 have hl2:σ2.L l2=some (iV (ms.map (gOf way))):=by rw [hl2];exact bu some (ky ..).symm
 have hws:(ms.map (gOf way)).length≤62:=by rw [ax];exact hms
 generalize ms.map (gOf way)=ws at hl2 hws
 have q1:upd ρ1 2 (.lst l2) 1=some (.int way):=r1
 have q2:upd ρ1 2 (.lst l2) 2=some (.lst l2):=rfl
 generalize upd ρ1 2 (.lst l2)=ρ2 at q1 q2
 obtain⟨c,hc,ec⟩:∃ c:Nat,c≤ws.length∧(way/4)%((ws.length:Int)+1)=c:=by
  have h1:=Int.emod_nonneg (way/4) (show((ws.length:Int)+1)≠0 by(exact Ar.a0 [] [_] (.iu (.a (.t .v0) .n1) .n0) [[1]]))
  have h2:=Int.emod_lt_of_pos (way/4) (show(0:Int)<(ws.length:Int)+1 by(exact Ar.a0 [] [_] (.il .n0 (.a (.t .v0) .n1)) [[1]]))
  exact⟨((way/4)%((ws.length:Int)+1)).toNat,by(first | exact(Ar.ton _).elim (fun q1=>(Ar.a2 [_] [_,_] (.k .v0 .v1) [[1,1,1]] (.il .v0 (.a (.t .v1) .n1)) (.ie (.t .v0) .v0) h2 q1.2)) fun q1=>(Ar.a1 [] [_,_] (.k .v0 .v1) [[1,1]] (.e .v0 .n0) q1.2) | omega),by(first | exact(Ar.ton _).elim (fun q1=>(Ar.a1 [_] [_] (.ie .v0 (.t .v0)) [[1,1],[1,-1]] (.ie (.t .v0) .v0) q1.2)) fun q1=>(Ar.a3 [_] [_] (.ie .v0 (.t .v0)) [[1,1,0,1],[1,0,1,0]] (.ik .n0 .v0) (.ik .v0 .n0) (.e .v0 .n0) h1 q1.1 q1.2) | omega)⟩
 refine zv (.int c) ?_ ?_
 ·rw [zm,zm,ow,q1,zm,md q2 hl2]
  show(jd ((0:Int)<4∧(4:Int).natAbs<2^60) (V.int (way/4))).bind (fun va=>xw .mod va (.int ((ws.length:Int)+1)))=_
  unfold jd
  rw [bc (by decide)]
  show jd ((0:Int)<(ws.length:Int)+1) (V.int ((way/4)%((ws.length:Int)+1)))=_
  unfold jd
  rw [bc (by(exact Ar.a0 [] [_] (.il .n0 (.a (.t .v0) .n1)) [[1]])),ec]
 have q2:upd ρ2 3 (.int c) 2=some (.lst l2):=q2
 have q3:upd ρ2 3 (.int c) 3=some (.int c):=rfl
 generalize upd ρ2 3 (.int c)=ρ3 at q2 q3
 rw [mn,u6,ja]
 have s1:=Gv.slc (C:=dn P 6) (lo:=.none) (hi:=.loc 3) (i:=0) (j:=c) (Gv.loc q2 hl2) (fun _ _=>⟨_,rfl,rfl⟩) (fun _ _=>⟨_,q3,rfl⟩) (by decide) (by(exact(Ar.nab _).elim (fun q1=>(Ar.a3 [] [_,_,_] (.l .v0 (.n (2^60))) [[1,1,1,1]] (.k .v1 (.n 62)) (.k .v2 .v1) (.ie (.t .v0) (.t .v2)) hws hc q1.2)) fun q1=>(Ar.a1 [] [_,_] (.l .v0 (.n (2^60))) [[1,1]] (.ie (.t .v0) (.g (.t .v1))) q1.2)))
 rw [ax,yp,om hc,wd,← sh] at s1
 refine s1 σ2 _ (Ext.refl σ2) fun la σ3 E3 _ hla=>?_
 rw [ja]
 have s2:=Gv.slc (C:=dn P 6) (lo:=.loc 3) (hi:=.none) (i:=c) (j:=ws.length) (Gv.loc q2 (E3.L _ _ hl2)) (fun _ _=>⟨_,q3,rfl⟩) (fun _ _=>⟨_,rfl,bu (fun m:Nat=>some (m:Int)) (ax _)⟩) (by(exact(Ar.nab _).elim (fun q1=>(Ar.a3 [] [_,_,_] (.l .v0 (.n (2^60))) [[1,1,1,1]] (.k .v1 (.n 62)) (.k .v2 .v1) (.ie (.t .v0) (.t .v2)) hws hc q1.2)) fun q1=>(Ar.a1 [] [_,_] (.l .v0 (.n (2^60))) [[1,1]] (.ie (.t .v0) (.g (.t .v1))) q1.2))) (by(exact(Ar.nab _).elim (fun q1=>(Ar.a2 [] [_,_] (.l .v0 (.n (2^60))) [[1,1,1]] (.k .v1 (.n 62)) (.ie (.t .v0) (.t .v1)) hws q1.2)) fun q1=>(Ar.a1 [] [_,_] (.l .v0 (.n (2^60))) [[1,1]] (.ie (.t .v0) (.g (.t .v1))) q1.2)))
 rw [ax,om hc,om (aj _),← sh,ke,← List.map_drop] at s2
 refine s2 σ3 _ (Ext.refl σ3) fun lb σ4 E4 _ hlb=>?_
 have hla:=E4.L _ _ hla
 have hza:(ws.take c).length<63:=by rw [dq];(exact Ar.a2 [] [_,_] (.l .v0 (.n 63)) [[1,1,1]] (.k .v1 (.n 62)) (.k .v0 .v1) hws (Ar.jr _ _).2.1)
 have hzb:(ws.drop c).length<63:=by rw [fk];(exact Ar.a2 [] [_,_,_] (.l .v0 (.n 63)) [[1,1,1]] (.k .v1 (.n 62)) (.e (.a .v0 .v2) .v1) hws (aa (Ar.a1 [] [_,_] (.k .v0 .v1) [[1,1]] (.k .v0 .v1) hc)))
 generalize ws.take c=xs at hla hza
 generalize ws.drop c=ys at hlb hzb
 refine⟨cm rfl,_,rfl,rfl,?_⟩
 have r4:ez [4,5] [.lst la,.lst lb] ρ3 4=some (.lst la):=rfl
 have r5:ez [4,5] [.lst la,.lst lb] ρ3 5=some (.lst lb):=rfl
 show dk _ _ (ez [4,5] [.lst la,.lst lb] ρ3) σ4 _
 generalize ez [4,5] [.lst la,.lst lb] ρ3=ρ4 at r4 r5
 clear s1 s2 q1 q2 q3 E3 E4 E2 hl2 src
 rw [mn,so]
 refine⟨_,r4,_,r5,?_⟩
 refine y0 (n:=1) hla hlb (by(exact Ar.a1 [] [_] (.l .v0 (.n 64)) [[1,1]] (.l .v0 (.n 63)) hza)) (by(exact Ar.a1 [] [_] (.l .v0 (.n 400000)) [[1,1]] (.l .v0 (.n 63)) hzb)) fun σ5 lc L E5 bt hc5=>?_
 have r6:upd ρ4 6 (.lst lc) 6=some (.lst lc):=rfl
 have r4:upd ρ4 6 (.lst lc) 4=some (.lst la):=r4
 have r5:upd ρ4 6 (.lst lc) 5=some (.lst lb):=r5
 show dk _ _ (upd ρ4 6 (.lst lc)) σ5 _
 generalize upd ρ4 6 (.lst lc)=ρ5 at r4 r5 r6
 rw [mn,so]
 refine⟨_,r6,?_⟩
 refine n9 (P:=P) (k:=11) (n:=5) (p:=0) (q:=0) rfl hc5 (iK bt (by(exact Ar.a1 [] [_] (.l .v0 (.n 64)) [[1,1]] (.l .v0 (.n 63)) hza))) dN fun lk σ6 E6 _ hk6=>?_
 rw [jE fun t ht=>(bt.ok.1 t ht).2,iU] at hk6
 have r7:upd ρ5 7 (.lst lk) 7=some (.lst lk):=rfl
 have r4:upd ρ5 7 (.lst lk) 4=some (.lst la):=r4
 have r5:upd ρ5 7 (.lst lk) 5=some (.lst lb):=r5
 have r6:upd ρ5 7 (.lst lk) 6=some (.lst lc):=r6
 show dk _ _ (upd ρ5 7 (.lst lk)) σ6 _
 generalize upd ρ5 7 (.lst lk)=ρ6 at r4 r5 r6 r7
 have hla:=E6.L _ _ (E5.L _ _ hla)
 have hlb:=E6.L _ _ (E5.L _ _ hlb)
 have hc6:=E6.L _ _ hc5
 rw [mn,so]
 refine⟨_,r4,_,r5,?_⟩
 refine kY (n:=5) hla hlb (by(exact Ar.a1 [] [_] (.l .v0 (.n 10000)) [[1,1]] (.l .v0 (.n 63)) hza)) (by(exact Ar.a1 [] [_] (.l .v0 (.n 10000)) [[1,1]] (.l .v0 (.n 63)) hzb)) fun i j k lb0=>?_
 have r8:upd ρ6 8 (tV (i,j,k)) 8=some (tV (i,j,k)):=rfl
 have r4:upd ρ6 8 (tV (i,j,k)) 4=some (.lst la):=r4
 have r5:upd ρ6 8 (tV (i,j,k)) 5=some (.lst lb):=r5
 have r6:upd ρ6 8 (tV (i,j,k)) 6=some (.lst lc):=r6
 have r7:upd ρ6 8 (tV (i,j,k)) 7=some (.lst lk):=r7
 show dk _ _ (upd ρ6 8 (tV (i,j,k))) σ6 _
 generalize upd ρ6 8 (tV (i,j,k))=ρ7 at r4 r5 r6 r7 r8
 have hsm:=BT.small bt
 have hpos:∀ t∈L,0<t.2.2:=fun t ht=>(bt.ok.1 t ht).2
 refine⟨_,r6,?_⟩
 show wpE (dn P 6) (.call 12 _) ρ7 σ6 _
 rw [so]
 refine⟨_,r7,?_⟩
 show nz (dn P 6) (.cons _ _) ρ7 σ6 _
 rw [ja]
 refine eg _ (md r4 hla) ?_
 rw [ja]
 refine eg _ (md r5 hlb) ?_
 have hmono:k8 0 0 (L++[(xs.length,ys.length,0)]):=k8.of (List.pairwise_append.mpr ⟨bt.ok.2.1,.cons (fun u hu=>(by cases hu)) .nil,fun a ha b hb=>by
  rw [aq.mp hb]
  exact⟨(bt.ok.1 a ha).1.2.1,(bt.ok.1 a ha).1.2.2.2⟩⟩) fun _ _=>⟨ba _,ba _⟩
 refine sS (P:=P) (k:=12) (n:=5) rfl hk6 (by(exact Ar.a2 [] [_,_] (.l .v0 (.n 100000)) [[1,1,1]] (.l .v1 (.n 63)) (.k .v0 .v1) hza hsm)) hmono fun ld σ7 E7 _ hd7=>?_
 refine yJ (E7.L _ _ hc6) hd7 jU (xj ?_)
 have hla:=E7.L _ _ hla
 have hlb:=E7.L _ _ hlb
 have hk7:=E7.L _ _ hk6
 have f1:Fv (dn P 6) ρ7 σ7 (.comp [(2,8)] (.seq (.loc 7)) (.var 1) (.cons (.cmp .ge (.sub (.loc 1) (.int 2)) (.sub (.loc 2) (.int 2))) .nil) (.elt (.loc 1))) ((L.filter fun t=>decide (k≤t.2.2)).map tV):=by
  have e:(L.flatMap fun t=>if k≤t.2.2 then [tV t] else [])=(L.filter fun t=>decide (k≤t.2.2)).map tV:=dB _ _ _
  rw [← e]
  refine Fv.comp (us:=L) (u:=tV) _ (fun ρ'=>ρ' 2=some (tV (i,j,k))) (Gv.loc r7 hk7) r8 (by unfold av;(exact Ar.a2 [] [_,_] (.k .v0 (.n 1000000)) [[1,1,1]] (.l .v1 (.n 63)) (.k .v0 .v1) hza hsm)) fun σ' E t ht ρ' p2 K' hK'=>hK' _ p2 (Gives.test (b:=decide (k≤t.2.2)) ?_ ?_)
  ·have p2:upd ρ' 1 (tV t) 2=some (tV (i,j,k)):=p2
   have p1:upd ρ' 1 (tV t) 1=some (tV t):=rfl
   rw [wu,zl,zl,ow,ow,p1,p2]
   show some (decide ((k:Int)≤(t.2.2:Nat)))=_
   exact bu some (kc.mpr Int.ofNat_le)
  ·by_cases c:k≤t.2.2
   ·rw [dv c,bc c];exact⟨tV t,rfl,rfl⟩
   ·rw [dp c,aw c];rfl
 have f2:=Gv.slc (lo:=.none) (hi:=.int 1) (i:=0) (j:=1) f1.g (fun _ _=>⟨_,rfl,rfl⟩) (fun _ _=>⟨_,rfl,rfl⟩) (by decide) (by decide)
 have e2:(((L.filter fun t=>decide (k≤t.2.2)).map tV).take (dj ((L.filter fun t=>decide (k≤t.2.2)).map tV).length 1)).drop (dj ((L.filter fun t=>decide (k≤t.2.2)).map tV).length 0)=((L.filter fun t=>decide (k≤t.2.2)).take 1).map tV:=by
  generalize L.filter (fun t=>decide (k≤t.2.2))=M
  rw [yp,wd]
  cases M with
  | nil=>rfl
  | cons u r =>
   rw [show dj ((u::r).map tV).length 1=1 from om (i:=1) (by rw [ax];exact Nat.le_add_left 1 _),← sh]
 rw [e2] at f2
 have f3:Fv (dn P 6) ρ7 σ7 (.comp [] (.seq (.lst (.cons (.loc 8) .nil))) (.var 1) (.cons (.cmp .gt (.sub (.loc 1) (.int 2)) (.int 0)) .nil) (.elt (.loc 1))) ((if 0<k then [(i,j,k)] else []).map tV):=by
  have e:([(i,j,k)].flatMap fun t:T3=>if 0<t.2.2 then [tV t] else [])=(if 0<k then [(i,j,k)] else []).map tV:=by
   by_cases c:0<k
   ·rw [bc c];show(if 0<k then [tV (i,j,k)] else [])++[]=_;rw [bc c];rfl
   ·rw [aw c];show(if 0<k then [tV (i,j,k)] else [])++[]=_;rw [aw c];rfl
  rw [← e]
  refine Fv.comp (us:=[(i,j,k)]) (u:=tV) _ (fun ρ'=>True) (Fv.lst (xs:=[tV (i,j,k)]) (fun _ _=>by rw [ee,ow,r8];rfl) (cm rfl)).g trivial (cm rfl) fun σ' E t ht ρ' _ K' hK'=>hK' _ trivial (Gives.test (b:=decide (0<t.2.2)) ?_ ?_)
  ·have p1:upd ρ' 1 (tV t) 1=some (tV t):=rfl
   rw [wu,zl,ow,p1]
   show some (decide ((0:Int)<(t.2.2:Nat)))=_
   exact bu some (kc.mpr Int.natCast_pos)
  ·by_cases c:0<t.2.2
   ·rw [dv c,bc c];exact⟨tV t,rfl,rfl⟩
   ·rw [dp c,aw c];rfl
 have e3:(L.filter fun t=>decide (k≤t.2.2)).take 1=if 0<k then [(i,j,k)] else []:=by
  rcases lb0.best (fun x y h1 h2=>⟨h1,h2⟩) bt with ⟨rfl,rfl⟩ | ⟨p,hm,B⟩
  ·rfl
  ·rw [bc p]
   refine lH bt.ok.2.1 (fun t ht=>⟨hpos t ht,?_⟩) hm B
   exact bt.ok.2.2 t ht
 rw [e3] at f2
 refine f2 σ7 _ (Ext.refl σ7) fun l1 σ8 E8 _ h8=>?_
 refine f3 σ8 _ E8 fun l2 σ9 E9 _ h9=>?_
 refine pW (E9.L _ _ h8) h9 (xj ?_)
 have E:=E8.trans E9
 have hla:=E.L _ _ hla
 have hlb:=E.L _ _ hlb
 have hk9:=E.L _ _ hk7
 have g1:=Gv.cat (Gv.cat (Fv.lst (C:=dn P 6) (ρ:=ρ7) (σb:=σ9) (es:=.cons (.tup (.cons (.int 0) (.cons (.int 0) (.cons (.int 0) .nil)))) .nil) (xs:=[tV (0,0,0)]) (fun _ _=>rfl) (cm rfl)).g (Gv.loc r7 hk9) (by rw [ax];unfold av;show 1+L.length≤_;(exact Ar.a2 [] [_,_] (.k (.a .n1 .v0) (.n 1000000)) [[1,1,1]] (.l .v1 (.n 63)) (.k .v0 .v1) hza hsm))).g
  (Fv.lst (es:=.cons (.tup (.cons (.bf .len (.cons (.loc 4) .nil)) (.cons (.bf .len (.cons (.loc 5) .nil)) (.cons (.int 0) .nil)))) .nil) (xs:=[tV (xs.length,ys.length,0)]) (fun σ' E'=>by rw [ee,ev3 (md r4 (E'.L _ _ hla)) (md r5 (E'.L _ _ hlb)) rfl];rfl) (cm rfl)).g (by rw [bx,ax];unfold av;show 1+L.length+1≤_;(exact Ar.a2 [] [_,_] (.k (.a (.a .n1 .v0) .n1) (.n 1000000)) [[1,1,1]] (.l .v1 (.n 63)) (.k .v0 .v1) hza hsm))
 refine tY g1 fun lg σ10 E10 _ hg=>?_
 have hg:σ10.L lg=some ((jq L xs.length ys.length).map tV):=by
  rw [hg]
  refine bu some ?_
  show _=tV (0,0,0)::(L++[(xs.length,ys.length,0)]).map tV
  rw [di];rfl
 refine sQ (n:=1) (L:=L) (xs:=xs) (ys:=ys) (by(exact Ar.a1 [] [_] (.l .v0 (.n 64)) [[1,1]] (.l .v0 (.n 63)) hza)) (by(exact Ar.a1 [] [_] (.l .v0 (.n 64)) [[1,1]] (.l .v0 (.n 63)) hzb)) bt ⟨r4,r5,r7,rfl,E10.L _ _ hla,E10.L _ _ hlb,E10.L _ _ hk9,hg⟩ fun ρ' σ'=>?_
 exact nW (.bool true) rfl rfl
end R4
end MP
end
section
open PySem PySem.W PyProof.Rows
namespace Mine
theorem CR:rw4.Holds:=CT fun ns h=>MP.R4.CM ns h st0
end Mine
end
theorem PySem.Challenge.cw_dm0056_04_holds : PySem.Challenge.rw_dm0056_04.Holds :=
 Mine.CR
