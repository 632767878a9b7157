import PyProof.Rows.All
import Wide.All
import OpenK.AllK
import Wide.FinOn
import Open.Tops
import OpenK.KWalk
import PySem.Challenge.RW_dm0056_06
set_option Elab.async false
set_option tactic.hygienic false
set_option maxRecDepth 100000
local macro_rules
 | `(tactic| show $t)=>`(tactic| refine(?_:$t))
local macro_rules
 | `(tactic| rw [$t:term])=>`(tactic| ((first | refine Ar.rwm ($t ..) ?_ | rewrite [$t:term]);try (with_reducible rfl)))
 | `(tactic| rw [← $t:term])=>`(tactic| ((first | refine Ar.rwn ($t ..) ?_ | rewrite [← $t:term]);try (with_reducible rfl)))
 | `(tactic| rw [$t:term,$rs:rwRule,*])=>`(tactic| ((first | refine Ar.rwm ($t ..) ?_ | rewrite [$t:term]);rw [$rs,*]))
 | `(tactic| rw [← $t:term,$rs:rwRule,*])=>`(tactic| ((first | refine Ar.rwn ($t ..) ?_ | rewrite [← $t:term]);rw [$rs,*]))
open Lean in
local macro_rules
 | `(tactic| obtain⟨$ps,*⟩:=$t)=>do
  let ps:=ps.getElems.map (·.raw)
  let n:=ps.size
  let mut xs:Array Ident:=#[]
  let mut aft:Array (Array (TSyntax `tactic)):=#[]
  for i in [0:n] do
   let p:=ps[i]!
   if p[1].getNumArgs=0&&p[0][0].getNumArgs=1&&p[0][0][0].isOfKind ``Lean.Parser.Tactic.rcasesPat.one&&!p[0][0][0][0].getId==`rfl then
    xs:=xs.push ⟨p[0][0][0][0]⟩;aft:=aft.push #[]
   else
    let q:=mkIdent (← Macro.addMacroScope (.mkSimple s!"x{i}"))
    xs:=xs.push q
    aft:=aft.push #[← `(tactic| obtain $(⟨p[0]⟩):rcasesPatMed:=$q)]
  let cl:TSyntax `tactic←if t.raw.isIdent then `(tactic| try clear $t) else `(tactic| skip)
  let mut alts:Array (TSyntax ``Lean.Parser.Tactic.tacticSeq):=#[]
  for k in [0:min n 9-1] do
   let m:=min n 9-k
   let q:=mkIdent (← Macro.addMacroScope `y)
   let ys:=if m=n then xs else (xs.extract 0 (m-1)).push q
   let fs←(Array.range m).mapM fun j=>`(tacticSeq| refine $(mkIdent (.str `Ar s!"e{m}_{m - 1 - j}")) $t ?_)
   let rest:Array (TSyntax ``Lean.Parser.Tactic.rcasesPatLo):=(ps.extract (m-1) n).map (⟨·⟩)
   let mut a:Array (TSyntax `tactic):=#[]
   for i in [0:m] do a:=(a.push (← `(tactic| intro $(ys[i]!):ident)))++(if m=n||i<m-1 then aft[i]! else #[])
   let b←if m=n then pure a else pure (a.push (← `(tactic| obtain⟨$rest,*⟩:=$q)))
   alts:=alts.push (← `(tacticSeq| first $[| $fs]*;$cl;$[$b];*))
  if n<2 then Macro.throwUnsupported
  `(tactic| first $[| $alts]* | fail)
open Lean in
local macro_rules
 | `(tactic| rintro $ps*)=>do
  let mut a:Array (TSyntax `tactic):=#[]
  let mut any:=false
  for p in ps do
   if p.raw.isOfKind ``Lean.Parser.Tactic.rintroPat.one&&p.raw[0].isOfKind ``Lean.Parser.Tactic.rcasesPat.tuple then
    let q:=mkIdent (← Macro.addMacroScope `z)
    any:=true
    a:=a.push (← `(tactic| (intro $q:ident;obtain $(⟨p.raw[0]⟩):rcasesPat:=$q)))
   else a:=a.push (← `(tactic| rintro $p))
  if !any then Macro.throwUnsupported
  `(tactic| ($[$a];*))
open Lean in
local macro_rules
 | `(tactic| refine⟨$ts,*⟩)=>do
  let ts:=ts.getElems
  let n:=ts.size
  if n<2 then Macro.throwUnsupported
  let mut alts:Array (TSyntax ``Lean.Parser.Tactic.tacticSeq):=#[]
  for k in [0:min n 9-1] do
   let m:=min n 9-k
   let r:=ts.extract (m-1) n
   let us←if m=n then pure ts else pure ((ts.extract 0 (m-1)).push (← `(⟨$r,*⟩)))
   for j in [0:m-1] do
    alts:=alts.push (← `(tacticSeq| refine $(mkIdent (.str `Ar s!"i{m}_{m - 1 - j}")) $us*))
  `(tactic| (refine(?_:Exists _);first $[| $alts]* | fail))
local macro_rules
 | `(tactic| exact⟨$ts,*⟩)=>`(tactic| (refine⟨$ts,*⟩;done))
namespace Mine.Z
def aa:=@Nat.sub_add_cancel
def ab:=@PySem.wpAny_bind
def ae:=@PySem.wpAny_pure
def af:=@Option.some.inj
def ah:=@Nat.le_refl
def aj:=@PySem.Heap.get?_push_of_some
def ak:=@Classical.not_and_iff_not_or_not
def aq:=@Nat.lt_or_gt_of_ne
def au:=@List.mem_singleton
def aw:=@if_neg
def ay:=@List.getElem?_eq_some_iff
def az:=@List.length_map
def ba:=@PySem.wpAny_mono
def bb:=@of_decide_eq_true
def bg:=@List.length_append
def bh:=@List.size_toArray
def bp:=@if_pos
def bq:=@List.getElem?_eq_getElem
def br:=@Nat.zero_le
def bu:=@PySem.wpAny_holding
def bw:=@List.getElem?_map
def bx:=@congrArg
def bz:=@List.length_cons
def cc:=@Option.isSome_iff_exists
def cf:=@List.mem_cons
def cm:=@PySem.Heap.get?_push_size
def cp:=@Nat.le_of_ble_eq_true
def cq:=@Bool.and_eq_true
def cw:=@Bool.false_eq_true
def dg:=@Option.bind_eq_some_iff
def di:=@PySem.wpAny_of_eq
def dj:=@List.drop_eq_getElem_cons
def dp:=@List.append_nil
def du:=@List.length_singleton
def dv:=@Option.some.injEq
def dw:=@PySem.builtinLookup_eq_fast
def dz:=@List.mem_append
def ee:=@List.mem_map
def ef:=@Int.toNat_natCast
def et:=@PySem.Heap.lt_size
def ew:=@List.mem_of_getElem?
def ez:=@PySem.Heap.size_push
def fb:=@List.map_append
def fc:=@decide_eq_true
def fe:=@decide_eq_false
def fg:=@PySem.wpAny_standAt
def fh:=@Bool.not_eq_true'
def fq:=@PySem.typeLookup_type
def gc:=@Option.map_eq_some_iff
def gm:=@Nat.lt_irrefl
def gq:=@List.mem_append_right
def gy:=@PySem.wpAny_newObj_type
def gz:=@List.mem_append_left
def ic:=@Nat.lt_or_ge
def ip:=@List.length_take
def iq:=@if_false
def ix:=@List.append_assoc
def iy:=@PySem.Heap.get?_update_other
def iz:=@congrFun
def jd:=@Nat.le_trans
def jg:=@List.all_eq_true
def jm:=@PySem.wpAny_call_entry
def jn:=@Nat.ne_of_lt
def jr:=@Classical.byContradiction
def ju:=@PySem.wpAny_seqItems
def jv:=@PySem.isSubtype_type
def jw:=@List.length_drop
def jy:=@List.forIn_nil
def kg:=@Nat.not_lt_zero
def kj:=@not_or
def kn:=@Prod.mk.inj
def kq:=@Nat.le_add_right
def kz:=@Nat.lt_of_lt_of_le
def lg:=@List.getElem?_append_right
def lh:=@Int.lt_or_gt_of_ne
def lp:=@List.forIn_cons
def lu:=@PySem.F.slot_tuple_iterator_next
def lz:=@List.take_succ_eq_append_getElem
def md:=@List.map_map
def mh:=@PySem.Heap.get?_update_self
def mj:=@Prod.mk.injEq
def mq:=@List.map_cons
def mz:=@PySem.wpAny_truthy_bool
def nc:=@PySem.wpAny_loadPart_at
def nh:=@decide_eq_decide
def nj:=@PySem.Around.under_plainId
def oa:=@Nat.lt_or_eq_of_le
def oe:=@List.pairwise_cons
def og:=@Bool.false_ne_true
def ou:=@PySem.wpAny_execs_cons
def ow:=@beq_false_of_ne
def pn:=@Ne.symm
def qf:=@PySem.wpAny_updateSeq
def qg:=@PySem.codeAny_builtin
def qh:=@PyProof.Rows.callWith_type
def qi:=@Nat.not_lt
def qj:=@Nat.zero_add
def qk:=@Nat.add_zero
def qo:=@List.getElem_mem
def qp:=@Int.zero_add
def qr:=@Option.isNone_iff_eq_none
def qt:=@List.getElem?_append_left
def rf:=@beq_eq_false_iff_ne
def rv:=@PySem.wpAny_tryCatch
def rx:=@PySem.wpAny_call
def ry:=@Bool.or_eq_true
def sg:=@beq_iff_eq
def sh:=@Option.isSome_none
def so:=@List.lookup_eq_none_iff
def sq:=@List.length_eq_zero_iff
def td:=@PySem.Heap.SameBut.update
def uf:=@if_true
def ug:=@Nat.le_succ_of_le
def uh:=@List.flatten_cons
def ui:=@PySem.Heap.Ns.of_isNs
def uj:=@PySem.wpAny_load
def ur:=@PySem.wpAny_callSpecial?_slot
def uu:=@List.length_replicate
def vh:=@List.not_mem_nil
def vi:=@List.flatten_nil
def vj:=@Bool.not_true
def wd:=@PySem.Calls.spliced_nil
def wt:=@Option.map_some
def xk:=@List.flatten_append
def xq:=@PySem.entryFor_of_tree
def xr:=@PySem.call_meets
def xt:=@Nat.le_of_lt
def xu:=@Int.le_total
def xv:=@Int.le_of_eq
def xw:=@PySem.plainId_quiet
def yq:=@PySem.wpAny_letGo
def yr:=@le_of_le_of_eq
def yt:=@Option.none_or
def yu:=@Nat.add_sub_cancel
def yv:=@PySem.Heap.get?_none_of_le
def yw:=@Array.perm_iff_toList_perm
def zw:=@PySem.codeAny_of_tree
def aE:=@List.getElem?_eq_none_iff
def aO:=@Array.getElem?_eq_getElem
def d7:=@decide_eq_true_eq
def d8:=@bne_self_eq_false
def d9:=@List.reverse_cons
def dA:=@Classical.not_not
def dQ:=@PySem.wpAny_typeOf
def dR:=@PySem.F.slot_list_append
def dS:=@PyProof.noPylong_of_log2
def dT:=@Nat.add_assoc
def dU:=@Bool.or_false
def eY:=@PySem.wpAny_loadPart
def eZ:=@decide_eq_false_iff_not
def fA:=@Nat.succ_ne_zero
def fB:=@Nat.lt_succ_self
def fC:=@List.take_length
def fD:=@List.lookup_cons
def fE:=@List.cons_append
def gS:=@PySem.wpAny_field
def gX:=@PySem.signature?_of
def gY:=@List.eq_nil_or_concat
def gZ:=@List.concat_eq_append
def jE:=@List.mem_iff_getElem
def lG:=@List.ne_and_not_mem_of_not_mem_cons
def nA:=@PySem.F.args_tuple_iterator_next_1
def nB:=@PySem.F.entry_tuple_iterator_next
def A0:=@PySem.slot_list_getitem
end Mine.Z
open Mine.Z
section
namespace Ar
set_option genSizeOf false
set_option genInjectivity false
inductive N where
 | v (i:Nat)
 | n (k:Nat)
 | a (x y:N)
 | m (k:Nat) (x:N)
 | r (x:N) (k:Nat)
inductive E where
 | v (i:Nat)
 | n (k:Int)
 | a (x y:E)
 | s (x y:E)
 | m (k:Int) (x:E)
 | r (x:E) (k:Int)
 | g (x:E)
 | t (x:N)
inductive R where
 | lt | le | eq | ge | gt | ne
inductive P where
 | i (r:R) (x y:E)
 | n (r:R) (x y:N)
 | ff
structure Q where
 r:R
 x:E
 y:E
noncomputable abbrev hd (d:α):List α→α
 | []=>d
 | x::_=>x
noncomputable abbrev tl:List α→List α
 | []=>[]
 | _::l=>l
noncomputable abbrev nth (d:α):Nat→List α→α
 | 0=>hd d
 | i+1=>fun l=>nth d i (tl l)
noncomputable abbrev N.d (k:List Nat):N→Nat
 | .v i=>nth 0 i k
 | .n c=>c
 | .a x y=>x.d k+y.d k
 | .m c x=>c*x.d k
 | .r x c=>x.d k*c
noncomputable abbrev E.d (c:List Int) (k:List Nat):E→Int
 | .v i=>nth 0 i c
 | .n j=>j
 | .a x y=>x.d c k+y.d c k
 | .s x y=>x.d c k-y.d c k
 | .m i x=>i*x.d c k
 | .r x i=>x.d c k*i
 | .g x=>- x.d c k
 | .t x=>(x.d k:Int)
noncomputable abbrev R.i (a b:Int):R→Prop
 | .lt=>a<b
 | .le=>a≤b
 | .eq=>a=b
 | .ge=>¬ a<b
 | .gt=>¬ a≤b
 | .ne=>¬ a=b
noncomputable abbrev R.n (a b:Nat):R→Prop
 | .lt=>a<b
 | .le=>a≤b
 | .eq=>a=b
 | .ge=>¬ a<b
 | .gt=>¬ a≤b
 | .ne=>¬ a=b
noncomputable abbrev P.h (c:List Int) (k:List Nat):P→Prop
 | .i r x y=>r.i (x.d c k) (y.d c k)
 | .n r x y=>r.n (x.d k) (y.d k)
 | .ff=>False
theorem R.n_i {a b:Nat}:(r:R)→r.n a b→r.i (a:Int) (b:Int)
 | .lt=>Int.ofNat_lt.mpr
 | .le=>Int.ofNat_le.mpr
 | .eq=>fun h=>bx _ h
 | .ge=>fun h e=>h (Int.ofNat_lt.mp e)
 | .gt=>fun h e=>h (Int.ofNat_le.mp e)
 | .ne=>fun h e=>h (Int.ofNat.inj e)
theorem R.i_n {a b:Nat}:(r:R)→r.i (a:Int) (b:Int)→r.n a b
 | .lt=>Int.ofNat_lt.mp
 | .le=>Int.ofNat_le.mp
 | .eq=>fun h=>Int.ofNat.inj h
 | .ge=>fun h e=>h (Int.ofNat_lt.mpr e)
 | .gt=>fun h e=>h (Int.ofNat_le.mpr e)
 | .ne=>fun h e=>h (bx _ e)
theorem ad {a b c d:Int} (h:a=c) (e:b=d):a+b=c+d:=h▸e▸rfl
theorem sb {a b c d:Int} (h:a=c) (e:b=d):a-b=c-d:=h▸e▸rfl
theorem aac (a b c d:Int):a+b+(c+d)=a+c+(b+d):=by omega
theorem IU {a b:Int} (h:a<0) (e:b≤0):a+b<0:=Int.add_neg_of_neg_of_nonpos h e
theorem ltd {a b:Int} (h:a<b):0≤b-a+-1:=by omega
noncomputable def S:List Int→(Nat→Int)→Int
 | []=>fun _=>0
 | y::l=>fun f=>f 0*y+S l fun j=>f (j+1)
noncomputable def dl (i j:Nat):Int:=bif Nat.beq i j then 1 else 0
theorem zU:(l:List Int)→(f g:Nat→Int)→S l (fun j=>f j+g j)=S l f+S l g
 | [],_,_=>rfl
 | y::l,f,g=>(ad (Int.add_mul (f 0) (g 0) y) (zU l (fun j=>f (j+1)) fun j=>g (j+1))).trans (aac _ _ _ _)
theorem zS (i:Int):(l:List Int)→(f:Nat→Int)→S l (fun j=>i*f j)=i*S l f
 | [],_=>(Int.mul_zero i).symm
 | y::l,f=>(ad (Int.mul_assoc i (f 0) y) (zS i l fun j=>f (j+1))).trans (Int.mul_add ..).symm
theorem fZ:(l:List Int)→S l (fun _=>0)=0
 | []=>rfl
 | y::l=>(ad (Int.zero_mul y) (fZ l)).trans (qp 0)
theorem tZ:(i:Nat)→(l:List Int)→S l (dl i)=nth 0 i l
 | 0,[]=>rfl
 | 0,y::l=>(ad (Int.one_mul y) (fZ l)).trans (Int.add_zero y)
 | i+1,[]=>tZ i []
 | i+1,y::l=>(ad (Int.zero_mul y) (tZ i l)).trans (qp _)
noncomputable def up:List Nat→List Int
 | []=>[]
 | x::l=>(x:Int)::up l
theorem qM:(i:Nat)→(l:List Nat)→nth 0 i (up l)=(nth 0 i l:Nat)
 | 0,[]=>rfl
 | 0,_::_=>rfl
 | i+1,[]=>qM i []
 | i+1,_::l=>qM i l
structure L where
 k:Int
 c:Nat→Int
 n:Nat→Int
noncomputable def L.d (c k:List Int) (l:L):Int:=l.k+(S c l.c+S k l.n)
noncomputable def L.add (l m:L):L:=⟨l.k+m.k,fun j=>l.c j+m.c j,fun j=>l.n j+m.n j⟩
noncomputable def L.scl (i:Int) (l:L):L:=⟨i*l.k,fun j=>i*l.c j,fun j=>i*l.n j⟩
noncomputable def L.num (i:Int):L:=⟨i,fun _=>0,fun _=>0⟩
theorem L.oP {c k:List Int} (l m:L):(l.add m).d c k=l.d c k+m.d c k :=
 (bx (l.k+m.k+·) ((ad (zU ..) (zU ..)).trans (aac _ _ _ _))).trans (aac _ _ _ _)
theorem L.iZ {c k:List Int} (i:Int) (l:L):(l.scl i).d c k=i*l.d c k :=
 (bx (i*l.k+·) ((ad (zS ..) (zS ..)).trans (Int.mul_add ..).symm)).trans (Int.mul_add ..).symm
theorem L.oO {c k:List Int} (i:Int):(L.num i).d c k=i :=
 (bx (i+·) ((ad (fZ c) (fZ k)).trans (qp 0))).trans (Int.add_zero i)
noncomputable def N.l:N→L
 | .v i=>⟨0,fun _=>0,dl i⟩
 | .n c=>.num c
 | .a x y=>x.l.add y.l
 | .m c x=>x.l.scl c
 | .r x c=>x.l.scl c
noncomputable def E.l:E→L
 | .v i=>⟨0,dl i,fun _=>0⟩
 | .n j=>.num j
 | .a x y=>x.l.add y.l
 | .s x y=>x.l.add (y.l.scl (-1))
 | .m i x=>x.l.scl i
 | .r x i=>x.l.scl i
 | .g x=>x.l.scl (-1)
 | .t x=>x.l
theorem N.l_d {c:List Int} {k:List Nat}:(x:N)→x.l.d c (up k)=(x.d k:Nat)
 | .v i=>(qp _).trans ((ad (fZ c) ((tZ i (up k)).trans (qM i k))).trans (qp _))
 | .n i=>L.oO (i:Int)
 | .a x y=>(L.oP x.l y.l).trans ((ad (N.l_d x) (N.l_d y)))
 | .m i x=>(L.iZ i x.l).trans ((bx ((i:Int)*·) (N.l_d x)))
 | .r x i=>(L.iZ i x.l).trans ((bx ((i:Int)*·) (N.l_d x)).trans (Int.mul_comm ..))
theorem kC {c k:List Int} (x y:L):(x.add (y.scl (-1))).d c k=x.d c k-y.d c k :=
 (L.oP ..).trans (bx (x.d c k+·) ((L.iZ ..).trans (Int.neg_one_mul _)))
theorem E.l_d {c:List Int} {k:List Nat}:(x:E)→x.l.d c (up k)=x.d c k
 | .v i=>(qp _).trans ((ad (tZ i c) (fZ (up k))).trans (Int.add_zero _))
 | .n i=>L.oO i
 | .a x y=>(L.oP x.l y.l).trans ((ad (E.l_d x) (E.l_d y)))
 | .s x y=>(kC x.l y.l).trans ((sb (E.l_d x) (E.l_d y)))
 | .m i x=>(L.iZ i x.l).trans ((bx (i*·) (E.l_d x)))
 | .r x i=>(L.iZ i x.l).trans ((bx (i*·) (E.l_d x)).trans (Int.mul_comm ..))
 | .g x=>(L.iZ (-1) x.l).trans ((Int.neg_one_mul _).trans (bx (- ·) (E.l_d x)))
 | .t x=>N.l_d x
noncomputable def R.l (x y:L):R→L
 | .lt=>(y.add (x.scl (-1))).add (.num (-1))
 | .le=>y.add (x.scl (-1))
 | .eq=>y.add (x.scl (-1))
 | .ge=>x.add (y.scl (-1))
 | .gt=>(x.add (y.scl (-1))).add (.num (-1))
 | .ne=>.num 0
theorem less {c k:List Int} {x y:L} (h:x.d c k<y.d c k):0≤((y.add (x.scl (-1))).add (.num (-1))).d c k :=
 yr (ltd h) ((L.oP ..).trans (ad (kC y x) (L.oO (-1)))).symm
theorem R.l_d {c k:List Int} {x y:L}:(r:R)→r.i (x.d c k) (y.d c k)→0≤(r.l x y).d c k
 | .lt=>fun h=>less h
 | .le=>fun h=>yr (Int.sub_nonneg_of_le h) (kC y x).symm
 | .eq=>fun h=>yr (Int.sub_nonneg_of_le (xv h)) (kC y x).symm
 | .ge=>fun h=>yr (Int.sub_nonneg_of_le (Int.not_lt.mp h)) (kC x y).symm
 | .gt=>fun h=>less (Int.not_le.mp h)
 | .ne=>fun _=>xv (L.oO 0).symm
theorem R.J1 {a b a' b':Int} (r:R) (e1:a=a') (e2:b=b') (h:r.i a' b'):r.i a b:=by subst e1 e2;exact h
noncomputable def Q.h (c:List Int) (k:List Nat) (q:Q):Prop:=q.r.i (q.x.d c k) (q.y.d c k)
noncomputable def Q.l (q:Q):L:=q.r.l q.x.l q.y.l
theorem Q.l_d {c:List Int} {k:List Nat} {q:Q} (h:q.h c k):0≤q.l.d c (up k) :=
 R.l_d q.r (R.J1 q.r (E.l_d q.x) (E.l_d q.y) h)
noncomputable def R.e:R→Bool
 | .eq=>true
 | _=>false
theorem R.e_d {a b:Int}:(r:R)→r.e=true→r.i a b→r=.eq∧a=b
 | .eq=>fun _ h=>⟨rfl,h⟩
 | .lt=>fun e=>Bool.noConfusion e
 | .le=>fun e=>Bool.noConfusion e
 | .ge=>fun e=>Bool.noConfusion e
 | .gt=>fun e=>Bool.noConfusion e
 | .ne=>fun e=>Bool.noConfusion e
theorem Q.e_d {c:List Int} {k:List Nat} {q:Q} (e:q.r.e=true) (h:q.h c k):q.l.d c (up k)=0:=by
 obtain⟨r,x,y⟩:=q
 obtain⟨rfl,h⟩:=R.e_d r e h
 exact(kC y.l x.l).trans ((sb (E.l_d y) (E.l_d x)).trans (Int.sub_eq_zero_of_eq h.symm))
noncomputable def P.q:P→Q
 | .i r x y=>⟨r,x,y⟩
 | .n r x y=>⟨r,.t x,.t y⟩
 | .ff=>⟨.ne,.n 0,.n 0⟩
theorem P.to {c:List Int} {k:List Nat}:{p:P}→p.h c k→p.q.h c k
 | .i _ _ _=>id
 | .n r _ _=>R.n_i r
 | .ff=>False.elim
theorem P.of {c:List Int} {k:List Nat}:(p:P)→p.q.h c k→p.h c k
 | .i _ _ _=>id
 | .n r _ _=>R.i_n r
 | .ff=>fun h=>h rfl
noncomputable def sum:List Q→List Int→L
 | []=>fun _=>.num 0
 | q::qs=>fun ms=>(q.l.scl (ms.headD 0)).add (sum qs ms.tail)
noncomputable def good:List Q→List Int→Bool
 | []=>fun _=>true
 | q::qs=>fun ms=>(q.r.e||decide (0≤ms.headD 0))&&good qs ms.tail
noncomputable def All (c:List Int) (k:List Nat):List Q→Prop
 | []=>True
 | q::qs=>q.h c k∧All c k qs
theorem band {a b:Bool}:(a&&b)=true→a=true∧b=true:=(cq a b).mp
theorem DJ {c:List Int} {k:List Nat}:(qs:List Q)→(ms:List Int)→good qs ms=true→All c k qs→0≤(sum qs ms).d c (up k)
 | []=>fun _ _ _=>xv (L.oO 0).symm
 | q::qs=>fun ms hg h=>yr
   (Int.add_nonneg (((ry ..).mp (band hg).1).elim
    (fun e=>xv ((bx (ms.headD 0*·) (Q.e_d e h.1)).trans (Int.mul_zero _)).symm)
    (fun e=>Int.mul_nonneg (bb e) (Q.l_d h.1))) (DJ qs ms.tail (band hg).2 h.2))
   ((L.oP ..).trans (ad (L.iZ ..) rfl)).symm
noncomputable def zero:List Int→(Nat→Int)→Bool
 | []=>fun _=>true
 | _::l=>fun f=>decide (f 0=0)&&zero l fun j=>f (j+1)
noncomputable def FA:List Nat→(Nat→Int)→Bool
 | []=>fun _=>true
 | _::l=>fun f=>decide (f 0≤0)&&FA l fun j=>f (j+1)
theorem vT:(l:List Int)→(f:Nat→Int)→zero l f=true→S l f=0
 | []=>fun _ _=>rfl
 | y::l=>fun f h=>(ad ((bx (·*y) (bb (band h).1)).trans (Int.zero_mul y)) (vT l _ (band h).2)).trans (qp 0)
theorem yD:(l:List Nat)→(f:Nat→Int)→FA l f=true→S (up l) f≤0
 | []=>fun _ _=>Int.le_refl _
 | y::l=>fun f h=>Int.add_le_add (Int.mul_nonpos_of_nonpos_of_nonneg (bb (band h).1) (Int.natCast_nonneg y)) (yD l _ (band h).2)
noncomputable def ok (c:List Int) (k:List Nat) (qs:List Q) (ms:List Int):Bool :=
 good qs ms&&(decide ((sum qs ms).k<0)&&(zero c (sum qs ms).c&&FA k (sum qs ms).n))
theorem IS {c:List Int} {k:List Nat} {qs:List Q} {ms:List Int} (h:ok c k qs ms=true) (hs:All c k qs):False :=
 have h1:=band (band h).2
 have h2:=band h1.2
 Int.not_lt.mpr (DJ qs ms (band h).1 hs) (IU (bb h1.1) (Int.le_trans (xv ((ad (vT c _ h2.1) rfl).trans (qp _))) (yD k _ h2.2)))
noncomputable def R.FG:R→List R
 | .lt=>[.ge]
 | .le=>[.gt]
 | .eq=>[.lt,.gt]
 | .ge=>[.lt]
 | .gt=>[.le]
 | .ne=>[.eq]
theorem R.neg {a b:Int}:(r:R)→(∀ s,s∈r.FG→¬ s.i a b)→r.i a b
 | .lt=>fun h=>Decidable.not_not.mp (h .ge (.head _))
 | .le=>fun h=>Decidable.not_not.mp (h .gt (.head _))
 | .eq=>fun h=>Int.le_antisymm (Decidable.not_not.mp (h .gt (.tail _ (.head _)))) (Int.not_lt.mp (h .lt (.head _)))
 | .ge=>fun h=>h .lt (.head _)
 | .gt=>fun h=>h .le (.head _)
 | .ne=>fun h=>h .eq (.head _)
noncomputable def oks (c:List Int) (k:List Nat) (x y:E) (qs:List Q):List R→List (List Int)→Bool
 | []=>fun _=>true
 | r::rs=>fun ms=>ok c k (⟨r,x,y⟩::qs) (ms.headD [])&&oks c k x y qs rs ms.tail
theorem DM {c:List Int} {k:List Nat} {x y:E} {qs:List Q} (hs:All c k qs):(rs:List R)→(ms:List (List Int))→oks c k x y qs rs ms=true→∀ s,s∈rs→¬ s.i (x.d c k) (y.d c k)
 | _,_,h,_,.head _=>fun hq=>IS (band h).1 ⟨hq,hs⟩
 | _,ms,h,s,.tail _ m=>DM hs _ ms.tail (band h).2 s m
noncomputable def chk (c:List Int) (k:List Nat) (g:P) (ps:List P) (ms:List (List Int)):Bool :=
 oks c k g.q.x g.q.y (ps.map P.q) g.q.r.FG ms
theorem main {c:List Int} {k:List Nat} {g:P} (ps:List P) {ms:List (List Int)} (h:chk c k g ps ms=true) (hs:All c k (ps.map P.q)):g.h c k :=
 P.of g (R.neg g.q.r (DM hs g.q.r.FG ms h))
noncomputable abbrev M:=List (List Int)
theorem a0 (c:List Int) (k:List Nat) (g:P) (ms:M) (hc:chk c k g [] ms=true:=by exact Ar.y):g.h c k:=main [] hc trivial
theorem a1 (c:List Int) (k:List Nat) (g:P) (ms:M) (p1:P) (h1:p1.h c k) (hc:chk c k g [p1] ms=true:=by exact Ar.y):g.h c k:=main [p1] hc ⟨P.to h1,trivial⟩
theorem a2 (c:List Int) (k:List Nat) (g:P) (ms:M) (p1 p2:P) (h1:p1.h c k) (h2:p2.h c k) (hc:chk c k g [p1,p2] ms=true:=by exact Ar.y):g.h c k:=main [p1,p2] hc ⟨P.to h1,P.to h2,trivial⟩
theorem a3 (c:List Int) (k:List Nat) (g:P) (ms:M) (p1 p2 p3:P) (h1:p1.h c k) (h2:p2.h c k) (h3:p3.h c k) (hc:chk c k g [p1,p2,p3] ms=true:=by exact Ar.y):g.h c k:=main [p1,p2,p3] hc ⟨P.to h1,P.to h2,P.to h3,trivial⟩
theorem a4 (c:List Int) (k:List Nat) (g:P) (ms:M) (p1 p2 p3 p4:P) (h1:p1.h c k) (h2:p2.h c k) (h3:p3.h c k) (h4:p4.h c k) (hc:chk c k g [p1,p2,p3,p4] ms=true:=by exact Ar.y):g.h c k:=main [p1,p2,p3,p4] hc ⟨P.to h1,P.to h2,P.to h3,P.to h4,trivial⟩
theorem a5 (c:List Int) (k:List Nat) (g:P) (ms:M) (p1 p2 p3 p4 p5:P) (h1:p1.h c k) (h2:p2.h c k) (h3:p3.h c k) (h4:p4.h c k) (h5:p5.h c k) (hc:chk c k g [p1,p2,p3,p4,p5] ms=true:=by exact Ar.y):g.h c k:=main [p1,p2,p3,p4,p5] hc ⟨P.to h1,P.to h2,P.to h3,P.to h4,P.to h5,trivial⟩
theorem a6 (c:List Int) (k:List Nat) (g:P) (ms:M) (p1 p2 p3 p4 p5 p6:P) (h1:p1.h c k) (h2:p2.h c k) (h3:p3.h c k) (h4:p4.h c k) (h5:p5.h c k) (h6:p6.h c k) (hc:chk c k g [p1,p2,p3,p4,p5,p6] ms=true:=by exact Ar.y):g.h c k:=main [p1,p2,p3,p4,p5,p6] hc ⟨P.to h1,P.to h2,P.to h3,P.to h4,P.to h5,P.to h6,trivial⟩
theorem a7 (c:List Int) (k:List Nat) (g:P) (ms:M) (p1 p2 p3 p4 p5 p6 p7:P) (h1:p1.h c k) (h2:p2.h c k) (h3:p3.h c k) (h4:p4.h c k) (h5:p5.h c k) (h6:p6.h c k) (h7:p7.h c k) (hc:chk c k g [p1,p2,p3,p4,p5,p6,p7] ms=true:=by exact Ar.y):g.h c k:=main [p1,p2,p3,p4,p5,p6,p7] hc ⟨P.to h1,P.to h2,P.to h3,P.to h4,P.to h5,P.to h6,P.to h7,trivial⟩
theorem a8 (c:List Int) (k:List Nat) (g:P) (ms:M) (p1 p2 p3 p4 p5 p6 p7 p8:P) (h1:p1.h c k) (h2:p2.h c k) (h3:p3.h c k) (h4:p4.h c k) (h5:p5.h c k) (h6:p6.h c k) (h7:p7.h c k) (h8:p8.h c k) (hc:chk c k g [p1,p2,p3,p4,p5,p6,p7,p8] ms=true:=by exact Ar.y):g.h c k:=main [p1,p2,p3,p4,p5,p6,p7,p8] hc ⟨P.to h1,P.to h2,P.to h3,P.to h4,P.to h5,P.to h6,P.to h7,P.to h8,trivial⟩
theorem y:true=true:=rfl
noncomputable abbrev N.A:N:=.v 0
noncomputable abbrev E.A:E:=.v 0
noncomputable abbrev N.B:N:=.v 1
noncomputable abbrev E.B:E:=.v 1
noncomputable abbrev N.C:N:=.v 2
noncomputable abbrev E.C:E:=.v 2
noncomputable abbrev N.D:N:=.v 3
noncomputable abbrev E.D:E:=.v 3
noncomputable abbrev N.F:N:=.v 4
noncomputable abbrev N.G:N:=.v 5
noncomputable abbrev N.H:N:=.v 6
noncomputable abbrev N.I:N:=.v 7
noncomputable abbrev N.J:N:=.v 8
noncomputable abbrev N.K:N:=.v 9
noncomputable abbrev N.O:N:=.n 0
noncomputable abbrev E.O:E:=.n 0
noncomputable abbrev N.U:N:=.n 1
noncomputable abbrev E.U:E:=.n 1
noncomputable abbrev N.W:N:=.n 2
noncomputable abbrev P.l (x y:N):P:=.n .lt x y
noncomputable abbrev P.il (x y:E):P:=.i .lt x y
noncomputable abbrev P.k (x y:N):P:=.n .le x y
noncomputable abbrev P.ik (x y:E):P:=.i .le x y
noncomputable abbrev P.e (x y:N):P:=.n .eq x y
noncomputable abbrev P.ie (x y:E):P:=.i .eq x y
noncomputable abbrev P.g (x y:N):P:=.n .ge x y
noncomputable abbrev P.ig (x y:E):P:=.i .ge x y
noncomputable abbrev P.j (x y:N):P:=.n .gt x y
noncomputable abbrev P.ij (x y:E):P:=.i .gt x y
noncomputable abbrev P.u (x y:N):P:=.n .ne x y
noncomputable abbrev P.iu (x y:E):P:=.i .ne x y
noncomputable abbrev E.ng (k:Int):E:=.n (-k)
theorem EN (x y:Nat):x≤x-y+y:=Nat.sub_le_iff_le_add.mp (ah _)
theorem imp {a b:Prop} (h:a→b):¬ a∨b:=(Classical.em a).elim (fun x=>.inr (h x)) .inl
theorem fL (x k:Nat) (h:0<k):x%k<k∧k*(x/k)+x%k=x:=⟨Nat.mod_lt x h,Nat.div_add_mod x k⟩
theorem fm (x y:Nat):min x y≤x∧min x y≤y∧(x≤min x y∨y≤min x y):=⟨Nat.min_le_left x y,Nat.min_le_right x y,(Nat.le_total x y).imp (fun h=>Nat.le_min.mpr ⟨ah x,h⟩) fun h=>Nat.le_min.mpr ⟨h,ah y⟩⟩
theorem yU (x y:Int):min x y≤x∧min x y≤y∧(x≤min x y∨y≤min x y):=⟨Int.min_le_left x y,Int.min_le_right x y,(xu x y).imp (fun h=>Int.le_min.mpr ⟨Int.le_refl x,h⟩) fun h=>Int.le_min.mpr ⟨h,Int.le_refl y⟩⟩
theorem FC (x y:Nat):x≤max x y∧y≤max x y∧(max x y≤x∨max x y≤y):=⟨Nat.le_max_left x y,Nat.le_max_right x y,(Nat.le_total y x).imp (fun h=>Nat.max_le.mpr ⟨ah x,h⟩) fun h=>Nat.max_le.mpr ⟨h,ah y⟩⟩
theorem ton (x:Int):(0≤x∧(x.toNat:Int)=x)∨(x≤0∧x.toNat=0) :=
 (xu 0 x).elim (fun h=>.inl ⟨h,Int.toNat_of_nonneg h⟩) fun h=>.inr ⟨h,Int.toNat_of_nonpos h⟩
theorem nab (x:Int):(0≤x∧(x.natAbs:Int)=x)∨(x≤0∧(x.natAbs:Int)=-x) :=
 (xu 0 x).elim (fun h=>.inl ⟨h,Int.natAbs_of_nonneg h⟩) fun h=>.inr ⟨h,Int.ofNat_natAbs_of_nonpos h⟩
theorem sub {p:Prop} (x y:Nat) (h1:y≤x→x-y+y=x→p) (h2:x≤y→x-y=0→p):p :=
 (Nat.le_total y x).elim (fun h=>h1 h (aa h)) fun h=>h2 h (Nat.sub_eq_zero_of_le h)
@[elab_as_elim] theorem rwm {α:Sort u} {a b:α} {p:α→Prop} (h:a=b) (q:p b):p a:=Eq.rec (motive:=fun x _=>p x) q h.symm
@[elab_as_elim] theorem rwn {α:Sort u} {a b:α} {p:α→Prop} (h:b=a) (q:p b):p a:=Eq.rec (motive:=fun x _=>p x) q h
section
variable {r:Prop}
theorem e2_0 {p q:Prop} (h:p∧q) (k:p→q→r):r:=k h.1 h.2
theorem e2_1 {p:A→Prop} (h:∃ a,p a) (k:∀ a,p a→r):r:=h.elim fun a g=>k a g
theorem i2_1 {p:A→Prop} (a:A) (h:p a):∃ a,p a:=⟨a,h⟩
theorem e3_0 {p q s:Prop} (h:p∧q∧s) (k:p→q→s→r):r:=k h.1 h.2.1 h.2.2
theorem e3_1 {p q:A→Prop} (h:∃ a,p a∧q a) (k:∀ a,p a→q a→r):r:=h.elim fun a g=>k a g.1 g.2
theorem i3_1 {p q:A→Prop} (a:A) (h:p a) (i:q a):∃ a,p a∧q a:=⟨a,h,i⟩
theorem e3_2 {p:A→B→Prop} (h:∃ a b,p a b) (k:∀ a b,p a b→r):r:=h.elim fun a g=>g.elim fun b g=>k a b g
theorem i3_2 {p:A→B→Prop} (a:A) (b:B) (h:p a b):∃ a b,p a b:=⟨a,b,h⟩
theorem e4_0 {p q s t:Prop} (h:p∧q∧s∧t) (k:p→q→s→t→r):r:=k h.1 h.2.1 h.2.2.1 h.2.2.2
theorem e4_1 {p q s:A→Prop} (h:∃ a,p a∧q a∧s a) (k:∀ a,p a→q a→s a→r):r:=h.elim fun a g=>k a g.1 g.2.1 g.2.2
theorem i4_1 {p q s:A→Prop} (a:A) (h:p a) (i:q a) (j:s a):∃ a,p a∧q a∧s a:=⟨a,h,i,j⟩
theorem e4_2 {p q:A→B→Prop} (h:∃ a b,p a b∧q a b) (k:∀ a b,p a b→q a b→r):r:=h.elim fun a g=>g.elim fun b g=>k a b g.1 g.2
theorem i4_2 {p q:A→B→Prop} (a:A) (b:B) (h:p a b) (i:q a b):∃ a b,p a b∧q a b:=⟨a,b,h,i⟩
theorem e4_3 {p:A→B→C→Prop} (h:∃ a b c,p a b c) (k:∀ a b c,p a b c→r):r:=h.elim fun a g=>g.elim fun b g=>g.elim fun c g=>k a b c g
theorem i4_3 {p:A→B→C→Prop} (a:A) (b:B) (c:C) (h:p a b c):∃ a b c,p a b c:=⟨a,b,c,h⟩
theorem e5_0 {p q s t u:Prop} (h:p∧q∧s∧t∧u) (k:p→q→s→t→u→r):r:=k h.1 h.2.1 h.2.2.1 h.2.2.2.1 h.2.2.2.2
theorem e5_1 {p q s t:A→Prop} (h:∃ a,p a∧q a∧s a∧t a) (k:∀ a,p a→q a→s a→t a→r):r:=h.elim fun a g=>k a g.1 g.2.1 g.2.2.1 g.2.2.2
theorem i5_1 {p q s t:A→Prop} (a:A) (h:p a) (i:q a) (j:s a) (l:t a):∃ a,p a∧q a∧s a∧t a:=⟨a,h,i,j,l⟩
theorem e5_2 {p q s:A→B→Prop} (h:∃ a b,p a b∧q a b∧s a b) (k:∀ a b,p a b→q a b→s a b→r):r:=h.elim fun a g=>g.elim fun b g=>k a b g.1 g.2.1 g.2.2
theorem i5_2 {p q s:A→B→Prop} (a:A) (b:B) (h:p a b) (i:q a b) (j:s a b):∃ a b,p a b∧q a b∧s a b:=⟨a,b,h,i,j⟩
theorem e5_3 {p q:A→B→C→Prop} (h:∃ a b c,p a b c∧q a b c) (k:∀ a b c,p a b c→q a b c→r):r:=h.elim fun a g=>g.elim fun b g=>g.elim fun c g=>k a b c g.1 g.2
theorem i5_3 {p q:A→B→C→Prop} (a:A) (b:B) (c:C) (h:p a b c) (i:q a b c):∃ a b c,p a b c∧q a b c:=⟨a,b,c,h,i⟩
theorem e5_4 {p:A→B→C→D→Prop} (h:∃ a b c d,p a b c d) (k:∀ a b c d,p a b c d→r):r:=h.elim fun a g=>g.elim fun b g=>g.elim fun c g=>g.elim fun d g=>k a b c d g
theorem e6_1 {p q s t u:A→Prop} (h:∃ a,p a∧q a∧s a∧t a∧u a) (k:∀ a,p a→q a→s a→t a→u a→r):r:=h.elim fun a g=>k a g.1 g.2.1 g.2.2.1 g.2.2.2.1 g.2.2.2.2
theorem i6_1 {p q s t u:A→Prop} (a:A) (h:p a) (i:q a) (j:s a) (l:t a) (m:u a):∃ a,p a∧q a∧s a∧t a∧u a:=⟨a,h,i,j,l,m⟩
theorem e6_2 {p q s t:A→B→Prop} (h:∃ a b,p a b∧q a b∧s a b∧t a b) (k:∀ a b,p a b→q a b→s a b→t a b→r):r:=h.elim fun a g=>g.elim fun b g=>k a b g.1 g.2.1 g.2.2.1 g.2.2.2
theorem i6_2 {p q s t:A→B→Prop} (a:A) (b:B) (h:p a b) (i:q a b) (j:s a b) (l:t a b):∃ a b,p a b∧q a b∧s a b∧t a b:=⟨a,b,h,i,j,l⟩
theorem e6_3 {p q s:A→B→C→Prop} (h:∃ a b c,p a b c∧q a b c∧s a b c) (k:∀ a b c,p a b c→q a b c→s a b c→r):r:=h.elim fun a g=>g.elim fun b g=>g.elim fun c g=>k a b c g.1 g.2.1 g.2.2
theorem i6_3 {p q s:A→B→C→Prop} (a:A) (b:B) (c:C) (h:p a b c) (i:q a b c) (j:s a b c):∃ a b c,p a b c∧q a b c∧s a b c:=⟨a,b,c,h,i,j⟩
theorem e6_4 {p q:A→B→C→D→Prop} (h:∃ a b c d,p a b c d∧q a b c d) (k:∀ a b c d,p a b c d→q a b c d→r):r:=h.elim fun a g=>g.elim fun b g=>g.elim fun c g=>g.elim fun d g=>k a b c d g.1 g.2
theorem i6_4 {p q:A→B→C→D→Prop} (a:A) (b:B) (c:C) (d:D) (h:p a b c d) (i:q a b c d):∃ a b c d,p a b c d∧q a b c d:=⟨a,b,c,d,h,i⟩
theorem e6_5 {p:A→B→C→D→F→Prop} (h:∃ a b c d f,p a b c d f) (k:∀ a b c d f,p a b c d f→r):r:=h.elim fun a g=>g.elim fun b g=>g.elim fun c g=>g.elim fun d g=>g.elim fun f g=>k a b c d f g
theorem i6_5 {p:A→B→C→D→F→Prop} (a:A) (b:B) (c:C) (d:D) (f:F) (h:p a b c d f):∃ a b c d f,p a b c d f:=⟨a,b,c,d,f,h⟩
theorem e7_0 {p q s t u v w:Prop} (h:p∧q∧s∧t∧u∧v∧w) (k:p→q→s→t→u→v→w→r):r:=k h.1 h.2.1 h.2.2.1 h.2.2.2.1 h.2.2.2.2.1 h.2.2.2.2.2.1 h.2.2.2.2.2.2
theorem i7_1 {p q s t u v:A→Prop} (a:A) (h:p a) (i:q a) (j:s a) (l:t a) (m:u a) (n:v a):∃ a,p a∧q a∧s a∧t a∧u a∧v a:=⟨a,h,i,j,l,m,n⟩
theorem e7_2 {p q s t u:A→B→Prop} (h:∃ a b,p a b∧q a b∧s a b∧t a b∧u a b) (k:∀ a b,p a b→q a b→s a b→t a b→u a b→r):r:=h.elim fun a g=>g.elim fun b g=>k a b g.1 g.2.1 g.2.2.1 g.2.2.2.1 g.2.2.2.2
theorem i7_2 {p q s t u:A→B→Prop} (a:A) (b:B) (h:p a b) (i:q a b) (j:s a b) (l:t a b) (m:u a b):∃ a b,p a b∧q a b∧s a b∧t a b∧u a b:=⟨a,b,h,i,j,l,m⟩
theorem e7_3 {p q s t:A→B→C→Prop} (h:∃ a b c,p a b c∧q a b c∧s a b c∧t a b c) (k:∀ a b c,p a b c→q a b c→s a b c→t a b c→r):r:=h.elim fun a g=>g.elim fun b g=>g.elim fun c g=>k a b c g.1 g.2.1 g.2.2.1 g.2.2.2
theorem i7_3 {p q s t:A→B→C→Prop} (a:A) (b:B) (c:C) (h:p a b c) (i:q a b c) (j:s a b c) (l:t a b c):∃ a b c,p a b c∧q a b c∧s a b c∧t a b c:=⟨a,b,c,h,i,j,l⟩
theorem e7_4 {p q s:A→B→C→D→Prop} (h:∃ a b c d,p a b c d∧q a b c d∧s a b c d) (k:∀ a b c d,p a b c d→q a b c d→s a b c d→r):r:=h.elim fun a g=>g.elim fun b g=>g.elim fun c g=>g.elim fun d g=>k a b c d g.1 g.2.1 g.2.2
theorem i7_4 {p q s:A→B→C→D→Prop} (a:A) (b:B) (c:C) (d:D) (h:p a b c d) (i:q a b c d) (j:s a b c d):∃ a b c d,p a b c d∧q a b c d∧s a b c d:=⟨a,b,c,d,h,i,j⟩
theorem e8_2 {p q s t u v:A→B→Prop} (h:∃ a b,p a b∧q a b∧s a b∧t a b∧u a b∧v a b) (k:∀ a b,p a b→q a b→s a b→t a b→u a b→v a b→r):r:=h.elim fun a g=>g.elim fun b g=>k a b g.1 g.2.1 g.2.2.1 g.2.2.2.1 g.2.2.2.2.1 g.2.2.2.2.2
theorem i8_2 {p q s t u v:A→B→Prop} (a:A) (b:B) (h:p a b) (i:q a b) (j:s a b) (l:t a b) (m:u a b) (n:v a b):∃ a b,p a b∧q a b∧s a b∧t a b∧u a b∧v a b:=⟨a,b,h,i,j,l,m,n⟩
theorem e8_3 {p q s t u:A→B→C→Prop} (h:∃ a b c,p a b c∧q a b c∧s a b c∧t a b c∧u a b c) (k:∀ a b c,p a b c→q a b c→s a b c→t a b c→u a b c→r):r:=h.elim fun a g=>g.elim fun b g=>g.elim fun c g=>k a b c g.1 g.2.1 g.2.2.1 g.2.2.2.1 g.2.2.2.2
theorem i8_3 {p q s t u:A→B→C→Prop} (a:A) (b:B) (c:C) (h:p a b c) (i:q a b c) (j:s a b c) (l:t a b c) (m:u a b c):∃ a b c,p a b c∧q a b c∧s a b c∧t a b c∧u a b c:=⟨a,b,c,h,i,j,l,m⟩
theorem e8_4 {p q s t:A→B→C→D→Prop} (h:∃ a b c d,p a b c d∧q a b c d∧s a b c d∧t a b c d) (k:∀ a b c d,p a b c d→q a b c d→s a b c d→t a b c d→r):r:=h.elim fun a g=>g.elim fun b g=>g.elim fun c g=>g.elim fun d g=>k a b c d g.1 g.2.1 g.2.2.1 g.2.2.2
theorem i8_4 {p q s t:A→B→C→D→Prop} (a:A) (b:B) (c:C) (d:D) (h:p a b c d) (i:q a b c d) (j:s a b c d) (l:t a b c d):∃ a b c d,p a b c d∧q a b c d∧s a b c d∧t a b c d:=⟨a,b,c,d,h,i,j,l⟩
theorem e8_6 {p q:A→B→C→D→F→G→Prop} (h:∃ a b c d f y,p a b c d f y∧q a b c d f y) (k:∀ a b c d f y,p a b c d f y→q a b c d f y→r):r:=h.elim fun a g=>g.elim fun b g=>g.elim fun c g=>g.elim fun d g=>g.elim fun f g=>g.elim fun y g=>k a b c d f y g.1 g.2
theorem i8_6 {p q:A→B→C→D→F→G→Prop} (a:A) (b:B) (c:C) (d:D) (f:F) (y:G) (h:p a b c d f y) (i:q a b c d f y):∃ a b c d f y,p a b c d f y∧q a b c d f y:=⟨a,b,c,d,f,y,h,i⟩
theorem e9_2 {p q s t u v w:A→B→Prop} (h:∃ a b,p a b∧q a b∧s a b∧t a b∧u a b∧v a b∧w a b) (k:∀ a b,p a b→q a b→s a b→t a b→u a b→v a b→w a b→r):r:=h.elim fun a g=>g.elim fun b g=>k a b g.1 g.2.1 g.2.2.1 g.2.2.2.1 g.2.2.2.2.1 g.2.2.2.2.2.1 g.2.2.2.2.2.2
theorem e9_3 {p q s t u v:A→B→C→Prop} (h:∃ a b c,p a b c∧q a b c∧s a b c∧t a b c∧u a b c∧v a b c) (k:∀ a b c,p a b c→q a b c→s a b c→t a b c→u a b c→v a b c→r):r:=h.elim fun a g=>g.elim fun b g=>g.elim fun c g=>k a b c g.1 g.2.1 g.2.2.1 g.2.2.2.1 g.2.2.2.2.1 g.2.2.2.2.2
theorem i9_3 {p q s t u v:A→B→C→Prop} (a:A) (b:B) (c:C) (h:p a b c) (i:q a b c) (j:s a b c) (l:t a b c) (m:u a b c) (n:v a b c):∃ a b c,p a b c∧q a b c∧s a b c∧t a b c∧u a b c∧v a b c:=⟨a,b,c,h,i,j,l,m,n⟩
theorem e9_4 {p q s t u:A→B→C→D→Prop} (h:∃ a b c d,p a b c d∧q a b c d∧s a b c d∧t a b c d∧u a b c d) (k:∀ a b c d,p a b c d→q a b c d→s a b c d→t a b c d→u a b c d→r):r:=h.elim fun a g=>g.elim fun b g=>g.elim fun c g=>g.elim fun d g=>k a b c d g.1 g.2.1 g.2.2.1 g.2.2.2.1 g.2.2.2.2
theorem i9_4 {p q s t u:A→B→C→D→Prop} (a:A) (b:B) (c:C) (d:D) (h:p a b c d) (i:q a b c d) (j:s a b c d) (l:t a b c d) (m:u a b c d):∃ a b c d,p a b c d∧q a b c d∧s a b c d∧t a b c d∧u a b c d:=⟨a,b,c,d,h,i,j,l,m⟩
theorem e9_5 {p q s t:A→B→C→D→F→Prop} (h:∃ a b c d f,p a b c d f∧q a b c d f∧s a b c d f∧t a b c d f) (k:∀ a b c d f,p a b c d f→q a b c d f→s a b c d f→t a b c d f→r):r:=h.elim fun a g=>g.elim fun b g=>g.elim fun c g=>g.elim fun d g=>g.elim fun f g=>k a b c d f g.1 g.2.1 g.2.2.1 g.2.2.2
theorem i9_5 {p q s t:A→B→C→D→F→Prop} (a:A) (b:B) (c:C) (d:D) (f:F) (h:p a b c d f) (i:q a b c d f) (j:s a b c d f) (l:t a b c d f):∃ a b c d f,p a b c d f∧q a b c d f∧s a b c d f∧t a b c d f:=⟨a,b,c,d,f,h,i,j,l⟩
theorem e9_7 {p q:A→B→C→D→F→G→H→Prop} (h:∃ a b c d f y z,p a b c d f y z∧q a b c d f y z) (k:∀ a b c d f y z,p a b c d f y z→q a b c d f y z→r):r:=h.elim fun a g=>g.elim fun b g=>g.elim fun c g=>g.elim fun d g=>g.elim fun f g=>g.elim fun y g=>g.elim fun z g=>k a b c d f y z g.1 g.2
theorem i9_7 {p q:A→B→C→D→F→G→H→Prop} (a:A) (b:B) (c:C) (d:D) (f:F) (y:G) (z:H) (h:p a b c d f y z) (i:q a b c d f y z):∃ a b c d f y z,p a b c d f y z∧q a b c d f y z:=⟨a,b,c,d,f,y,z,h,i⟩
theorem e9_8 {p:A→B→C→D→F→G→H→I→Prop} (h:∃ a b c d f y z o,p a b c d f y z o) (k:∀ a b c d f y z o,p a b c d f y z o→r):r:=h.elim fun a g=>g.elim fun b g=>g.elim fun c g=>g.elim fun d g=>g.elim fun f g=>g.elim fun y g=>g.elim fun z g=>g.elim fun o g=>k a b c d f y z o g
theorem i9_8 {p:A→B→C→D→F→G→H→I→Prop} (a:A) (b:B) (c:C) (d:D) (f:F) (y:G) (z:H) (o:I) (h:p a b c d f y z o):∃ a b c d f y z o,p a b c d f y z o:=⟨a,b,c,d,f,y,z,o,h⟩
end
noncomputable abbrev M.j:M:=[[1]]
noncomputable abbrev M.a:M:=[[1,1]]
noncomputable abbrev M.o:M:=[[0,1]]
noncomputable abbrev M.x:M:=[[-1,1]]
noncomputable abbrev M.A:M:=[[1,-1]]
noncomputable abbrev M.b:M:=[[1,1,1]]
noncomputable abbrev M.c:M:=[[0,1,1]]
noncomputable abbrev M.m:M:=[[1],[1]]
noncomputable abbrev M.e:M:=[[1,1,-1]]
noncomputable abbrev M.s:M:=[[1,-1,1]]
noncomputable abbrev M.z:M:=[[0,-1,1]]
noncomputable abbrev M.d:M:=[[1,1,1,1]]
noncomputable abbrev M.k:M:=[[0,1,1,1]]
noncomputable abbrev M.q:M:=[[1,1,1,-1]]
noncomputable abbrev M.r:M:=[[1,1,-1,1]]
noncomputable abbrev M.u:M:=[[1,1,1,1,1]]
noncomputable abbrev M.B:M:=[[1,0],[1,1]]
noncomputable abbrev M.g:M:=[[1,-1],[1,1]]
noncomputable abbrev M.h:M:=[[1,1],[1,-1]]
noncomputable abbrev M.f:M:=[[0,1,1],[0,1,1]]
noncomputable abbrev M.i:M:=[[1,0,1],[1,1,0]]
noncomputable abbrev M.v:M:=[[1,1,0],[1,0,1]]
noncomputable abbrev M.n:M:=[[1,-1,1],[1,1,-1]]
noncomputable abbrev E.L:E:=.t .A
noncomputable abbrev E.P:E:=.t .B
noncomputable abbrev E.S:E:=.t .C
noncomputable abbrev M.l:M:=[[1,1,0,1],[1,0,1,0]]
noncomputable abbrev M.t:M:=[[1,1,0,-1],[1,0,1,0]]
noncomputable abbrev N.aH:N:=.n 100000
noncomputable abbrev N.S:N:=.n 1000000
noncomputable abbrev M.p:M:=[[1,-1,1,-1],[1,1,-1,1]]
noncomputable abbrev M.y:M:=[[1,-1,-1,1],[1,1,1,-1]]
noncomputable abbrev E.M:E:=.n (2^63)
noncomputable abbrev N.a9:N:=.n 16777216
noncomputable abbrev E.Q:E:=.n (2^64)
noncomputable abbrev M.w:M:=[[1,0,1,1,0],[1,1,0,0,1]]
noncomputable abbrev N.aI:N:=.n (2^24)
noncomputable abbrev N.aN:N:=.n (2^39)
noncomputable abbrev N.a7:N:=.m 2 .B
noncomputable abbrev N.aM:N:=.m 2 .D
noncomputable abbrev P.A:P:=.k .A .B
noncomputable abbrev N.L:N:=.a .B .U
noncomputable abbrev N.M:N:=.a .A .U
noncomputable abbrev P.B:P:=.l .A .B
noncomputable abbrev N.P:N:=.a .A .B
noncomputable abbrev N.Q:N:=.a .B .C
noncomputable abbrev P.C:P:=.e .A .B
noncomputable abbrev P.D:P:=.k .U .A
noncomputable abbrev N.R:N:=.a .C .U
noncomputable abbrev P.I:P:=.k .A .C
noncomputable abbrev N.T:N:=.a .A .D
noncomputable abbrev N.V:N:=.a .D .U
noncomputable abbrev N.X:N:=.a .F .U
noncomputable abbrev N.Y:N:=.a .C .D
noncomputable abbrev N.Z:N:=.a .A .C
noncomputable abbrev P.J:P:=.l .B .A
noncomputable abbrev P.L:P:=.l .C .D
noncomputable abbrev P.M:P:=.e .A .O
noncomputable abbrev P.N:P:=.k .C .B
noncomputable abbrev P.O:P:=.l .O .A
noncomputable abbrev N.a0:N:=.a .C .B
noncomputable abbrev P.S:P:=.l .A .C
noncomputable abbrev P.T:P:=.l .O .B
noncomputable abbrev P.U:P:=.l .C .B
noncomputable abbrev N.a1:N:=.a .D .F
noncomputable abbrev P.a4:P:=.k .B .A
noncomputable abbrev P.a5:P:=.l .O .C
noncomputable abbrev P.a7:P:=.k .C .D
noncomputable abbrev N.a3:N:=.a .F .G
noncomputable abbrev P.aM:P:=.g .A .B
noncomputable abbrev N.a5:N:=.a .A .W
noncomputable abbrev N.a6:N:=.a .B .F
noncomputable abbrev P.aN:P:=.l .D .C
noncomputable abbrev P.aR:P:=.k .C .A
noncomputable abbrev P.aS:P:=.k .A .D
noncomputable abbrev N.a8:N:=.a .C .A
noncomputable abbrev P.b0:P:=.e .C .D
noncomputable abbrev P.b3:P:=.e .C .O
noncomputable abbrev P.b7:P:=.e .F .O
noncomputable abbrev P.b8:P:=.k .D .C
noncomputable abbrev N.aA:N:=.a .D .C
noncomputable abbrev N.aB:N:=.a .D .B
noncomputable abbrev P.bB:P:=.k .D .B
noncomputable abbrev P.bD:P:=.e .B .A
noncomputable abbrev N.aD:N:=.a .B .A
noncomputable abbrev P.bJ:P:=.k .B .C
noncomputable abbrev N.aG:N:=.a .G .U
noncomputable abbrev P.bN:P:=.e .D .O
noncomputable abbrev P.c1:P:=.e .B .D
noncomputable abbrev P.c7:P:=.e .C .A
noncomputable abbrev N.aJ:N:=.a .A .F
noncomputable abbrev N.aK:N:=.a .F .D
noncomputable abbrev P.c8:P:=.l .C .A
noncomputable abbrev P.cA:P:=.l .B .D
noncomputable abbrev P.cB:P:=.l .D .B
noncomputable abbrev P.cC:P:=.k .A .F
noncomputable abbrev P.cG:P:=.u .A .B
noncomputable abbrev N.aP:N:=.a .O .U
noncomputable abbrev N.aQ:N:=.a .A .O
noncomputable abbrev P.cH:P:=.g .B .A
noncomputable abbrev N.aR:N:=.a .F .C
noncomputable abbrev P.cI:P:=.l .B .C
noncomputable abbrev P.K:P:=.ie .A .B
noncomputable abbrev P.a1:P:=.ik .O .A
noncomputable abbrev P.aA:P:=.il .A .B
noncomputable abbrev P.aV:P:=.il .O .A
noncomputable abbrev P.aW:P:=.ik .A .O
noncomputable abbrev P.aX:P:=.il .B .A
noncomputable abbrev P.b5:P:=.il .D .C
noncomputable abbrev P.b6:P:=.ie .C .D
noncomputable abbrev P.bA:P:=.ig .A .B
noncomputable abbrev P.bT:P:=.ie .B .A
noncomputable abbrev P.bU:P:=.il .C .D
noncomputable abbrev P.cK:P:=.ik .A .B
noncomputable abbrev E.V:E:=.g .P
noncomputable abbrev P.bC:P:=.l .A (.n 7)
noncomputable abbrev P.aD:P:=.l .B (.n 64)
noncomputable abbrev P.bI:P:=.l .A (.n 64)
noncomputable abbrev P.cL:P:=.k .B (.n 62)
noncomputable abbrev P.a6:P:=.l .A (.n 1000)
noncomputable abbrev P.aF:P:=.ie .L .A
noncomputable abbrev P.c5:P:=.ik .O .L
noncomputable abbrev P.c6:P:=.ie .A .L
noncomputable abbrev P.a0:P:=.l .A (.n 400000)
noncomputable abbrev P.aU:P:=.l .B (.n 400000)
noncomputable abbrev P.aH:P:=.l .A .S
noncomputable abbrev P.bX:P:=.k .A .S
noncomputable abbrev P.R:P:=.l .A (.n (2^40))
noncomputable abbrev P.W:P:=.l .A (.n (2^60))
noncomputable abbrev P.aY:P:=.il .A .M
noncomputable abbrev P.aK:P:=.l .A (.n 1099511627776)
noncomputable abbrev N.aL:N:=.a (.m 2 .C) .U
noncomputable abbrev P.c2:P:=.k .A (.m 12 .C)
noncomputable abbrev P.F:P:=.k .M .B
noncomputable abbrev P.G:P:=.k .P .C
noncomputable abbrev P.Q:P:=.l .A .L
noncomputable abbrev P.V:P:=.k .A .Q
noncomputable abbrev P.X:P:=.k .A .L
noncomputable abbrev P.a9:P:=.e .A .L
noncomputable abbrev N.a2:N:=.a .A .L
noncomputable abbrev P.aB:P:=.l .A .Q
noncomputable abbrev P.aC:P:=.l .P .C
noncomputable abbrev N.a4:N:=.a .A .R
noncomputable abbrev P.aP:P:=.k .Z .B
noncomputable abbrev P.aQ:P:=.e .P .C
noncomputable abbrev P.aT:P:=.e .M .B
noncomputable abbrev P.b1:P:=.e .A .Q
noncomputable abbrev P.b2:P:=.e .T .C
noncomputable abbrev P.b4:P:=.k .a1 .C
noncomputable abbrev N.aC:N:=.a .B .R
noncomputable abbrev P.bF:P:=.k .P .D
noncomputable abbrev N.aF:N:=.a .M .U
noncomputable abbrev P.bK:P:=.e .M .C
noncomputable abbrev P.bL:P:=.l .C .L
noncomputable abbrev P.bM:P:=.e .Z .D
noncomputable abbrev P.bP:P:=.k .U .P
noncomputable abbrev P.bS:P:=.k .a0 .A
noncomputable abbrev P.bV:P:=.k .C .L
noncomputable abbrev P.bY:P:=.k .Y .B
noncomputable abbrev P.c0:P:=.e .T .F
noncomputable abbrev E.T:E:=.a .A (.s .B .U)
noncomputable abbrev P.cD:P:=.e .L .A
noncomputable abbrev P.cF:P:=.k .T .C
noncomputable abbrev P.cJ:P:=.e .L .D
noncomputable abbrev P.cN:P:=.e (.a .C .H) .G
noncomputable abbrev P.aJ:P:=.ie .L (.g .A)
noncomputable abbrev P.a3:P:=.ik (.g .M) .A
noncomputable abbrev P.aZ:P:=.e .B (.a .A (.n 3))
noncomputable abbrev P.H:P:=.k .a2 .C
noncomputable abbrev P.Y:P:=.k (.a .P .C) .D
noncomputable abbrev P.Z:P:=.k .aP .M
noncomputable abbrev P.a2:P:=.k (.a .M .B) .C
noncomputable abbrev P.aG:P:=.k (.a .A .Q) .D
noncomputable abbrev P.aI:P:=.k .M .L
noncomputable abbrev P.bG:P:=.k (.a .A .X) .D
noncomputable abbrev P.bZ:P:=.e .P .Y
noncomputable abbrev P.c3:P:=.e (.a .A .V) .F
noncomputable abbrev P.c4:P:=.e (.a .C .M) .B
noncomputable abbrev P.c9:P:=.e .a4 .D
noncomputable abbrev P.cM:P:=.k .A (.a .L .O)
noncomputable abbrev P.cP:P:=.k .A (.a .L .C)
noncomputable abbrev P.cQ:P:=.e .V (.a .O .B)
noncomputable abbrev E.R:E:=.a (.ng 1) (.t (.a .B .W))
noncomputable abbrev P.aL:P:=.e (.a .C .aP) .L
noncomputable abbrev P.a8:P:=.ie (.s (.t .M) .U) .L
noncomputable abbrev P.bH:P:=.l (.a (.a .A (.m 30 .C)) (.n 300)) .B
noncomputable abbrev P.bW:P:=.ie (.a .L .P) (.t .P)
noncomputable abbrev P.b9:P:=.e .a2 (.a .M .B)
noncomputable abbrev P.bR:P:=.e (.a .C (.a .V .U)) .X
noncomputable abbrev P.bQ:P:=.l (.a (.a .A (.m 3 .L)) (.n 20)) .C
end Ar
namespace Mine.Z
def kc:=fun {k0 k1 k2}=>@Ar.a3 [] [k0,k1,k2]
def av:=fun {k0 k1}=>@Ar.a1 [] [k0,k1]
def dq:=fun {k0 k1}=>@Ar.a2 [] [k0,k1]
def fo:=fun {k0}=>@Ar.a0 [] [k0]
def eh:=fun {k0 k1 k2}=>@Ar.a2 [] [k0,k1,k2]
def dh:=fun {k0}=>@Ar.a1 [] [k0]
def n3:=fun {k0 k1 k2 k3 k4 k5}=>@Ar.a5 [] [k0,k1,k2,k3,k4,k5]
def yk:=fun {k0 k1 k2 k3 k4 k5}=>@Ar.a4 [] [k0,k1,k2,k3,k4,k5]
def DZ:=fun {c0 k0 k1}=>@Ar.a4 [c0] [k0,k1]
def DY:=fun {c0 k0 k1 k2}=>@Ar.a4 [c0] [k0,k1,k2]
def jj:=fun {k0 k1 k2 k3}=>@Ar.a3 [] [k0,k1,k2,k3]
def dn:=fun {k0 k1 k2 k3}=>@Ar.a2 [] [k0,k1,k2,k3]
def cv:=fun {k0 k1 k2}=>@Ar.a1 [] [k0,k1,k2]
def jf:=fun {c0}=>@Ar.a1 [c0] []
def jt:=fun {k0 k1 k2 k3 k4}=>@Ar.a3 [] [k0,k1,k2,k3,k4]
def I9:=fun {k0 k1 k2 k3 k4 k5}=>@Ar.a6 [] [k0,k1,k2,k3,k4,k5]
def jU:=fun {k0 k1 k2 k3 k4}=>@Ar.a4 [] [k0,k1,k2,k3,k4]
def zv:=@Ar.a0 [] []
def eT:=fun {k0 k1 k2 k3}=>@Ar.a4 [] [k0,k1,k2,k3]
def pH:=fun {c0 k0 k1}=>@Ar.a2 [c0] [k0,k1]
def pI:=fun {c0 k0}=>@Ar.a1 [c0] [k0]
def zR:=fun {c0 k0}=>@Ar.a3 [c0] [k0]
def mw:=fun {c0 k0}=>@Ar.a2 [c0] [k0]
def gV:=fun {k0 k1 k2 k3}=>@Ar.a1 [] [k0,k1,k2,k3]
def vv:=fun {k0 k1}=>@Ar.a0 [] [k0,k1]
def pG:=fun {k0 k1 k2 k3 k4 k5}=>@Ar.a2 [] [k0,k1,k2,k3,k4,k5]
def pF:=fun {k0 k1 k2 k3 k4 k5}=>@Ar.a3 [] [k0,k1,k2,k3,k4,k5]
def vQ:=fun {k0 k1 k2 k3 k4 k5 k6}=>@Ar.a5 [] [k0,k1,k2,k3,k4,k5,k6]
def G4:=fun {k0 k1 k2 k3 k4}=>@Ar.a5 [] [k0,k1,k2,k3,k4]
def km:=fun {c0 c1}=>@Ar.a1 [c0,c1] []
def tc:=fun {k0 k1 k2 k3 k4}=>@Ar.a2 [] [k0,k1,k2,k3,k4]
def E8:=fun {c0 k0 k1}=>@Ar.a3 [c0] [k0,k1]
def G5:=fun {k0 k1 k2 k3 k4 k5 k6}=>@Ar.a3 [] [k0,k1,k2,k3,k4,k5,k6]
def D5:=@Ar.a1 [] []
def cZ:=fun {c0 c1}=>@Ar.a2 [c0,c1] []
def qq:=fun {c0 c1 c2 c3}=>@Ar.a2 [c0,c1,c2,c3] []
def J8:=fun {k0 k1 k2 k3 k4 k5 k6 k7 k8 k9}=>@Ar.a6 [] [k0,k1,k2,k3,k4,k5,k6,k7,k8,k9]
def J5:=fun {k0 k1 k2 k3 k4 k5 k6 k7 k8 k9 k10}=>@Ar.a7 [] [k0,k1,k2,k3,k4,k5,k6,k7,k8,k9,k10]
def I7:=fun {k0 k1 k2 k3 k4 k5 k6 k7}=>@Ar.a6 [] [k0,k1,k2,k3,k4,k5,k6,k7]
def JC:=fun {k0 k1 k2 k3 k4}=>@Ar.a1 [] [k0,k1,k2,k3,k4]
def J9:=fun {k0 k1 k2 k3 k4 k5 k6 k7}=>@Ar.a4 [] [k0,k1,k2,k3,k4,k5,k6,k7]
def G6:=fun {k0}=>@Ar.a2 [] [k0]
def JA:=fun {k0 k1 k2 k3 k4 k5 k6}=>@Ar.a4 [] [k0,k1,k2,k3,k4,k5,k6]
def JB:=fun {k0 k1}=>@Ar.a3 [] [k0,k1]
def EA:=fun {c0 c1 c2}=>@Ar.a0 [c0,c1,c2] []
def E9:=fun {c0 c1 k0}=>@Ar.a3 [c0,c1] [k0]
def IA:=fun {c0 c1 c2}=>@Ar.a1 [c0,c1,c2] []
def l0:=fun {c0 c1 c2}=>@Ar.a2 [c0,c1,c2] []
def lA:=fun {c0}=>@Ar.a0 [c0] []
def I8:=fun {k0 k1 k2 k3 k4 k5 k6}=>@Ar.a6 [] [k0,k1,k2,k3,k4,k5,k6]
def J6:=fun {k0 k1 k2 k3 k4 k5 k6 k7}=>@Ar.a7 [] [k0,k1,k2,k3,k4,k5,k6,k7]
def J4:=fun {k0 k1 k2 k3 k4 k5 k6 k7}=>@Ar.a8 [] [k0,k1,k2,k3,k4,k5,k6,k7]
def J7:=fun {k0 k1 k2 k3 k4 k5 k6}=>@Ar.a7 [] [k0,k1,k2,k3,k4,k5,k6]
end Mine.Z
end
section
open PySem PySem.W PyProof.Rows
set_option maxHeartbeats 0
namespace Mine
noncomputable abbrev pw:Program:=PySem.Challenge.pw_dm0056_06
noncomputable abbrev an:Option Value:=some (Value.ref 6)
noncomputable abbrev p0:Pos:=⟨0,0,0,0⟩
noncomputable abbrev TB:String→Option Builtin:=PySem.W.Fast.tw14364793385576792824
noncomputable abbrev goT:=PySem.W.Fast.tw10295753902157049106
noncomputable abbrev GS:=PySem.W.Fast.tw10110043849684766642
noncomputable abbrev FD:Builtin:=PySem.W.Fast.tw4202317264376624991
noncomputable abbrev B0:List Frame:=[topFrame p0]
noncomputable def fV:Stmt→Str
 | .ClassDef _ _ _ (.Expr (.Constant (.str s) _ _) _::_) _ _ _ _ _ _ _=>s
 | _=>""
noncomputable def CN (d:Str):Stmt→Stmt
 | .ClassDef n b k (.Expr (.Constant (.str _) kk p1) p2::rest) dl tp sc ts bd sa pos=>.ClassDef n b k (.Expr (.Constant (.str d) kk p1) p2::rest) dl tp sc ts bd sa pos
 | s=>s
noncomputable def DX (i:Nat) (d:Str) (p:Program):Program:={ p with main:={ p.main with body:=p.main.body.modify i (CN d) } }
noncomputable def Ds:{ s:String // fV (pw.main.body.getD 5 default)=Str.ofString s }:=⟨_,rfl⟩
noncomputable def DW:{ cs:List Char // String.ofList cs=Ds.1 }:=⟨_,rfl⟩
noncomputable def HU:Str:=⟨(PySem.W.R.mapR Char.toNat DW.1).toArray⟩
theorem CP:fV (pw.main.body.getD 5 default)=HU:=by
 rw [Ds.2,← DW.2,Fast.ofString_ofList,PySem.W.R.mapR_eq];rfl
noncomputable def pwF:Program:=DX 5 HU pw
theorem EZ:pwF=pw:=by
 have h:DX 5 (fV (pw.main.body.getD 5 default)) pw=pw:=by kernel_rfl
 rw [CP] at h
 exact h
noncomputable def S0 (w:World) (os:OsState):Shared:=⟨boot_heap w.params,⟨[]⟩,boot_drawn,boot_toks,os⟩
noncomputable abbrev bE:List Stmt:=behindTheImports pw
noncomputable abbrev bF:List Stmt:=behindTheImports pwF
theorem I6:bF=bE:=bx behindTheImports EZ
noncomputable abbrev CK:Env:={ scope:=pw.main.scope,locals:=mainNs,globals:=mainNs,cells:=[],code:=Value.ref 13,frame:=some 14 }
noncomputable abbrev cE:Code:=Code.body bE CK
noncomputable def X0 (w:World) (os:OsState):Option (Shared × Thread):=topGo TB pw w 11 an 12 (S0 w os) (topStub pw)
noncomputable def ob (w:World) (os:OsState) (i:Nat):Obj:=((X0 w os).elim (S0 w os) (·.1)).heap.objs.toList.getD i default
noncomputable def T4 (w:World) (os:OsState):BT :=
 .node (ob w os 0)
  (.node (ob w os 1) (.node (ob w os 3) (.node (ob w os 7) .nil .nil) (.node (ob w os 11) .nil .nil)) (.node (ob w os 5) (.node (ob w os 9) .nil .nil) (.node (ob w os 13) .nil .nil)))
  (.node (ob w os 2) (.node (ob w os 4) (.node (ob w os 8) .nil .nil) (.node (ob w os 12) .nil .nil)) (.node (ob w os 6) (.node (ob w os 10) .nil .nil) (.node (ob w os 14) .nil .nil)))
noncomputable def S4 (w:World) (os:OsState):SharedT:={ tree:=T4 w os,n:=15,life:={},gens:=⟨[]⟩,drawn:={},toks:=187,os:=os }
theorem pre:(fun w os=>topGo TB pw w 11 an 12 (S0 w os) (topStub pw))=fun w os=>some ((S4 w os).abs,⟨denote TB cE,cE,p0,B0⟩):=by kernel_rfl
theorem blk:(fun w os=>segRun TB pw w 11 an 1 1 (S4 w os).abs (blockOf bE CK cE p0 B0))=fun w os=>some (Flow.next,(S4 w os).abs,cE,p0):=by kernel_rfl
theorem fin:(fun w c q s=>topRun TB pw w 11 an 2 s ⟨doneF .next,c,q,B0⟩)=fun w c q s=>some s:=by kernel_rfl
end Mine
end
section
open PySem PySem.W PyProof.Rows
set_option maxHeartbeats 0
namespace Mine
noncomputable def tK (as:Array Nat) (p:Nat→Bool) (start stop:Nat):Bool :=
 match Nat.beq start 0,Nat.beq stop as.size with
 | true,true=>PySem.W.R.anyR as.toList p
 | _,_=>Array.any as p start stop
theorem rC:@Array.any Nat=tK:=by
 funext as p start stop
 unfold tK
 split
 ·rename_i h1 h2
  have e1:=Nat.eq_of_beq_eq_true h1
  have e2:=Nat.eq_of_beq_eq_true h2
  subst e1 e2
  rw [← PySem.W.R.anyR_eq,Array.any_toList]
 ·rfl
noncomputable def th0:Thread:=piecesOf bF CK cE p0 B0
noncomputable def XA (w:World) (os:OsState):Option (SharedT × Thread):=goT TB pw w 11 an 1 1966 (S4 w os) th0
noncomputable def sA (w:World) (os:OsState):SharedT:=(XA w os).elim (S4 w os) (·.1)
noncomputable def tA (w:World) (os:OsState):Thread:=(XA w os).elim th0 (·.2)
noncomputable def yj (t:Thread):Args:=match t.code with | .builtin _ a=>a | _=>{}
theorem atA:(fun w os=>((XA w os).isSome,(tA w os).cur))=fun w os=>(true,FD (yj (tA w os))):=by kernel_rfl
end Mine
end
section
set_option tactic.hygienic true
namespace MP
set_option genSizeOf false
set_option genInjectivity false
open PySem
structure EV where
 ks:List Expr
 s:Str
 k:Nat
 op:BoolOp
 g:List Comprehension × Scope
 b:Option Expr × Option Expr
 c:Const
noncomputable def vk (ks:List Expr):EV:=⟨ks,"",0,.And,([],default),(none,none),.none⟩
noncomputable def v0:EV:=vk []
noncomputable def vw (x:Expr):EV:=Expr.casesOn (motive_1:=fun _=>EV) x
 (fun op xs _=>⟨xs,"",0,op,([],default),(none,none),.none⟩)
 (fun _ _ _=>v0)
 (fun l _ r _=>vk [l,r])
 (fun _ y _=>vk [y])
 (fun _ _ _ _=>v0)
 (fun u y z _=>vk [u,y,z])
 (fun _ _ _=>v0)
 (fun _ _ _=>v0)
 (fun y gs sc _=>⟨[y],"",0,.And,(gs,sc),(none,none),.none⟩)
 (fun _ _ _ _=>v0)
 (fun _ _ _ _ _=>v0)
 (fun _ _ _ _=>v0)
 (fun _ _=>v0)
 (fun _ _=>v0)
 (fun _ _=>v0)
 (fun l _ r _=>vk (l::r))
 (fun f xs _ _=>vk (f::xs))
 (fun _ _ _ _=>v0)
 (fun _ _=>v0)
 (fun c k _=>⟨[],"",k,.And,([],default),(none,none),c⟩)
 (fun y _ _=>vk [y])
 (fun y z _=>vk [y,z])
 (fun _ _=>v0)
 (fun y _=>⟨[],y,0,.And,([],default),(none,none),.none⟩)
 (fun xs _=>vk xs)
 (fun xs k _=>⟨xs,"",k,.And,([],default),(none,none),.none⟩)
 (fun l h _ _=>⟨[],"",0,.And,([],default),(l,h),.none⟩)
noncomputable def eK (k:Nat) (x:Expr):Bool:=Nat.beq x.ctorIdx k
noncomputable def kids (x:Expr):List Expr:=(vw x).ks
noncomputable def kid (i:Nat) (x:Expr):Expr:=(kids x).getD i default
noncomputable def ji (x:Expr):Str:=(vw x).s
noncomputable def exK (x:Expr):Nat:=(vw x).k
noncomputable def z8 (x:Expr):Str:=match (vw x).c with
 | .str t=>t
 | _=>""
structure SV where
 es:List Expr
 b:List Stmt
 c:List Stmt
noncomputable def s0:SV:=⟨[],[],[]⟩
noncomputable def sw (x:Stmt):SV:=Stmt.casesOn (motive_2:=fun _=>SV) x
 (fun _ _ _ _ _ _ _ _ _ _=>s0)
 (fun _ _ _ _ _ _ _ _ _ _=>s0)
 (fun _ _ _ b _ _ _ _ _ _ _=>⟨[],b,[]⟩)
 (fun e _=>⟨e.toList,[],[]⟩)
 (fun _ _=>s0)
 (fun ts e _=>⟨e::ts,[],[]⟩)
 (fun _ _ _ _ _ _ _=>s0)
 (fun t _ e _=>⟨[e,t],[],[]⟩)
 (fun _ _ _ _ _=>s0)
 (fun t e b _ _=>⟨[e,t],b,[]⟩)
 (fun _ _ _ _ _=>s0)
 (fun e b _ _=>⟨[e],b,[]⟩)
 (fun e b c _=>⟨[e],b,c⟩)
 (fun _ _ _=>s0)
 (fun _ _ _=>s0)
 (fun _ _ _=>s0)
 (fun _ _ _=>s0)
 (fun _ _ _ _ _=>s0)
 (fun _ _ _ _ _=>s0)
 (fun _ _ _=>s0)
 (fun _ _=>s0)
 (fun _ _ _ _=>s0)
 (fun _ _=>s0)
 (fun _ _=>s0)
 (fun e _=>⟨[e],[],[]⟩)
 (fun _=>s0)
 (fun _=>s0)
 (fun _=>s0)
noncomputable def xn (x:Stmt):List Expr:=(sw x).es
noncomputable def st0 (x:Stmt):Expr:=(xn x).headD default
end MP
end
section
namespace MP
set_option genSizeOf false
open PySem
inductive Key where
 | int (i:Int)
 | str (s:Str)
 deriving DecidableEq
inductive V where
 | none
 | bool (b:Bool)
 | int (i:Int)
 | str (s:Str)
 | lst (a:Addr)
 | dct (a:Addr)
 | set (a:Addr)
 | obj (a:Addr)
 | tup (xs:List V)
 | mt (xs:List V)
 | dM (a:Addr)
 | eC (a:Addr)
 | clo (k:Nat) (cs:List V)
 | ro (ns:List Int)
noncomputable def V.mG:V→Option Key
 | .int i=>some (.int i)
 | .str s=>some (.str s)
 | _=>Option.none
noncomputable def Key.v:Key→V
 | .int i=>.int i
 | .str s=>.str s
structure St where
 L:Addr→Option (List V)
 D:Addr→Option (List (Key × V))
 S:Addr→Option (List Key)
 I:Addr→Option (Addr × (Nat→Option V))
 Z:Addr→Option V
noncomputable abbrev Fr:=Nat→Option V
noncomputable def upd {α:Type} (f:Nat→Option α) (i:Nat) (v:α):Nat→Option α:=fun j=>if j=i then some v else f j
theorem bc {α:Type} (f:Nat→Option α) (i:Nat) (v:α):upd f i v i=some v:=by simp [upd]
theorem cj {α:Type} {f:Nat→Option α} {i j:Nat} {v:α} (h:j≠i):upd f i v j=f j:=by simp [upd,h]
noncomputable def St.ct (σ:St) (a:Addr) (xs:List V):St:={ σ with L:=upd σ.L a xs }
noncomputable def St.oh (σ:St) (a:Addr) (es:List (Key × V)):St:={ σ with D:=upd σ.D a es }
noncomputable def St.su (σ:St) (a:Addr) (ks:List Key):St:={ σ with S:=upd σ.S a ks }
noncomputable def St.fj (σ:St) (a:Addr) (d:Addr) (f:Nat→Option V):St:={ σ with I:=upd σ.I a (d,f) }
noncomputable def St.dom (σ:St) (b:Addr):Prop:=(σ.L b).isSome∨(σ.D b).isSome∨(σ.S b).isSome∨(σ.I b).isSome∨(σ.Z b).isSome∨∃ a f,σ.I a=some (b,f)
set_option genInjectivity false
inductive Bop where
 | add | sub | mul | fdiv | mod | pow
 deriving DecidableEq
inductive Cop where
 | eq | ne | lt | le | gt | ge | is | isNot | isIn | notIn
 deriving DecidableEq
inductive BM where
 | append | pop | insert | extend | sort | index | count | get | setdefault | add
 deriving DecidableEq
inductive BF where
 | len | lrange | min | max | set | divmod | min3
 deriving DecidableEq
inductive Tg where
 | var (x:Nat)
 | tup (xs:List Nat)
mutual
inductive Ex where
 | none
 | bool (b:Bool)
 | int (i:Int)
 | str (s:Str)
 | loc (x:Nat)
 | bin (op:Bop) (a b:Ex)
 | neg (a:Ex)
 | not (a:Ex)
 | and (a b:Ex)
 | or (a b:Ex)
 | cmp (op:Cop) (a b:Ex)
 | ite (c a b:Ex)
 | lst (es:Exs)
 | tup (es:Exs)
 | dct0
 | call (f:Nat) (es:Exs)
 | meth (e:Ex) (m:Nat) (es:Exs)
 | attr (e:Ex) (a:Nat)
 | dgetOf (e:Ex)
 | shasOf (e:Ex)
 | bm (k:BM) (e:Ex) (es:Exs)
 | bf (k:BF) (es:Exs)
 | callv (f:Nat) (es:Exs)
 | sub (e i:Ex)
 | slc (e lo hi:Ex)
 | comp (fv:List (Nat × Nat)) (it:It) (t:Tg) (cs:Exs) (more:Gens)
 | newM (es:Exs)
 | newMatch (a b c:Ex)
 | mkMatches (e:Ex)
 | dead
inductive Exs where
 | nil
 | cons (e:Ex) (es:Exs)
inductive It where
 | rng1 (e:Ex)
 | rng2 (a b:Ex)
 | rng3 (a b c:Ex)
 | enum (e:Ex)
 | seq (e:Ex)
inductive Gens where
 | elt (e:Ex)
 | cons (it:It) (t:Tg) (cs:Exs) (more:Gens)
end
inductive Tgt where
 | var (x:Nat)
 | attr (o:Ex) (a:Nat)
 | sub (o i:Ex)
 | tup (xs:List Nat)
mutual
inductive Stm where
 | assign (ts:List Tgt) (e:Ex)
 | aug (x:Nat) (op:Bop) (e:Ex)
 | expr (e:Ex)
 | cond (c:Ex) (t e:ky)
 | loop (c:Ex) (b:ky)
 | each (t:Tg) (it:It) (b:ky)
 | ret (e:Ex)
 | brk
 | cont
 | pass
 | dead
inductive ky where
 | nil
 | cons (s:Stm) (ss:ky)
end
inductive Fl where
 | next | brk | cont
 | ret (v:V)
noncomputable def wj (σ:St):Nat→V→Option PyData
 | _,.none=>some .none
 | _,.bool b=>some (.bool b)
 | _,.int i=>some (.int i)
 | _,.str s=>if PyData.strOk s then some (.str s) else Option.none
 | n+1,.tup xs=>(xs.mapM (wj σ n)).map .tuple
 | n+1,.lst a=>(σ.L a).bind fun xs=>(xs.mapM (wj σ n)).map .list
 | _,_=>Option.none
noncomputable def ax:Nat:=1000000
noncomputable def yS (a b:Int):Prop:=a.natAbs<2^60∨b.natAbs<2^60
noncomputable def vInt:V→Option Int
 | .int i=>some i | _=>none
noncomputable def vStr:V→Option Str
 | .str i=>some i | _=>none
noncomputable def dY:V→Option Addr
 | .lst i=>some i | _=>none
noncomputable def AA:V→Option Addr
 | .dct i=>some i | _=>none
noncomputable def EI:V→Option Addr
 | .obj i=>some i | _=>none
noncomputable def vRo:V→Option (List Int)
 | .ro i=>some i | _=>none
noncomputable def EF:V→Option (List V)
 | .tup i=>some i | _=>none
theorem fu {α:Type} {x:α} {p:Prop} (h:none=some x):p:=by cases h
theorem nk {v:V} {i:Int} (h:vInt v=some i):v=.int i:=by
 cases v<;>first | exact bx _ (af h) | exact fu h
theorem yz {v:V} {i:Str} (h:vStr v=some i):v=.str i:=by
 cases v<;>first | exact bx _ (af h) | exact fu h
theorem za {v:V} {i:Addr} (h:dY v=some i):v=.lst i:=by
 cases v<;>first | exact bx _ (af h) | exact fu h
theorem A9 {v:V} {i:Addr} (h:AA v=some i):v=.dct i:=by
 cases v<;>first | exact bx _ (af h) | exact fu h
theorem sE {v:V} {i:Addr} (h:EI v=some i):v=.obj i:=by
 cases v<;>first | exact bx _ (af h) | exact fu h
theorem EH {v:V} {i:List Int} (h:vRo v=some i):v=.ro i:=by
 cases v<;>first | exact bx _ (af h) | exact fu h
theorem A8 {v:V} {i:List V} (h:EF v=some i):v=.tup i:=by
 cases v<;>first | exact bx _ (af h) | exact fu h
noncomputable def qa (v:V) (f:Int→Prop):Prop:=match v with
 | .int i=>f i
 | _=>False
theorem nr {v:V} {f:Int→Prop} (h:qa v f):∃ i,v=.int i∧f i:=by
 cases v<;>first | exact⟨_,rfl,h⟩ | exact False.elim h
noncomputable def cT (v:V) (f:Addr→Prop):Prop:=match v with
 | .lst i=>f i
 | _=>False
theorem rg {v:V} {f:Addr→Prop} (h:cT v f):∃ i,v=.lst i∧f i:=by
 cases v<;>first | exact⟨_,rfl,h⟩ | exact False.elim h
noncomputable def kK (v:V) (f:Addr→Prop):Prop:=match v with
 | .dct i=>f i
 | _=>False
theorem eE {v:V} {f:Addr→Prop} (h:kK v f):∃ i,v=.dct i∧f i:=by
 cases v<;>first | exact⟨_,rfl,h⟩ | exact False.elim h
noncomputable def onSet (v:V) (f:Addr→Prop):Prop:=match v with
 | .set i=>f i
 | _=>False
theorem BL {v:V} {f:Addr→Prop} (h:onSet v f):∃ i,v=.set i∧f i:=by
 cases v<;>first | exact⟨_,rfl,h⟩ | exact False.elim h
noncomputable def on0 (vs:List V) (p:Prop):Prop:=match vs with
 | []=>p
 | _::_=>False
noncomputable def on1 (vs:List V) (f:V→Prop):Prop:=match vs with
 | []=>False
 | v::r=>on0 r (f v)
noncomputable def on2 (vs:List V) (f:V→V→Prop):Prop:=match vs with
 | []=>False
 | v::r=>on1 r (f v)
noncomputable def on3 (vs:List V) (f:V→V→V→Prop):Prop:=match vs with
 | []=>False
 | v::r=>on2 r (f v)
theorem sY {vs:List V} {p:Prop} (h:on0 vs p):vs=[]∧p:=by
 cases vs
 ·exact⟨rfl,h⟩
 ·exact False.elim h
theorem gK {vs:List V} {f:V→Prop} (h:on1 vs f):∃ v,vs=[v]∧f v:=by
 cases vs with
 | nil=>exact False.elim h
 | cons v r=>obtain⟨rfl,h⟩:=sY (p:=f v) h;exact⟨v,rfl,h⟩
theorem gJ {vs:List V} {f:V→V→Prop} (h:on2 vs f):∃ v u,vs=[v,u]∧f v u:=by
 cases vs with
 | nil=>exact False.elim h
 | cons v r=>obtain⟨u,rfl,h⟩:=gK (f:=f v) h;exact⟨v,u,rfl,h⟩
theorem DL {vs:List V} {f:V→V→V→Prop} (h:on3 vs f):∃ v u z,vs=[v,u,z]∧f v u z:=by
 cases vs with
 | nil=>exact False.elim h
 | cons v r=>obtain⟨u,z,rfl,h⟩:=gJ (f:=f v) h;exact⟨v,u,z,rfl,h⟩
noncomputable def pN (op:Bop) (a b:Int) (σ:St) (Q:V→St→Prop):Prop:=match op with
 | .add=>Q (.int (a+b)) σ
 | .sub=>Q (.int (a-b)) σ
 | .mul=>yS a b∧Q (.int (a*b)) σ
 | .fdiv=>b≠0∧b.natAbs<2^60∧Q (.int (a.fdiv b)) σ
 | .mod=>b≠0∧Q (.int (a.fmod b)) σ
 | .pow=>0≤b∧b≤1000∧a.natAbs<2^64∧Q (.int (a^b.toNat)) σ
noncomputable def itemsOf (a:V) (σ:St):Option (List V):=match dY a with
 | some l=>σ.L l
 | none=>(vRo a).map fun ns=>ns.map V.int
noncomputable def DG (a:V) (b:Addr) (σ:St) (Q:V→St→Prop):Prop:=∃ xs ys,itemsOf a σ=some xs∧σ.L b=some ys∧xs.length+ys.length≤ax∧∀ c,σ.L c=Option.none→Q (.lst c) (σ.ct c (xs++ys))
noncomputable def DD (a:Addr) (n:Int) (σ:St) (Q:V→St→Prop):Prop:=∃ xs,σ.L a=some xs∧xs.length*n.toNat≤ax∧n.natAbs<2^60∧∀ c,σ.L c=Option.none→Q (.lst c) (σ.ct c ((List.replicate n.toNat xs).flatten))
noncomputable def dX (op:Bop) (a b:V) (σ:St) (Q:V→St→Prop):Prop:=match vInt a,vInt b with
 | some i,some j=>pN op i j σ Q
 | none,some n=>match op,dY a with
  | .mul,some l=>DD l n σ Q
  | _,_=>False
 | none,none=>match op,dY b with
  | .add,some m=>DG a m σ Q
  | _,_=>False
 | _,_=>False
theorem nD {op:Bop} {a b:V} {σ:St} {Q:V→St→Prop} (h:dX op a b σ Q):(∃ i j,a=.int i∧b=.int j∧pN op i j σ Q)∨(op=.mul∧∃ l n,a=.lst l∧b=.int n∧DD l n σ Q)∨(op=.add∧∃ m,b=.lst m∧DG a m σ Q):=by
 unfold dX at h
 cases e1:vInt a with
 | some i =>
  cases e2:vInt b with
  | some j=>rw [e1,e2] at h;exact .inl ⟨i,j,nk e1,nk e2,h⟩
  | none=>rw [e1,e2] at h;exact h.elim
 | none =>
  cases e2:vInt b with
  | some j =>
   rw [e1,e2] at h
   cases e3:dY a with
   | none=>rw [e3] at h;cases op<;>exact h.elim
   | some l =>
    rw [e3] at h
    cases op with
    | mul=>exact .inr (.inl ⟨rfl,l,j,za e3,nk e2,h⟩)
    | _=>exact h.elim
  | none =>
   rw [e1,e2] at h
   cases e3:dY b with
   | none=>rw [e3] at h;cases op<;>exact h.elim
   | some m =>
    rw [e3] at h
    cases op with
    | add=>exact .inr (.inr ⟨rfl,m,za e3,h⟩)
    | _=>exact h.elim
noncomputable def sC (a b:V) (σ:St) (K:Bool→Prop):Prop:=∃ d e,wj σ 6 a=some d∧wj σ 6 b=some e∧K (PyData.eqv d e)
noncomputable def nC (a b:V) (σ:St) (K:Bool→Prop):Prop:=match vInt a with
 | some i=>match vInt b with
  | some j=>K (i==j)
  | none=>sC a b σ K
 | none=>match vStr a with
  | some x=>match vStr b with
   | some y=>K (x==y)
   | none=>sC a b σ K
  | none=>sC a b σ K
theorem hY {a b:V} {σ:St} {K:Bool→Prop} (h:nC a b σ K):(∃ i j,a=.int i∧b=.int j∧K (i==j))∨(∃ x y,a=.str x∧b=.str y∧K (x==y))∨sC a b σ K:=by
 unfold nC at h
 cases e1:vInt a with
 | some i =>
  rw [e1] at h
  cases e2:vInt b with
  | some j=>rw [e2] at h;exact .inl ⟨i,j,nk e1,nk e2,h⟩
  | none=>rw [e2] at h;exact .inr (.inr h)
 | none =>
  rw [e1] at h
  cases e3:vStr a with
  | none=>rw [e3] at h;exact .inr (.inr h)
  | some x =>
   rw [e3] at h
   cases e2:vStr b with
   | some y=>rw [e2] at h;exact .inr (.inl ⟨x,y,yz e3,yz e2,h⟩)
   | none=>rw [e2] at h;exact .inr (.inr h)
noncomputable def isNone:V→Bool
 | .none=>true
 | _=>false
noncomputable def DF (b:Addr) (v:V) (σ:St) (K:Bool→Prop):Prop:=match v with
 | .lst a=>(σ.L a).isSome∧(σ.L b).isSome∧K (a==b)
 | .none=>K false
 | _=>False
noncomputable def A1 (v w:V) (σ:St) (K:Bool→Prop):Prop:=match w with
 | .none=>K (isNone v)
 | .lst b=>DF b v σ K
 | _=>False
noncomputable def A2 (a b:V) (σ:St) (K:Bool→Prop):Prop:=qa a fun i=>cT b fun l=>∃ ns:List Int,σ.L l=some (ns.map V.int)∧K (ns.contains i)
noncomputable def IQ (op:Cop) (a b:Int) (K:Bool→Prop):Prop:=match op with
 | .lt=>K (decide (a<b))
 | .le=>K (decide (a≤b))
 | .gt=>K (decide (b<a))
 | .ge=>K (decide (b≤a))
 | _=>False
noncomputable def DE (op:Cop) (a b:V) (K:Bool→Prop):Prop:=qa a fun i=>qa b fun j=>IQ op i j K
noncomputable def wu:Cop→V→V→St→(Bool→Prop)→Prop
 | .eq,a,b,σ,K=>nC a b σ K
 | .ne,a,b,σ,K=>nC a b σ fun r=>K (!r)
 | .is,a,b,σ,K=>A1 a b σ K
 | .isNot,a,b,σ,K=>A1 a b σ fun r=>K (!r)
 | .isIn,a,b,σ,K=>A2 a b σ K
 | .notIn,a,b,σ,K=>A2 a b σ fun r=>K (!r)
 | op,a,b,σ,K=>DE op a b K
noncomputable def pv:V→St→(Bool→Prop)→Prop
 | .none,_,K=>K false
 | .bool b,_,K=>K b
 | .int i,_,K=>K (i != 0)
 | .str s,_,K=>s.cps.size≤ax∧K (s.cps.size != 0)
 | .lst a,σ,K=>∃ xs,σ.L a=some xs∧K (!xs.isEmpty)
 | .ro ns,_,K=>ns.length≤ax∧K (!ns.isEmpty)
 | .clo _ _,_,K=>K true
 | _,_,_=>False
noncomputable def gf (n:Nat) (i:Int):Int:=if i<0 then i+n else i
noncomputable def dt (n:Nat) (i:Int):Nat:=min n (gf n i).toNat
noncomputable def s8 (a b:V) (σ:St) (K:V→Prop):Prop:=match a with
 | .lst a=>qa b fun i=>∃ xs v,σ.L a=some xs∧0≤gf xs.length i∧xs[(gf xs.length i).toNat]?=some v∧K v
 | .ro ns=>qa b fun i=>∃ n,ns.length≤ax∧0≤gf ns.length i∧ns[(gf ns.length i).toNat]?=some n∧K (.int n)
 | .tup xs=>qa b fun i=>∃ v,i.natAbs<2^60∧0≤gf xs.length i∧xs[(gf xs.length i).toNat]?=some v∧K v
 | .dct a=>∃ es kk v,σ.D a=some es∧b.mG=some kk∧es.lookup kk=some v∧K v
 | _=>False
noncomputable def eJ (d:Nat):V→Option Int
 | .none=>some d
 | .int i=>some i
 | _=>Option.none
noncomputable def s9 (a lo hi:V) (σ:St) (Q:V→St→Prop):Prop:=match a with
 | .lst a=>∃ xs i j,σ.L a=some xs∧eJ 0 lo=some i∧eJ xs.length hi=some j∧i.natAbs<2^60∧j.natAbs<2^60 ∧
   ∀ c,σ.L c=Option.none→Q (.lst c) (σ.ct c ((xs.take (dt xs.length j)).drop (dt xs.length i)))
 | .ro ns=>∃ i j,ns.length≤ax∧eJ 0 lo=some i∧eJ ns.length hi=some j∧i.natAbs<2^60∧j.natAbs<2^60 ∧
   ∀ c,σ.L c=Option.none→Q (.lst c) (σ.ct c (((ns.take (dt ns.length j)).drop (dt ns.length i)).map V.int))
 | _=>False
noncomputable def putD (es:List (Key × V)) (k:Key) (v:V):List (Key × V) :=
 if es.any (fun e=>e.1==k) then es.map (fun e=>if e.1=k then (k,v) else e) else es++[(k,v)]
noncomputable def gv:List Int→List Int→Bool
 | a::as,b::bs=>if a=b then gv as bs else decide (a<b)
 | _,_=>false
noncomputable def zq (a b:Int × Int × Int):Int × Int × Int:=if gv [b.1,b.2.1,b.2.2] [a.1,a.2.1,a.2.2]=true then b else a
noncomputable def tI (t:Int × Int × Int):V:=.tup [.int t.1,.int t.2.1,.int t.2.2]
noncomputable def mtV (t:Int × Int × Int):V:=.mt [.int t.1,.int t.2.1,.int t.2.2]
noncomputable def leT (s t:Int × Int × Int):Bool:=!gv [t.1,t.2.1,t.2.2] [s.1,s.2.1,s.2.2]
noncomputable def GI (k:BM) (v:V) (vs:List V) (σ:St) (Q:V→St→Prop):Prop:=match k with
 | .append=>cT v fun a=>on1 vs fun x=>∃ xs,σ.L a=some xs∧xs.length<ax∧Q .none (σ.ct a (xs++[x]))
 | .pop=>cT v fun a=>on0 vs (∃ xs x,σ.L a=some (xs++[x])∧Q x (σ.ct a xs))
 | .insert=>cT v fun a=>on2 vs fun z x=>qa z fun i=>∃ xs,σ.L a=some xs∧xs.length<ax∧0≤i∧i<2^60∧Q .none (σ.ct a (xs.take (dt xs.length i)++x::xs.drop (dt xs.length i)))
 | .extend=>cT v fun a=>on1 vs fun x=>cT x fun b=>∃ xs ys,a≠b∧σ.L a=some xs∧σ.L b=some ys∧xs.length+ys.length≤ax∧Q .none (σ.ct a (xs++ys))
 | .sort=>cT v fun a=>on0 vs (∃ ts:List (Int × Int × Int),σ.L a=some (ts.map mtV)∧ts.length<64∧Q .none (σ.ct a ((ts.mergeSort leT).map mtV)))
 | .index=>False
 | .count=>False
 | .get=>kK v fun a=>on2 vs fun k d=>∃ es kk,σ.D a=some es∧k.mG=some kk∧Q ((es.lookup kk).getD d) σ
 | .setdefault=>kK v fun a=>on2 vs fun k d=>∃ es kk,σ.D a=some es∧k.mG=some kk∧es.length<ax∧Q ((es.lookup kk).getD d) (σ.oh a (if (es.lookup kk).isSome then es else es++[(kk,d)]))
 | .add=>False
noncomputable def I2 (k:BM) (v:V) (σ:St):Prop:=match k with
 | .get=>kK v fun a=>(σ.D a).isSome=true
 | .setdefault=>kK v fun a=>(σ.D a).isSome=true
 | .add=>onSet v fun a=>(σ.S a).isSome=true
 | _=>cT v fun a=>(σ.L a).isSome=true
noncomputable def GH (v:V) (σ:St) (Q:V→St→Prop):Prop:=match v with
 | .lst a=>∃ xs,σ.L a=some xs∧Q (.int xs.length) σ
 | .tup xs=>xs.length≤ax∧Q (.int xs.length) σ
 | .ro ns=>ns.length≤ax∧Q (.int ns.length) σ
 | .dct a=>∃ es,σ.D a=some es∧Q (.int es.length) σ
 | _=>False
noncomputable def pO (k:BF) (vs:List V) (σ:St) (Q:V→St→Prop):Prop:=match k with
 | .len=>on1 vs fun v=>GH v σ Q
 | .lrange=>on1 vs fun v=>qa v fun n=>0≤n∧n≤ax∧∀ c,σ.L c=Option.none→Q (.lst c) (σ.ct c ((List.range n.toNat).map fun i:Nat=>V.int i))
 | .min=>on2 vs fun v u=>qa v fun a=>qa u fun b=>Q (.int (min a b)) σ
 | .max=>on2 vs fun v u=>qa v fun a=>qa u fun b=>Q (.int (max a b)) σ
 | .set=>on0 vs (∀ c,σ.S c=Option.none→Q (.set c) (σ.su c []))
 | .divmod=>on2 vs fun v u=>qa v fun a=>qa u fun b=>b≠0∧b.natAbs<2^60∧Q (.tup [.int (a.fdiv b),.int (a.fmod b)]) σ
 | .min3=>∃ x y z,vs=[tI x,tI y,tI z]∧Q (tI (zq (zq x y) z)) σ
noncomputable def AB:V→St→Option (List V)
 | .tup vs,_=>some vs
 | .mt vs,_=>some vs
 | .lst a,σ=>σ.L a
 | _,_=>Option.none
noncomputable def dk:List Nat→List V→Fr→Fr
 | x::xs,v::vs,ρ=>dk xs vs (upd ρ x v)
 | _,_,ρ=>ρ
noncomputable def qd:Tg→V→St→Fr→(Fr→Prop)→Prop
 | .var x,v,_,ρ,K=>K (upd ρ x v)
 | .tup xs,v,σ,ρ,K=>∃ vs,AB v σ=some vs∧xs.length=vs.length∧K (dk xs vs ρ)
noncomputable def qc (a b:Int):List V:=(List.range (b-a).toNat).map fun i:Nat=>V.int (a+i)
noncomputable def fP (a b c:Int):List V:=(List.range (if 0<c then ((b-a+c-1)/c).toNat else 0)).map fun i:Nat=>V.int (a+c*i)
noncomputable abbrev Cal:=Nat→List V→St→(V→St→Prop)→Prop
noncomputable def G7 (f:V) (vs:List V) (C:Cal) (nclo:Nat) (σ:St) (Q:V→St→Prop):Prop:=match f with
 | .dM a=>on2 vs fun k d=>∃ es kk,σ.D a=some es∧k.mG=some kk∧Q ((es.lookup kk).getD d) σ
 | .eC a=>on1 vs fun k=>∃ ks kk,σ.S a=some ks∧k.mG=some kk∧Q (.bool (decide (kk∈ks))) σ
 | .clo k cs=>C (nclo+k) (vs++cs) σ Q
 | _=>False
noncomputable def j3 (fv:List (Nat × Nat)) (ρ:Fr):Fr:=fun i=>(fv.lookup i).bind ρ
noncomputable def mO:List V→(St→Prop)→(V→Fr→List V→St→(Fr→List V→St→Prop)→Prop)→Fr→List V→St→(Fr→List V→St→Prop)→Prop
 | [],G,_,ρ,acc,σ,K=>G σ∧K ρ acc σ
 | v::vs,G,T,ρ,acc,σ,K=>G σ∧T v ρ acc σ fun ρ acc σ=>mO vs G T ρ acc σ K
noncomputable def DC (v:V) (σ:St) (K:List V→(St→Prop)→St→Prop):Prop:=match v with
 | .lst a=>∃ xs,σ.L a=some xs∧K xs (fun τ=>τ.L a=some xs) σ
 | .tup xs=>K xs (fun _=>True) σ
 | _=>False
mutual
noncomputable def wpE (C:Cal):Ex→Fr→St→(V→St→Prop)→Prop
 | .none,_,σ,Q=>Q .none σ
 | .bool b,_,σ,Q=>Q (.bool b) σ
 | .int i,_,σ,Q=>Q (.int i) σ
 | .str s,_,σ,Q=>Q (.str s) σ
 | .loc x,ρ,σ,Q=>∃ v,ρ x=some v∧Q v σ
 | .bin op a b,ρ,σ,Q=>wpE C a ρ σ fun va σ=>wpE C b ρ σ fun vb σ=>dX op va vb σ Q
 | .neg a,ρ,σ,Q=>wpE C a ρ σ fun v σ=>∃ i,v=.int i∧Q (.int (-i)) σ
 | .not a,ρ,σ,Q=>wpE C a ρ σ fun v σ=>pv v σ fun b=>Q (.bool !b) σ
 | .and a b,ρ,σ,Q=>wpE C a ρ σ fun v σ=>pv v σ fun t=>if t then wpE C b ρ σ Q else Q v σ
 | .or a b,ρ,σ,Q=>wpE C a ρ σ fun v σ=>pv v σ fun t=>if t then Q v σ else wpE C b ρ σ Q
 | .cmp op a b,ρ,σ,Q=>wpE C a ρ σ fun va σ=>wpE C b ρ σ fun vb σ=>wu op va vb σ fun r=>Q (.bool r) σ
 | .ite c a b,ρ,σ,Q=>wpT C c ρ σ fun t σ=>if t then wpE C a ρ σ Q else wpE C b ρ σ Q
 | .lst es,ρ,σ,Q=>rz C es ρ σ fun vs σ=>vs.length≤ax∧∀ c,σ.L c=Option.none→Q (.lst c) (σ.ct c vs)
 | .tup es,ρ,σ,Q=>rz C es ρ σ fun vs σ=>vs.length≤ax∧Q (.tup vs) σ
 | .dct0,_,σ,Q=>∀ c,σ.D c=Option.none→Q (.dct c) (σ.oh c [])
 | .call f es,ρ,σ,Q=>rz C es ρ σ fun vs σ=>C f vs σ Q
 | .meth e m es,ρ,σ,Q=>wpE C e ρ σ fun v σ=>∃ a,v=.obj a∧(σ.I a).isSome∧rz C es ρ σ fun vs σ=>C m (v::vs) σ Q
 | .attr e x,ρ,σ,Q=>wpE C e ρ σ fun v σ=>∃ a d f u,v=.obj a∧σ.I a=some (d,f)∧f x=some u∧Q u σ
 | .dgetOf e,ρ,σ,Q=>wpE C e ρ σ fun v σ=>∃ a,v=.dct a∧(σ.D a).isSome∧Q (.dM a) σ
 | .shasOf e,ρ,σ,Q=>wpE C e ρ σ fun v σ=>∃ a,v=.set a∧(σ.S a).isSome∧Q (.eC a) σ
 | .bm k e es,ρ,σ,Q=>wpE C e ρ σ fun v σ=>I2 k v σ∧rz C es ρ σ fun vs σ=>GI k v vs σ Q
 | .bf k es,ρ,σ,Q=>rz C es ρ σ fun vs σ=>pO k vs σ Q
 | .callv f es,ρ,σ,Q=>∃ v,ρ f=some v∧rz C es ρ σ fun vs σ=>G7 v vs C 1000 σ Q
 | .sub e i,ρ,σ,Q=>wpE C e ρ σ fun v σ=>wpE C i ρ σ fun j σ=>s8 v j σ fun r=>Q r σ
 | .slc e lo hi,ρ,σ,Q=>wpE C e ρ σ fun v σ=>wpE C lo ρ σ fun a σ=>wpE C hi ρ σ fun b σ=>s9 v a b σ Q
 | .comp fv it t cs more,ρ,σ,Q=>u6 C it ρ σ fun vs G σ =>
   mO vs G (fun v ρ' acc σ K=>qd t v σ ρ' fun ρ'=>yx C cs ρ' σ fun ok σ=>if ok then hV C more ρ' acc σ K else K ρ' acc σ) (j3 fv ρ) [] σ
    fun _ acc σ=>∀ c,σ.L c=Option.none→Q (.lst c) (σ.ct c acc)
 | .newM es,ρ,σ,Q=>rz C es ρ σ fun vs σ=>∀ a d,σ.I a=Option.none→C 0 (.obj a::vs) (σ.fj a d fun _=>Option.none) fun v σ=>v=.none∧Q (.obj a) σ
 | .newMatch a b c,ρ,σ,Q=>wpE C a ρ σ fun x σ=>wpE C b ρ σ fun y σ=>wpE C c ρ σ fun z σ=>Q (.mt [x,y,z]) σ
 | .mkMatches e,ρ,σ,Q=>wpE C e ρ σ fun v σ=>∃ a,∃ ts:List (List V),v=.lst a∧σ.L a=some (ts.map V.tup)∧(∀ t∈ts,t.length=3)∧∀ c,σ.L c=Option.none→Q (.lst c) (σ.ct c (ts.map V.mt))
 | .dead,_,_,_=>False
noncomputable def wpT (C:Cal):Ex→Fr→St→(Bool→St→Prop)→Prop
 | .not a,ρ,σ,Q=>wpT C a ρ σ fun b σ=>Q (!b) σ
 | .and a b,ρ,σ,Q=>wpT C a ρ σ fun t σ=>if t then wpT C b ρ σ Q else Q false σ
 | .or a b,ρ,σ,Q=>wpT C a ρ σ fun t σ=>if t then Q true σ else wpT C b ρ σ Q
 | .cmp op a b,ρ,σ,Q=>wpE C a ρ σ fun va σ=>wpE C b ρ σ fun vb σ=>wu op va vb σ fun r=>Q r σ
 | .ite c a b,ρ,σ,Q=>wpT C c ρ σ fun t σ=>if t then wpT C a ρ σ Q else wpT C b ρ σ Q
 | .loc x,ρ,σ,Q=>∃ v,ρ x=some v∧pv v σ fun b=>Q b σ
 | .int i,_,σ,Q=>Q (i != 0) σ
 | .bool b,_,σ,Q=>Q b σ
 | .attr e x,ρ,σ,Q=>wpE C e ρ σ fun v σ=>∃ a d f u,v=.obj a∧σ.I a=some (d,f)∧f x=some u∧pv u σ fun b=>Q b σ
 | .callv f es,ρ,σ,Q=>∃ v,ρ f=some v∧rz C es ρ σ fun vs σ=>G7 v vs C 1000 σ fun r σ=>pv r σ fun b=>Q b σ
 | .sub e i,ρ,σ,Q=>wpE C e ρ σ fun v σ=>wpE C i ρ σ fun j σ=>s8 v j σ fun r=>pv r σ fun b=>Q b σ
 | .bin op a b,ρ,σ,Q=>wpE C a ρ σ fun va σ=>wpE C b ρ σ fun vb σ=>dX op va vb σ fun r σ=>pv r σ fun b=>Q b σ
 | _,_,_,_=>False
noncomputable def rz (C:Cal):Exs→Fr→St→(List V→St→Prop)→Prop
 | .nil,_,σ,Q=>Q [] σ
 | .cons e es,ρ,σ,Q=>wpE C e ρ σ fun v σ=>rz C es ρ σ fun vs σ=>Q (v::vs) σ
noncomputable def yx (C:Cal):Exs→Fr→St→(Bool→St→Prop)→Prop
 | .nil,_,σ,Q=>Q true σ
 | .cons e es,ρ,σ,Q=>wpT C e ρ σ fun b σ=>if b then yx C es ρ σ Q else Q false σ
noncomputable def u6 (C:Cal):It→Fr→St→(List V→(St→Prop)→St→Prop)→Prop
 | .rng1 e,ρ,σ,K=>wpE C e ρ σ fun v σ=>∃ n:Int,v=.int n∧n.natAbs<2^40∧K (qc 0 n) (fun _=>True) σ
 | .rng2 a b,ρ,σ,K=>wpE C a ρ σ fun v σ=>wpE C b ρ σ fun u σ=>∃ m n:Int,v=.int m∧u=.int n∧m.natAbs<2^40∧n.natAbs<2^40∧K (qc m n) (fun _=>True) σ
 | .rng3 a b c,ρ,σ,K=>wpE C a ρ σ fun v σ=>wpE C b ρ σ fun u σ=>wpE C c ρ σ fun z σ=>∃ m n k:Int,v=.int m∧u=.int n∧z=.int k∧m.natAbs<2^40∧n.natAbs<2^40∧0<k∧k<2^40∧K (fP m n k) (fun _=>True) σ
 | .enum e,ρ,σ,K=>wpE C e ρ σ fun v σ=>∃ a xs,v=.lst a∧σ.L a=some xs∧K (xs.zipIdx.map fun p=>V.tup [.int p.2,p.1]) (fun τ=>τ.L a=some xs) σ
 | .seq e,ρ,σ,K=>wpE C e ρ σ fun v σ=>DC v σ K
noncomputable def hV (C:Cal):Gens→Fr→List V→St→(Fr→List V→St→Prop)→Prop
 | .elt e,ρ,acc,σ,K=>wpE C e ρ σ fun v σ=>acc.length<ax∧K ρ (acc++[v]) σ
 | .cons it t cs more,ρ,acc,σ,K=>u6 C it ρ σ fun vs G σ =>
   mO vs G (fun v ρ acc σ K=>qd t v σ ρ fun ρ=>yx C cs ρ σ fun ok σ=>if ok then hV C more ρ acc σ K else K ρ acc σ) ρ acc σ K
end
noncomputable def vU (a:Addr) (k v:V) (σ:St) (K:St→Prop):Prop:=qa k fun i=>∃ xs,σ.L a=some xs∧i<0∧0≤i+xs.length∧K (σ.ct a (xs.set (i+xs.length).toNat v))
noncomputable def jW (u k v:V) (σ:St) (K:St→Prop):Prop:=(dY u).elim (kK u fun a=>∃ es kk,σ.D a=some es∧k.mG=some kk∧es.length<ax∧K (σ.oh a (putD es kk v))) fun a=>vU a k v σ K
noncomputable def DB (C:Cal):Tgt→V→Fr→St→(Fr→St→Prop)→Prop
 | .var x,v,ρ,σ,K=>K (upd ρ x v) σ
 | .attr o a,v,ρ,σ,K=>wpE C o ρ σ fun u σ=>∃ x d f,u=.obj x∧σ.I x=some (d,f)∧K ρ (σ.fj x d (upd f a v))
 | .sub o i,v,ρ,σ,K=>wpE C o ρ σ fun u σ=>wpE C i ρ σ fun j σ=>jW u j v σ fun σ=>K ρ σ
 | .tup xs,v,ρ,σ,K=>qd (.tup xs) v σ ρ fun ρ=>K ρ σ
noncomputable def fF (C:Cal):List Tgt→V→Fr→St→(Fr→St→Prop)→Prop
 | [],_,ρ,σ,K=>K ρ σ
 | t::ts,v,ρ,σ,K=>DB C t v ρ σ fun ρ σ=>fF C ts v ρ σ K
noncomputable def ED (a b:Addr) (σ:St) (Q:V→St→Prop):Prop:=∃ xs ys,a≠b∧σ.L a=some xs∧σ.L b=some ys∧xs.length+ys.length≤ax∧Q (.lst a) (σ.ct a (xs++ys))
noncomputable def DH (op:Bop) (v u:V) (σ:St) (Q:V→St→Prop):Prop:=match v with
 | .lst a=>cT u fun b=>match op with
  | .add=>ED a b σ Q
  | _=>False
 | .int a=>qa u fun b=>pN op a b σ Q
 | _=>False
noncomputable def t8 (T:(Fr→St→Prop)→Fr→St→Prop):Nat→Fr→St→Prop
 | 0,_,_=>False
 | n+1,ρ,σ=>T (t8 T n) ρ σ
noncomputable def oE:List V→(St→Prop)→(V→Fr→St→(Fr→St→Prop)→Prop)→Fr→St→(Fr→St→Prop)→Prop
 | [],G,_,ρ,σ,K=>G σ∧K ρ σ
 | v::vs,G,T,ρ,σ,K=>G σ∧T v ρ σ fun ρ σ=>oE vs G T ρ σ K
noncomputable def ph (again:Fr→St→Prop) (K:Fl→Fr→St→Prop):Fl→Fr→St→Prop
 | .next,ρ,σ=>again ρ σ
 | .cont,ρ,σ=>again ρ σ
 | .brk,ρ,σ=>K .next ρ σ
 | .ret v,ρ,σ=>K (.ret v) ρ σ
mutual
noncomputable def wpS (C:Cal):Stm→Fr→St→(Fl→Fr→St→Prop)→Prop
 | .assign ts e,ρ,σ,K=>wpE C e ρ σ fun v σ=>fF C ts v ρ σ fun ρ σ=>K .next ρ σ
 | .aug x op e,ρ,σ,K=>∃ v,ρ x=some v∧wpE C e ρ σ fun u σ=>DH op v u σ fun r σ=>K .next (upd ρ x r) σ
 | .expr e,ρ,σ,K=>wpE C e ρ σ fun v σ=>v=.none∧K .next ρ σ
 | .cond c t e,ρ,σ,K=>wpT C c ρ σ fun b σ=>if b then eg C t ρ σ K else eg C e ρ σ K
 | .loop c b,ρ,σ,K=>∃ n,t8 (fun again ρ σ=>wpT C c ρ σ fun t σ=>if t then eg C b ρ σ (ph again K) else K .next ρ σ) n ρ σ
 | .each t it b,ρ,σ,K=>u6 C it ρ σ fun vs G σ=>oE vs G (fun v ρ σ k=>qd t v σ ρ fun ρ=>eg C b ρ σ (ph k K)) ρ σ fun ρ σ=>K .next ρ σ
 | .ret e,ρ,σ,K=>wpE C e ρ σ fun v σ=>K (.ret v) ρ σ
 | .brk,ρ,σ,K=>K .brk ρ σ
 | .cont,ρ,σ,K=>K .cont ρ σ
 | .pass,ρ,σ,K=>K .next ρ σ
 | .dead,_,_,_=>False
noncomputable def eg (C:Cal):ky→Fr→St→(Fl→Fr→St→Prop)→Prop
 | .nil,ρ,σ,K=>K .next ρ σ
 | .cons s ss,ρ,σ,K=>wpS C s ρ σ fun fl ρ σ=>match fl with
   | .next=>eg C ss ρ σ K
   | fl=>K fl ρ σ
end
structure Fn where
 n:Nat
 dflt:List V
 body:ky
noncomputable def yj (f:Fn) (vs:List V):List V:=vs++f.dflt.drop (f.dflt.length-(f.n-vs.length))
noncomputable def frameOf (f:Fn) (vs:List V):Fr:=fun i=>(yj f vs)[i]?
noncomputable def qE (Q:V→St→Prop):Fl→Fr→St→Prop
 | .ret v,_,σ=>Q v σ
 | .next,_,σ=>Q .none σ
 | _,_,_=>False
noncomputable def gu (P:Nat→Option Fn):Nat→Cal
 | 0,_,_,_,_=>False
 | d+1,f,vs,σ,Q=>∃ fn,P f=some fn∧vs.length≤fn.n∧fn.n≤vs.length+fn.dflt.length∧eg (gu P d) fn.body (frameOf fn vs) σ (qE Q)
end MP
end
section
namespace MP
set_option genSizeOf false
set_option genInjectivity false
open PySem
structure Stc where
 prog:Program
 w:World
 hb:Heap
 cM:Addr
 cS:Addr
 attrs:List Str
 gl:Str→Option Value
noncomputable def Frz (o:Obj):Prop :=
 (o.cls≠.type "list"∧∃ xs n,o.data=.seq xs n)∨((o.cls=.type "builtin_function_or_method"∨o.cls=.type "method-wrapper")∧∃ vs,o.data=.fields vs)∨∃ fd,o.data=.func fd
mutual
noncomputable def VR (G:Stc) (h:Heap):V→Value→Prop
 | .none=>fun w=>w=.none
 | .bool b=>fun w=>w=.bool b
 | .int i=>fun w=>∃ t,w=.int i t
 | .str s=>fun w=>∃ t,w=.str s t
 | .lst a=>fun w=>w=.ref a
 | .dct a=>fun w=>w=.ref a
 | .set a=>fun w=>w=.ref a
 | .obj a=>fun w=>w=.ref a
 | .tup xs=>fun w=>∃ a ws n,w=.ref a∧IsT h a ws.toArray n∧VRs G h xs ws
 | .mt xs=>fun w=>∃ a ws n dd,w=.ref a∧h.get? a=some { cls:=.ref G.cM,dict:=dd,data:=.seq ws.toArray n,slots:=#[] }∧VRs G h xs ws
 | .dM a=>fun w=>∃ q o,w=.ref q∧h.get? q=some o∧o.cls=.type "builtin_function_or_method"∧o.data=.fields #[.builtin "dict.get",.ref a]
 | .eC a=>fun w=>∃ q o,w=.ref q∧h.get? q=some o∧o.cls=.type "builtin_function_or_method"∧o.data=.fields #[.builtin "set.__contains__",.ref a]
 | .clo _ _=>fun _=>False
 | .ro ns=>fun w=>∃ a ws n,w=.ref a∧IsL G.hb a ws.toArray n∧PyProof.Rows.IntsAre ws ns
noncomputable def VRs (G:Stc) (h:Heap):List V→List Value→Prop
 | []=>fun ws=>ws=[]
 | v::vs=>fun ws=>∃ w us,ws=w::us∧VR G h v w∧VRs G h vs us
end
section
variable {G:Stc} {h:Heap}
theorem VR.none:VR G h .none .none:=rfl
theorem VR.bool (b:Bool):VR G h (.bool b) (.bool b):=rfl
theorem VR.int (i:Int) (t:Tok):VR G h (.int i) (.int i t):=⟨t,rfl⟩
theorem VR.str (s:Str) (t:Tok):VR G h (.str s) (.str s t):=⟨t,rfl⟩
theorem VR.lst (a:Addr):VR G h (.lst a) (.ref a):=rfl
theorem VR.dct (a:Addr):VR G h (.dct a) (.ref a):=rfl
theorem VR.set (a:Addr):VR G h (.set a) (.ref a):=rfl
theorem VR.obj (a:Addr):VR G h (.obj a) (.ref a):=rfl
theorem VR.tup {a:Addr} {xs:List V} {ws:List Value} {n:Nat} (g:IsT h a ws.toArray n) (r:VRs G h xs ws):VR G h (.tup xs) (.ref a):=⟨a,ws,n,rfl,g,r⟩
theorem VR.mt {a:Addr} {xs:List V} {ws:List Value} {n:Nat} {dd:Option Addr} (g:h.get? a=some { cls:=.ref G.cM,dict:=dd,data:=.seq ws.toArray n,slots:=#[] }) (r:VRs G h xs ws):VR G h (.mt xs) (.ref a):=⟨a,ws,n,dd,rfl,g,r⟩
theorem VR.dM {q a:Addr} {o:Obj} (g:h.get? q=some o) (c:o.cls=.type "builtin_function_or_method") (d:o.data=.fields #[.builtin "dict.get",.ref a]):VR G h (.dM a) (.ref q):=⟨q,o,rfl,g,c,d⟩
theorem VR.eC {q a:Addr} {o:Obj} (g:h.get? q=some o) (c:o.cls=.type "builtin_function_or_method") (d:o.data=.fields #[.builtin "set.__contains__",.ref a]):VR G h (.eC a) (.ref q):=⟨q,o,rfl,g,c,d⟩
theorem VR.ro {a:Addr} {ns:List Int} {ws:List Value} {n:Nat} (g:IsL G.hb a ws.toArray n) (r:PyProof.Rows.IntsAre ws ns):VR G h (.ro ns) (.ref a):=⟨a,ws,n,rfl,g,r⟩
theorem VRs.nil:VRs G h [] []:=rfl
theorem VRs.cons {v:V} {w:Value} {vs:List V} {ws:List Value} (a:VR G h v w) (r:VRs G h vs ws):VRs G h (v::vs) (w::ws):=⟨w,ws,rfl,a,r⟩
end
noncomputable def gp (h h':Heap):Prop:=∀ b o,h.get? b=some o→Frz o→h'.get? b=some o
mutual
theorem VR.mono {G:Stc} {h h':Heap} (hk:gp h h'):{v:V}→{w:Value}→VR G h v w→VR G h' v w
 | .none=>fun x=>x
 | .bool _=>fun x=>x
 | .int _=>fun x=>x
 | .str _=>fun x=>x
 | .lst _=>fun x=>x
 | .dct _=>fun x=>x
 | .set _=>fun x=>x
 | .obj _=>fun x=>x
 | .tup _=>fun z0=>by obtain⟨a,ws,n,e,g,r⟩:=z0;exact⟨a,ws,n,e,hk _ _ g (.inl ⟨show Value.type "tuple" ≠ .type "list" by decide,_,_,rfl⟩),VRs.mono hk r⟩
 | .mt _=>fun z0=>by obtain⟨a,ws,n,dd,e,g,r⟩:=z0;exact⟨a,ws,n,dd,e,hk _ _ g (.inl ⟨fun x=>(nomatch x),_,_,rfl⟩),VRs.mono hk r⟩
 | .dM _=>fun z0=>by obtain⟨q,o,e,g,c,d⟩:=z0;exact⟨q,o,e,hk _ _ g (.inr (.inl ⟨.inl c,_,d⟩)),c,d⟩
 | .eC _=>fun z0=>by obtain⟨q,o,e,g,c,d⟩:=z0;exact⟨q,o,e,hk _ _ g (.inr (.inl ⟨.inl c,_,d⟩)),c,d⟩
 | .clo _ _=>fun x=>x
 | .ro _=>fun x=>x
theorem VRs.mono {G:Stc} {h h':Heap} (hk:gp h h'):{vs:List V}→{ws:List Value}→VRs G h vs ws→VRs G h' vs ws
 | []=>fun x=>x
 | _::_=>fun z0=>by obtain⟨w,us,e,a,r⟩:=z0;exact⟨w,us,e,VR.mono hk a,VRs.mono hk r⟩
end
theorem VR.inv {G:Stc} {h:Heap} {v:V} {w:Value} (x:VR G h v w):VR G h v w:=x
section
variable {G:Stc} {h:Heap}
theorem VRs.length:{vs:List V}→{ws:List Value}→VRs G h vs ws→vs.length=ws.length
 | []=>fun e=>e▸rfl
 | _::_=>fun z0=>by obtain⟨_,_,e,_,r⟩:=z0;exact e▸bx (·+1) (VRs.length r)
theorem VRs.get:{vs:List V}→{ws:List Value}→VRs G h vs ws→{i:Nat}→{v:V}→vs[i]?=some v→∃ w,ws[i]?=some w∧VR G h v w
 | [],_,_,i,v,e=>by simp at e
 | _::_,_,⟨w,_,q,a,_⟩,0,v,e=>⟨w,q▸rfl,af e▸a⟩
 | _::_,_,⟨_,_,q,_,r⟩,i+1,v,e=>by subst q;exact VRs.get r e
theorem VRs.append:{vs us:List V}→{ws xs:List Value}→VRs G h vs ws→VRs G h us xs→VRs G h (vs++us) (ws++xs)
 | []=>fun e b=>e▸b
 | _::_=>fun z0 b=>by obtain⟨_,_,e,a,r⟩:=z0;exact e▸.cons a (VRs.append r b)
theorem VRs.take:{vs:List V}→{ws:List Value}→(n:Nat)→VRs G h vs ws→VRs G h (vs.take n) (ws.take n)
 | [],_,n,e=>by subst e;rw [List.take_nil,List.take_nil];rfl
 | _::_,_,0,_=>.nil
 | _::_,_,n+1,⟨_,_,e,a,r⟩=>e▸.cons a (VRs.take n r)
theorem VRs.drop:{vs:List V}→{ws:List Value}→(n:Nat)→VRs G h vs ws→VRs G h (vs.drop n) (ws.drop n)
 | [],_,n,e=>by subst e;rw [List.drop_nil,List.drop_nil];rfl
 | _::_,_,0,x=>x
 | _::_,_,n+1,⟨_,_,e,_,r⟩=>e▸VRs.drop n r
theorem VRs.reverse:{vs:List V}→{ws:List Value}→VRs G h vs ws→VRs G h vs.reverse ws.reverse
 | []=>fun e=>by subst e;exact .nil
 | _::_=>fun z0=>by obtain⟨_,_,e,a,r⟩:=z0;subst e;rw [d9,d9];exact VRs.append (VRs.reverse r) (.cons a .nil)
end
theorem iU {prog:Program} {w:World} {A:Around} {E:Value→Shared→Prop} {s:Shared} {a:Int} {t:Tok} {b:Str} {u:Tok} {Q:Bool→Shared→Prop} (h:Q false s):wpAny (model prog w) A (eqBool (.int a t) (.str b u)) Q E s:=by
 unfold eqBool
 exact ab (PySem.EqMixed.eq_int_str (mz h))
theorem iT {prog:Program} {w:World} {A:Around} {E:Value→Shared→Prop} {s:Shared} {a:Str} {t:Tok} {b:Int} {u:Tok} {Q:Bool→Shared→Prop} (h:Q false s):wpAny (model prog w) A (eqBool (.str a t) (.int b u)) Q E s:=by
 unfold eqBool
 exact ab (PySem.EqMixed.eq_str_int (mz h))
noncomputable def tE:Key→Value→Bool
 | .int i,v=>Value.isInt i v
 | .str s,v=>Value.isStrOf s v
noncomputable def keyHash (w:World):Key→Int
 | .int i=>hashInt i
 | .str s=>hashStr w s
theorem mu {k:Key} {v:Value} (h:tE k v=true):(∃ i t,k=.int i∧v=.int i t)∨∃ s t,k=.str s∧v=.str s t:=by
 cases k with
 | int i=>obtain⟨t,rfl⟩:=Value.isInt_shape h;exact .inl ⟨i,t,rfl,rfl⟩
 | str s=>obtain⟨t,rfl⟩:=Value.isStrOf_shape h;exact .inr ⟨s,t,rfl,rfl⟩
noncomputable def keyKind (prog:Program) (w:World):KeyKind prog w Key where
 is:=tE
 hash:=keyHash w
 inj:=fun v a b ha hb=>by
  rcases mu ha with ⟨i,t,rfl,rfl⟩ | ⟨x,t,rfl,rfl⟩<;>rcases mu hb with ⟨j,u,rfl,e⟩ | ⟨y,u,rfl,e⟩<;>cases e<;>rfl
 byValue:=fun k v h=>by rcases mu h with ⟨i,t,rfl,rfl⟩ | ⟨x,t,rfl,rfl⟩<;>rfl
 pyHash:=fun hv h=>by
  rcases mu hv with ⟨i,t,rfl,rfl⟩ | ⟨x,t,rfl,rfl⟩
  ·exact wpAny_pyHash_int h
  ·exact wpAny_pyHash_str h
 eqBool:=fun hu hv h=>by
  rcases mu hu with ⟨i,t,rfl,rfl⟩ | ⟨x,t,rfl,rfl⟩<;>rcases mu hv with ⟨j,u,rfl,rfl⟩ | ⟨y,u,rfl,rfl⟩
  ·refine wpAny_eqBool_int ?_
   simpa [Bool.beq_eq_decide_eq] using h
  ·exact iU (by simpa using h)
  ·exact iT (by simpa using h)
  ·exact wpAny_eqBool_str (by simpa using h)
 «strs»:=fun k x t v h=>by
  rcases mu h with ⟨i,u,rfl,e⟩ | ⟨y,u,rfl,e⟩
  ·cases e
  ·cases e;cases v<;>rfl
noncomputable abbrev Stc.kk (G:Stc):KeyKind G.prog G.w Key:=keyKind G.prog G.w
noncomputable def DRs (G:Stc) (h:Heap):List (Key × V)→List (Key × Value)→Prop
 | []=>fun ds=>ds=[]
 | e::es=>fun ds=>∃ w us,ds=(e.1,w)::us∧VR G h e.2 w∧DRs G h es us
theorem DRs.nil {G:Stc} {h:Heap}:DRs G h [] []:=rfl
theorem DRs.cons {G:Stc} {h:Heap} {k:Key} {v:V} {w:Value} {es:List (Key × V)} {ds:List (Key × Value)} (a:VR G h v w) (r:DRs G h es ds):DRs G h ((k,v)::es) ((k,w)::ds):=⟨w,ds,rfl,a,r⟩
theorem DRs.mono {G:Stc} {h h':Heap} (hk:gp h h'):{es:List (Key × V)}→{ds:List (Key × Value)}→DRs G h es ds→DRs G h' es ds
 | []=>fun x=>x
 | _::_=>fun z0=>by obtain⟨w,us,e,a,r⟩:=z0;exact⟨w,us,e,a.mono hk,r.mono hk⟩
noncomputable def OV (G:Stc) (h:Heap):Option V→Option Value→Prop
 | none,none=>True
 | some v,some w=>VR G h v w
 | _,_=>False
theorem OV.mono {G:Stc} {h h':Heap} (hk:gp h h') {v:Option V} {w:Option Value} (x:OV G h v w):OV G h' v w:=by
 cases v<;>cases w<;>first | exact x | exact VR.mono hk x
structure yp (G:Stc) (h:Heap) (a d:Addr) (f:Nat→Option V):Prop where
 here:∃ o,h.get? a=some o∧o.cls=.ref G.cS∧o.dict=some d∧∀ c,o.data≠.cls c
 ns:∃ m,h.Ns1 d m∧(∀ i x,G.attrs[i]?=some x→OV G h (f i) (m x))∧∀ x,x∉G.attrs→m x=none
 ne:d≠a
structure Rel (G:Stc) (σ:St) (h:Heap):Prop where
 L:∀ a xs,σ.L a=some xs→∃ ws n,IsL h a ws.toArray n∧VRs G h xs ws
 D:∀ a es,σ.D a=some es→∃ ds,h.DictOf G.kk a ds∧DRs G h es ds
 S:∀ a ks,σ.S a=some ks→h.SetOf G.kk a (fun k=>decide (k∈ks)) ks.length
 I:∀ a d f,σ.I a=some (d,f)→yp G h a d f
 Z:∀ a,σ.Z a=none
 Ll:∀ a xs,σ.L a=some xs→xs.length≤ax
 Dl:∀ a es,σ.D a=some es→es.length≤ax
 inj:∀ a a' d f f',σ.I a=some (d,f)→σ.I a'=some (d,f')→a=a'
 apart:∀ a d f,σ.I a=some (d,f)→σ.D d=none
 sep:∀ a d f a' d' f',σ.I a=some (d,f)→σ.I a'=some (d',f')→a≠d'
 new:∀ b,σ.dom b→G.hb.get? b=none
 base:∀ b o,G.hb.get? b=some o→h.get? b=some o
structure Evo (X:List Addr) (σ:St) (h:Heap) (σ':St) (h':Heap):Prop where
 keep:∀ b o,h.get? b=some o→¬ σ.dom b→b∉X→h'.get? b=some o
 frz:gp h h'
 dom:∀ b,σ'.dom b→σ.dom b∨h.get? b=none
 there:∀ b o,h.get? b=some o→∃ o',h'.get? b=some o'
theorem Evo.refl (X:List Addr) (σ:St) (h:Heap):Evo X σ h σ h:=⟨fun _ _ e _ _=>e,fun _ _ e _=>e,fun _ d=>.inl d,fun _ o e=>⟨o,e⟩⟩
theorem Evo.trans {X:List Addr} {σ σ₁ σ₂:St} {h h₁ h₂:Heap} (x:Evo X σ h σ₁ h₁) (y:Evo X σ₁ h₁ σ₂ h₂):Evo X σ h σ₂ h₂:=by
 refine⟨fun b o e nd nx=>y.keep b o (x.keep b o e nd nx) (fun d=>?_) nx,fun b o e f=>y.frz b o (x.frz b o e f) f,fun b d=>?_,fun b o e=>?_⟩
 ·rcases x.dom b d with d | d
  ·exact nd d
  ·rw [e] at d;cases d
 ·rcases y.dom b d with d | d
  ·exact x.dom b d
  ·cases hq:h.get? b with
   | none=>exact .inr rfl
   | some o=>obtain⟨o',e'⟩:=x.there b o hq;rw [e'] at d;cases d
 ·obtain⟨o₁,e₁⟩:=x.there b o e
  exact y.there b o₁ e₁
theorem Evo.more {X Y:List Addr} {σ σ':St} {h h':Heap} (x:Evo X σ h σ' h') (hs:∀ b∈X,b∈Y):Evo Y σ h σ' h' :=
 ⟨fun b o e nd ny=>x.keep b o e nd fun hx=>ny (hs b hx),x.frz,x.dom,x.there⟩
theorem Evo.less {X Y:List Addr} {σ σ':St} {h h':Heap} (x:Evo X σ h σ' h') (hs:∀ b∈X,b∈Y∨h.get? b=none):Evo Y σ h σ' h' :=
 ⟨fun b o e nd ny=>x.keep b o e nd fun hx=>(hs b hx).elim ny fun q=>(by rw [e] at q;cases q),x.frz,x.dom,x.there⟩
theorem uk {o:Obj} {xs:Array Value} {n:Nat} (c:o.cls=.type "list") (d:o.data=.seq xs n):¬ Frz o:=by
 rintro (⟨h,_⟩ | ⟨_,_,h⟩ | ⟨_,h⟩)
 ·exact h c
 ·rw [d] at h;cases h
 ·rw [d] at h;cases h
theorem pj {o:Obj} {es:Array DictEntry} {n:Nat} (d:o.data=.dict es n):¬ Frz o:=by
 rintro (⟨_,_,_,h⟩ | ⟨_,_,h⟩ | ⟨_,h⟩)<;>(rw [d] at h;cases h)
theorem mX {o:Obj} {v:Option Value} (d:o.data=.cell v):¬ Frz o:=by
 rintro (⟨_,_,_,h⟩ | ⟨_,_,h⟩ | ⟨_,h⟩)<;>(rw [d] at h;cases h)
theorem mv {h h':Heap} {a:Addr} (hs:Heap.SameBut a h h') (hn:∀ o,h.get? a=some o→¬ Frz o):gp h h':=fun b o e f=>by
 by_cases hb:b=a
 ·subst hb;exact absurd f (hn o e)
 ·rw [hs.2 b hb];exact e
theorem uv {h h':Heap} {a:Addr} {o':Obj} (hs:Heap.SameBut a h h') (ha:h'.get? a=some o'):∀ b o,h.get? b=some o→∃ o',h'.get? b=some o':=fun b o e=>by
 by_cases hb:b=a
 ·subst hb;exact⟨_,ha⟩
 ·exact⟨o,by rw [hs.2 b hb];exact e⟩
theorem none_at_size (h:Heap):h.get? h.objs.size=none:=by
 cases hq:h.get? h.objs.size with
 | none=>rfl
 | some o=>exact absurd (et hq) (gm _)
theorem DK {o:Obj} {es:Array (Int × Value)} {n:Nat} {t:SetTable} (d:o.data=.set es n t):¬ Frz o:=by
 rintro (⟨_,_,_,h⟩ | ⟨_,_,h⟩ | ⟨_,h⟩)<;>(rw [d] at h;cases h)
theorem Rel.nt {G:Stc} {σ:St} {h:Heap} (R:Rel G σ h) {b:Addr} (d:σ.dom b):∃ o,h.get? b=some o:=by
 rcases d with d | d | d | d | d | ⟨a,f,d⟩
 ·obtain⟨xs,e⟩:=cc.mp d
  obtain⟨ws,n,ho,_⟩:=R.L b xs e
  exact⟨_,ho⟩
 ·obtain⟨xs,e⟩:=cc.mp d
  obtain⟨ds,⟨o,es,ep,ho,_,dd,_⟩,_⟩:=R.D b xs e
  exact⟨o,ho⟩
 ·obtain⟨xs,e⟩:=cc.mp d
  obtain⟨o,es,ep,t,ho,_,dd,_⟩:=R.S b xs e
  exact⟨o,ho⟩
 ·obtain⟨⟨d,f⟩,e⟩:=cc.mp d
  obtain⟨o,ho,_⟩:=(R.I b d f e).here
  exact⟨o,ho⟩
 ·rw [R.Z] at d;cases d
 ·obtain⟨m,⟨o',es,ep,ho',dd,_⟩,_⟩:=(R.I a b f d).ns
  exact⟨o',ho'⟩
theorem Rel.same {G:Stc} {σ:St} {h h':Heap} (R:Rel G σ h) (hk:∀ b o,h.get? b=some o→σ.dom b→h'.get? b=some o) (hf:gp h h') (hb:∀ b o,G.hb.get? b=some o→h'.get? b=some o):Rel G σ h' where
 L:=fun a xs e=>by
  obtain⟨ws,n,ho,v⟩:=R.L a xs e
  exact⟨ws,n,hk a _ ho (.inl (by rw [e];rfl)),v.mono hf⟩
 D:=fun a xs e=>by
  obtain⟨ds,⟨o,es,ep,ho,r⟩,v⟩:=R.D a xs e
  exact⟨ds,⟨o,es,ep,hk a o ho (.inr (.inl (by rw [e];rfl))),r⟩,v.mono hf⟩
 S:=fun a xs e=>by
  obtain⟨o,es,ep,t,ho,r⟩:=R.S a xs e
  exact⟨o,es,ep,t,hk a o ho (.inr (.inr (.inl (by rw [e];rfl)))),r⟩
 I:=fun a d f e=>by
  obtain⟨⟨o,ho,r⟩,⟨m,⟨o',es,ep,ho',r'⟩,v,v'⟩,ne⟩:=R.I a d f e
  have dd:σ.dom d:=.inr (.inr (.inr (.inr (.inr ⟨a,f,e⟩))))
  exact⟨⟨o,hk a o ho (.inr (.inr (.inr (.inl (by rw [e];rfl))))),r⟩,⟨m,⟨o',es,ep,hk d o' ho' dd,r'⟩,fun i x hx=>(v i x hx).mono hf,v'⟩,ne⟩
 Z:=R.Z
 Ll:=R.Ll
 Dl:=R.Dl
 inj:=R.inj
 apart:=R.apart
 sep:=R.sep
 new:=R.new
 base:=hb
theorem Rel.push {G:Stc} {σ:St} {h:Heap} (R:Rel G σ h) (o:Obj):Rel G σ (h.push o) :=
 R.same (fun _ _ e _=>aj o e) (fun _ _ e _=>aj o e) fun b o' e=>aj o (R.base b o' e)
theorem Evo.push (X:List Addr) (σ:St) (h:Heap) (o:Obj):Evo X σ h σ (h.push o) :=
 ⟨fun _ _ e _ _=>aj o e,fun _ _ e _=>aj o e,fun _ d=>.inl d,fun _ o' e=>⟨o',aj o e⟩⟩
theorem vp {σ:St} {a b:Addr} {xs:List V} (d:(σ.ct a xs).dom b):σ.dom b∨b=a:=by
 by_cases h:b=a
 ·exact .inr h
 ·refine .inl ?_
  rcases d with d | d
  ·exact .inl (by simpa [St.ct,upd,h] using d)
  ·exact .inr d
theorem oN {σ:St} {a b:Addr} {xs:List (Key × V)} (d:(σ.oh a xs).dom b):σ.dom b∨b=a:=by
 by_cases h:b=a
 ·exact .inr h
 ·refine .inl ?_
  rcases d with d | d | d
  ·exact .inl d
  ·exact .inr (.inl (by simpa [St.oh,upd,h] using d))
  ·exact .inr (.inr d)
theorem oM {σ:St} {a b:Addr} {xs:List Key} (d:(σ.su a xs).dom b):σ.dom b∨b=a:=by
 by_cases h:b=a
 ·exact .inr h
 ·refine .inl ?_
  rcases d with d | d | d | d
  ·exact .inl d
  ·exact .inr (.inl d)
  ·exact .inr (.inr (.inl (by simpa [St.su,upd,h] using d)))
  ·exact .inr (.inr (.inr d))
theorem eP {σ:St} {a b d:Addr} {f:Nat→Option V} (hd:(σ.fj a d f).dom b):σ.dom b∨b=a∨b=d:=by
 by_cases h:b=a
 ·exact .inr (.inl h)
 ·by_cases h':b=d
  ·exact .inr (.inr h')
  ·refine .inl ?_
   rcases hd with q | q | q | q | q | ⟨c,g,q⟩
   ·exact .inl q
   ·exact .inr (.inl q)
   ·exact .inr (.inr (.inl q))
   ·exact .inr (.inr (.inr (.inl (by simpa [St.fj,upd,h] using q))))
   ·exact .inr (.inr (.inr (.inr (.inl q))))
   ·refine .inr (.inr (.inr (.inr (.inr ⟨c,g,?_⟩))))
    by_cases hc:c=a
    ·simp only [St.fj,upd,hc,uf,dv,mj] at q;exact absurd q.1.symm h'
    ·simpa [St.fj,upd,hc] using q
structure At (a:Addr) (h h':Heap):Prop where
 other:∀ b o,b≠a→h.get? b=some o→h'.get? b=some o
 here:∃ o,h'.get? a=some o
 nofrz:∀ o,h.get? a=some o→¬ Frz o
theorem At.frz {a:Addr} {h h':Heap} (x:At a h h'):gp h h':=fun b o e f=>x.other b o (fun hb=>x.nofrz o (hb▸e) f) e
theorem At.there {a:Addr} {h h':Heap} (x:At a h h'):∀ b o,h.get? b=some o→∃ o',h'.get? b=some o':=fun b o e=>by
 by_cases hb:b=a
 ·subst hb;exact x.here
 ·exact⟨o,x.other b o hb e⟩
theorem At.push (h:Heap) {o:Obj} (ho:o.isFreed=false:=by rfl):At h.objs.size h (h.push o) :=
 ⟨fun _ _ _ e=>aj o e,⟨o,cm _ ho⟩,fun o' e=>by rw [none_at_size] at e;cases e⟩
theorem At.qL {a:Addr} {h h':Heap} {o o':Obj} (hs:Heap.SameBut a h h') (ha:h.get? a=some o) (hn:¬ Frz o) (ha':h'.get? a=some o'):At a h h' :=
 ⟨fun b _ hb e=>by rw [hs.2 b hb];exact e,⟨o',ha'⟩,fun _ e=>by rw [ha] at e;cases e;exact hn⟩
section
variable {G:Stc} {σ:St} {h h':Heap} {a:Addr}
theorem Rel.atL (R:Rel G σ h) (x:At a h h') {b:Addr} {xs:List V} (hb:b≠a) (e:σ.L b=some xs):∃ ws n,IsL h' b ws.toArray n∧VRs G h' xs ws:=by
 obtain⟨ws,n,ho,v⟩:=R.L b xs e
 exact⟨ws,n,x.other b _ hb ho,v.mono x.frz⟩
theorem Rel.atD (R:Rel G σ h) (x:At a h h') {b:Addr} {es:List (Key × V)} (hb:b≠a) (e:σ.D b=some es):∃ ds,h'.DictOf G.kk b ds∧DRs G h' es ds:=by
 obtain⟨ds,⟨o,es',ep,ho,r⟩,v⟩:=R.D b es e
 exact⟨ds,⟨o,es',ep,x.other b o hb ho,r⟩,v.mono x.frz⟩
theorem Rel.atS (R:Rel G σ h) (x:At a h h') {b:Addr} {ks:List Key} (hb:b≠a) (e:σ.S b=some ks):h'.SetOf G.kk b (fun k=>decide (k∈ks)) ks.length:=by
 obtain⟨o,es',ep,t,ho,r⟩:=R.S b ks e
 exact⟨o,es',ep,t,x.other b o hb ho,r⟩
theorem Rel.atI (R:Rel G σ h) (x:At a h h') {b d:Addr} {f:Nat→Option V} (hb:b≠a) (hd:d≠a) (e:σ.I b=some (d,f)):yp G h' b d f:=by
 obtain⟨⟨o,ho,r⟩,⟨m,⟨o',es,ep,ho',r'⟩,v,v'⟩,ne⟩:=R.I b d f e
 exact⟨⟨o,x.other b o hb ho,r⟩,⟨m,⟨o',es,ep,x.other d o' hd ho',r'⟩,fun i y hy=>(v i y hy).mono x.frz,v'⟩,ne⟩
theorem Rel.mW (R:Rel G σ h) {xs:List V} (e:σ.L a=some xs):∃ o,h.get? a=some o∧o.cls=.type "list":=by
 obtain⟨ws,n,ho,_⟩:=R.L a xs e
 exact⟨_,ho,rfl⟩
theorem Rel.CX (R:Rel G σ h) {es:List (Key × V)} (e:σ.D a=some es):∃ o,h.get? a=some o∧o.cls=.type "dict":=by
 obtain⟨ds,⟨o,es',ep,ho,c,_⟩,_⟩:=R.D a es e
 exact⟨o,ho,c.1⟩
theorem Rel.CW (R:Rel G σ h) {ks:List Key} (e:σ.S a=some ks):∃ o,h.get? a=some o∧o.cls=.type "set":=by
 obtain⟨o,es',ep,t,ho,c,_⟩:=R.S a ks e
 exact⟨o,ho,c.1⟩
theorem Rel.G2 (R:Rel G σ h) {d:Addr} {f:Nat→Option V} (e:σ.I a=some (d,f)):∃ o,h.get? a=some o∧o.cls=.ref G.cS:=by
 obtain⟨o,ho,c,_⟩:=(R.I a d f e).here
 exact⟨o,ho,c⟩
theorem Rel.zF (R:Rel G σ h) {d:Addr} {f:Nat→Option V} (e:σ.I a=some (d,f)):∃ o es ep,h.get? d=some o∧o.data=.dict es ep:=by
 obtain⟨m,⟨o',es,ep,ho',dd,_⟩,_⟩:=(R.I a d f e).ns
 exact⟨o',es,ep,ho',dd⟩
theorem Rel.H0 (R:Rel G σ h) {b d:Addr} {f:Nat→Option V} {xs:List V} (e:σ.L b=some xs) (e':σ.I a=some (d,f)):d≠b:=by
 rintro rfl
 obtain⟨o,es,ep,ho,hd⟩:=R.zF e'
 obtain⟨ws,n,ho',_⟩:=R.L _ _ e
 obtain rfl:=af (ho.symm.trans ho');cases hd
theorem Rel.GZ (R:Rel G σ h) {b d:Addr} {f:Nat→Option V} {xs:List Key} (e:σ.S b=some xs) (e':σ.I a=some (d,f)):d≠b:=by
 rintro rfl
 obtain⟨o,es,ep,ho,hd⟩:=R.zF e'
 obtain⟨o',es',ep',t',ho',_,hd',_⟩:=R.S _ _ e
 rw [ho] at ho';cases ho';rw [hd] at hd';cases hd'
theorem Rel.yE (R:Rel G σ h) {b d:Addr} {f:Nat→Option V} (e:h.get? b=none) (e':σ.I a=some (d,f)):d≠b:=by
 rintro rfl
 obtain⟨o,es,ep,ho,hd⟩:=R.zF e'
 rw [ho] at e;cases e
theorem Rel.putL (R:Rel G σ h) (x:At a h h') (hn:σ.L a=none→h.get? a=none) {xs:List V} {ws:List Value} {n:Nat} (hl:IsL h' a ws.toArray n) (hv:VRs G h xs ws) (hz:xs.length≤ax):Rel G (σ.ct a xs) h':=by
 have old:∀ b o,h.get? b=some o→∀ c:Value,o.cls=c→c≠.type "list"→b≠a:=fun b o e c hc hne hb=>by
  subst hb
  cases hq:σ.L b with
  | none=>rw [hn hq] at e;cases e
  | some ys=>obtain⟨o',ho',c'⟩:=R.mW hq;rw [e] at ho';cases ho';exact hne (hc.symm.trans c')
 have neC:∀ b c,(∃ o,h.get? b=some o∧o.cls=c)→c≠.type "list"→b≠a:=fun b c zz2 hne=>by obtain⟨o,ho,hc⟩:=zz2;exact old b o ho c hc hne
 refine⟨fun b ys e=>?_,fun b es e=>R.atD x (neC b _ (R.CX e) (by decide)) e,fun b ks e=>R.atS x (neC b _ (R.CW e) (by decide)) e,
  fun b d f e=>R.atI x (neC b _ (R.G2 e) (fun q=>nomatch q)) (by
   cases hq:σ.L a with
   | none=>exact R.yE (hn hq) e
   | some ys=>exact R.H0 hq e) e,R.Z,fun b ys e=>?_,R.Dl,R.inj,R.apart,R.sep,fun b d=>?_,fun b o e=>?_⟩
 ·by_cases hb:b=a
  ·subst hb
   simp only [St.ct,bc,dv] at e
   subst e
   exact⟨ws,n,hl,hv.mono x.frz⟩
  ·simp only [St.ct,cj hb] at e
   exact R.atL x hb e
 ·by_cases hb:b=a
  ·subst hb
   simp only [St.ct,bc,dv] at e
   exact e▸hz
  ·simp only [St.ct,cj hb] at e
   exact R.Ll b ys e
 ·rcases vp d with d | rfl
  ·exact R.new b d
  ·cases hq:G.hb.get? b with
   | none=>rfl
   | some o =>
    cases hL:σ.L b with
    | none=>have:=R.base b o hq;rw [hn hL] at this;cases this
    | some ys=>have:=R.new b (.inl (by rw [hL];rfl));rw [hq] at this;cases this
 ·refine x.other b o (fun hb=>?_) (R.base b o e)
  subst hb
  cases hL:σ.L b with
  | none=>have:=R.base b o e;rw [hn hL] at this;cases this
  | some ys=>have:=R.new b (.inl (by rw [hL];rfl));rw [e] at this;cases this
theorem Evo.putL {X:List Addr} (x:At a h h') (hn:σ.L a=none→h.get? a=none) (xs:List V):Evo X σ h (σ.ct a xs) h':=by
 refine⟨fun b o e nd _=>x.other b o (fun hb=>?_) e,x.frz,fun b d=>?_,x.there⟩
 ·subst hb
  cases hq:σ.L b with
  | none=>rw [hn hq] at e;cases e
  | some ys=>exact nd (.inl (by rw [hq];rfl))
 ·rcases vp d with d | rfl
  ·exact .inl d
  ·cases hq:σ.L b with
   | none=>exact .inr (hn hq)
   | some ys=>exact .inl (.inl (by rw [hq];rfl))
theorem Rel.putD (R:Rel G σ h) (x:At a h h') (hn:σ.D a=none→h.get? a=none) (hi:∀ b f,σ.I b≠some (a,f)) {xs:List (Key × V)} {ds:List (Key × Value)} (hl:h'.DictOf G.kk a ds) (hv:DRs G h xs ds) (hz:xs.length≤ax):Rel G (σ.oh a xs) h':=by
 have old:∀ b o,h.get? b=some o→∀ c:Value,o.cls=c→c≠.type "dict"→b≠a:=fun b o e c hc hne hb=>by
  subst hb
  cases hq:σ.D b with
  | none=>rw [hn hq] at e;cases e
  | some ys=>obtain⟨o',ho',c'⟩:=R.CX hq;rw [e] at ho';cases ho';exact hne (hc.symm.trans c')
 have neC:∀ b c,(∃ o,h.get? b=some o∧o.cls=c)→c≠.type "dict"→b≠a:=fun b c zz2 hne=>by obtain⟨o,ho,hc⟩:=zz2;exact old b o ho c hc hne
 refine⟨fun b es e=>R.atL x (neC b _ (R.mW e) (by decide)) e,fun b ys e=>?_,fun b ks e=>R.atS x (neC b _ (R.CW e) (by decide)) e,
  fun b d f e=>R.atI x (neC b _ (R.G2 e) (fun q=>nomatch q)) (fun hd=>hi b f (hd▸e)) e,R.Z,R.Ll,fun b ys e=>?_,R.inj,fun b d f e=>?_,R.sep,fun b d=>?_,fun b o e=>?_⟩
 ·by_cases hb:b=a
  ·subst hb
   simp only [St.oh,bc,dv] at e
   subst e
   exact⟨ds,hl,hv.mono x.frz⟩
  ·simp only [St.oh,cj hb] at e
   exact R.atD x hb e
 ·by_cases hb:b=a
  ·subst hb
   simp only [St.oh,bc,dv] at e
   exact e▸hz
  ·simp only [St.oh,cj hb] at e
   exact R.Dl b ys e
 ·have hd:d≠a:=fun hd=>hi b f (hd▸e)
  simp only [St.oh,cj hd]
  exact R.apart b d f e
 ·rcases oN d with d | rfl
  ·exact R.new b d
  ·cases hq:G.hb.get? b with
   | none=>rfl
   | some o =>
    cases hL:σ.D b with
    | none=>have:=R.base b o hq;rw [hn hL] at this;cases this
    | some ys=>have:=R.new b (.inr (.inl (by rw [hL];rfl)));rw [hq] at this;cases this
 ·refine x.other b o (fun hb=>?_) (R.base b o e)
  subst hb
  cases hL:σ.D b with
  | none=>have:=R.base b o e;rw [hn hL] at this;cases this
  | some ys=>have:=R.new b (.inr (.inl (by rw [hL];rfl)));rw [e] at this;cases this
theorem Evo.putD {X:List Addr} (x:At a h h') (hn:σ.D a=none→h.get? a=none) (xs:List (Key × V)):Evo X σ h (σ.oh a xs) h':=by
 refine⟨fun b o e nd _=>x.other b o (fun hb=>?_) e,x.frz,fun b d=>?_,x.there⟩
 ·subst hb
  cases hq:σ.D b with
  | none=>rw [hn hq] at e;cases e
  | some ys=>exact nd (.inr (.inl (by rw [hq];rfl)))
 ·rcases oN d with d | rfl
  ·exact .inl d
  ·cases hq:σ.D b with
   | none=>exact .inr (hn hq)
   | some ys=>exact .inl (.inr (.inl (by rw [hq];rfl)))
theorem Rel.F5 (R:Rel G σ h) (x:At a h h') (hn:σ.S a=none→h.get? a=none) {xs:List Key} (hl:h'.SetOf G.kk a (fun k=>decide (k∈xs)) xs.length):Rel G (σ.su a xs) h':=by
 have old:∀ b o,h.get? b=some o→∀ c:Value,o.cls=c→c≠.type "set"→b≠a:=fun b o e c hc hne hb=>by
  subst hb
  cases hq:σ.S b with
  | none=>rw [hn hq] at e;cases e
  | some ys=>obtain⟨o',ho',c'⟩:=R.CW hq;rw [e] at ho';cases ho';exact hne (hc.symm.trans c')
 have neC:∀ b c,(∃ o,h.get? b=some o∧o.cls=c)→c≠.type "set"→b≠a:=fun b c zz2 hne=>by obtain⟨o,ho,hc⟩:=zz2;exact old b o ho c hc hne
 refine⟨fun b es e=>R.atL x (neC b _ (R.mW e) (by decide)) e,fun b ks e=>R.atD x (neC b _ (R.CX e) (by decide)) e,fun b ys e=>?_,
  fun b d f e=>R.atI x (neC b _ (R.G2 e) (fun q=>nomatch q)) (by
   cases hq:σ.S a with
   | none=>exact R.yE (hn hq) e
   | some ys=>exact R.GZ hq e) e,R.Z,R.Ll,R.Dl,R.inj,R.apart,R.sep,fun b d=>?_,fun b o e=>?_⟩
 ·by_cases hb:b=a
  ·subst hb
   simp only [St.su,bc,dv] at e
   subst e
   exact hl
  ·simp only [St.su,cj hb] at e
   exact R.atS x hb e
 ·rcases oM d with d | rfl
  ·exact R.new b d
  ·cases hq:G.hb.get? b with
   | none=>rfl
   | some o =>
    cases hL:σ.S b with
    | none=>have:=R.base b o hq;rw [hn hL] at this;cases this
    | some ys=>have:=R.new b (.inr (.inr (.inl (by rw [hL];rfl))));rw [hq] at this;cases this
 ·refine x.other b o (fun hb=>?_) (R.base b o e)
  subst hb
  cases hL:σ.S b with
  | none=>have:=R.base b o e;rw [hn hL] at this;cases this
  | some ys=>have:=R.new b (.inr (.inr (.inl (by rw [hL];rfl))));rw [e] at this;cases this
theorem Evo.F5 {X:List Addr} (x:At a h h') (hn:σ.S a=none→h.get? a=none) (xs:List Key):Evo X σ h (σ.su a xs) h':=by
 refine⟨fun b o e nd _=>x.other b o (fun hb=>?_) e,x.frz,fun b d=>?_,x.there⟩
 ·subst hb
  cases hq:σ.S b with
  | none=>rw [hn hq] at e;cases e
  | some ys=>exact nd (.inr (.inr (.inl (by rw [hq];rfl))))
 ·rcases oM d with d | rfl
  ·exact .inl d
  ·cases hq:σ.S b with
   | none=>exact .inr (hn hq)
   | some ys=>exact .inl (.inr (.inr (.inl (by rw [hq];rfl))))
theorem Rel.F6 (R:Rel G σ h) {d:Addr} {f f':Nat→Option V} (e:σ.I a=some (d,f)) (x:At d h h') (hl:yp G h' a d f'):Rel G (σ.fj a d f') h':=by
 have hda:d≠a:=hl.ne
 have base':∀ c d' g,(σ.fj a d f').I c=some (d',g)→∃ g₀,σ.I c=some (d',g₀):=fun c d' g q=>by
  by_cases hc:c=a
  ·subst hc
   simp only [St.fj,bc,dv,mj] at q
   exact⟨f,q.1▸e⟩
  ·exact⟨g,by simpa [St.fj,upd,hc] using q⟩
 refine⟨fun b es e'=>R.atL x (R.H0 e' e).symm e',fun b ks e'=>R.atD x (fun hb=>?_) e',fun b ys e'=>R.atS x (R.GZ e' e).symm e',fun b d' g e'=>?_,R.Z,R.Ll,R.Dl,fun b b' d' g g' e1 e2=>?_,fun b d' g e'=>?_,fun b d' g b' d'' g' e1 e2=>?_,fun b hd=>?_,fun b o e'=>?_⟩
 ·subst hb;have e'':σ.D b=some ks:=e';rw [R.apart a b f e] at e'';cases e''
 ·by_cases hb:b=a
  ·subst hb
   simp only [St.fj,bc,dv,mj] at e'
   obtain⟨rfl,rfl⟩:=e'
   exact hl
  ·simp only [St.fj,cj hb] at e'
   exact R.atI x (R.sep _ _ _ _ _ _ e' e) (fun hd=>hb (R.inj b a d g f (hd▸e') e)) e'
 ·obtain⟨g₁,q1⟩:=base' b d' g e1
  obtain⟨g₂,q2⟩:=base' b' d' g' e2
  exact R.inj b b' d' g₁ g₂ q1 q2
 ·by_cases hb:b=a
  ·subst hb
   simp only [St.fj,bc,dv,mj] at e'
   exact e'.1▸R.apart b d f e
  ·exact R.apart b d' g (by simpa [St.fj,upd,hb] using e')
 ·obtain⟨g₁,q1⟩:=base' b d' g e1
  obtain⟨g₂,q2⟩:=base' b' d'' g' e2
  exact R.sep _ _ _ _ _ _ q1 q2
 ·have ha:σ.dom a:=.inr (.inr (.inr (.inl (by rw [e];rfl))))
  have hd':σ.dom d:=.inr (.inr (.inr (.inr (.inr ⟨a,f,e⟩))))
  rcases eP hd with q | rfl | rfl
  ·exact R.new b q
  ·exact R.new _ ha
  ·exact R.new _ hd'
 ·refine x.other b o (fun hb=>?_) (R.base b o e')
  subst hb
  have:=R.new b (.inr (.inr (.inr (.inr (.inr ⟨a,f,e⟩)))))
  rw [e'] at this;cases this
theorem Evo.F6 {X:List Addr} {d:Addr} {f:Nat→Option V} (f':Nat→Option V) (e:σ.I a=some (d,f)) (x:At d h h'):Evo X σ h (σ.fj a d f') h':=by
 refine⟨fun b o e' nd _=>x.other b o (fun hb=>nd (hb▸.inr (.inr (.inr (.inr (.inr ⟨a,f,e⟩)))))) e',x.frz,fun b hd=>.inl ?_,x.there⟩
 rcases eP hd with q | rfl | rfl
 ·exact q
 ·exact .inr (.inr (.inr (.inl (by rw [e];rfl))))
 ·exact .inr (.inr (.inr (.inr (.inr ⟨a,f,e⟩))))
theorem Rel.FE (R:Rel G σ h) {d:Addr} (ha:h.get? a=none) (hd:h.get? d=none) (hda:d≠a) (hk:∀ b o,h.get? b=some o→h'.get? b=some o) (hl:yp G h' a d fun _=>none):Rel G (σ.fj a d fun _=>none) h':=by
 have R':=R.same (fun b o e _=>hk b o e) (fun b o e _=>hk b o e) fun b o e=>hk b o (R.base b o e)
 have hndom:∀ b,h.get? b=none→¬ σ.dom b:=fun b hb q=>by obtain⟨o,ho⟩:=R.nt q;rw [hb] at ho;cases ho
 have nod:∀ b g,σ.I b≠some (d,g):=fun b g q=>hndom d hd (.inr (.inr (.inr (.inr (.inr ⟨b,g,q⟩)))))
 have hIa:σ.I a=none:=by
  cases hq:σ.I a with
  | none=>rfl
  | some p=>exact absurd (.inr (.inr (.inr (.inl (by rw [hq];rfl))))) (hndom a ha)
 have base:∀ c d' g,(σ.fj a d fun _=>none).I c=some (d',g)→(c=a∧d'=d)∨(c≠a∧σ.I c=some (d',g)):=fun c d' g q=>by
  by_cases hc:c=a
  ·subst hc
   simp only [St.fj,bc,dv,mj] at q
   exact .inl ⟨rfl,q.1.symm⟩
  ·exact .inr ⟨hc,by simpa [St.fj,upd,hc] using q⟩
 refine⟨R'.L,R'.D,R'.S,fun b d' g e'=>?_,R.Z,R.Ll,R.Dl,fun b b' d' g g' e1 e2=>?_,fun b d' g e'=>?_,fun b d' g b' d'' g' e1 e2=>?_,fun b q=>?_,R'.base⟩
 ·by_cases hb:b=a
  ·subst hb
   simp only [St.fj,bc,dv,mj] at e'
   obtain⟨rfl,rfl⟩:=e'
   exact hl
  ·exact R'.I b d' g (by simpa [St.fj,upd,hb] using e')
 ·rcases base b d' g e1 with ⟨rfl,rfl⟩ | ⟨_,q1⟩<;>rcases base b' d' g' e2 with ⟨h1,h2⟩ | ⟨_,q2⟩
  ·exact h1.symm
  ·exact absurd q2 (nod _ _)
  ·exact absurd (h2▸q1) (nod _ _)
  ·exact R.inj b b' d' g g' q1 q2
 ·rcases base b d' g e' with ⟨rfl,rfl⟩ | ⟨_,q1⟩
  ·show σ.D d'=none
   cases hq:σ.D d' with
   | none=>rfl
   | some p=>exact absurd (.inr (.inl (by rw [hq];rfl))) (hndom d' hd)
  ·exact R.apart b d' g q1
 ·have inDom:∀ c d' g,σ.I c=some (d',g)→σ.dom c∧σ.dom d':=fun c d' g q=>⟨.inr (.inr (.inr (.inl (by rw [q];rfl)))),.inr (.inr (.inr (.inr (.inr ⟨c,g,q⟩))))⟩
  rcases base b d' g e1 with ⟨rfl,rfl⟩ | ⟨_,q1⟩<;>rcases base b' d'' g' e2 with ⟨h1,h2⟩ | ⟨_,q2⟩
  ·rw [h2];exact hda.symm
  ·rintro rfl;exact hndom _ ha (inDom _ _ _ q2).2
  ·rw [h2];rintro rfl;exact hndom _ hd (inDom _ _ _ q1).1
  ·exact R.sep _ _ _ _ _ _ q1 q2
 ·have fresh:∀ c,h.get? c=none→G.hb.get? c=none:=fun c hc=>by
   cases hq:G.hb.get? c with
   | none=>rfl
   | some o=>rw [R.base c o hq] at hc;cases hc
  rcases eP q with q | rfl | rfl
  ·exact R.new b q
  ·exact fresh _ ha
  ·exact fresh _ hd
theorem Evo.FE {X:List Addr} {d:Addr} (f:Nat→Option V) (ha:h.get? a=none) (hd:h.get? d=none) (hk:∀ b o,h.get? b=some o→h'.get? b=some o):Evo X σ h (σ.fj a d f) h':=by
 refine⟨fun b o e _ _=>hk b o e,fun b o e _=>hk b o e,fun b q=>?_,fun b o e=>⟨o,hk b o e⟩⟩
 rcases eP q with q | rfl | rfl
 ·exact .inl q
 ·exact .inr ha
 ·exact .inr hd
end
end MP
end
section
namespace MP
open PySem PyProof.Rows
structure AOk (A:Around) (d:Nat):Prop where
 handled:A.handled=none
 depth:A.depth+3*d+20<recursionLimit
 units:A.units+30*d+300<cLine
structure jl (env:Env):Prop where
 kind:env.scope.kind=.function
 nd:(env.scope.names.map (·.1)).Nodup
 globals:env.globals=mainGlobals
 builtins:env.builtins=builtinsNs
structure FR (G:Stc) (σ:St) (env:Env) (ρ:Fr) (h:Heap):Prop where
 ns:∃ m,h.Ns env.locals m∧∀ i x,env.scope.names[i]?=some (x,.local)→OV G h (ρ i) (m x)
 cells:∀ (i:Nat) (x:Str) (k:NameKind),env.scope.names[i]?=some (x,k)→k=.cell∨k=.free→∃ c w,env.cells.lookup x=some c∧h.IsCell c w∧OV G h (ρ i) w∧¬ σ.dom c∧c≠env.locals∧G.hb.get? c=none
 inj:∀ (i j:Nat) (x y:Str) (k k':NameKind) (c:Addr),env.scope.names[i]?=some (x,k)→env.scope.names[j]?=some (y,k')→(k=.cell∨k=.free)→(k'=.cell∨k'=.free)→env.cells.lookup x=some c→env.cells.lookup y=some c→i=j
 loc:¬ σ.dom env.locals
 notfrz:∀ o,h.get? env.locals=some o→¬ Frz o
 new:G.hb.get? env.locals=none
 allc:∀ p∈env.cells,∃ o,h.get? p.2=some o
theorem FR.evo {G:Stc} {σ σ':St} {env:Env} {ρ:Fr} {h h':Heap} (F:FR G σ env ρ h) (x:Evo [] σ h σ' h'):FR G σ' env ρ h':=by
 obtain⟨m,⟨o,es,ep,ho,r⟩,hm⟩:=F.ns
 have ho':=x.keep _ _ ho F.loc (by simp)
 have still:∀ b o,h.get? b=some o→¬ σ.dom b→¬ σ'.dom b:=fun b o e nd d=>(x.dom b d).elim nd fun q=>by rw [e] at q;cases q
 refine⟨⟨m,⟨o,es,ep,ho',r⟩,fun i y e=>(hm i y e).mono x.frz⟩,fun i y k e hk=>?_,F.inj,still _ _ ho F.loc,fun o'' e=>?_,F.new,fun p hp=>by obtain⟨o,e⟩:=F.allc p hp;exact x.there _ o e⟩
 ·obtain⟨c,w,h1,⟨oc,hoc,hd⟩,h3,h4,h5⟩:=F.cells i y k e hk
  exact⟨c,w,h1,⟨oc,x.keep _ _ hoc h4 (by simp),hd⟩,h3.mono x.frz,still _ _ hoc h4,h5⟩
 ·rw [ho'] at e;cases e;exact F.notfrz o ho
inductive fx (G:Stc) (X:List Addr) (σ:St) (s:Shared) (Q:V→St→Prop) (w:Value) (s':Shared):Prop
 | mk (v:V) (σ':St) (h':Heap) (tk:Nat):s'={ s with heap:=h',toks:=tk }→Q v σ'→VR G h' v w→Rel G σ' h'→Evo X σ s.heap σ' h'→fx G X σ s Q w s'
inductive jk (G:Stc) (X:List Addr) (σ:St) (s:Shared) (Q:Bool→St→Prop) (b:Bool) (s':Shared):Prop
 | mk (σ':St) (h':Heap) (tk:Nat):s'={ s with heap:=h',toks:=tk }→Q b σ'→Rel G σ' h'→Evo X σ s.heap σ' h'→jk G X σ s Q b s'
inductive zW (G:Stc) (X:List Addr) (σ:St) (s:Shared) (Q:List V→St→Prop) (ws:List Value) (s':Shared):Prop
 | mk (vs:List V) (σ':St) (h':Heap) (tk:Nat):s'={ s with heap:=h',toks:=tk }→Q vs σ'→VRs G h' vs ws→Rel G σ' h'→Evo X σ s.heap σ' h'→zW G X σ s Q ws s'
section
variable {G:Stc} {X:List Addr} {σ σ₁:St} {s:Shared} {h₁:Heap} {tk:Nat}
theorem fx.back {Q:V→St→Prop} {w:Value} {s':Shared} (x:Evo X σ s.heap σ₁ h₁) (l:fx G X σ₁ { s with heap:=h₁,toks:=tk } Q w s'):fx G X σ s Q w s':=by
 obtain⟨v,σ',h',t,rfl,q,vr,r,e⟩:=l
 exact⟨v,σ',h',t,rfl,q,vr,r,x.trans e⟩
theorem jk.back {Q:Bool→St→Prop} {b:Bool} {s':Shared} (x:Evo X σ s.heap σ₁ h₁) (l:jk G X σ₁ { s with heap:=h₁,toks:=tk } Q b s'):jk G X σ s Q b s':=by
 obtain⟨σ',h',t,rfl,q,r,e⟩:=l
 exact⟨σ',h',t,rfl,q,r,x.trans e⟩
theorem fx.here {Q:V→St→Prop} {v:V} {w:Value} (q:Q v σ) (vr:VR G s.heap v w) (r:Rel G σ s.heap):fx G X σ s Q w { s with toks:=tk }:=⟨v,σ,s.heap,tk,rfl,q,vr,r,Evo.refl _ _ _⟩
theorem fx.vm {Q:V→St→Prop} {v:V} {w:Value} (q:Q v σ) (vr:VR G s.heap v w) (r:Rel G σ s.heap):fx G X σ s Q w s:=⟨v,σ,s.heap,s.toks,rfl,q,vr,r,Evo.refl _ _ _⟩
theorem jk.here {Q:Bool→St→Prop} {b:Bool} (q:Q b σ) (r:Rel G σ s.heap):jk G X σ s Q b s:=⟨σ,s.heap,s.toks,rfl,q,r,Evo.refl _ _ _⟩
theorem jk.vm {Q:Bool→St→Prop} {b:Bool} (q:Q b σ) (r:Rel G σ s.heap):jk G X σ s Q b { s with toks:=tk }:=⟨σ,s.heap,tk,rfl,q,r,Evo.refl _ _ _⟩
end
noncomputable abbrev Stc.M (G:Stc):Model:=model G.prog G.w
noncomputable def cz (G:Stc) (C:Cal) (sc:Scope) (d:Nat) (e:Ex) (ex:Expr):Prop :=
 ∀ (A:Around) (E:Value→Shared→Prop) (env:Env) (ρ:Fr) (σ:St) (Q:V→St→Prop) (s:Shared),AOk A d→env.scope=sc→jl env→FR G σ env ρ s.heap→Rel G σ s.heap →
  wpE C e ρ σ Q→wpAny G.M A (eval ex env) (fx G [] σ s Q) E s
noncomputable def pq (G:Stc) (C:Cal) (sc:Scope) (d:Nat) (e:Ex) (ex:Expr):Prop :=
 ∀ (A:Around) (E:Value→Shared→Prop) (env:Env) (ρ:Fr) (σ:St) (Q:Bool→St→Prop) (s:Shared),AOk A d→env.scope=sc→jl env→FR G σ env ρ s.heap→Rel G σ s.heap →
  wpT C e ρ σ Q→wpAny G.M A (isTrue ex env (eval ex env)) (jk G [] σ s Q) E s
noncomputable def ke (G:Stc) (C:Cal) (sc:Scope) (d:Nat) (es:Exs) (exs:List Expr):Prop :=
 ∀ (A:Around) (E:Value→Shared→Prop) (env:Env) (ρ:Fr) (σ:St) (Q:List V→St→Prop) (s:Shared) (pos:Pos),AOk A d→env.scope=sc→jl env→FR G σ env ρ s.heap→Rel G σ s.heap →
  rz C es ρ σ Q→wpAny G.M A (spliced (backTo pos (starEach exs env))) (zW G [] σ s Q) E s
section
variable {G:Stc} {A:Around} {E:Value→Shared→Prop} {s:Shared} {σ:St} {α:Type}
theorem mr {t:Sem Value} {P:V→St→Prop} {R:Value→Shared→Prop} (h:wpAny G.M A t (fx G [] σ s P) E s)
  (k:∀ v σ₁ h₁ tk w,P v σ₁→VR G h₁ v w→Rel G σ₁ h₁→Evo [] σ s.heap σ₁ h₁→R w { s with heap:=h₁,toks:=tk }):wpAny G.M A t R E s :=
 ba h (fun _ _ zz2=>by obtain⟨v,σ',h',tk,e,q,vr,r,x⟩:=zz2;exact e▸k v σ' h' tk _ q vr r x) fun _ _ x=>x
theorem jK {t:Sem Bool} {P:Bool→St→Prop} {R:Bool→Shared→Prop} (h:wpAny G.M A t (jk G [] σ s P) E s)
  (k:∀ b σ₁ h₁ tk,P b σ₁→Rel G σ₁ h₁→Evo [] σ s.heap σ₁ h₁→R b { s with heap:=h₁,toks:=tk }):wpAny G.M A t R E s :=
 ba h (fun _ _ zz2=>by obtain⟨σ',h',tk,e,q,r,x⟩:=zz2;exact e▸k _ σ' h' tk q r x) fun _ _ x=>x
theorem jJ {t:Sem (List Value)} {P:List V→St→Prop} {R:List Value→Shared→Prop} (h:wpAny G.M A t (zW G [] σ s P) E s)
  (k:∀ vs σ₁ h₁ tk ws,P vs σ₁→VRs G h₁ vs ws→Rel G σ₁ h₁→Evo [] σ s.heap σ₁ h₁→R ws { s with heap:=h₁,toks:=tk }):wpAny G.M A t R E s :=
 ba h (fun _ _ zz2=>by obtain⟨v,σ',h',tk,e,q,vr,r,x⟩:=zz2;exact e▸k v σ' h' tk _ q vr r x) fun _ _ x=>x
end
theorem jC {G:Stc} {σ:St} {h:Heap} {a:Addr} {xs:List V} {ws:List Value} (R:Rel G σ h) (e:σ.L a=some xs) (v:VRs G h xs ws):ws.length≤ax:=v.length▸R.Ll a xs e
theorem uZ {n:Nat} (h:n≤ax):(n:Int)<2^63:=Int.lt_of_le_of_lt (Int.ofNat_le.mpr h) (by decide)
theorem FH (n:Nat):((n:Int) != 0)=(n != 0):=by
 cases n<;>rfl
theorem kS {α β:Type} {ws:List α} {ns:List β} (q:ws.length=ns.length):ws.toArray.isEmpty=ns.isEmpty:=by
 cases ws<;>cases ns<;>first | rfl | cases q
theorem zc {G:Stc} {A:Around} {E:Value→Shared→Prop} {s:Shared} {σ:St} {v:V} {w:Value} {K:Bool→Prop} (R:Rel G σ s.heap) (vr:VR G s.heap v w) (h:pv v σ K) {Q:Bool→Shared→Prop}
  (k:∀ b tk,K b→Q b { s with toks:=tk }):wpAny G.M A (truthy w) Q E s:=by
 cases v
 case none=>obtain rfl:=vr;exact truthy_none (k _ s.toks h)
 case bool=>obtain rfl:=vr;exact mz (k _ s.toks h)
 case int=>obtain⟨t,rfl⟩:=vr;exact truthy_int (k _ s.toks h)
 case str =>
  obtain⟨t,rfl⟩:=vr
  exact PySem.P.truthy_str (Int.not_le.mpr (uZ h.1)) (k _ _ (by rw [FH];exact h.2))
 case lst =>
  obtain rfl:=vr
  obtain⟨xs,e,hk⟩:=h
  obtain⟨ws,n,hl',hv⟩:=R.L _ xs e
  exact wpAny_truthy_list hl'.isList (uZ (jC R e hv)) (k _ _ (by rw [kS hv.length.symm];exact hk))
 case ro =>
  obtain⟨a,ws,n,rfl,g,r⟩:=vr
  exact wpAny_truthy_list ⟨_,R.base _ _ g,rfl,_,rfl⟩ (uZ (jd (Nat.le_of_eq r.length) h.1)) (k _ _ (by rw [kS r.length];exact h.2))
 all_goals first | exact False.elim h | exact False.elim vr
noncomputable def binOp:Bop→Operator
 | .add=>.Add | .sub=>.Sub | .mul=>.Mult | .fdiv=>.FloorDiv | .mod=>.Mod | .pow=>.Pow
noncomputable def gP:Cop→CmpOp
 | .eq=>.Eq | .ne=>.NotEq | .lt=>.Lt | .le=>.LtE | .gt=>.Gt | .ge=>.GtE | .is=>.Is | .isNot=>.IsNot | .isIn=>.In | .notIn=>.NotIn
theorem log2_lt_of {b:Int} (h:b.natAbs<2^60):b.natAbs.log2<9000:=by
 by_cases h0:b.natAbs=0
 ·rw [h0];decide +kernel
 ·have:=(Nat.log2_lt h0).mpr h;(exact dh (.l .A (.n 9000)) .a (.l .A (.n 60)) this)
section
variable {G:Stc} {A:Around} {E:Value→Shared→Prop} {s:Shared} {σ:St}
theorem i5 {op:Bop} {a b:Int} {t u:Tok} {Q:V→St→Prop} (R:Rel G σ s.heap) (h:dX op (.int a) (.int b) σ Q):wpAny G.M A (binaryOp (binOp op) (.int a t) (.int b u)) (fx G [] σ s Q) E s:=by
 cases op with
 | add=>exact add_int (fx.here h (.int _ _) R)
 | sub=>exact sub_int (fx.here h (.int _ _) R)
 | mul =>
  refine mul_int (fx.here h.2 (.int _ _) R) ?_
  rcases h.1 with q | q
  ·exact IntMulOk.of_left (intBits_le_64 (by exact(Ar.nab _).elim (fun q1=>(jf (.il (.g .Q) .A) .a .a1 q1.1)) fun q1=>(mw (.il (.g .Q) .A) .e .W .aJ q q1.2)) (by exact(Ar.nab _).elim (fun q1=>(mw (.il .A .Q) .e .W .aF q q1.2)) fun q1=>(jf (.il .A .Q) .a .aW q1.1)))
  ·exact IntMulOk.of_right (intBits_le_64 (by exact(Ar.nab _).elim (fun q1=>(jf (.il (.g .Q) .A) .a .a1 q1.1)) fun q1=>(mw (.il (.g .Q) .A) .e .W .aJ q q1.2)) (by exact(Ar.nab _).elim (fun q1=>(mw (.il .A .Q) .e .W .aF q q1.2)) fun q1=>(jf (.il .A .Q) .a .aW q1.1)))
 | fdiv=>exact floordiv_int h.1 (fx.here h.2.2 (.int _ _) R) (.inl (dS (log2_lt_of h.2.1)))
 | mod=>exact mod_int' h.1 (fx.here h.2 (.int _ _) R)
 | pow =>
  obtain⟨h0,h1,h2,h3⟩:=h
  exact pow_int_small h0 (by exact jf (.ik .A (.n 1000000)) .a (.ik .A (.n 1000)) h1) h2 (fx.here h3 (.int _ _) R)
end
section
variable {G:Stc} {C:Cal} {sc:Scope} {d:Nat}
theorem wU {k:Nat} {pos:Pos}:cz G C sc d .none (.Constant .none k pos):=fun _ _ _ _ _ _ _ _ _ _ _ R h=>Constant_none (fx.vm h .none R)
theorem xE {b:Bool} {k:Nat} {pos:Pos}:cz G C sc d (.bool b) (.Constant (.bool b) k pos):=fun _ _ _ _ _ _ _ _ _ _ _ R h=>Constant_bool (fx.vm h (.bool b) R)
theorem AX {i:Int} {k:Nat} {pos:Pos}:cz G C sc d (.int i) (.Constant (.int i) k pos):=fun _ _ _ _ _ _ _ _ _ _ _ R h=>wpAny_Constant_int (fx.here h (.int _ _) R)
theorem AN {x:Str} {k:Nat} {pos:Pos}:cz G C sc d (.str x) (.Constant (.str x) k pos):=fun _ _ _ _ _ _ s _ _ _ _ R h=>by
 show wpAny _ _ (mkText x) _ _ s
 exact wpAny_mkText (fx.here h (.str _ _) R)
theorem rh {names:List (Str × NameKind)} (nd:(names.map (·.1)).Nodup):∀ {i:Nat} {x:Str} {k:NameKind},names[i]?=some (x,k)→names.lookup x=some k:=by
 induction names with
 | nil=>intro i x k e;simp at e
 | cons p r ih =>
  intro i x k e
  obtain⟨y,k'⟩:=p
  simp only [mq,List.nodup_cons] at nd
  cases i with
  | zero=>simp only [List.getElem?_cons_zero,dv,mj] at e;obtain⟨rfl,rfl⟩:=e;simp
  | succ i =>
   simp only [List.getElem?_cons_succ] at e
   have hne:x≠y:=fun q=>nd.1 (by
    subst q
    exact ee.mpr ⟨(x,k),ew e,rfl⟩)
   rw [fD,rf.mpr hne]
   exact ih nd.2 e
noncomputable def isVar (k:NameKind):Bool:=k==.local||k==.cell||k==.free
noncomputable def fy (x:Str):Bool:=!(x==("__debug__":Str))&&!(x==("__classdict__":Str))
theorem eA {A:Around} {E:Value→Shared→Prop} {env:Env} {ρ:Fr} {σ:St} {s:Shared} {i:Nat} {x:Str} {k:NameKind} {v:V} {Q:Value→Shared→Prop} (eo:jl env) (F:FR G σ env ρ s.heap)
  (hi:env.scope.names[i]?=some (x,k)) (hk:isVar k=true) (hx:fy x=true) (hv:ρ i=some v) (h:∀ w,VR G s.heap v w→Q w s):wpAny G.M A (loadName env x) Q E s:=by
 have hkind:env.kindOf x=some k:=rh eo.nd hi
 simp only [fy,cq,fh] at hx
 have get:∀ {w:Option Value},OV G s.heap (ρ i) w→∃ w',w=some w'∧VR G s.heap v w':=fun {w} o=>by
  rw [hv] at o
  cases w with
  | none=>exact o.elim
  | some w'=>exact⟨w',rfl,o⟩
 cases k with
 | «local» =>
  obtain⟨m,hn,hm⟩:=F.ns
  obtain⟨w',e,vr⟩:=get (hm i x hi)
  exact wpAny_loadName_local eo.kind hkind hn e (h w' vr)
 | cell =>
  obtain⟨c,w,hc,hcell,o,_,_,_⟩:=F.cells i x _ hi (.inl rfl)
  obtain⟨w',rfl,vr⟩:=get o
  exact wpAny_loadName_cell eo.kind hkind hc hcell (h w' vr)
 | free =>
  obtain⟨c,w,hc,hcell,o,_,_,_⟩:=F.cells i x _ hi (.inr rfl)
  obtain⟨w',rfl,vr⟩:=get o
  exact wpAny_loadName_free eo.kind hkind hc hcell (h w' vr) hx.2
 | _=>cases hk
theorem h9 {i:Nat} {x:Str} {k:NameKind} {pos:Pos} (hi:sc.names[i]?=some (x,k)) (hk:isVar k=true) (hx:fy x=true):cz G C sc d (.loc i) (.Name x pos):=fun A E env ρ σ Q s ao es eo F R h=>by
 obtain⟨v,hv,q⟩:=h
 have hx':(x==("__debug__":Str))=false:=by simp only [fy,cq,fh] at hx;exact hx.1
 exact wpAny_Name (eA eo F (by rw [es];exact hi) hk hx hv fun w vr=>fx.vm q vr R) hx'
theorem AS {a:Ex} {x:Expr} {pos:Pos} (ha:cz G C sc d a x):cz G C sc d (.neg a) (.UnaryOp .USub x pos):=fun A E env ρ σ Q s ao es eo F R h =>
 UnaryOp_ (mr (ha A E env ρ σ _ s ao es eo F R h) fun v σ₁ h₁ tk w q vr r x=>by
  obtain⟨i,rfl,q⟩:=q
  obtain⟨t,rfl⟩:=vr
  exact PyProof.Rows.neg_int (fx.back (tk:=tk) x (fx.here q (.int _ _) r)))
theorem AR {a:Ex} {x:Expr} {pos:Pos} (ha:cz G C sc d a x):cz G C sc d (.not a) (.UnaryOp .Not x pos):=fun A E env ρ σ Q s ao es eo F R h =>
 UnaryOp_ (mr (ha A E env ρ σ _ s ao es eo F R h) fun v σ₁ h₁ tk w q vr r x=>not_of (zc (s:={ s with heap:=h₁,toks:=tk }) r vr q fun b tk' q=>fx.back (tk:=tk) x (fx.here q (.bool _) r)))
theorem snd_and {a b:Ex} {e₁ e₂:Expr} {rest:List Expr} {pos:Pos} (ha:cz G C sc d a e₁) (hb:cz G C sc d b (.BoolOp .And (e₂::rest) pos)):cz G C sc d (.and a b) (.BoolOp .And (e₁::e₂::rest) pos):=fun A E env ρ σ Q s ao es eo F R h =>
 BoolOp_and (mr (ha A E env ρ σ _ s ao es eo F R h) fun v σ₁ h₁ tk w q vr r x=>zc (s:={ s with heap:=h₁,toks:=tk }) r vr q fun t tk' q=>by
  cases t with
  | true=>exact ba (hb A E env ρ σ₁ Q { s with heap:=h₁,toks:=tk' } ao es eo (F.evo x) r q) (fun _ _ l=>fx.back x l) fun _ _ x=>x
  | false=>exact fx.back (tk:=tk) x (fx.here q vr r))
theorem EO {a b:Ex} {e₁ e₂:Expr} {rest:List Expr} {pos:Pos} (ha:cz G C sc d a e₁) (hb:cz G C sc d b (.BoolOp .Or (e₂::rest) pos)):cz G C sc d (.or a b) (.BoolOp .Or (e₁::e₂::rest) pos):=fun A E env ρ σ Q s ao es eo F R h =>
 BoolOp_or (mr (ha A E env ρ σ _ s ao es eo F R h) fun v σ₁ h₁ tk w q vr r x=>zc (s:={ s with heap:=h₁,toks:=tk }) r vr q fun t tk' q=>by
  cases t with
  | false=>exact ba (hb A E env ρ σ₁ Q { s with heap:=h₁,toks:=tk' } ao es eo (F.evo x) r q) (fun _ _ l=>fx.back x l) fun _ _ x=>x
  | true=>exact fx.back (tk:=tk) x (fx.here q vr r))
theorem AW {c a b:Ex} {x y z:Expr} {pos:Pos} (hc:pq G C sc d c x) (ha:cz G C sc d a y) (hb:cz G C sc d b z):cz G C sc d (.ite c a b) (.IfExp x y z pos):=fun A E env ρ σ Q s ao es eo F R h =>
 IfExp_ (jK (hc A E env ρ σ _ s ao es eo F R h) fun t σ₁ h₁ tk q r x=>by
  cases t with
  | true=>exact ba (ha A E env ρ σ₁ Q _ ao es eo (F.evo x) r q) (fun _ _ l=>fx.back x l) fun _ _ x=>x
  | false=>exact ba (hb A E env ρ σ₁ Q _ ao es eo (F.evo x) r q) (fun _ _ l=>fx.back x l) fun _ _ x=>x)
theorem xH {a:Ex} {x:Expr} {pos:Pos} (ha:pq G C sc d a x):pq G C sc d (.not a) (.UnaryOp .Not x pos):=fun A E env ρ σ Q s ao es eo F R h =>
 isTrue_not (ba (ha A E env ρ σ _ s ao es eo F R h) (fun _ _ zz2=>by obtain⟨a,b,c,e,q,r,x⟩:=zz2;exact⟨a,b,c,e,q,r,x⟩) fun _ _ x=>x)
theorem xK {a b:Ex} {e₁:Expr} {rest:List Expr} {pos:Pos} (ha:pq G C sc d a e₁) (hb:pq G C sc d b (.BoolOp .And rest pos)):pq G C sc d (.and a b) (.BoolOp .And (e₁::rest) pos):=fun A E env ρ σ Q s ao es eo F R h =>
 isTrue_and (jK (ha A E env ρ σ _ s ao es eo F R h) fun t σ₁ h₁ tk q r x=>by
  cases t with
  | true=>exact ba (hb A E env ρ σ₁ Q _ ao es eo (F.evo x) r q) (fun _ _ l=>jk.back x l) fun _ _ x=>x
  | false=>exact jk.back (tk:=tk) x (jk.here q r))
theorem BA {a b:Ex} {e₁:Expr} {rest:List Expr} {pos:Pos} (ha:pq G C sc d a e₁) (hb:pq G C sc d b (.BoolOp .Or rest pos)):pq G C sc d (.or a b) (.BoolOp .Or (e₁::rest) pos):=fun A E env ρ σ Q s ao es eo F R h =>
 isTrue_or (jK (ha A E env ρ σ _ s ao es eo F R h) fun t σ₁ h₁ tk q r x=>by
  cases t with
  | false=>exact ba (hb A E env ρ σ₁ Q _ ao es eo (F.evo x) r q) (fun _ _ l=>jk.back x l) fun _ _ x=>x
  | true=>exact jk.back (tk:=tk) x (jk.here q r))
theorem xI {c a b:Ex} {x y z:Expr} {pos:Pos} (hc:pq G C sc d c x) (ha:pq G C sc d a y) (hb:pq G C sc d b z):pq G C sc d (.ite c a b) (.IfExp x y z pos):=fun A E env ρ σ Q s ao es eo F R h =>
 isTrue_IfExp (jK (hc A E env ρ σ _ s ao es eo F R h) fun t σ₁ h₁ tk q r x=>by
  cases t with
  | true=>exact ba (ha A E env ρ σ₁ Q _ ao es eo (F.evo x) r q) (fun _ _ l=>jk.back x l) fun _ _ x=>x
  | false=>exact ba (hb A E env ρ σ₁ Q _ ao es eo (F.evo x) r q) (fun _ _ l=>jk.back x l) fun _ _ x=>x)
theorem tu {e:Ex} {x:Expr} (he:cz G C sc d e x) (ht:∀ env whole,isTrue x env whole=(do let v←whole;standAt x.pos;holding [v] (truthy v)))
  (hw:∀ ρ σ Q,wpT C e ρ σ Q→wpE C e ρ σ fun v σ=>pv v σ fun b=>Q b σ):pq G C sc d e x:=fun A E env ρ σ Q s ao es eo F R h =>
 isTrue_plain (mr (he A E env ρ σ _ s ao es eo F R (hw ρ σ Q h)) fun v σ₁ h₁ tk w q vr r y=>zc (s:={ s with heap:=h₁,toks:=tk }) r vr q fun b tk' q=>jk.back (tk:=tk) y (jk.vm q r)) (ht env _)
theorem jo:ke G C sc d .nil []:=fun A E env ρ σ Q s pos ao es eo F R h=>wd ⟨[],σ,s.heap,s.toks,rfl,h,.nil,R,Evo.refl _ _ _⟩
theorem ek {e:Ex} {r:Exs} {x:Expr} {xs:List Expr} (he:cz G C sc d e x) (hr:ke G C sc d r xs) (hx:∀ env,starEach (x::xs) env=(false,eval x env)::starEach xs env):ke G C sc d (.cons e r) (x::xs):=fun A E env ρ σ Q s pos ao es eo F R h =>
 spliced_more (mr (he A E env ρ σ _ s ao es eo F R h) fun v σ₁ h₁ tk w q vr rr x =>
  jJ (hr A E env ρ σ₁ _ { s with heap:=h₁,toks:=tk } pos ao es eo (F.evo x) rr q) fun vs σ₂ h₂ tk₂ ws q₂ vrs r₂ x₂ =>
   ⟨v::vs,σ₂,h₂,tk₂,rfl,q₂,.cons (vr.mono x₂.frz) vrs,r₂,x.trans x₂⟩) (hx env)
theorem sO {es:Exs} {xs:List Expr} {k:Nat} {pos:Pos} (h₀:ke G C sc d es xs):cz G C sc d (.tup es) (.Tuple xs k pos):=fun A E env ρ σ Q s ao ess eo F R h =>
 Tuple_ (jJ (h₀ A E env ρ σ _ s pos ao ess eo F R h) fun vs σ₁ h₁ tk ws q vrs r x=>by
  have hz:=q.1
  rw [vrs.length] at hz
  unfold ax at hz
  refine gy (?_:fx G [] σ s Q (.ref h₁.objs.size) _) (by show ws.toArray.size≤sizeLine;rw [bh,show sizeLine=16777216 from rfl];(exact dh (.k .A .a9) .a .bX hz))
  exact⟨.tup vs,σ₁,_,tk,rfl,q.2,.tup (IsT.new _ _) (vrs.mono fun _ _ e _=>aj _ e),r.push _,x.trans (Evo.push _ _ _ _)⟩)
theorem AU {es:Exs} {xs:List Expr} {pos:Pos} (h₀:ke G C sc d es xs):cz G C sc d (.lst es) (.List xs pos):=fun A E env ρ σ Q s ao ess eo F R h =>
 List_ (jJ (h₀ A E env ρ σ _ s pos ao ess eo F R h) fun vs σ₁ h₁ tk ws q vrs r x=>by
  have hz:=q.1
  have hz':=hz
  rw [vrs.length] at hz
  unfold ax at hz
  have hn:σ₁.L h₁.objs.size=none:=by
   cases hq:σ₁.L h₁.objs.size with
   | none=>rfl
   | some ys=>obtain⟨o,ho,_⟩:=r.mW hq;rw [none_at_size] at ho;cases ho
  refine gy (?_:fx G [] σ s Q (.ref h₁.objs.size) _) (by show ws.toArray.size≤sizeLine;rw [bh,show sizeLine=16777216 from rfl];(exact dh (.k .A .a9) .a .bX hz))
  have at':At h₁.objs.size h₁ (h₁.push { cls:=.type "list",data:=.seq ws.toArray }):=At.push h₁
  exact⟨.lst _,_,_,tk,rfl,q.2 _ hn,.lst _,r.putL at' (fun _=>none_at_size _) (IsL.new _ _) vrs hz',x.trans (Evo.putL at' (fun _=>none_at_size _) _)⟩)
end
end MP
end
section
set_option tactic.hygienic true
namespace MP
open PySem PyProof.Rows
noncomputable def GB (h:Heap) (w:Value) (d:PyData) (n:Nat):Prop:=∃ as,Reads h w d as∧d.canLay0=true∧d.depth≤n
noncomputable def IC (h:Heap) (ws:List Value) (ds:List PyData) (n:Nat):Prop:=∃ as,ReadsAll h ws ds as∧PyData.canLayAll0 ds=true∧PyData.depthAll ds≤n
theorem fH {G:Stc} {σ:St} {h:Heap} (n:Nat) (ih:∀ {v:V} {w:Value} {d:PyData},wj σ n v=some d→VR G h v w→GB h w d n) :
  {xs:List V}→{ws:List Value}→{ds:List PyData}→xs.mapM (wj σ n)=some ds→VRs G h xs ws→IC h ws ds n
 | [],_,_,e,vr=>by
  obtain rfl:=vr
  obtain rfl:=af (e:some []=some _)
  exact⟨[],.nil,rfl,br _⟩
 | x::xs,_,_,e,⟨w,us,q,a,r⟩=>by
  subst q
  rw [List.mapM_cons] at e
  obtain⟨d,e1,e4⟩:=dg.mp e
  obtain⟨ds',e2,e3⟩:=dg.mp e4
  obtain rfl:=af e3
  obtain⟨as,r1,c1,d1⟩:=ih e1 a
  obtain⟨bs,r2,c2,d2⟩:=fH n ih e2 r
  exact⟨as++bs,.cons r1 r2,by simp [PyData.canLayAll0,c1,c2],Nat.max_le.mpr ⟨d1,d2⟩⟩
theorem xX {h:Heap} {x:Str} {t:Tok} {d:PyData} {n:Nat} (e:(if PyData.strOk x then some (PyData.str x) else Option.none)=some d):GB h (.str x t) d n:=by
 cases c:PyData.strOk x with
 | true=>rw [c] at e;obtain rfl:=af e;exact⟨[],.str _ _,by simpa [PyData.canLay0] using c,br _⟩
 | false=>rw [c] at e;exact fu e
theorem eD {G:Stc} {σ:St} {h:Heap} (R:Rel G σ h):(n:Nat)→{v:V}→{w:Value}→{d:PyData}→wj σ n v=some d→VR G h v w→GB h w d n:=by
 intro n
 induction n with
 | zero =>
  intro v w d e vr
  cases v
  case none=>obtain rfl:=vr;obtain rfl:=af e;exact⟨[],.none,rfl,br _⟩
  case bool=>obtain rfl:=vr;obtain rfl:=af e;exact⟨[],.bool _,rfl,br _⟩
  case int=>obtain⟨t,rfl⟩:=vr;obtain rfl:=af e;exact⟨[],.int _ _,rfl,br _⟩
  case str=>obtain⟨t,rfl⟩:=vr;exact xX e
  all_goals exact fu e
 | succ n ih =>
  intro v w d e vr
  cases v
  case none=>obtain rfl:=vr;obtain rfl:=af e;exact⟨[],.none,rfl,br _⟩
  case bool=>obtain rfl:=vr;obtain rfl:=af e;exact⟨[],.bool _,rfl,br _⟩
  case int=>obtain⟨t,rfl⟩:=vr;obtain rfl:=af e;exact⟨[],.int _ _,rfl,br _⟩
  case str=>obtain⟨t,rfl⟩:=vr;exact xX e
  case lst =>
   obtain rfl:=vr
   obtain⟨xs,hx,e⟩:=dg.mp e
   obtain⟨ds,hd,rfl⟩:=gc.mp e
   obtain⟨ws,m,hl,hv⟩:=R.L _ xs hx
   obtain⟨as,r,c,dd⟩:=fH n ih hd hv
   exact⟨_,.list hl rfl rfl (by simpa using r),by simpa [PyData.canLay0] using c,Nat.succ_le_succ dd⟩
  case tup =>
   obtain⟨a,ws,m,rfl,g,r⟩:=vr
   obtain⟨ds,hd,rfl⟩:=gc.mp e
   obtain⟨as,r,c,dd⟩:=fH n ih hd r
   exact⟨_,.tuple g rfl rfl (by simpa using r),by simpa [PyData.canLay0] using c,Nat.succ_le_succ dd⟩
  all_goals exact fu e
section
variable {G:Stc} {A:Around} {E:Value→Shared→Prop} {s:Shared} {σ:St} {d:Nat}
theorem zd {d:PyData} (c:d.canLay0=true) (h:d.depth≤6):SeqAt.shaped d=true:=by
 unfold SeqAt.shaped;rw [c,Bool.true_and];exact fc (jd h (by decide))
theorem AOk.u64 (ao:AOk A d):A.units+64<cLine:=by have:=ao.units;(exact cv (.l (.a .A (.n 64)) .B) .a .bH this)
theorem ES {a b:V} {x y:Value} {K:Bool→Prop} (ao:AOk A d) (R:Rel G σ s.heap) (va:VR G s.heap a x) (vb:VR G s.heap b y) (h:nC a b σ K) {Q:Value→Shared→Prop} (k:∀ r,K r→Q (.bool r) s):wpAny G.M A (compareOp .Eq x y) Q E s:=by
 rcases hY h with ⟨i,j,rfl,rfl,h⟩ | ⟨i,j,rfl,rfl,h⟩ | ⟨d,e,hd,he,hk⟩
 ·obtain⟨t,rfl⟩:=va;obtain⟨u,rfl⟩:=vb;exact PyProof.Rows.eq_int (k _ h)
 ·obtain⟨t,rfl⟩:=va;obtain⟨u,rfl⟩:=vb;exact eq_str (k _ h)
 ·obtain⟨as,ra,ca,da⟩:=eD R 6 hd va
  obtain⟨bs,rb,cb,db⟩:=eD R 6 he vb
  exact eq_dataH ra rb (zd ca da) (zd cb db) ao.u64 (k _ hk)
theorem EP {a b:V} {x y:Value} {K:Bool→Prop} (ao:AOk A d) (R:Rel G σ s.heap) (va:VR G s.heap a x) (vb:VR G s.heap b y) (h:nC a b σ fun r=>K (!r)) {Q:Value→Shared→Prop} (k:∀ r,K r→Q (.bool r) s):wpAny G.M A (compareOp .NotEq x y) Q E s:=by
 rcases hY h with ⟨i,j,rfl,rfl,h⟩ | ⟨i,j,rfl,rfl,h⟩ | ⟨d,e,hd,he,hk⟩
 ·obtain⟨t,rfl⟩:=va;obtain⟨u,rfl⟩:=vb;exact ne_int (k _ h)
 ·obtain⟨t,rfl⟩:=va;obtain⟨u,rfl⟩:=vb;exact ne_str (k _ h)
 ·obtain⟨as,ra,ca,da⟩:=eD R 6 hd va
  obtain⟨bs,rb,cb,db⟩:=eD R 6 he vb
  exact ne_dataH ra rb (zd ca da) (zd cb db) ao.u64 (k _ hk)
theorem iL {v:Value} {R:Bool→Shared→Prop} (h:R (v==.none) s):wpAny G.M A (isSame v .none) R E s:=by
 cases v<;>exact di (by rfl) (by exact h)
theorem A5 {h:Heap} {a:V} {x:Value} (va:VR G h a x):(x==.none)=isNone a:=by
 cases a
 case int=>obtain⟨t,rfl⟩:=va;rfl
 case str=>obtain⟨t,rfl⟩:=va;rfl
 case tup=>obtain⟨_,_,_,rfl,_⟩:=va;rfl
 case mt=>obtain⟨_,_,_,_,rfl,_⟩:=va;rfl
 case dM=>obtain⟨_,_,rfl,_⟩:=va;rfl
 case eC=>obtain⟨_,_,rfl,_⟩:=va;rfl
 case ro=>obtain⟨_,_,_,rfl,_⟩:=va;rfl
 case clo=>exact va.elim
 all_goals obtain rfl:=va;rfl
theorem i4 {a b:V} {x y:Value} {K:Bool→Prop} (R:Rel G σ s.heap) (va:VR G s.heap a x) (vb:VR G s.heap b y) (h:A1 a b σ K) {Q:Bool→Shared→Prop} (k:∀ r,K r→Q r s):wpAny G.M A (isSame x y) Q E s:=by
 cases b with
 | none =>
  obtain rfl:=vb
  exact iL (k _ (by rw [A5 va];exact h))
 | lst q =>
  obtain rfl:=vb
  have h:DF q a σ K:=h
  cases a with
  | none=>obtain rfl:=va;exact wpAny_isSame_plain rfl (k _ h)
  | lst p =>
   obtain rfl:=va
   obtain⟨h1,h2,h3⟩:=h
   obtain⟨xs,e1⟩:=cc.mp h1
   obtain⟨ys,e2⟩:=cc.mp h2
   by_cases hpq:p=q
   ·subst hpq
    exact wpAny_isSame_ref_self (k _ (beq_self_eq_true p▸h3))
   ·obtain⟨o1,g1,c1⟩:=R.mW e1
    obtain⟨o2,g2,c2⟩:=R.mW e2
    exact wpAny_isSame_ref_other hpq g1 g2 (by rw [c1];decide) (k _ (rf.mpr hpq▸h3))
  | _=>exact False.elim h
 | _=>exact False.elim h
theorem rq {G:Stc} {h:Heap}:{ns:List Int}→{ws:List Value}→VRs G h (ns.map V.int) ws→IntsAre ws ns
 | [],_,e=>by obtain rfl:=e;exact .nil
 | _::_,_,⟨_,_,e,⟨t,e'⟩,r⟩=>by subst e;subst e';exact .cons _ _ (rq r)
theorem xh (ns:List Int) (i:Int):(ns.any fun x=>x==i)=ns.contains i:=by
 rw [Bool.eq_iff_iff];simp
theorem ER {a b:V} {x y:Value} {K:Bool→Prop} (R:Rel G σ s.heap) (va:VR G s.heap a x) (vb:VR G s.heap b y) (h:A2 a b σ K) {Q:Value→Shared→Prop} (k:∀ r,K r→Q (.bool r) s):wpAny G.M A (compareOp .In x y) Q E s:=by
 obtain⟨i,rfl,h⟩:=nr (v:=a) h
 obtain⟨l,rfl,ns,e,hk⟩:=rg (v:=b) h
 obtain⟨t,rfl⟩:=va
 obtain rfl:=vb
 obtain⟨ws,n,hl,hv⟩:=R.L _ _ e
 exact in_list_ints hl.isList (rq hv) (k _ (by rw [xh];exact hk))
theorem uD {a b:V} {x y:Value} {K:Bool→Prop} (R:Rel G σ s.heap) (va:VR G s.heap a x) (vb:VR G s.heap b y) (h:A2 a b σ fun r=>K (!r)) {Q:Value→Shared→Prop} (k:∀ r,K r→Q (.bool r) s):wpAny G.M A (compareOp .NotIn x y) Q E s:=by
 obtain⟨i,rfl,h⟩:=nr (v:=a) h
 obtain⟨l,rfl,ns,e,hk⟩:=rg (v:=b) h
 obtain⟨t,rfl⟩:=va
 obtain rfl:=vb
 obtain⟨ws,n,hl,hv⟩:=R.L _ _ e
 exact notin_list_ints hl.isList (rq hv) (k _ (by rw [xh];exact hk))
theorem gG {op:Cop} {a b:V} {x y:Value} {K:Bool→Prop} (ao:AOk A d) (R:Rel G σ s.heap) (va:VR G s.heap a x) (vb:VR G s.heap b y) (h:wu op a b σ K) {Q:Value→Shared→Prop} (k:∀ r,K r→Q (.bool r) s):wpAny G.M A (compareOp (gP op) x y) Q E s:=by
 have ord:DE op a b K→wpAny G.M A (compareOp (gP op) x y) Q E s:=fun h=>by
  obtain⟨i,rfl,h⟩:=nr (v:=a) h
  obtain⟨j,rfl,h⟩:=nr (v:=b) h
  obtain⟨t,rfl⟩:=va
  obtain⟨u,rfl⟩:=vb
  cases op
  case lt=>exact lt_int (k _ h)
  case le=>exact le_int (k _ h)
  case gt=>exact gt_int (k _ h)
  case ge=>exact ge_int (k _ h)
  all_goals exact False.elim h
 cases op with
 | eq=>exact ES ao R va vb h k
 | ne=>exact EP ao R va vb h k
 | is =>
  show wpAny G.M A (do return .bool (← isSame x y)) Q E s
  exact ab (i4 R va vb h fun r q=>ae (k _ q))
 | isNot =>
  show wpAny G.M A (do return .bool (!(← isSame x y))) Q E s
  exact ab (i4 (K:=fun r=>K (!r)) R va vb h fun r q=>ae (k _ q))
 | isIn=>exact ER R va vb h k
 | notIn=>exact uD R va vb h k
 | lt=>exact ord h
 | le=>exact ord h
 | gt=>exact ord h
 | ge=>exact ord h
end
section
variable {G:Stc} {C:Cal} {sc:Scope} {d:Nat}
theorem AY {op:Cop} {a b:Ex} {x y:Expr} {pos:Pos} (ha:cz G C sc d a x) (hb:cz G C sc d b y) (hm:behindInMarks (gP op) y=false):cz G C sc d (.cmp op a b) (.Compare x [gP op] [y] pos):=fun A E env ρ σ Q s ao es eo F R h =>
 wpAny_Compare1 (mr (ha A E env ρ σ _ s ao es eo F R h) fun v σ₁ h₁ tk w q vr r x =>
  mr (hb A E env ρ σ₁ _ { s with heap:=h₁,toks:=tk } ao es eo (F.evo x) r q) fun v₂ σ₂ h₂ tk₂ w₂ q₂ vr₂ r₂ x₂ =>
   gG (s:={ s with heap:=h₂,toks:=tk₂ }) ao r₂ (vr.mono x₂.frz) vr₂ q₂ fun b q=>fx.back (x.trans x₂) (fx.vm (s:={ s with heap:=h₂,toks:=tk₂ }) q (.bool _) r₂)) hm
theorem xf {G:Stc} {A:Around} {E:Value→Shared→Prop} {s:Shared} {env:Env} {l op r pos whole} {Q:Bool→Shared→Prop}
  (h:wpAny G.M A (eval l env) (fun a s₁=>wpAny G.M A (eval r env) (fun b s₂=>wpAny G.M A (compareOp op a b) (fun c s₃=>wpAny G.M A (truthy c) Q E s₃) E s₂) E s₁) E s)
  (hm:behindInMarks op r=false):wpAny G.M A (isTrue (.Compare l [op] [r] pos) env whole) Q E s:=by
 rw [isTrue_Compare1,markedBehindIn_of_false hm]
 refine ab (ba h (fun a s₁ h₁=>ab (bu (ba h₁ (fun b s₂ h₂=>ab (fg (ab (wpAny_operating (ba h₂ (fun c s₃ h₃=>bu h₃) fun _ _ x=>x)))) ) fun _ _ x=>x))) fun _ _ x=>x)
theorem xJ {op:Cop} {a b:Ex} {x y:Expr} {pos:Pos} (ha:cz G C sc d a x) (hb:cz G C sc d b y) (hm:behindInMarks (gP op) y=false):pq G C sc d (.cmp op a b) (.Compare x [gP op] [y] pos):=fun A E env ρ σ Q s ao es eo F R h =>
 xf (mr (ha A E env ρ σ _ s ao es eo F R h) fun v σ₁ h₁ tk w q vr r x =>
  mr (hb A E env ρ σ₁ _ { s with heap:=h₁,toks:=tk } ao es eo (F.evo x) r q) fun v₂ σ₂ h₂ tk₂ w₂ q₂ vr₂ r₂ x₂ =>
   gG (s:={ s with heap:=h₂,toks:=tk₂ }) ao r₂ (vr.mono x₂.frz) vr₂ q₂ fun b q=>mz (jk.back (x.trans x₂) (jk.here (s:={ s with heap:=h₂,toks:=tk₂ }) q r₂))) hm
end
end MP
end
section
namespace MP
open PySem PyProof.Rows
theorem lq {n:Nat} (h:n≤ax):n≤sizeLine:=by rw [show sizeLine=16777216 from rfl];unfold ax at h;(exact dh (.k .A .a9) .a .bX h)
section
variable {G:Stc} {σ:St} {h:Heap}
theorem Rel.FV (R:Rel G σ h):σ.L h.objs.size=none:=by
 cases hq:σ.L h.objs.size with
 | none=>rfl
 | some ys=>obtain⟨o,ho,_⟩:=R.mW hq;rw [none_at_size] at ho;cases ho
theorem Rel.freshD (R:Rel G σ h):σ.D h.objs.size=none:=by
 cases hq:σ.D h.objs.size with
 | none=>rfl
 | some ys=>obtain⟨o,ho,_⟩:=R.CX hq;rw [none_at_size] at ho;cases ho
theorem Rel.FU (R:Rel G σ h):σ.S h.objs.size=none:=by
 cases hq:σ.S h.objs.size with
 | none=>rfl
 | some ys=>obtain⟨o,ho,_⟩:=R.CW hq;rw [none_at_size] at ho;cases ho
theorem iK {X:List Addr} {σ₁:St} {s:Shared} {h₁:Heap} {tk:Nat} {Q:V→St→Prop} {vs:List V} {ws:List Value} (r:Rel G σ₁ h₁) (x:Evo X σ s.heap σ₁ h₁) (vrs:VRs G h₁ vs ws) (hz:vs.length≤ax)
  (q:∀ c,σ₁.L c=none→Q (.lst c) (σ₁.ct c vs)):fx G X σ s Q (.ref h₁.objs.size) { s with heap:=h₁.push { cls:=.type "list",data:=.seq ws.toArray },toks:=tk }:=by
 have at':At h₁.objs.size h₁ (h₁.push { cls:=.type "list",data:=.seq ws.toArray }):=At.push h₁
 exact⟨.lst _,_,_,tk,rfl,q _ r.FV,.lst _,r.putL at' (fun _=>none_at_size _) (IsL.new _ _) vrs hz,x.trans (Evo.putL at' (fun _=>none_at_size _) _)⟩
theorem VRs.rep {vs:List V} {ws:List Value} (x:VRs G h vs ws):∀ k:Nat,VRs G h (List.replicate k vs).flatten (List.replicate k ws).flatten
 | 0=>by simpa using VRs.nil
 | k+1=>by simpa [List.replicate_succ] using x.append (x.rep k)
theorem VRs.ints {ws:List Value} {ns:List Int} (i:IntsAre ws ns):VRs G h (ns.map V.int) ws:=by
 induction i with
 | nil=>exact .nil
 | cons n t r ih=>exact .cons (.int n t) ih
end
section
variable {G:Stc} {A:Around} {E:Value→Shared→Prop} {s:Shared} {σ:St}
theorem mD {l:Addr} {items:Array Value} {k:Nat} {x:Int} {u:Tok} {Q:Value→Shared→Prop} (hl:IsL s.heap l items k) (hlo:-(2^63:Int)≤x) (hhi:x<2^63) (hsz:items.size*x.toNat≤2^24)
  (h:Q (.ref s.heap.objs.size) { s with heap:=s.heap.push { cls:=.type "list",data:=.seq (List.foldl (fun x1 x2=>x1++x2) #[] (List.replicate (if items.isEmpty=true then 0 else x.toNat) items)) } }) :
  wpAny G.M A (binaryOp .Mult (.ref l) (.int x u)) Q E s :=
 wpAny_binaryOp_repeat_ref (T:="list") (U:="int") (by decide) ⟨_,hl,rfl⟩ (fun s'=>typeIs_int s' x u) noFill_list_mul F.fills_int_mul F.slot_int_rmul repeat_list F.slot_int_index.lookup
  (xr F.slot_int_rmul (typeIs_int s x u) F.entry_int_rmul (F.args_int_rmul_2 _ _) (int___rmul___int_list x u l items k)
   ⟨hl,rfl,⟨_,hl,rfl⟩,xr F.slot_list_mul ⟨_,hl,rfl⟩ F.entry_list_mul (F.args_list_mul_2 _ _)
    (AutoListH.list___mul___list_int_3 l items k x u (by simp [Builtin.List.listFitsIndex];(exact⟨(jf (.ik (.ng 9223372036854775808) .A) .a .a3 hlo),(jf (.il .A (.n 9223372036854775808)) .a .aY hhi)⟩)) (by exact eT .aM [[8,8,1,-1,-1]] (.k .B .aI) (.l .C (.n 8)) (.e (.a (.m 8 .A) .C) .D) (.e .V (.n (2^63))) hsz (Ar.fL _ 8 (by decide)).1 (Ar.fL _ 8 (by decide)).2 (aa (zv (.k .U (.n (2^63))) .j))) (by simp [Builtin.List.listTooLong,sizeLine];(exact dh (.k .A .a9) .a (.k .A .aI) hsz)))
    ⟨hl,h⟩⟩)
set_option maxHeartbeats 2000000 in
theorem xF {op:Bop} {a b:V} {x y:Value} {Q:V→St→Prop} (R:Rel G σ s.heap) (va:VR G s.heap a x) (vb:VR G s.heap b y) (h:dX op a b σ Q):wpAny G.M A (binaryOp (binOp op) x y) (fx G [] σ s Q) E s:=by
 have ints':∀ i j t u,x=.int i t→y=.int j u→dX op (.int i) (.int j) σ Q→wpAny G.M A (binaryOp (binOp op) x y) (fx G [] σ s Q) E s:=fun i j t u e1 e2 q=>by
  subst e1;subst e2;exact i5 R q
 have mulAt:∀ (l:Addr) (xs:List V) (ws:List Value) (i:Int) (t:Tok) (n:Nat),IsL s.heap l ws.toArray n→VRs G s.heap xs ws→xs.length*i.toNat≤ax→i.natAbs<2^60→(∀ c,σ.L c=none→Q (.lst c) (σ.ct c (List.replicate i.toNat xs).flatten)) →
   x=.ref l→y=.int i t→wpAny G.M A (binaryOp .Mult x y) (fx G [] σ s Q) E s:=fun l xs ws i t n hl hv hz hb q e1 e2=>by
  subst e1;subst e2
  have h1:=hv.length
  refine mD hl (by exact(Ar.nab _).elim (fun q1=>(jf .a3 .a .a1 q1.1)) fun q1=>(mw .a3 .e .W .aJ hb q1.2)) (by exact(Ar.nab _).elim (fun q1=>(mw .aY .e .W .aF hb q1.2)) fun q1=>(jf .aY .a .aW q1.1)) ?_ ?_
  ·simp only [bh];rw [← h1];unfold ax at hz;(exact dh (.k .A .aI) .a .bX hz)
  ·have e:List.foldl (fun x1 x2=>x1++x2) #[] (List.replicate (if ws.toArray.isEmpty=true then 0 else i.toNat) ws.toArray)=((List.replicate i.toNat ws).flatten).toArray:=by
    rw [listMul_foldl]
    cases ws with
    | nil=>simp
    | cons w ws=>simp
   rw [e]
   exact iK (tk:=s.toks) R (Evo.refl _ _ _) (hv.rep _) (by rw [lm_len_rep_flat,Nat.mul_comm];exact hz) q
 rcases nD h with ⟨i,j,rfl,rfl,_⟩ | ⟨rfl,l,n,rfl,rfl,q⟩ | ⟨rfl,m,rfl,q⟩
 ·obtain⟨t,rfl⟩:=va.inv
  obtain⟨u,rfl⟩:=vb.inv
  exact i5 R h
 ·obtain⟨u,rfl⟩:=vb.inv
  obtain rfl:=va
  obtain⟨xs,e1,hz,hb,q⟩:=q
  obtain⟨ws,n,hl,hv⟩:=R.L _ _ e1
  exact mulAt _ _ _ _ _ _ hl hv hz hb q rfl rfl
 ·obtain rfl:=vb
  obtain⟨xs,ys,e4,e5,hz,q⟩:=q
  obtain⟨us,m,hl',hv'⟩:=R.L _ _ e5
  have go:∀ (l:Addr) (ws:List Value) (n:Nat),x=.ref l→IsL s.heap l ws.toArray n→VRs G s.heap xs ws→wpAny G.M A (binaryOp (binOp .add) x (.ref _)) (fx G [] σ s Q) E s:=fun l ws n ex hl hv=>by
   subst ex
   have h1:=hv.length;have h2:=hv'.length
   refine P.add_list hl hl' ?_ (by simp only [bh];rw [← h1,← h2];exact lq hz)
   rw [List.append_toArray]
   exact iK (tk:=s.toks) R (Evo.refl _ _ _) (hv.append hv') (by simpa using hz) q
  unfold itemsOf at e4
  cases e6:dY a with
  | some l' =>
   rw [e6] at e4
   have e6:=za e6;subst e6
   obtain⟨ws,n,hl,hv⟩:=R.L _ _ e4
   exact go _ ws n va.inv hl hv
  | none =>
   rw [e6] at e4
   cases e7:vRo a with
   | none=>rw [e7] at e4;cases e4
   | some ns =>
    rw [e7] at e4
    cases e4
    have e7:=EH e7;subst e7
    obtain⟨a,ws,n,ex,g,r⟩:=va.inv
    exact go a ws n ex (R.base _ _ g) (VRs.ints (G:=G) (h:=s.heap) r)
theorem sQ {C:Cal} {sc:Scope} {d:Nat} {op:Bop} {a b:Ex} {x y:Expr} {pos:Pos} (ha:cz G C sc d a x) (hb:cz G C sc d b y):cz G C sc d (.bin op a b) (.BinOp x (binOp op) y pos):=fun A E env ρ σ Q s ao es eo F R h =>
 wpAny_BinOp (mr (ha A E env ρ σ _ s ao es eo F R h) fun v σ₁ h₁ tk w q vr r x =>
  mr (hb A E env ρ σ₁ _ { s with heap:=h₁,toks:=tk } ao es eo (F.evo x) r q) fun v₂ σ₂ h₂ tk₂ w₂ q₂ vr₂ r₂ x₂ =>
   ba (xF (s:={ s with heap:=h₂,toks:=tk₂ }) r₂ (vr.mono x₂.frz) vr₂ q₂) (fun _ _ l=>fx.back (x.trans x₂) l) fun _ _ x=>x)
theorem DRs.look {h:Heap} (k:Key):{es:List (Key × V)}→{ds:List (Key × Value)}→DRs G h es ds→OV G h (es.lookup k) (valueAt ds k)
 | [],_,e=>by obtain rfl:=e;exact trivial
 | (k',v)::es,_,⟨w,us,e,a,r⟩=>by
  subst e
  by_cases hk:k'=k
  ·subst hk;simpa [valueAt,OV] using a
  ·rw [fD,rf.mpr (fun q=>hk q.symm)]
   simpa [valueAt,List.find?_cons,hk] using DRs.look k r
theorem key_is {v:V} {k:Key} {w:Value} {h:Heap} (hk:v.mG=some k) (vr:VR G h v w):G.kk.is k w=true:=by
 cases v
 case int=>obtain⟨t,rfl⟩:=vr;obtain rfl:=af hk;simp [keyKind,tE,Value.isInt]
 case str=>obtain⟨t,rfl⟩:=vr;obtain rfl:=af hk;simp [keyKind,tE,Value.isStrOf]
 all_goals exact fu hk
theorem wL {a b:V} {x y:Value} {ve se:Expr} {K:V→Prop} (R:Rel G σ s.heap) (va:VR G s.heap a x) (vb:VR G s.heap b y) (h:s8 a b σ K) (hs:subscripted se false x y=operate [x,y] (getItem x y)) {Q:Value→Shared→Prop} (k:∀ v w tk,K v→VR G s.heap v w→Q w { s with toks:=tk }) :
  wpAny G.M A (subscriptTail ve se x y) Q E s:=by
 have listAt:∀ (l:Addr) (ws:List Value) (i:Int) (t:Tok) (n:Nat) (v:Value),IsL s.heap l ws.toArray n→ws.length≤ax→0≤gf ws.length i→ws[(gf ws.length i).toNat]?=some v→x=.ref l→y=.int i t→(∀ tk,Q v { s with toks:=tk })→wpAny G.M A (subscriptTail ve se x y) Q E s:=fun l ws i t n v hl hz h0 hv e1 e2 hq=>by
  subst e1;subst e2
  have hlt:(gf ws.length i).toNat<ws.length:=(ay.mp hv).1
  unfold gf at h0 hv hlt
  unfold ax at hz
  by_cases hi:i<0
  ·simp only [hi,uf] at h0 hv hlt
   exact tail_any hl.isList.typeIs A0.lookup (wpAny_getItem_list_neg hl.isList hi (by simp only [bh];(exact pI (.ik (.g .L) .A) .a (.ik .O (.a .A .L)) h0)) (by exact mw .a3 .b .bX (.ik .O (.a .A .L)) hz h0) (by simpa using hv) (hq s.toks)) hs
  ·simp only [hi,iq] at h0 hv hlt
   exact tail_any hl.isList.typeIs A0.lookup (wpAny_getItem_list hl.isList (by exact jf .a1 .a (.ig .A .O) hi) (by exact(Ar.ton _).elim (fun q1=>(E8 .aY .q .bX .J (.ie .P .A) hz hlt q1.2)) fun q1=>(jf .aY .a .aW q1.1)) (by simpa using hv) (hq s.toks)) hs
 have tupAt:∀ (l:Addr) (ws:List Value) (i:Int) (t:Tok) (n:Nat) (v:Value),IsT s.heap l ws.toArray n→i.natAbs<2^60→0≤gf ws.length i→ws[(gf ws.length i).toNat]?=some v→x=.ref l→y=.int i t→(∀ tk,Q v { s with toks:=tk })→wpAny G.M A (subscriptTail ve se x y) Q E s:=fun l ws i t n v hl hz h0 hv e1 e2 hq=>by
  subst e1;subst e2
  have hlt:(gf ws.length i).toNat<ws.length:=(ay.mp hv).1
  have hT:IsTup s.heap l ws.toArray:=⟨_,hl,rfl,n,rfl⟩
  refine tail_any hT.typeIs slot_tuple_getitem.lookup (PyProof.Rows.getItem_tuple hT (by exact(Ar.nab _).elim (fun q1=>(jf .a3 .a .a1 q1.1)) fun q1=>(mw .a3 .e .W .aJ hz q1.2)) (by exact(Ar.nab _).elim (fun q1=>(mw .aY .e .W .aF hz q1.2)) fun q1=>(jf .aY .a .aW q1.1)) (j:=(gf ws.length i).toNat) ?_ (by simpa using hv) (hq s.toks)) hs
  unfold seqIndex?
  rw [bh]
  change (if (decide (0≤gf ws.length i)&&decide (gf ws.length i<ws.length))=true then some (gf ws.length i).toNat else none)=_
  rw [bp]
  simp only [cq,d7];(exact⟨(jf .a1 .a .a1 h0),((Ar.ton _).elim (fun q1=>(pH (.il .A .L) .e .J (.ie .P .A) hlt q1.2)) fun q1=>(pH (.il .A .L) .b .J .aW hlt q1.1))⟩)
 cases a with
 | lst a =>
  obtain rfl:=va
  obtain⟨i,rfl,xs,v,e,h0,hx,hk⟩:=nr (v:=b) h
  obtain⟨t,rfl⟩:=vb
  obtain⟨ws,n,hl,hv⟩:=R.L _ _ e
  have hlen:=hv.length
  obtain⟨w,hw,vr⟩:=hv.get hx
  rw [hlen] at h0 hw
  exact listAt _ ws _ _ n w hl (hlen▸R.Ll _ _ e) h0 hw rfl rfl fun tk=>k v w tk hk vr
 | ro ns =>
  obtain⟨i,rfl,v,hz,h0,hx,hk⟩:=nr (v:=b) h
  obtain⟨t,rfl⟩:=vb
  obtain⟨a,ws,n,rfl,g,r⟩:=va
  have hv:=VRs.ints (G:=G) (h:=s.heap) r
  have hlen:=r.length.symm
  obtain⟨w,hw,vr⟩:=hv.get (v:=.int v) (by rw [bw,hx];rfl)
  rw [hlen] at h0 hw
  exact listAt _ ws _ _ _ w (R.base _ _ g) (hlen▸hz) h0 hw rfl rfl fun tk=>k (.int v) w tk hk vr
 | tup xs =>
  obtain⟨i,rfl,v,hb,h0,hx,hk⟩:=nr (v:=b) h
  obtain⟨t,rfl⟩:=vb
  obtain⟨a,ws,n,rfl,g,r⟩:=va
  obtain⟨w,hw,vr⟩:=r.get hx
  exact tupAt _ _ _ _ _ _ g hb (r.length▸h0) (r.length▸hw) rfl rfl fun tk=>k v w tk hk vr
 | dct a =>
  obtain rfl:=va
  obtain⟨es,kk,v,e,hkey,hl,hk⟩:=h
  obtain⟨ds,hd,hv⟩:=R.D _ _ e
  have hh:=hv.look kk
  rw [hl] at hh
  cases hq:valueAt ds kk with
  | none=>rw [hq] at hh;exact hh.elim
  | some w =>
   rw [hq] at hh
   exact tail_any hd.typeIs slot_dict_getitem.lookup (wpAny_getItem_of (key_is hkey vb) hd.mapOf hq (k v w _ hk hh)) hs
 | _=>exact False.elim h
end
end MP
end
section
namespace MP
open PySem PyProof.Rows
structure GOk (G:Stc):Prop where
 cls:∃ N mN,ClsAt G.hb G.cS N mN∧mN "__getattribute__"=none∧mN "__getattr__"=none∧mN "__setattr__"=none∧∀ x∈G.attrs,mN x=none∧typeLookup (.type "object") x=pure none
 len:G.attrs.length≤100
 nd:G.attrs.Nodup
 sys:∃ o,G.hb.get? sysModules=some o
 names:∃ mg mb,G.hb.Ns mainGlobals mg∧G.hb.Ns builtinsNs mb∧∀ x,G.gl x=(mg x).or (mb x)
noncomputable def isSlice (x:Expr):Bool:=eK 26 x
theorem e8 {se:Expr} (h:isSlice se=false) (x y:Value):subscripted se false x y=operate [x,y] (getItem x y):=by
 cases se<;>first | rfl | exact Bool.noConfusion h
section
variable {G:Stc} {C:Cal} {sc:Scope} {d:Nat}
theorem sP {a b:Ex} {x y:Expr} {pos:Pos} (ha:cz G C sc d a x) (hb:cz G C sc d b y) (hs:isSlice y=false):cz G C sc d (.sub a b) (.Subscript x y pos):=fun A E env ρ σ Q s ao es eo F R h =>
 Subscript_ (mr (ha A E env ρ σ _ s ao es eo F R h) fun v σ₁ h₁ tk w q vr r x =>
  mr (hb A E env ρ σ₁ _ { s with heap:=h₁,toks:=tk } ao es eo (F.evo x) r q) fun v₂ σ₂ h₂ tk₂ w₂ q₂ vr₂ r₂ x₂ =>
   wL (s:={ s with heap:=h₂,toks:=tk₂ }) r₂ (vr.mono x₂.frz) vr₂ q₂ (e8 hs _ _) fun v w tk q vr=>fx.back (tk:=tk₂) (x.trans x₂) (fx.here (s:={ s with heap:=h₂,toks:=tk₂ }) q vr r₂))
noncomputable def D6 (G:Stc) (C:Cal) (sc:Scope) (d:Nat) (e:Ex) (x:Option Expr):Prop:=(e=.none∧x=none)∨∃ y,x=some y∧cz G C sc d e y
theorem D6.at {e:Ex} {x:Option Expr} (p:D6 G C sc d e x) (A:Around) (E:Value→Shared→Prop) (env:Env) (ρ:Fr) (σ:St) (Q:V→St→Prop) (s:Shared) (ao:AOk A d) (es:env.scope=sc) (eo:jl env) (F:FR G σ env ρ s.heap) (R:Rel G σ s.heap)
  (h:wpE C e ρ σ Q):wpAny G.M A (evalPart x env) (fx G [] σ s Q) E s:=by
 rcases p with ⟨rfl,rfl⟩ | ⟨y,rfl,p⟩
 ·exact evalPart_none_step (fx.vm h .none R)
 ·exact evalPart_some_step (p A E env ρ σ Q s ao es eo F R h)
theorem BU (a:Int) (n:Nat):(max 0 (min a n)).toNat=min n a.toNat:=by
 rcases xu a 0 with h | h
 ·rw [Int.toNat_of_nonpos h,Nat.min_zero,Int.max_eq_left (Int.le_trans (Int.min_le_left ..) h)];rfl
 ·rcases xu a n with h' | h'
  ·rw [Int.min_eq_left h',Int.max_eq_right h,Nat.min_eq_right (Int.toNat_le.mpr h')]
  ·rw [Int.min_eq_right h',Int.max_eq_right (Int.natCast_nonneg n),ef,Nat.min_eq_left ((Int.le_toNat h).mpr h')]
theorem j6 (n:Nat) (i:Int):clipAt n i=dt n i:=BU _ n
theorem part_of {h:Heap} {v:V} {w:Value} {k:Nat} {i:Int} (vr:VR G h v w) (e:eJ k v=some i):∃ o,IsPart w o∧o.getD k=i:=by
 cases v
 case none=>obtain rfl:=vr;exact⟨none,.none,af e⟩
 case int=>obtain⟨t,rfl⟩:=vr;exact⟨_,.int _ _,af e⟩
 all_goals exact fu e
theorem rI (n:Nat) (o:Option Int) {i:Int} (h:o.getD (0:Nat)=i):o.elim 0 (clipAt n)=dt n i:=by
 cases o with
 | none=>simp at h;subst h;simp [dt,gf]
 | some j=>simp at h;subst h;exact j6 n j
theorem rH (n:Nat) (o:Option Int) {i:Int} (h:o.getD (n:Nat)=i):o.elim n (clipAt n)=dt n i:=by
 cases o with
 | none=>obtain rfl:=(h:(n:Int)=i);exact(Nat.min_self n).symm
 | some j=>simp at h;subst h;exact j6 n j
theorem wN {A:Around} {E:Value→Shared→Prop} {s:Shared} {σ:St} {a b c:V} {x y z:Value} {ve:Expr} {lo hi:Option Expr} {p:Pos} {Q:V→St→Prop} (R:Rel G σ s.heap) (va:VR G s.heap a x) (vb:VR G s.heap b y) (vc:VR G s.heap c z) (h:s9 a b c σ Q) :
  wpAny G.M A (subscriptTail ve (.Slice lo hi none p) x (.ref s.heap.objs.size)) (fx G [] σ s Q) E { s with heap:=s.heap.push { cls:=.type "slice",data:=.fields #[y,z,.none] } }:=by
 have go:∀ (l:Addr) (xs:List V) (ws:List Value) (n:Nat) (i j:Int),x=.ref l→IsL s.heap l ws.toArray n→VRs G s.heap xs ws→xs.length≤ax→eJ 0 b=some i→eJ xs.length c=some j→(∀ c,σ.L c=none→Q (.lst c) (σ.ct c ((xs.take (dt xs.length j)).drop (dt xs.length i)))) →
   wpAny G.M A (subscriptTail ve (.Slice lo hi none p) x (.ref s.heap.objs.size)) (fx G [] σ s Q) E { s with heap:=s.heap.push { cls:=.type "slice",data:=.fields #[y,z,.none] } }:=fun l xs ws n i j e hl hv hz hi hj q=>by
  subst e
  obtain⟨o1,p1,e1⟩:=part_of vb hi
  obtain⟨o2,p2,e2⟩:=part_of vc hj
  have hl':(s.heap.push { cls:=.type "slice",data:=.fields #[y,z,.none] }).IsList l ws.toArray:=(hl.push _).isList
  have hlen:=hv.length
  refine tail_any (T:="list") (id:="list.__getitem__") (ops:=[.ref s.heap.objs.size,.ref l]) ?_ A0.lookup (wpAny_getItem_list_slice hl' (Heap.IsSliceOf.new ..) p1 p2 .none (by simp) ?_ (by simp only [bh];rw [← hlen];exact lq hz)) rfl
  ·exact hl'.typeIs
  ·have e:slicePick ws.toArray o1 o2 none=((ws.take (dt ws.length j)).drop (dt ws.length i)).toArray:=by
    rw [slicePick_plain,bh,rI ws.length o1 e1,rH ws.length o2 (hlen▸e2),List.drop_take]
   rw [e]
   have R':=R.push { cls:=.type "slice",data:=.fields #[y,z,.none] }
   have hv':=((hv.take (dt xs.length j)).drop (dt xs.length i)).mono (h':=s.heap.push { cls:=.type "slice",data:=.fields #[y,z,.none] }) fun _ _ e _=>aj _ e
   rw [← hlen]
   exact iK (s:=s) (tk:=s.toks) R' (Evo.push _ _ _ _) hv' (by simp only [jw,ip];(exact jj .A .d .N .b8 .aS hz (Ar.fm _ _).2.1 (Nat.sub_le _ _))) q
 cases a with
 | lst a =>
  obtain rfl:=va
  obtain⟨xs,i,j,e,hi,hj,_,_,q⟩:=h
  obtain⟨ws,n,hl,hv⟩:=R.L _ _ e
  exact go _ xs ws n i j rfl hl hv (R.Ll _ _ e) hi hj q
 | ro ns =>
  obtain⟨a,ws,n,rfl,g,r⟩:=va
  obtain⟨i,j,hz,hi,hj,_,_,q⟩:=h
  refine go _ _ _ _ i j rfl (R.base _ _ g) (VRs.ints r) (by simpa using hz) hi (by simpa using hj) fun c hc=>?_
  have:=q c hc
  simpa [List.map_drop,List.map_take] using this
 | _=>exact False.elim h
theorem AO {a b c:Ex} {x:Expr} {lo hi:Option Expr} {p pos:Pos} (ha:cz G C sc d a x) (hb:D6 G C sc d b lo) (hc:D6 G C sc d c hi):cz G C sc d (.slc a b c) (.Subscript x (.Slice lo hi none p) pos):=fun A E env ρ σ Q s ao es eo F R h =>
 Subscript_ (mr (ha A E env ρ σ _ s ao es eo F R h) fun v σ₁ h₁ tk w q vr r x =>
  wpAny_Slice (mr (hb.at A E env ρ σ₁ _ { s with heap:=h₁,toks:=tk } ao es eo (F.evo x) r q) fun v₂ σ₂ h₂ tk₂ w₂ q₂ vr₂ r₂ x₂ =>
   mr (hc.at A E env ρ σ₂ _ { s with heap:=h₂,toks:=tk₂ } ao es eo (F.evo (x.trans x₂)) r₂ q₂) fun v₃ σ₃ h₃ tk₃ w₃ q₃ vr₃ r₃ x₃ =>
    evalPart_none_step (ba (wN (s:={ s with heap:=h₃,toks:=tk₃ }) r₃ ((vr.mono x₂.frz).mono x₃.frz) (vr₂.mono x₃.frz) vr₃ q₃) (fun _ _ l=>fx.back (x.trans (x₂.trans x₃)) l) fun _ _ x=>x)))
noncomputable def pf (x:Expr):Bool:=!(eK 16 x&&(kids x).tail.isEmpty)
theorem wm {o:Expr} (h:pf o=true) (attr:Str) (env:Env) (whole:Sem Value):attributeBase o attr env whole=whole:=by
 cases o with
 | Call f args kws pos =>
  cases args with
  | nil=>exact Bool.noConfusion h
  | cons a as=>cases f<;>rfl
 | _=>rfl
theorem yp.inst {h:Heap} {a dd:Addr} {f:Nat→Option V} (I:yp G h a dd f) {m:Str→Option Value} (hm:h.Ns1 dd m):h.Inst a G.cS m:=by
 obtain⟨o,ho,hc,hd,hn⟩:=I.here
 exact⟨o,ho,hc,hn,.inr ⟨dd,hd,I.ne,hm⟩⟩
theorem mJ {h:Heap} {v:V} {w:Value} (vr:VR G h v w):handedOut w=pure w:=by
 cases v
 case int=>obtain⟨t,rfl⟩:=vr;rfl
 case str=>obtain⟨t,rfl⟩:=vr;rfl
 case tup=>obtain⟨_,_,_,rfl,_⟩:=vr;rfl
 case mt=>obtain⟨_,_,_,_,rfl,_⟩:=vr;rfl
 case dM=>obtain⟨_,_,rfl,_⟩:=vr;rfl
 case eC=>obtain⟨_,_,rfl,_⟩:=vr;rfl
 case ro=>obtain⟨_,_,_,rfl,_⟩:=vr;rfl
 case clo=>exact vr.elim
 all_goals obtain rfl:=vr;rfl
theorem nK {A:Around} {E:Value→Shared→Prop} {s:Shared} {σ:St} {a dd:Addr} {f:Nat→Option V} {i:Nat} {name:Str} {u:V} {expr:Bool} {Q:Value→Shared→Prop} (K:GOk G) (R:Rel G σ s.heap) (hI:σ.I a=some (dd,f)) (hn:G.attrs[i]?=some name) (hu:f i=some u)
  (k:∀ w tk,VR G s.heap u w→Q w { s with toks:=tk }):wpAny G.M A (getAttr (.ref a) name expr) Q E s:=by
 obtain⟨N,mN,X,hga,hgt,hsa,hat⟩:=K.cls
 have I:=R.I a dd f hI
 obtain⟨m,hm,hv,_⟩:=I.ns
 have ov:=hv i name hn
 rw [hu] at ov
 cases hq:m name with
 | none=>rw [hq] at ov;exact ov.elim
 | some w =>
  rw [hq] at ov
  obtain⟨hh,g,dr,t,os⟩:=s
  obtain⟨nm,q,bs,sn,sub,col,d2,k0,k1,k2,k3,k5,hC⟩:=(X.keeps R.base).obj
  have hmem:=ew hn
  exact load_attr hC (X.keeps R.base).ns hga (hat name hmem).1 (hat name hmem).2 (I.inst hm) hq (mJ ov) (k w _ ov)
theorem nM {a:Ex} {i:Nat} {x:Expr} {name:Str} {pos:Pos} (K:GOk G) (ha:cz G C sc d a x) (hb:pf x=true) (hn:G.attrs[i]?=some name):cz G C sc d (.attr a i) (.Attribute x name pos):=fun A E env ρ σ Q s ao es eo F R h =>
 Attribute_any_ (mr (ha A E env ρ σ _ s ao es eo F R h) fun v σ₁ h₁ tk w q vr r x=>by
  obtain⟨b,dd,f,u,rfl,hI,hu,q⟩:=q
  obtain rfl:=vr
  exact nK (s:={ s with heap:=h₁,toks:=tk }) K r hI hn hu fun w tk' vr=>fx.back (tk:=tk) x (fx.here (s:={ s with heap:=h₁,toks:=tk }) q vr r)) (by rw [arm_eval_Attribute,wm hb])
end
end MP
end
section
namespace MP
open PySem PyProof.Rows
noncomputable def isStar:Expr→Bool
 | .Starred _ _=>true
 | _=>false
noncomputable def noStar:List Expr→Bool
 | []=>true
 | e::r=>!isStar e&&noStar r
theorem band {a b:Bool} (h:(a&&b)=true):a=true∧b=true:=(cq a b).mp h
theorem e9 {e:Expr} (h:(!isStar e)=true) (r:List Expr) (env:Env):starEach (e::r) env=(false,eval e env)::starEach r env:=by
 cases e<;>first | rfl | exact Bool.noConfusion h
theorem tq:{args:List Expr}→noStar args=true→(env:Env)→starEach args env=args.map fun e=>(false,eval e env)
 | [],_,env=>rfl
 | e::r,h,env=>(e9 (band h).1 r env).trans (bx (_::·) (tq (band h).2 env))
theorem cu {x:Expr} {xs:List Expr} (h:noStar (x::xs)=true):(∀ env,starEach (x::xs) env=(false,eval x env)::starEach xs env)∧noStar xs=true :=
 ⟨e9 (band h).1 xs,(band h).2⟩
theorem gi {args:List Expr} (h:noStar args=true) (pos:Pos) (env:Env):(backTo pos (starEach args env)).any (·.1)=false:=by
 rw [tq h]
 simp [backTo,List.any_eq_false]
theorem rX {args:List Expr} (h:noStar args=true) (pos:Pos) (env:Env):(backTo pos (starEach args env)).all (fun x=>!x.1)=true:=by
 rw [tq h]
 simp [backTo]
theorem ki {M:Model} {A:Around} {E:Value→Shared→Prop} {s:Shared} {f:Value} {trees:List (Bool × Sem Value)} {Q:Args→Shared→Prop} (hp:trees.any (·.1)=false) (h:wpAny M A (spliced trees) (fun vs s'=>Q ⟨vs,[]⟩ s') E s):wpAny M A (evalArgs f true trees []) Q E s:=by
 cases trees with
 | nil =>
  unfold evalArgs
  show wpAny M A (spliced []>>=_) Q E s
  refine ab (ba h (fun vs s' h'=>?_) fun _ _ x=>x)
  refine bu ?_
  exact ab (ae (ab (ae (ae h'))))
 | cons t r =>
  obtain⟨b,x⟩:=t
  simp only [List.any_cons,Bool.or_eq_false_iff] at hp
  obtain⟨rfl,_⟩:=hp
  exact Calls.evalArgs_plain h
section
variable {G:Stc} {C:Cal} {sc:Scope} {d:Nat}
theorem pa {A:Around} {E:Value→Shared→Prop} {s:Shared} {env:Env} {o:Expr} {name:Str} {args:List Expr} {apos pos:Pos} {Q:Value→Shared→Prop} (hb:pf o=true) (hs:noStar args=true) (hlen:args.length<30) (hline:(apos.endLine==pos.line)=true)
  (h:wpAny G.M A (eval o env) (fun ov s₁=>∀ pl,wpAny G.M A (getMethod ov name pl) (fun p s₂=>wpAny G.M A (callWith pos p.1 p.2 (backTo pos (starEach args env)) []) Q E s₂) E s₁) E s) :
  wpAny G.M A (eval (.Call (.Attribute o name apos) args [] pos) env) Q E s:=by
 rw [arm_eval_Call,wm hb]
 refine ab (ba h (fun ov s₁ h₁=>?_) fun _ _ e=>e)
 refine ab (fg ?_)
 have hform:methodCallForm (args.length+([]:List Keyword).length) (backTo pos (starEach args env)) (backToKw pos (keywordEach [] env))=true:=by
  unfold methodCallForm
  rw [rX hs]
  show decide (args.length<30)=true
  exact fc hlen
 have hpos:methodCallPos true o env apos pos=pure pos:=by unfold methodCallPos;simp [hline]
 unfold methodCall
 rw [hform]
 refine ab (bu (ba (h₁ _) (fun p s₂ h₂=>?_) fun _ _ e=>e))
 exact ab (di hpos h₂)
theorem oz {A:Around} {E:Value→Shared→Prop} {s:Shared} {env:Env} {ρ:Fr} {σ:St} {id:String} {first:List Value} {es:Exs} {args:List Expr} {pos:Pos} {P:List V→St→Prop} {Q:Value→Shared→Prop} (hs:noStar args=true) (hes:ke G C sc d es args)
  (ao:AOk A d) (hsc:env.scope=sc) (eo:jl env) (F:FR G σ env ρ s.heap) (R:Rel G σ s.heap) (h:rz C es ρ σ P)
  (k:∀ vs σ₁ h₁ tk ws,P vs σ₁→VRs G h₁ vs ws→Rel G σ₁ h₁→Evo [] σ s.heap σ₁ h₁→wpAny G.M A (call (.builtin id) (first++ws)) Q E { s with heap:=h₁,toks:=tk }) :
  wpAny G.M A (callWith pos (.builtin id) first (backTo pos (starEach args env)) []) Q E s :=
 Calls.callWith_builtin (gi hs pos env) (ki (gi hs pos env) (jJ (hes A E env ρ σ P s pos ao hsc eo F R h) k))
theorem pP {σ:St} {h:Heap} {a:Addr} {xs ys:List V} {ws us:List Value} {n:Nat} {f:Array Value→Array Value} (R:Rel G σ h) (e:σ.L a=some xs) (hl:IsL h a ws.toArray n) (hv:VRs G h ys us) (hz:ys.length≤ax) (hf:f ws.toArray=us.toArray) :
  Rel G (σ.ct a ys) (h.update a (Obj.mapSeq f))∧Evo [] σ h (σ.ct a ys) (h.update a (Obj.mapSeq f)):=by
 have hu:=hl.update f
 rw [hf] at hu
 have x:At a h (h.update a (Obj.mapSeq f)):=⟨fun b o hb eb=>(iy h _ (pn hb)).trans eb,⟨_,hu⟩,fun o eo=>by
  obtain rfl:=af (eo.symm.trans hl);exact uk rfl rfl⟩
 exact⟨R.putL x (fun q=>by rw [e] at q;cases q) hu hv hz,Evo.putL x (fun q=>by rw [e] at q;cases q) _⟩
noncomputable def n0:BM→Str
 | .append=>"append" | .pop=>"pop" | .insert=>"insert" | .extend=>"extend" | .sort=>"sort" | .index=>"index" | .count=>"count" | .get=>"get" | .setdefault=>"setdefault" | .add=>"add"
noncomputable def I3:BM→String
 | .append=>"list.append" | .pop=>"list.pop" | .insert=>"list.insert" | .extend=>"list.extend" | .sort=>"list.sort" | .index=>"list.index" | .count=>"list.count" | .get=>"dict.get" | .setdefault=>"dict.setdefault" | .add=>"set.add"
theorem oA {h:Heap} {a:Addr} {items:Array Value} {n:Nat} (hl:IsL h a items n):∀ b,Value.ref a=.ref b→∃ ob,h.get? b=some ob∧ob.dict=none:=fun b e=>by
 injection e with e;subst e;exact⟨_,hl,rfl⟩
theorem kD {A:Around} {E:Value→Shared→Prop} {s:Shared} {σ:St} {k:BM} {v:V} {w:Value} {pl:Sem Bool} {Q:Value × List Value→Shared→Prop} (R:Rel G σ s.heap) (vr:VR G s.heap v w) (h:I2 k v σ) (q:Q (.builtin (I3 k),[w]) s) :
  wpAny G.M A (getMethod w (n0 k) pl) Q E s:=by
 have lst:∀ (a:Addr) (name:Str) (id:String),(σ.L a).isSome=true→Slot "list" name id→typeOf (.builtin id)=pure (.type "method_descriptor")→Q (.builtin id,[.ref a]) s→wpAny G.M A (getMethod (.ref a) name pl) Q E s:=fun a name id e sl ty q=>by
  obtain⟨xs,e⟩:=cc.mp e
  obtain⟨ws,n,hl,_⟩:=R.L _ _ e
  exact getMethod_builtin ⟨_,hl,rfl⟩ PySem.F.plainAttrs_list sl ty (oA hl) q
 cases k
 case get =>
  obtain⟨a,rfl,h⟩:=eE (v:=v) h
  obtain rfl:=vr
  obtain⟨xs,e⟩:=cc.mp h
  obtain⟨ds,hd,_⟩:=R.D _ _ e
  exact getMethod_builtin hd.typeIs PySem.F.plainAttrs_dict PySem.F.slot_dict_get PySem.F.type_dict_get hd.mapOf.noDict q
 case setdefault =>
  obtain⟨a,rfl,h⟩:=eE (v:=v) h
  obtain rfl:=vr
  obtain⟨xs,e⟩:=cc.mp h
  obtain⟨ds,hd,_⟩:=R.D _ _ e
  exact getMethod_builtin hd.typeIs PySem.F.plainAttrs_dict PySem.F.slot_dict_setdefault PySem.F.type_dict_setdefault hd.mapOf.noDict q
 case add =>
  obtain⟨a,rfl,h⟩:=BL (v:=v) h
  obtain rfl:=vr
  obtain⟨xs,e⟩:=cc.mp h
  exact getMethod_set_add (R.S _ _ e) q
 all_goals
  obtain⟨a,rfl,h⟩:=rg (v:=v) h
  obtain rfl:=vr
 case append=>exact lst _ _ _ h dR PySem.F.type_list_append q
 case pop=>exact lst _ _ _ h PySem.F.slot_list_pop PySem.F.type_list_pop q
 case insert=>exact lst _ _ _ h PySem.F.slot_list_insert PySem.F.type_list_insert q
 case extend=>exact lst _ _ _ h PySem.F.slot_list_extend PySem.F.type_list_extend q
 case sort=>exact lst _ _ _ h PySem.F.slot_list_sort PySem.F.type_list_sort q
 case index=>exact lst _ _ _ h PySem.F.slot_list_index PySem.F.type_list_index q
 case count=>exact lst _ _ _ h PySem.F.slot_list_count PySem.F.type_list_count q
end
end MP
end
section
namespace MP
open PySem PyProof.Rows
section
variable {G:Stc} {A:Around} {E:Value→Shared→Prop} {s:Shared} {σ:St}
theorem hO (K:GOk G) (R:Rel G σ s.heap) {b:Addr} (d:σ.dom b):(b==sysModules)=false:=by
 refine rf.mpr fun e=>?_
 obtain⟨o,ho⟩:=K.sys
 have:=R.new b d
 rw [e,ho] at this;cases this
theorem DRs.put {h:Heap} {k:Key} {v:V} {w:Value} (vr:VR G h v w) {es:List (Key × V)} {ds:List (Key × Value)} (r:DRs G h es ds):DRs G h (putD es k v) (stored ds k w):=by
 have hany:∀ {es:List (Key × V)} {ds:List (Key × Value)},DRs G h es ds→(es.any fun e=>e.1==k)=ds.any fun kv=>decide (kv.1=k):=by
  intro es
  induction es with
  | nil=>intro ds r;obtain rfl:=r;rfl
  | cons e es ih=>intro ds r;obtain⟨w,us,rfl,a,r⟩:=r;rw [List.any_cons,List.any_cons,ih r];rfl
 have hmap:∀ {es:List (Key × V)} {ds:List (Key × Value)},DRs G h es ds→DRs G h (es.map fun e=>if e.1=k then (k,v) else e) (ds.map fun kv=>if kv.1=k then (kv.1,w) else kv):=by
  intro es
  induction es with
  | nil=>intro ds r;obtain rfl:=r;exact .nil
  | cons e es ih =>
   intro ds r
   obtain⟨k',v'⟩:=e
   obtain⟨w',us,rfl,a,r⟩:=r
   rw [mq,mq]
   by_cases hk:k'=k
   ·subst hk;rw [bp rfl,bp rfl];exact .cons vr (ih r)
   ·rw [aw hk,aw hk];exact .cons a (ih r)
 have happ:∀ {es:List (Key × V)} {ds:List (Key × Value)},DRs G h es ds→DRs G h (es++[(k,v)]) (ds++[(k,w)]):=by
  intro es
  induction es with
  | nil=>intro ds r;obtain rfl:=r;exact .cons vr .nil
  | cons e es ih=>intro ds r;obtain⟨w',us,rfl,a,r⟩:=r;exact .cons a (ih r)
 unfold putD stored
 rw [hany r]
 split
 ·exact hmap r
 ·exact happ r
theorem DRs.length {h:Heap}:{es:List (Key × V)}→{ds:List (Key × Value)}→DRs G h es ds→es.length=ds.length
 | [],_,e=>e▸rfl
 | _::_,_,⟨_,_,e,_,r⟩=>e▸bx (·+1) r.length
theorem OV.getD {h:Heap} {v:Option V} {w:Option Value} {u:V} {x:Value} (o:OV G h v w) (a:VR G h u x):VR G h (v.getD u) (w.getD x):=by
 cases v<;>cases w
 ·exact a
 ·exact False.elim o
 ·exact False.elim o
 ·exact o
theorem gI (es:List (Key × V)) (k:Key) (v:V):(putD es k v).length≤es.length+1:=by
 unfold putD;split<;>simp
theorem CR (R:Rel G σ s.heap) {a:Addr} {es:List (Key × V)} (e:σ.D a=some es):∀ b f,σ.I b≠some (a,f):=fun b f q=>by
 have:=R.apart b a f q;rw [e] at this;cases this
theorem GK {h':Heap} {a:Addr} {es es':List (Key × V)} {ds:List (Key × Value)} (R:Rel G σ s.heap) (e:σ.D a=some es) (hs:Heap.SameBut a s.heap h') (hd:h'.DictOf G.kk a ds) (hv:DRs G s.heap es' ds) (hz:es'.length≤ax) :
  Rel G (σ.oh a es') h'∧Evo [] σ s.heap (σ.oh a es') h':=by
 obtain⟨ds0,⟨o,ees,ep,ho,hc,hdt,_⟩,_⟩:=R.D _ _ e
 obtain⟨o',ees',ep',ho',_⟩:=id hd
 have x:At a s.heap h':=At.qL hs ho (pj hdt) ho'
 exact⟨R.putD x (fun q=>by rw [e] at q;cases q) (CR R e) hd hv hz,Evo.putD x (fun q=>by rw [e] at q;cases q) _⟩
theorem yO {v:V} {k:Key} {w:Value} {h:Heap} (hk:v.mG=some k) (vr:VR G h v w):w.scannable=true:=by
 cases v
 case int=>obtain⟨t,rfl⟩:=vr;rfl
 case str=>obtain⟨t,rfl⟩:=vr;rfl
 all_goals exact fu hk
theorem xZ {es:List (Key × V)} {k:Key} (h:es.lookup k=none) (v:V):putD es k v=es++[(k,v)]:=by
 unfold putD
 rw [aw]
 simp only [List.any_eq_true,not_exists,not_and]
 intro e he hk
 rw [so] at h
 have:=h e he
 simp only [sg] at hk
 simp [hk] at this
theorem uO (R:Rel G σ s.heap) {a:Addr} {es:List (Key × V)} (e:σ.D a=some es):Rel G (σ.oh a es) s.heap∧Evo [] σ s.heap (σ.oh a es) s.heap:=by
 have:σ.oh a es=σ:=by
  unfold St.oh
  have:upd σ.D a es=σ.D:=by
   funext b
   unfold upd
   split
   ·rename_i h;rw [h,e]
   ·rfl
  rw [this]
 rw [this]
 exact⟨R,Evo.refl _ _ _⟩
theorem VRs.one {h:Heap} {v:V} {ws:List Value}:VRs G h [v] ws→∃ w,ws=[w]∧VR G h v w
 | ⟨w,us,e,a,r⟩=>⟨w,e.trans (bx (w::·) r),a⟩
theorem VRs.two {h:Heap} {v u:V} {ws:List Value}:VRs G h [v,u] ws→∃ w w',ws=[w,w']∧VR G h v w∧VR G h u w'
 | ⟨w,us,e,a,r⟩=>by obtain⟨w',e',b⟩:=VRs.one r;exact⟨w,w',e.trans (bx (w::·) e'),a,b⟩
theorem insert_eq (us:List Value) (y:Value) {x:Int} (h0:0≤x):(fun xs:Array Value=>have k:=if x<0 then (x+((xs.size:Nat):Int)).toNat else min x.toNat xs.size;(xs.extract 0 k).push y++xs.extract k) us.toArray=(us.take (dt us.length x)++y::us.drop (dt us.length x)).toArray:=by
 have e:(if x<0 then (x+((us.toArray.size:Nat):Int)).toNat else min x.toNat us.toArray.size)=dt us.length x:=by
  unfold dt gf
  rw [aw (by exact jf (.ig .A .O) .a .a1 h0),aw (by exact jf (.ig .A .O) .a .a1 h0)];simp [Nat.min_comm]
 show((us.toArray.extract 0 (if x<0 then (x+((us.toArray.size:Nat):Int)).toNat else min x.toNat us.toArray.size)).push y++us.toArray.extract (if x<0 then (x+((us.toArray.size:Nat):Int)).toNat else min x.toNat us.toArray.size))=_
 rw [e,← Array.toList_inj]
 simp only [List.extract_toArray,List.extract_eq_take_drop,List.push_toArray,List.append_toArray,Nat.sub_zero,List.drop_zero,bh,ix,List.singleton_append]
 rw [List.take_of_length_le (l:=us.drop _) (by simp)]
theorem pY {k:BM} {v:V} {w:Value} {vs:List V} {ws:List Value} {Q:V→St→Prop} (K:GOk G) (hk:k≠.sort) (R:Rel G σ s.heap) (vr:VR G s.heap v w) (vrs:VRs G s.heap vs ws) (h:GI k v vs σ Q) :
  wpAny G.M A (call (.builtin (I3 k)) (w::ws)) (fx G [] σ s Q) E s:=by
 cases k
 case append =>
  obtain⟨a,rfl,h⟩:=rg (v:=v) h
  obtain rfl:=vr
  obtain⟨x,rfl,xs,e,hz,q⟩:=gK (vs:=vs) h
  obtain⟨wa,rfl,va⟩:=vrs.one
  obtain⟨us,n,hl,hv⟩:=R.L _ _ e
  have hlen:=hv.length
  refine xr dR ⟨_,hl,rfl⟩ PySem.F.entry_list_append (PySem.F.args_list_append_2 _ _) (list_append _ _ _ _ (by simp only [bh];rw [← hlen];exact lq (by exact av .A .a .B hz))) ⟨hl,?_⟩
  obtain⟨r',x'⟩:=pP (f:=fun x=>x.push wa) R e hl (hv.append (.cons va .nil)) (by simp;(exact av .F .a .B hz)) (by simp)
  exact⟨.none,_,_,_,rfl,q,.none,r',x'⟩
 case pop =>
  obtain⟨a,rfl,h⟩:=rg (v:=v) h
  obtain rfl:=vr
  obtain⟨rfl,xs,v,e,q⟩:=sY (vs:=vs) h
  obtain rfl:=vrs
  obtain⟨us,n,hl,hv⟩:=R.L _ _ e
  have hlen:=hv.length
  have hz:=R.Ll _ _ e
  obtain⟨u,hu,vu⟩:=hv.get (i:=xs.length) (v:=v) (by simp)
  have hlen':us.length=xs.length+1:=by rw [← hlen];simp
  refine xr PySem.F.slot_list_pop ⟨_,hl,rfl⟩ PySem.F.entry_list_pop (PySem.F.args_list_pop_1 _) (MeetsSeq.list_pop_last _ _ _ u (by simp only [bh];rw [hlen'];simpa using hu) (by simp only [bh];rw [← hlen];exact lq hz)) ⟨hl,?_⟩
  obtain⟨r',x'⟩:=pP (f:=fun x=>x.eraseIdxIfInBounds (us.toArray.size-1)) (us:=us.take xs.length) R e hl (by simpa using hv.take xs.length) (by simp at hz;(exact av .A .a .F hz)) (by
   have e:us.toArray.eraseIdxIfInBounds (us.toArray.size-1)=(us.eraseIdx (us.length-1)).toArray:=by simp
   rw [e,List.eraseIdx_eq_take_drop_succ]
   simp [hlen'])
  exact⟨v,_,_,_,rfl,q,vu.mono x'.frz,r',x'⟩
 case insert =>
  obtain⟨a,rfl,h⟩:=rg (v:=v) h
  obtain rfl:=vr
  obtain⟨z,x,rfl,h⟩:=gJ (vs:=vs) h
  obtain⟨i,rfl,xs,e,hz,h0,hb,q⟩:=nr (v:=z) h
  obtain⟨wa,wb,rfl,⟨t,rfl⟩,vb⟩:=vrs.two
  obtain⟨us,n,hl,hv⟩:=R.L _ _ e
  have hlen:=hv.length
  refine xr PySem.F.slot_list_insert ⟨_,hl,rfl⟩ PySem.F.entry_list_insert (PySem.F.args_list_insert_3 _ _ _) (AutoListH.list_insert_list_int_val_1 _ _ _ _ _ _ (by simp [Builtin.List.listFitsIndex];(exact⟨(jf (.ik (.ng 9223372036854775808) .A) .a .a1 h0),(jf (.il .A (.n 9223372036854775808)) .a (.il .A (.n (2^60))) hb)⟩)) (by simp only [bh];rw [← hlen];exact lq (by exact av .A .a .B hz))) ⟨hl,?_⟩
  have hi:=insert_eq us wb h0
  have hv2:=fun k=>(hv.take k).append (.cons vb (hv.drop k))
  rw [← hlen] at hi
  obtain⟨r',x'⟩:=pP (f:=fun xs=>have k:=if _<0 then (_+((xs.size:Nat):Int)).toNat else min (Int.toNat _) xs.size;(xs.extract 0 k).push wb++xs.extract k) R e hl (hv2 (dt xs.length _)) (by simp only [bg,bz,ip,jw];(exact Ar.sub _ _ (fun q1 p1=>(jt .H .d .aN .cC (.e .a6 .D) hz (Ar.fm _ _).1 p1)) fun q1 p1=>(jj .H .d .aN .aS (.e .B .O) hz (Ar.fm _ _).2.1 p1))) hi
  exact⟨.none,_,_,_,rfl,q,.none,r',x'⟩
 case extend =>
  obtain⟨a,rfl,h⟩:=rg (v:=v) h
  obtain rfl:=vr
  obtain⟨x,rfl,h⟩:=gK (vs:=vs) h
  obtain⟨b,rfl,xs,ys,hne,e1,e2,hz,q⟩:=rg (v:=x) h
  obtain⟨wa,rfl,rfl⟩:=vrs.one
  obtain⟨us,n,hl,hv⟩:=R.L _ _ e1
  obtain⟨ts,m,hl',hv'⟩:=R.L _ _ e2
  have hlen:=hv.length;have hlen':=hv'.length
  have hz1:us.length+ts.length≤sizeLine:=by rw [← hlen,← hlen'];exact lq hz
  refine xr PySem.F.slot_list_extend ⟨_,hl,rfl⟩ PySem.F.entry_list_extend (PySem.F.args_list_extend_2 _ _) (AutoSeq1.list_extend_list_list_0 _ _ _ _ _ _ ?_ (by simp only [bh];(exact cv .A .a .aP hz1)) (by simp only [bh];(exact cv (.k .P .R) .a .G hz1))) ⟨hl,hl',?_⟩
  ·simp only [bh,Builtin.List.listTooLong];rw [show sizeLine=16777216 from rfl] at hz1;simp;intro _;first | omega | (unfold sizeLine;(exact av (.k .P .aI) .a (.k .P .a9) hz1))
  ·obtain⟨r',x'⟩:=pP (f:=fun x=>x++ts.toArray) R e1 hl (hv.append hv') (by simpa using hz) (by simp)
   exact⟨.none,_,_,_,rfl,q,.none,r',x'⟩
 case index=>exact False.elim h
 case count=>exact False.elim h
 case get =>
  obtain⟨a,rfl,h⟩:=eE (v:=v) h
  obtain rfl:=vr
  obtain⟨x,y,rfl,es,kk,e,hkey,q⟩:=gJ (vs:=vs) h
  obtain⟨wa,wb,rfl,va,vb⟩:=vrs.two
  obtain⟨ds,hd,hv⟩:=R.D _ _ e
  have hl:=hv.look kk
  refine call_meetsIn PySem.F.slot_dict_get hd.typeIs PySem.F.entry_dict_get (PySem.F.args_dict_get_3 _ _ _) (meets_dict_get_default G.kk _ (key_is hkey va) (hO K R (.inr (.inl (by rw [e];rfl)))) _) ⟨_,hd.mapOf,?_⟩
  exact⟨_,σ,s.heap,_,rfl,q,hl.getD vb,R,Evo.refl _ _ _⟩
 case setdefault =>
  obtain⟨a,rfl,h⟩:=eE (v:=v) h
  obtain rfl:=vr
  obtain⟨x,y,rfl,es,kk,e,hkey,hz,q⟩:=gJ (vs:=vs) h
  obtain⟨wa,wb,rfl,va,vb⟩:=vrs.two
  obtain⟨ds,hd,hv⟩:=R.D _ _ e
  have hl:=hv.look kk
  have hlen:=hv.length
  refine call_meetsIn PySem.F.slot_dict_setdefault hd.typeIs PySem.F.entry_dict_setdefault (PySem.F.args_dict_setdefault_3 _ _ _) (kt_meets_setdefault G.kk _ (key_is hkey va) (hO K R (.inr (.inl (by rw [e];rfl)))) _) ⟨ds,hd,by rw [← hlen];exact lq (by exact av .A .a .B hz),fun v' hv'=>?_,fun hn h' hm' hs'=>?_⟩
  ·rw [hv'] at hl
   cases h1:es.lookup kk with
   | none=>rw [h1] at hl;exact hl.elim
   | some u =>
    rw [h1] at hl q
    simp only [Option.getD_some,Option.isSome_some,uf] at q
    obtain⟨r',x'⟩:=uO R e
    exact⟨u,_,s.heap,_,rfl,q,hl,r',x'⟩
  ·rw [hn] at hl
   cases h1:es.lookup kk with
   | some u=>rw [h1] at hl;exact hl.elim
   | none =>
    rw [h1] at q
    simp only [Option.getD_none,sh,cw,iq] at q
    have e2:=xZ h1
    obtain⟨r',x'⟩:=GK R e hs' hm' (hv.put vb) (jd (gI _ _ _) (by exact av .F .a .B hz))
    rw [e2] at r' x'
    exact⟨_,_,h',_,rfl,q,vb.mono x'.frz,r',x'⟩
 case add=>exact False.elim h
 case sort=>exact absurd rfl hk
theorem ET {C:Cal} {sc:Scope} {d:Nat} {k:BM} {a:Ex} {es:Exs} {o:Expr} {args:List Expr} {apos pos:Pos} (K:GOk G) (hk:k≠.sort) (ha:cz G C sc d a o) (hes:ke G C sc d es args) (hb:pf o=true) (hs:noStar args=true) (hlen:args.length<30) (hline:(apos.endLine==pos.line)=true) :
  cz G C sc d (.bm k a es) (.Call (.Attribute o (n0 k) apos) args [] pos):=fun A E env ρ σ Q s ao ess eo F R h =>
 pa hb hs hlen hline (mr (ha A E env ρ σ _ s ao ess eo F R h) fun v σ₁ h₁ tk w q vr r x pl =>
  kD (s:={ s with heap:=h₁,toks:=tk }) r vr q.1 (oz (s:={ s with heap:=h₁,toks:=tk }) hs hes ao ess eo (F.evo x) r q.2 fun vs σ₂ h₂ tk₂ ws q₂ vrs r₂ x₂ =>
   ba (pY (s:={ s with heap:=h₂,toks:=tk₂ }) K hk r₂ (vr.mono x₂.frz) vrs q₂) (fun _ _ l=>fx.back (x.trans x₂) l) fun _ _ x=>x))
end
end MP
end
section
namespace MP
open PySem PyProof.Rows
noncomputable def zf (p:Arguments):Bool:=p.posonlyargs.isEmpty&&p.kwonlyargs.isEmpty&&p.vararg.isNone&&p.kwarg.isNone
noncomputable def addDefaults:List (Str × Value)→List (Str × Value)→List (Str × Value)
 | slots,[]=>slots
 | slots,(n,d)::r=>addDefaults (if (slots.lookup n).isNone then slots++[(n,d)] else slots) r
theorem ub {M:Model} {A:Around} {E:Value→Shared→Prop} {s:Shared} (f:Str × Value→List (Str × Value)→Sem (ForInStep (List (Str × Value))))
  (hf:∀ n d slots,f (n,d) slots=if (slots.lookup n).isNone then pure (.yield (slots++[(n,d)])) else pure (.yield slots)) :
  ∀ (l:List (Str × Value)) (slots:List (Str × Value)) (Q:List (Str × Value)→Shared→Prop),Q (addDefaults slots l) s→wpAny M A (forIn l slots f) Q E s
 | [],slots,Q,h=>by rw [jy];exact ae h
 | (n,d)::r,slots,Q,h=>by
  rw [lp,hf]
  refine ab ?_
  unfold addDefaults at h
  split
  ·rename_i hc
   rw [bp hc] at h
   exact ae (ub f hf r _ Q h)
  ·rename_i hc
   rw [aw hc] at h
   exact ae (ub f hf r _ Q h)
theorem ud:∀ (l₁ l₂ slots:List (Str × Value)),addDefaults slots (l₁++l₂)=addDefaults (addDefaults slots l₁) l₂
 | [],_,_=>rfl
 | (n,d)::r,l₂,slots=>by simp only [fE,addDefaults];exact ud r l₂ _
theorem wc:∀ (l slots:List (Str × Value)),(∀ p∈l,(slots.lookup p.1).isSome=true)→addDefaults slots l=slots
 | [],_,_=>rfl
 | (n,d)::r,slots,h=>by
  have h1:=h (n,d) (.head _)
  simp only [addDefaults]
  rw [aw (by cases hq:slots.lookup n<;>simp_all)]
  exact wc r slots fun p hp=>h p (.tail _ hp)
theorem rn {slots:List (Str × Value)} {n:Str} (h:n∈slots.map (·.1)):(slots.lookup n).isSome=true:=by
 cases hq:slots.lookup n with
 | some v=>rfl
 | none =>
  rw [so] at hq
  obtain⟨p,hp,rfl⟩:=ee.mp h
  have:=hq p hp
  simp at this
theorem lookup_none_of_not_mem {slots:List (Str × Value)} {n:Str} (h:n∉slots.map (·.1)):slots.lookup n=none:=by
 rw [so]
 intro p hp
 simp only [bne_iff_ne,ne_eq,rf]
 rintro rfl
 exact h (ee.mpr ⟨p,hp,rfl⟩)
theorem xi:∀ (l slots:List (Str × Value)),(l.map (·.1)).Nodup→(∀ n∈l.map (·.1),n∉slots.map (·.1))→addDefaults slots l=slots++l
 | [],_,_,_=>by simp [addDefaults]
 | (n,d)::r,slots,hn,h=>by
  simp only [mq,List.nodup_cons] at hn
  have h1:=h n (.head _)
  simp only [addDefaults]
  rw [bp (by rw [lookup_none_of_not_mem h1];rfl)]
  rewrite [xi r _ hn.2 fun m hm=>?_]
  ·simp
  ·have h2:=h m (.tail _ hm)
   simp only [fb,mq,List.map_nil,dz,au,kj]
   exact⟨h2,fun e=>hn.1 (e▸hm)⟩
theorem nP {n₁ n₂:List Str} {vals d₁ d₂:List Value} (hnd:(n₁++n₂).Nodup) (h1:n₁.length=vals.length) (h2:n₂.length=d₂.length) (h3:d₁.length≤n₁.length) :
  addDefaults ((n₁++n₂).zip vals) (((n₁++n₂).drop ((n₁++n₂).length-(d₁++d₂).length)).zip (d₁++d₂))=(n₁++n₂).zip (vals++d₂):=by
 have e0:(n₁++n₂).zip vals=n₁.zip vals:=by
  have:=List.zip_append (l₁:=n₁) (r₁:=n₂) (l₂:=vals) (r₂:=[]) h1
  simpa using this
 have e1:(n₁++n₂).drop ((n₁++n₂).length-(d₁++d₂).length)=n₁.drop (n₁.length-d₁.length)++n₂:=by
  rw [bg,bg,show n₁.length+n₂.length-(d₁.length+d₂.length)=n₁.length-d₁.length by exact pF .C .y .b0 (.e (.a .A .aK) (.a .G .C)) (.e .a6 .G) h2 (aa (dn (.k .P .Y) .s (.e .D .B) .I h2 h3)) (aa (av .A .a .A h3)),List.drop_append,show n₁.length-d₁.length-n₁.length=0 by(exact Ar.sub _ _ (fun q1 p1=>(Ar.sub _ _ (fun q2 p2=>(dn .M [[1,0,0],[1,1,1]] .aQ (.e .Y .B) p1 p2)) fun q2 p2=>(eh .M [[1,0,0],[1,1,1]] .aQ .b3 p1 p2))) fun q1 p1=>(dh .M .B .M p1))]
  rfl
 have f1:(n₁.zip vals).map (·.1)=n₁:=List.map_fst_zip (by exact av .A .a .C h1)
 have f2:(n₂.zip d₂).map (·.1)=n₂:=List.map_fst_zip (by exact av .A .a .C h2)
 have hd:=List.nodup_append.mp hnd
 rw [e0,e1,List.zip_append (by rw [jw];(exact Ar.sub _ _ (fun q1 p1=>(Ar.sub _ _ (fun q2 p2=>(dn .C .n .bM (.e .a0 .D) p1 p2)) fun q2 p2=>(eT .C [[1,1,-1,0,1],[1,0,1,1,0]] .bJ .b2 .N .bN h3 p1 q2 p2))) fun q1 p1=>(Ar.sub _ _ (fun q2 p2=>(jj .C .l .a7 .M (.e .aB .C) q1 p1 p2)) fun q2 p2=>(eT .C [[1,1,1,0,1],[1,0,0,1,0]] .bJ .a7 .M .bN h3 q1 p1 p2)))),ud]
 have e2:addDefaults (n₁.zip vals) ((n₁.drop (n₁.length-d₁.length)).zip d₁)=n₁.zip vals:=wc _ _ fun p hp=>by
  refine rn ?_
  rw [f1]
  exact List.mem_of_mem_drop (List.of_mem_zip hp).1
 rw [e2,xi,List.zip_append h1]
 ·rw [f2];exact hd.2.1
 ·intro n hn hm
  rw [f1] at hm;rw [f2] at hn
  exact hd.2.2 n hm n hn rfl
theorem uN {ns:List Str} {vals ds:List Value} (hnd:ns.Nodup) (h1:vals.length≤ns.length) (h2:ns.length≤vals.length+ds.length) (h3:ds.length≤ns.length) :
  addDefaults (ns.zip vals) ((ns.drop (ns.length-ds.length)).zip ds)=ns.zip (vals++ds.drop (ds.length-(ns.length-vals.length))):=by
 have en:=List.take_append_drop vals.length ns
 have ed:=List.take_append_drop (ds.length-(ns.length-vals.length)) ds
 have:=nP (n₁:=ns.take vals.length) (n₂:=ns.drop vals.length) (vals:=vals) (d₁:=ds.take (ds.length-(ns.length-vals.length))) (d₂:=ds.drop (ds.length-(ns.length-vals.length)))
  (by rw [en];exact hnd) (by rw [ip];(exact(Ar.fm _ _).2.2.elim (fun q1=>(dq .C .i .A .a4 (Ar.fm _ _).1 q1)) fun q1=>(kc .C .l .bJ .A .aR h1 (Ar.fm _ _).1 q1))) (by rw [jw,jw];(exact Ar.sub _ _ (fun q1 p1=>(Ar.sub _ _ (fun q2 p2=>(dn .C [[1,1,-1],[1,-1,1]] (.e .Q .D) (.e .a8 .D) p1 p2)) fun q2 p2=>(n3 .C [[1,0,0,1,1,0],[1,1,1,-1,0,1]] (.k .C .a1) .b2 (.e (.a .B .G) .F) (.k .F .A) (.e .G .O) h2 (aa (av .A .a .A h1)) p1 q2 p2))) fun q1 p1=>(Ar.sub _ _ (fun q2 p2=>(jj .C [[1,0,1,0],[1,1,0,1]] .a7 (.e .B .O) (.e (.a .D .A) .C) q1 p1 p2)) fun q2 p2=>(n3 .C [[1,0,0,0,1,0],[1,1,1,1,0,1]] (.k .C .a1) .b2 (.k .F .G) (.e .B .O) (.e .G .O) h2 (aa (av .A .a .A h1)) q1 p1 p2)))) (by rw [ip,ip];(exact Ar.sub _ _ (fun q1 p1=>((Ar.fm _ _).2.2.elim (fun q2=>(Ar.sub _ _ (fun q3 p3=>(vQ .A [[1,1,1,1,1,-1]] .a7 .cC (.e .a3 .C) (.k .H .B) (.e (.a .G .H) .D) h3 (Ar.fm _ _).1 p1 q2 p3)) fun q3 p3=>(vQ .A [[1,1,1,1,1,1]] .a7 .cC (.e .a3 .C) (.k .H .B) (.k .D .H) h3 (Ar.fm _ _).1 p1 q2 q3))) fun q2=>(jj .A .d .a7 .I .bB h3 (Ar.fm _ _).2.1 q2))) fun q1 p1=>(eh .A .b .I .b3 (Ar.fm _ _).1 p1)))
 rw [en,ed] at this
 exact this
theorem nV:∀ (ms:List Str) (n:Str) (u:Value) (l:List (Str × Value)),n∉ms→(ms.filterMap fun m=>(((n,u)::l).lookup m).map (m,·))=ms.filterMap fun m=>(l.lookup m).map (m,·)
 | [],_,_,_,_=>rfl
 | m::ms,n,u,l,h=>by
  simp only [cf,kj] at h
  have e:((n,u)::l).lookup m=l.lookup m:=by rw [fD,rf.mpr (pn h.1)]
  simp only [List.filterMap_cons,e,nV ms n u l h.2]
theorem nW:∀ {ns:List Str} {us:List Value},ns.Nodup→us.length=ns.length→(ns.filterMap fun n=>((ns.zip us).lookup n).map (n,·))=ns.zip us
 | [],_,_,_=>by simp
 | n::ns,[],_,h=>by simp at h
 | n::ns,u::us,hn,h=>by
  simp only [List.nodup_cons] at hn
  have ih:=nW (ns:=ns) (us:=us) hn.2 (by simpa using h)
  simp only [List.zip_cons_cons,List.filterMap_cons,List.lookup_cons_self,wt]
  rw [nV ns n u _ hn.1,ih]
theorem rU {M:Model} {A:Around} {E:Value→Shared→Prop} {s:Shared} {fd:FuncData} {vals ds:List Value} {Q:List (Str × Value)→Shared→Prop} (hp:zf fd.params=true)
  (hd:∀ (Q:Option (Array Value)→Shared→Prop),(∀ o,(o.getD #[]).toList=ds→Q o s)→wpAny M A (seqItems? fd.defaults) Q E s)
  (hnd:(fd.params.args.map (·.arg)).Nodup) (h1:vals.length≤fd.params.args.length) (h2:fd.params.args.length≤vals.length+ds.length) (h3:ds.length≤fd.params.args.length)
  (h:Q ((fd.params.args.map (·.arg)).zip (vals++ds.drop (ds.length-(fd.params.args.length-vals.length)))) s):wpAny M A (bindArgs fd ⟨vals,[]⟩) Q E s:=by
 obtain⟨nm,qn,params,body,sc,gl,clo,df,kdf,dc,pm,cd,bl⟩:=fd
 obtain⟨po,args,va,ko,kd,ka,dfs⟩:=params
 simp only [zf,cq,List.isEmpty_iff,qr] at hp
 obtain⟨⟨⟨rfl,rfl⟩,rfl⟩,rfl⟩:=hp
 dsimp only at hd hnd h1 h2 h3 h
 have hlen:(args.map (·.arg)).length=args.length:=az _
 generalize hns:args.map (·.arg)=ns at *
 rw [← hlen] at h1 h2 h3 h
 unfold bindArgs
 dsimp only
 rw [hns]
 simp only [List.map_nil,List.nil_append,dp,jy]
 refine ab (ae ?_)
 refine ab (hd _ fun o ho=>?_)
 dsimp only
 rw [ho,aw (by simp;(exact av .A .a .A h1))]
 have hdd:ds.drop (ds.length-ns.length)=ds:=by rw [show ds.length-ns.length=0 by(exact dh .M .B .M (Nat.sub_eq_zero_of_le (av .A .a .A h3)))];rfl
 rw [hdd,aw]
 ·refine ab (ub _ (fun n d slots=>by first | rfl | (split<;>rfl)) _ _ _ ?_)
  rw [uN hnd h1 h2 h3]
  refine ab (ae ?_)
  dsimp only
  rw [aw (by simp),nW hnd (by rw [bg,jw];(exact Ar.sub _ _ (fun q1 p1=>(Ar.sub _ _ (fun q2 p2=>(Ar.sub _ _ (fun q3 p3=>(pF .aQ .p (.e (.a .B .D) .F) (.e (.a .D .G) .F) (.e (.a .G .A) .C) p1 p2 p3)) fun q3 p3=>(n3 .aQ [[1,0,0,0,1,0],[1,1,1,-1,0,1]] .I (.e (.a .B .D) .F) (.e (.a .D .G) .F) .aR (.e .G .O) h1 p1 p2 q3 p3))) fun q2 p2=>(Ar.sub _ _ (fun q3 p3=>(n3 .aQ [[1,1,-1,0,1,0],[1,0,1,1,0,1]] (.k .C .T) (.e .a6 .D) (.k .D .G) .b7 (.e (.a .G .A) .C) h2 p1 q2 p2 p3)) fun q3 p3=>(I9 .aQ [[1,1,0,-1,0,1,0],[1,0,1,1,1,0,1]] (.k .C .T) .I (.e .a6 .D) (.k .D .G) .b7 (.e .G .O) h2 h1 p1 q2 p2 p3)))) fun q1 p1=>(Ar.sub _ _ (fun q2 p2=>(Ar.sub _ _ (fun q3 p3=>(n3 .aQ [[1,0,1,0,1,-1],[1,1,0,1,0,0]] .I (.k .D .F) (.e .B .O) (.e .a3 .D) (.e (.a .G .A) .C) h1 q1 p1 p2 p3)) fun q3 p3=>(kc .aQ [[1,0,0,1],[1,1,1,0]] .I (.e .B .O) .aR h1 p1 q3))) fun q2 p2=>(G4 .aQ [[1,1,0,1,0,1],[1,0,1,0,1,0]] (.k .C .T) .I (.k .D .F) (.e .B .O) .b7 h2 h1 q1 p1 p2))))]
  exact ae h
 ·simp only [fh,Bool.not_eq_false,List.isEmpty_iff,List.filter_eq_nil_iff]
  intro n hn hq
  have hm:n∈(ns.zip vals).map (·.1):=by
   have e0:ns.zip vals=(ns.take vals.length).zip vals:=by
    have:=List.zip_append (l₁:=ns.take vals.length) (r₁:=ns.drop vals.length) (l₂:=vals) (r₂:=[]) (by rw [ip];(exact(Ar.fm _ _).2.2.elim (fun q1=>(dq .C .i .A .a4 (Ar.fm _ _).1 q1)) fun q1=>(kc .C .l .bJ .A .aR h1 (Ar.fm _ _).1 q1)))
    simpa using this
   rw [e0,List.map_fst_zip (by rw [ip];(exact av .A .a .A (Ar.fm _ _).1))]
   rw [List.mem_take_iff_getElem] at hn ⊢
   obtain⟨i,hi,e⟩:=hn
   exact⟨i,by(first | exact(Ar.fm _ _).2.2.elim (fun q1=>(vQ .B [[1,1,1,1,1,1]] (.k .C .a1) (.l .A .G) (.k .G .H) (.e (.a .H .F) .C) .bB h2 hi (Ar.fm _ _).1 (aa (av .A .a .A h3)) q1)) fun q1=>(jj .B .d .S .a7 .bB hi (Ar.fm _ _).2.1 q1) | omega),e⟩
  have hm':=rn hm
  rw [qr] at hq
  rw [hq] at hm'
  cases hm'
end MP
end
section
namespace MP
open PySem PyProof.Rows
noncomputable def envX (env:Env):List Addr:=env.locals::env.cells.map (·.2)
inductive FlR (G:Stc) (h:Heap):Fl→Flow→Prop
 | next:FlR G h .next .next
 | brk:FlR G h .brk .brk
 | cont:FlR G h .cont .cont
 | ret {v:V} {w:Value}:VR G h v w→FlR G h (.ret v) (.ret w)
inductive my (G:Stc) (env:Env) (σ:St) (s:Shared) (K:Fl→Fr→St→Prop) (f:Flow) (s':Shared):Prop
 | mk (fl:Fl) (ρ':Fr) (σ':St) (h':Heap) (tk:Nat):s'={ s with heap:=h',toks:=tk }→FlR G h' fl f→K fl ρ' σ'→FR G σ' env ρ' h'→Rel G σ' h'→Evo (envX env) σ s.heap σ' h'→my G env σ s K f s'
inductive lE (G:Stc) (env:Env) (σ:St) (s:Shared) (K:Fr→St→Prop) (s':Shared):Prop
 | mk (ρ':Fr) (σ':St) (h':Heap) (tk:Nat):s'={ s with heap:=h',toks:=tk }→K ρ' σ'→FR G σ' env ρ' h'→Rel G σ' h'→Evo (envX env) σ s.heap σ' h'→lE G env σ s K s'
theorem mem_of_lookup {α β:Type} [BEq α] [LawfulBEq α] {l:List (α × β)} {x:α} {c:β} (h:l.lookup x=some c):(x,c)∈l:=by
 induction l with
 | nil=>simp at h
 | cons p r ih =>
  obtain⟨y,b⟩:=p
  rw [fD] at h
  split at h
  ·rename_i hy;cases h;rw [sg] at hy;subst hy;exact .head _
  ·exact .tail _ (ih h)
section
variable {G:Stc} {env:Env} {σ σ₁:St} {s:Shared} {h₁:Heap} {tk:Nat}
theorem Evo.wide {σ':St} {h h':Heap} (x:Evo [] σ h σ' h') (env:Env):Evo (envX env) σ h σ' h':=x.more fun _ h=>(nomatch h)
theorem my.back {K:Fl→Fr→St→Prop} {f:Flow} {s':Shared} (x:Evo (envX env) σ s.heap σ₁ h₁) (l:my G env σ₁ { s with heap:=h₁,toks:=tk } K f s'):my G env σ s K f s':=by
 obtain⟨fl,ρ',σ',h',t,rfl,a,b,c,d,e⟩:=l
 exact⟨fl,ρ',σ',h',t,rfl,a,b,c,d,x.trans e⟩
theorem lE.back {K:Fr→St→Prop} {s':Shared} (x:Evo (envX env) σ s.heap σ₁ h₁) (l:lE G env σ₁ { s with heap:=h₁,toks:=tk } K s'):lE G env σ s K s':=by
 obtain⟨ρ',σ',h',t,rfl,b,c,d,e⟩:=l
 exact⟨ρ',σ',h',t,rfl,b,c,d,x.trans e⟩
theorem Rel.frame {h h':Heap} {a:Addr} {o':Obj} (R:Rel G σ h) (hs:Heap.SameBut a h h') (hd:¬ σ.dom a) (hb:G.hb.get? a=none) (hf:gp h h'):Rel G σ h' :=
 R.same (fun b o e d=>by rw [hs.2 b (fun hb=>hd (hb▸d))];exact e) hf fun b o e=>by rw [hs.2 b (fun h=>by subst h;rw [hb] at e;cases e)];exact R.base b o e
theorem Evo.frame {h h':Heap} {a:Addr} {o':Obj} {X:List Addr} (hs:Heap.SameBut a h h') (ha:h'.get? a=some o') (hX:a∈X) (hf:gp h h'):Evo X σ h σ h' :=
 ⟨fun b o e _ hx=>by rw [hs.2 b (fun hb=>hx (hb▸hX))];exact e,hf,fun b d=>.inl d,uv hs ha⟩
theorem eG {names:List (Str × NameKind)} (nd:(names.map (·.1)).Nodup) {i j:Nat} {x:Str} {k k':NameKind} (hi:names[i]?=some (x,k)) (hj:names[j]?=some (x,k')):i=j:=by
 have h1:(names.map (·.1))[i]?=some x:=by rw [bw,hi];rfl
 have h2:(names.map (·.1))[j]?=some x:=by rw [bw,hj];rfl
 have hlt:i<(names.map (·.1)).length:=(ay.mp h1).1
 exact(List.getElem?_inj hlt nd).mp (h1.trans h2.symm)
noncomputable def uo (k:NameKind):Bool:=k==.local||k==.cell
theorem dB {A:Around} {E:Value→Shared→Prop} {X:List Addr} {ρ:Fr} {i:Nat} {x:Str} {k:NameKind} {v:V} {w:Value} {Q:Unit→Shared→Prop} (eo:jl env) (F:FR G σ env ρ s.heap) (R:Rel G σ s.heap)
  (hi:env.scope.names[i]?=some (x,k)) (hk:uo k=true) (vr:VR G s.heap v w) (hXl:env.locals∈X) (hXc:∀ c,env.cells.lookup x=some c→c∈X)
  (q:∀ h' tk,FR G σ env (upd ρ i v) h'→Rel G σ h'→Evo X σ s.heap σ h'→Q () { s with heap:=h',toks:=tk }):wpAny G.M A (storeName env x w) Q E s:=by
 have hkind:env.kindOf x=some k:=rh eo.nd hi
 cases k with
 | «local» =>
  obtain⟨m,hn,hm⟩:=F.ns
  refine wpAny_storeName_local hkind hn (fun h' hn' hs=>?_) (by rw [eo.kind];rfl)
  have hf:gp s.heap h':=mv hs F.notfrz
  obtain⟨o',es',ep',ho',hd',_⟩:=id hn'
  have R':=R.frame (o':=o') hs F.loc F.new hf
  refine q h' _ ⟨⟨_,hn',fun j y hj=>?_⟩,fun j y k' hj hk'=>?_,F.inj,F.loc,fun o e=>?_,F.new,fun p hp=>by obtain⟨o,e⟩:=F.allc p hp;exact uv hs ho' _ o e⟩ R' (Evo.frame hs ho' hXl hf)
  ·by_cases hij:j=i
   ·subst hij
    rw [hi] at hj;cases hj
    simp only [bc,uf]
    exact vr.mono hf
   ·have hxy:y≠x:=fun e=>hij (by subst e;exact eG eo.nd hj hi)
    simp only [cj hij,hxy,iq]
    exact(hm j y hj).mono hf
  ·obtain⟨c,w',h1,⟨oc,hoc,hd⟩,h3,h4,h5,h6⟩:=F.cells j y k' hj hk'
   have hij:j≠i:=fun e=>by
    subst e;rw [hi] at hj;cases hj;rcases hk' with h | h<;>cases h
   refine⟨c,w',h1,⟨oc,by rw [hs.2 c h5];exact hoc,hd⟩,?_,h4,h5,h6⟩
   rw [cj hij];exact h3.mono hf
  ·rw [ho'] at e;cases e;exact pj hd'
 | cell =>
  obtain⟨c,w₀,hc,hcell,o,h4,h5,h6⟩:=F.cells i x _ hi (.inl rfl)
  refine wpAny_storeName_cell eo.kind hkind hc hcell fun h' hc' hs=>?_
  obtain⟨oc,hoc,hd⟩:=id hcell
  obtain⟨oc',hoc',hd'⟩:=id hc'
  have hf:gp s.heap h':=mv hs fun o e=>by rw [hoc] at e;cases e;exact mX hd
  have R':=R.frame (o':=oc') hs h4 h6 hf
  have hX:c∈X:=hXc c hc
  obtain⟨m,⟨o2,es,ep,ho2,r2⟩,hm⟩:=F.ns
  refine q h' _ ⟨⟨m,⟨o2,es,ep,by rw [hs.2 _ h5.symm];exact ho2,r2⟩,fun j y hj=>?_⟩,fun j y k' hj hk'=>?_,F.inj,F.loc,fun o e=>?_,F.new,fun p hp=>by obtain⟨o,e⟩:=F.allc p hp;exact uv hs hoc' _ o e⟩ R' (Evo.frame hs hoc' hX hf)
  ·have hij:j≠i:=fun e=>by subst e;rw [hi] at hj;cases hj
   rw [cj hij]
   exact(hm j y hj).mono hf
  ·obtain⟨c2,w2,g1,⟨oc2,goc2,gd⟩,g3,g4,g5,g6⟩:=F.cells j y k' hj hk'
   by_cases hij:j=i
   ·subst hij
    rw [hi] at hj;cases hj
    rw [hc] at g1;cases g1
    exact⟨c,some w,hc,hc',by rw [bc];exact vr.mono hf,h4,h5,h6⟩
   ·have hcc:c2≠c:=fun e=>by subst e;exact hij (F.inj j i y x k' _ c2 hj hi hk' (.inl rfl) g1 hc)
    refine⟨c2,w2,g1,⟨oc2,by rw [hs.2 _ hcc];exact goc2,gd⟩,?_,g4,g5,g6⟩
    rw [cj hij];exact g3.mono hf
  ·rw [hs.2 _ h5.symm] at e;exact F.notfrz o e
 | _=>cases hk
theorem tf {A:Around} {E:Value→Shared→Prop} {ρ:Fr} {i:Nat} {x:Str} {k:NameKind} {v:V} {w:Value} {Q:Unit→Shared→Prop} (eo:jl env) (F:FR G σ env ρ s.heap) (R:Rel G σ s.heap)
  (hi:env.scope.names[i]?=some (x,k)) (hk:uo k=true) (vr:VR G s.heap v w)
  (q:∀ h' tk,FR G σ env (upd ρ i v) h'→Rel G σ h'→Evo (envX env) σ s.heap σ h'→Q () { s with heap:=h',toks:=tk }):wpAny G.M A (storeName env x w) Q E s :=
 dB eo F R hi hk vr (.head _) (fun c hc=>.tail _ (ee.mpr ⟨(x,c),mem_of_lookup hc,rfl⟩)) q
end
end MP
end
section
namespace MP
open PySem PyProof.Rows
noncomputable def vg (G:Stc) (C:Cal) (sc:Scope) (d:Nat) (st:Stm) (x:Stmt):Prop :=
 ∀ (A:Around) (E:Value→Shared→Prop) (env:Env) (ρ:Fr) (σ:St) (K:Fl→Fr→St→Prop) (s:Shared),AOk A d→env.scope=sc→jl env→FR G σ env ρ s.heap→Rel G σ s.heap →
  wpS C st ρ σ K→wpAny G.M A (exec x env) (my G env σ s K) E s
noncomputable def d4 (G:Stc) (C:Cal) (sc:Scope) (d:Nat) (st:ky) (xs:List Stmt):Prop :=
 ∀ (A:Around) (E:Value→Shared→Prop) (env:Env) (ρ:Fr) (σ:St) (K:Fl→Fr→St→Prop) (s:Shared),AOk A d→env.scope=sc→jl env→FR G σ env ρ s.heap→Rel G σ s.heap →
  eg C st ρ σ K→wpAny G.M A (execs xs env) (my G env σ s K) E s
section
variable {G:Stc} {C:Cal} {sc:Scope} {d:Nat}
theorem my.here {env:Env} {σ:St} {s:Shared} {tk:Nat} {K:Fl→Fr→St→Prop} {fl:Fl} {f:Flow} {ρ:Fr} (a:FlR G s.heap fl f) (q:K fl ρ σ) (F:FR G σ env ρ s.heap) (R:Rel G σ s.heap):my G env σ s K f { s with toks:=tk } :=
 ⟨fl,ρ,σ,s.heap,tk,rfl,a,q,F,R,Evo.refl _ _ _⟩
theorem my.vm {env:Env} {σ:St} {s:Shared} {K:Fl→Fr→St→Prop} {fl:Fl} {f:Flow} {ρ:Fr} (a:FlR G s.heap fl f) (q:K fl ρ σ) (F:FR G σ env ρ s.heap) (R:Rel G σ s.heap):my G env σ s K f s :=
 ⟨fl,ρ,σ,s.heap,s.toks,rfl,a,q,F,R,Evo.refl _ _ _⟩
theorem uL:d4 G C sc d .nil []:=fun A E env ρ σ K s ao es eo F R h=>wpAny_execs_nil (my.vm .next h F R)
theorem qA {st:Stm} {r:ky} {x:Stmt} {xs:List Stmt} (h₁:vg G C sc d st x) (h₂:d4 G C sc d r xs):d4 G C sc d (.cons st r) (x::xs):=fun A E env ρ σ K s ao es eo F R h =>
 ou (ba (h₁ A E env ρ σ _ s ao es eo F R h) (fun f s' l=>by
  obtain⟨fl,ρ',σ',h',tk,rfl,a,q,F',R',x'⟩:=l
  cases a with
  | next=>exact ba (h₂ A E env ρ' σ' K _ ao es eo F' R' q) (fun _ _ l=>my.back x' l) fun _ _ x=>x
  | brk=>exact⟨.brk,ρ',σ',h',tk,rfl,.brk,q,F',R',x'⟩
  | cont=>exact⟨.cont,ρ',σ',h',tk,rfl,.cont,q,F',R',x'⟩
  | ret v=>exact⟨_,ρ',σ',h',tk,rfl,.ret v,q,F',R',x'⟩) fun _ _ x=>x)
theorem wR {pos:Pos}:vg G C sc d .pass (.Pass pos):=fun A E env ρ σ K s ao es eo F R h=>wpAny_Pass (my.vm .next h F R)
theorem AZ {pos:Pos}:vg G C sc d .brk (.Break pos):=fun A E env ρ σ K s ao es eo F R h=>by
 show wpAny G.M A (do standAt pos;pure Flow.brk) _ _ s
 exact ab (fg (ae (my.vm .brk h F R)))
theorem xB {pos:Pos}:vg G C sc d .cont (.Continue pos):=fun A E env ρ σ K s ao es eo F R h=>by
 show wpAny G.M A (do standAt pos;pure Flow.cont) _ _ s
 exact ab (fg (ae (my.vm .cont h F R)))
theorem x9 {x:Stmt}:vg G C sc d .dead x:=fun A E env ρ σ K s ao es eo F R h=>h.elim
theorem uH {x:Expr}:cz G C sc d .dead x:=fun A E env ρ σ K s ao es eo F R h=>h.elim
theorem uG {x:Expr}:pq G C sc d .dead x:=fun A E env ρ σ K s ao es eo F R h=>h.elim
theorem AP {e:Ex} {x:Expr} {pos:Pos} (he:cz G C sc d e x):vg G C sc d (.ret e) (.Return (some x) pos):=fun A E env ρ σ K s ao es eo F R h =>
 wpAny_Return_some (mr (he A E env ρ σ _ s ao es eo F R h) fun v σ₁ h₁ tk w q vr r x=>⟨.ret v,ρ,σ₁,h₁,tk,rfl,.ret vr,q,F.evo x,r,x.wide env⟩)
theorem wQ {pos:Pos}:vg G C sc d (.ret .none) (.Return none pos):=fun A E env ρ σ K s ao es eo F R h =>
 wpAny_Return_none (my.vm (.ret .none) h F R)
noncomputable def we (x:Expr):Bool:=!(eK 8 x||(eK 9 x||eK 10 x))
theorem yb {e:Expr} (h:we e=true) (t:Option Expr) (n:Nat) (env:Env):swapsWith e t n env=pure false:=by
 cases e<;>first | rfl | exact Bool.noConfusion h
theorem x7 {e:Ex} {x:Expr} {pos:Pos} (he:cz G C sc d e x) (hc:we x=true):vg G C sc d (.expr e) (.Expr x pos):=fun A E env ρ σ K s ao es eo F R h =>
 wpAny_Expr (mr (he A E env ρ σ _ s ao es eo F R h) fun v σ₁ h₁ tk w q vr r x=>by
  obtain⟨rfl,q⟩:=q
  obtain rfl:=vr
  exact⟨.next,ρ,σ₁,h₁,tk,rfl,.next,q,F.evo x,r,x.wide env⟩) (by unfold interactive;rw [eo.kind];rfl) (yb hc _ _ _)
theorem xC {c:Ex} {t e:ky} {x:Expr} {xs ys:List Stmt} {pos:Pos} (hc:pq G C sc d c x) (ht:d4 G C sc d t xs) (he:d4 G C sc d e ys):vg G C sc d (.cond c t e) (.If x xs ys pos):=fun A E env ρ σ K s ao es eo F R h =>
 wpAny_If (jK (hc A E env ρ σ _ s ao es eo F R h) fun b σ₁ h₁ tk q r x=>by
  cases b with
  | true=>exact ba (ht A E env ρ σ₁ K _ ao es eo (F.evo x) r q) (fun _ _ l=>my.back (x.wide env) l) fun _ _ x=>x
  | false=>exact ba (he A E env ρ σ₁ K _ ao es eo (F.evo x) r q) (fun _ _ l=>my.back (x.wide env) l) fun _ _ x=>x)
theorem x6 {c:Ex} {b:ky} {x:Expr} {xs:List Stmt} {pos:Pos} (hc:pq G C sc d c x) (hb:d4 G C sc d b xs):vg G C sc d (.loop c b) (.While x xs [] pos):=fun A E env ρ σ K s ao es eo F R h=>by
 obtain⟨n,h⟩:=h
 refine wpAny_While (codeAny_whileLoop (fun n s'=>∃ ρ' σ' h' tk,s'={ s with heap:=h',toks:=tk }∧t8 (fun again ρ σ=>wpT C c ρ σ fun t σ=>if t then eg C b ρ σ (ph again K) else K .next ρ σ) n ρ' σ'∧FR G σ' env ρ' h'∧Rel G σ' h'∧Evo (envX env) σ s.heap σ' h') ?_ n ⟨ρ,σ,s.heap,s.toks,rfl,h,F,R,Evo.refl _ _ _⟩)
 rintro n s' ⟨ρ',σ',h',tk,rfl,hl,F',R',x'⟩
 cases n with
 | zero=>exact hl.elim
 | succ n =>
  refine jK (hc A _ env ρ' σ' _ { s with heap:=h',toks:=tk } ao es eo F' R' hl) fun t σ₁ h₁ tk₁ q r y=>?_
  cases t with
  | false=>exact wpAny_execs_nil ⟨.next,ρ',σ₁,h₁,tk₁,rfl,.next,q,F'.evo y,r,x'.trans (y.wide env)⟩
  | true =>
   refine ba (hb A _ env ρ' σ₁ _ _ ao es eo (F'.evo y) r q) (fun f s₂ l=>?_) fun _ _ x=>x
   obtain⟨fl,ρ₂,σ₂,h₂,tk₂,rfl,a,q₂,F₂,R₂,x₂⟩:=l
   have x3:=x'.trans ((y.wide env).trans x₂)
   cases a with
   | next=>exact⟨n,fB n,ρ₂,σ₂,h₂,tk₂,rfl,q₂,F₂,R₂,x3⟩
   | cont=>exact⟨n,fB n,ρ₂,σ₂,h₂,tk₂,rfl,q₂,F₂,R₂,x3⟩
   | brk=>exact⟨.next,ρ₂,σ₂,h₂,tk₂,rfl,.next,q₂,F₂,R₂,x3⟩
   | ret v=>exact⟨_,ρ₂,σ₂,h₂,tk₂,rfl,.ret v,q₂,F₂,R₂,x3⟩
end
end MP
end
section
set_option tactic.hygienic true
namespace MP
open PySem PyProof.Rows
noncomputable def LU (G:Stc) (env:Env) (σ:St) (s:Shared) (K:Fr→St→Prop):Unit→Shared→Prop:=fun _ s'=>lE G env σ s K s'
noncomputable def fY (G:Stc) (C:Cal) (sc:Scope) (d:Nat) (t:Tgt) (x:Expr):Prop :=
 ∀ (A:Around) (E:Value→Shared→Prop) (env:Env) (ρ:Fr) (σ:St) (K:Fr→St→Prop) (s:Shared) (v:V) (w:Value),AOk A d→env.scope=sc→jl env→FR G σ env ρ s.heap→Rel G σ s.heap→VR G s.heap v w →
  DB C t v ρ σ K→wpAny G.M A (assign x env w) (LU G env σ s K) E s
section
variable {G:Stc} {C:Cal} {sc:Scope} {d:Nat}
theorem Rel.keeps {σ:St} {h h':Heap} (R:Rel G σ h) (hk:∀ b o,h.get? b=some o→h'.get? b=some o):Rel G σ h':=R.same (fun b o e _=>hk b o e) (fun b o e _=>hk b o e) fun b o e=>hk b o (R.base b o e)
theorem Evo.keeps {σ:St} {X:List Addr} {h h':Heap} (hk:∀ b o,h.get? b=some o→h'.get? b=some o):Evo X σ h σ h':=⟨fun b o e _ _=>hk b o e,fun b o e _=>hk b o e,fun b d=>.inl d,fun b o e=>⟨o,hk b o e⟩⟩
theorem fQ {h h':Heap} (x:Heap.ExtBut h.objs.size h h'):∀ b o,h.get? b=some o→h'.get? b=some o:=fun b o e=>x b o (jn (et e)) e
theorem sJ {i:Nat} {x:Str} {k:NameKind} {pos:Pos} (hi:sc.names[i]?=some (x,k)) (hk:uo k=true):fY G C sc d (.var i) (.Name x pos):=fun A E env ρ σ K s v w ao es eo F R vr h =>
 assign_Name (tf eo F R (by rw [es];exact hi) hk vr fun h' tk F' R' x=>⟨_,σ,h',tk,rfl,h,F',R',x⟩)
theorem nI {A:Around} {E:Value→Shared→Prop} {s:Shared} {σ:St} {a dd:Addr} {f:Nat→Option V} {i:Nat} {name:Str} {u:V} {w:Value} {Q:Unit→Shared→Prop} (K:GOk G) (R:Rel G σ s.heap) (hI:σ.I a=some (dd,f)) (hn:G.attrs[i]?=some name) (vr:VR G s.heap u w)
  (k:∀ h' tk,Rel G (σ.fj a dd (upd f i u)) h'→Evo [] σ s.heap (σ.fj a dd (upd f i u)) h'→Q () { s with heap:=h',toks:=tk }):wpAny G.M A (setAttr (.ref a) name w) Q E s:=by
 obtain⟨N,mN,X,hga,hgt,hsa,hat⟩:=K.cls
 have I:=R.I a dd f hI
 obtain⟨m,hm,hv,hout⟩:=I.ns
 obtain⟨hh,g,dr,t,os⟩:=s
 obtain⟨nm,q,bs,sn,sub,col,d2,k0,k1,k2,k3,k5,hC⟩:=(X.keeps R.base).obj
 have hmem:=ew hn
 have hxC:a≠G.cS:=by
  rintro rfl
  obtain⟨_,_,_,_,_,_,_,_,_,_,_,_,hC0⟩:=X.obj
  have:=R.new _ (.inr (.inr (.inr (.inl (by rw [hI];rfl)))))
  rw [hC0] at this;cases this
 have hw:Within m G.attrs:=fun y hy=>by
  by_cases h:y∈G.attrs
  ·exact h
  ·exact absurd (hout y h) hy
 refine store_attr PySem.F.store_object hC (X.keeps R.base).ns hsa (hat name hmem).1 (hat name hmem).2 hxC (I.inst hm) (fun h' tk' I' hk hsame=>?_) hw (jd K.len (by decide))
 obtain⟨o,ho,hc,hd,hnc⟩:=I.here
 obtain⟨o₁,e₁,c₁,dt₁,sl₁,dk₁⟩:=hsame o ho
 have eo:o₁=o:=by
  obtain⟨oc,od,odt,osl⟩:=o
  obtain⟨oc₁,od₁,odt₁,osl₁⟩:=o₁
  simp only at c₁ dt₁ sl₁ hd
  subst c₁;subst dt₁;subst sl₁
  have:=dk₁ dd hd
  simp only at this
  rw [hd,this]
 subst eo
 have hns':h'.Ns1 dd (fun y=>if y=name then some w else m y):=by
  obtain⟨o',e',_,_,hd'⟩:=I'
  obtain rfl:=af (e₁.symm.trans e')
  rcases hd' with ⟨hn0,_⟩ | ⟨d',hd',_,hns'⟩
  ·rw [hd] at hn0;cases hn0
  ·obtain rfl:=af (hd.symm.trans hd');exact hns'
 have at':At dd hh h':=by
  obtain⟨od,es,ep,hod,hdd,_⟩:=hm
  obtain⟨od',es',ep',hod',_⟩:=hns'
  refine⟨fun b ob hb e=>?_,⟨od',hod'⟩,fun o' e=>?_⟩
  ·by_cases hba:b=a
   ·subst hba
    rw [ho] at e;cases e;exact e₁
   ·exact hk b ob hba (fun o₀ d' e₀ ed=>by
     obtain rfl:=af (ho.symm.trans e₀);obtain rfl:=af (hd.symm.trans ed);exact hb) e
  ·obtain rfl:=af (hod.symm.trans e);exact pj hdd
 have hI':yp G h' a dd (upd f i u):=by
  refine⟨⟨_,e₁,hc,hd,hnc⟩,⟨_,hns',fun j y hj=>?_,fun y hy=>?_⟩,I.ne⟩
  ·by_cases hij:j=i
   ·subst hij
    rw [hn] at hj;cases hj
    simp only [bc,uf]
    exact vr.mono at'.frz
   ·have hxy:y≠name:=fun e=>by
     subst e
     have hlt:j<G.attrs.length:=(ay.mp hj).1
     exact hij ((List.getElem?_inj hlt K.nd).mp (hj.trans hn.symm))
    simp only [cj hij,hxy,iq]
    exact(hv j y hj).mono at'.frz
  ·have:y≠name:=fun e=>hy (e▸hmem)
   simp only [this,iq]
   exact hout y hy
 exact k h' tk' (R.F6 hI at' hI') (Evo.F6 _ hI at')
theorem wD {o:Ex} {i:Nat} {x:Expr} {name:Str} {pos:Pos} (K:GOk G) (ho:cz G C sc d o x) (hn:G.attrs[i]?=some name):fY G C sc d (.attr o i) (.Attribute x name pos):=fun A E env ρ σ Kt s v w ao es eo F R vr h=>by
 rw [assign_Attribute]
 refine ab (bu (mr (ho A E env ρ σ _ s ao es eo F R h) fun u σ₁ h₁ tk w₁ q vr₁ r x=>?_))
 obtain⟨a,dd,f,rfl,hI,q⟩:=q
 obtain rfl:=vr₁
 refine ab (fg (ab (bu (nI (s:={ s with heap:=h₁,toks:=tk }) K r hI hn (vr.mono x.frz) fun h' tk' R' x'=>wpAny_release ?_))))
 exact⟨ρ,_,h',tk',rfl,q,(F.evo x).evo x',R',(x.trans x').wide env⟩
theorem kU {A:Around} {E:Value→Shared→Prop} {it l:Addr} {items:Array Value} (hne:l≠it):∀ (n i:Nat) (s:Shared) (Q:List Value→Shared→Prop),s.heap.IsListIter it l i→s.heap.IsList l items→i+n≤items.size →
  (∀ h',h'.IsListIter it l (i+n)→Heap.SameBut it s.heap h'→Q ((items.toList.drop i).take n) { s with heap:=h' })→wpAny G.M A (draw (.ref it) n) Q E s
 | 0,i,s,Q,hit,hl,hn,hQ=>by
  rw [draw]
  exact ae (by simpa using hQ s.heap hit (.refl ..))
 | n+1,i,s,Q,hit,hl,hn,hQ=>by
  rw [draw]
  have hx:items[i]?=some items[i]:=aO (by exact cv .B .a (.k .a4 .B) hn)
  refine ab (wpAny_pyNext_list_item hit hl hx fun h₁ hit₁ hs₁=>?_)
  have hl₁:h₁.IsList l items:=by obtain⟨o,ho,r⟩:=hl;exact⟨o,by rw [hs₁.2 l hne];exact ho,r⟩
  refine ab (bu (kU hne n (i+1) _ _ hit₁ hl₁ (by exact cv .a2 .a .H hn) fun h₂ hit₂ hs₂=>ae ?_))
  have hd:items.toList.drop i=items[i]::items.toList.drop (i+1):=by
   rw [dj (by simpa using (by(exact cv .B .a (.k .a4 .B) hn):i<items.size))];simp
  have:=hQ h₂ (by rw [show i+(n+1)=i+1+n by(exact vv .b9 .m)];exact hit₂) (hs₁.trans hs₂)
  rw [hd,List.take_succ_cons] at this
  exact this
theorem gT {A:Around} {E:Value→Shared→Prop} {s:Shared} {t:Addr} {items:Array Value} {Q:List Value→Shared→Prop} (hh:A.handled=none) (ht:s.heap.IsList t items)
  (hQ:∀ h',Heap.ExtBut s.heap.objs.size s.heap h'→Q items.toList { s with heap:=h' }):wpAny G.M A (unpackItems (.ref t) items.size none) Q E s:=by
 have hlt:t≠s.heap.objs.size:=by obtain⟨o,ho,_⟩:=ht;exact jn (et ho)
 unfold unpackItems
 refine ab ?_
 ·unfold notIterableAtAll
  refine ab (wpAny_specialOf ht.typeIs slot_list_iter.lookup ?_)
  refine ae ?_
  simp only [cw,iq]
  refine ab (bu (wpAny_pyIter_list ht ?_))
  have hp:(s.heap.push { cls:=.type "list_iterator",data:=.fields #[.ref t,.int 0 0] }).IsList t items:=by obtain⟨o,ho,r⟩:=ht;exact⟨o,aj _ ho,r⟩
  refine ab (bu (kU hlt items.size 0 _ _ ⟨_,cm _ rfl,rfl,rfl⟩ hp (by exact fo (.k (.a .O .A) .A) .j) fun h₁ hit₁ hs₁=>?_))
  have hall:List.take items.size (List.drop 0 items.toList)=items.toList:=by
   rw [List.drop_zero];exact List.take_of_length_le (by simp)
  rw [hall]
  rw [aw (by simp)]
  have ht₁:h₁.IsList t items:=by obtain⟨o,ho,r⟩:=hp;exact⟨o,by rw [hs₁.2 t hlt];exact ho,r⟩
  refine ab (bu (wpAny_pyNext_list_end hh hit₁ ht₁ (by simp) fun h₂ he₂=>?_))
  simp only [sh,cw,iq]
  refine ae (hQ h₂ fun b o hb e=>he₂ b o hb (hs₁.extBut b o hb (aj _ e)))
noncomputable def vS (G:Stc):Prop:=∀ (A:Around) (E:Value→Shared→Prop) (s:Shared) (t:Addr) (ws:List Value) (n:Nat) (dd:Option Addr) (Q:List Value→Shared→Prop),A.handled=none→(∀ b o,G.hb.get? b=some o→s.heap.get? b=some o) →
 s.heap.get? t=some { cls:=.ref G.cM,dict:=dd,data:=.seq ws.toArray n,slots:=#[] } →
 (∀ h',Heap.ExtBut s.heap.objs.size s.heap h'→Q ws { s with heap:=h' })→wpAny G.M A (unpackItems (.ref t) ws.length none) Q E s
theorem sf {A:Around} {E:Value→Shared→Prop} {s:Shared} {σ:St} {v:V} {w:Value} {vs:List V} {Q:List Value→Shared→Prop} (U:vS G) (hh:A.handled=none) (R:Rel G σ s.heap) (vr:VR G s.heap v w) (e:AB v σ=some vs)
  (k:∀ ws h',VRs G h' vs ws→Rel G σ h'→(∀ b o,s.heap.get? b=some o→h'.get? b=some o)→Q ws { s with heap:=h' }):wpAny G.M A (unpackItems w vs.length none) Q E s:=by
 have fin:∀ ws h',VRs G s.heap vs ws→Heap.ExtBut s.heap.objs.size s.heap h'→Q ws { s with heap:=h' }:=fun ws h' r x =>
  k ws h' (r.mono fun b o e _=>fQ x b o e) (R.keeps (fQ x)) (fQ x)
 cases v
 case lst =>
  obtain rfl:=vr
  obtain⟨ws,n,hl,hv⟩:=R.L _ _ e
  have:=gT (G:=G) (A:=A) (E:=E) (Q:=Q) hh hl.isList fun h' x=>fin ws h' hv x
  rw [bh,← hv.length] at this
  exact this
 case tup =>
  obtain⟨a,ws,n,rfl,g,r⟩:=vr
  obtain rfl:=af e
  have:=PyProof.Rows.unpackItems_tuple (prog:=G.prog) (w:=G.w) (A:=A) (E:=E) (Q:=Q) hh ⟨_,g,rfl,_,rfl⟩ fun h' x=>fin _ h' r x
  rw [bh,← r.length] at this
  exact this
 case mt =>
  obtain⟨a,ws,n,dd,rfl,g,r⟩:=vr
  obtain rfl:=af e
  have:=U A E s _ _ _ _ Q hh R.base g fun h' x=>fin _ h' r x
  rw [← r.length] at this
  exact this
 all_goals exact fu e
theorem any_some {α:Type} {a:Option α} {f:α→Bool} (h:a.any f=true):∃ x,a=some x∧f x=true:=by
 cases a with
 | none=>exact Bool.noConfusion h
 | some x=>exact⟨x,rfl,h⟩
noncomputable def zp (sc:Scope) (i:Nat):Str:=(sc.names[i]?.map (·.1)).getD ""
noncomputable def kindAt (k:NameKind→Bool) (sc:Scope) (i:Nat):Bool:=sc.names[i]?.any fun y=>k y.2&&fy y.1
theorem rj {p:NameKind→Bool} {i:Nat} (h:kindAt p sc i=true):∃ k,sc.names[i]?=some (zp sc i,k)∧p k=true∧fy (zp sc i)=true:=by
 obtain⟨y,e,h⟩:=any_some h
 have e':zp sc i=y.1:=by unfold zp;rw [e];rfl
 exact⟨y.2,e'▸e,(band h).1,e'▸(band h).2⟩
noncomputable def pb (sc:Scope):List Nat→List Expr→List Expr
 | []=>fun _=>[]
 | i::is=>fun l=>.Name (zp sc i) (l.headD default).pos::pb sc is l.tail
noncomputable def lV (sc:Scope) (is:List Nat):Bool:=is.all (kindAt uo sc)
theorem fO {env:Env}:(is:List Nat)→(l:List Expr)→(assignEach (pb sc is l) env).length=is.length
 | [],_=>rfl
 | _::is,l=>bx (·+1) (fO is l.tail)
theorem dG {env:Env}:(is:List Nat)→(l:List Expr)→(assignEach (pb sc is l) env).findIdx? (·.1)=none
 | [],_=>rfl
 | _::is,l=>by
  have e:=dG (env:=env) is l.tail
  show List.findIdx? _ ((false,_)::assignEach (pb sc is l.tail) env)=none
  rw [List.findIdx?_cons,e];rfl
noncomputable def sL (elts:List Expr):List Str:=elts.filterMap fun x=>bif eK 23 x then some (ji x) else none
theorem yc {A:Around} {E:Value→Shared→Prop} {env:Env} {X:List Addr} (hsc:env.scope=sc) (eo:jl env) (hXl:env.locals∈X) {σ:St}:(is:List Nat)→(l:List Expr)→{vs:List V}→{ws:List Value}→{ρ:Fr}→{s:Shared}→{Q:Unit→Shared→Prop}→lV sc is=true→is.length=vs.length→(∀ y∈sL (pb sc is l),∀ c,env.cells.lookup y=some c→c∈X) →
  FR G σ env ρ s.heap→Rel G σ s.heap→VRs G s.heap vs ws→(∀ h' tk,FR G σ env (dk is vs ρ) h'→Rel G σ h'→Evo X σ s.heap σ h'→Q () { s with heap:=h',toks:=tk }) →
  wpAny G.M A (assignInOrder ((assignEach (pb sc is l) env).map (·.2)) ws) Q E s
 | [],_,_,ws,_,s,_,_,_,_,F,R,_,k=>by
  show wpAny G.M A (assignInOrder [] ws) _ E s
  exact ae (k s.heap s.toks F R (Evo.refl _ _ _))
 | _::_,_,[],_,_,_,_,_,hl,_,_,_,_,_=>nomatch hl
 | i::is,l,v::vs,_,ρ,s,Q,hn,hl,hX,F,R,⟨w,us,e,va,vr⟩,k=>by
  subst e
  obtain⟨kk,hi,hk,_⟩:=rj (band hn).1
  show wpAny G.M A (do holding us (assign (.Name (zp sc i) (l.headD default).pos) env w);assignInOrder ((assignEach (pb sc is l.tail) env).map (·.2)) us) Q E s
  refine ab (bu (assign_Name (dB eo F R (by rw [hsc];exact hi) hk va hXl (hX _ (.head _)) fun h' tk F' R' x'=>?_)))
  exact yc hsc eo hXl is l.tail (s:={ s with heap:=h',toks:=tk }) (band hn).2 (Nat.succ.inj hl) (fun y hy=>hX y (.tail _ hy)) F' R' (vr.mono x'.frz) fun h2 tk2 F2 R2 x2=>k h2 tk2 F2 R2 (x'.trans x2)
theorem pR {A:Around} {E:Value→Shared→Prop} {env:Env} (hsc:env.scope=sc) (eo:jl env) {σ:St} {is:List Nat} {l:List Expr} {vs:List V} {ws:List Value} {ρ:Fr} {s:Shared} {Q:Unit→Shared→Prop} (h1:lV sc is=true) (h2:is.length=vs.length)
  (F:FR G σ env ρ s.heap) (R:Rel G σ s.heap) (vr:VRs G s.heap vs ws) (k:∀ h' tk,FR G σ env (dk is vs ρ) h'→Rel G σ h'→Evo (envX env) σ s.heap σ h'→Q () { s with heap:=h',toks:=tk }) :
  wpAny G.M A (assignInOrder ((assignEach (pb sc is l) env).map (·.2)) ws) Q E s :=
 yc hsc eo (.head _) is l h1 h2 (fun y _ c hc=>.tail _ (ee.mpr ⟨(y,c),mem_of_lookup hc,rfl⟩)) F R vr k
theorem AD {is:List Nat} {l:List Expr} {k:Nat} {pos:Pos} (U:vS G) (hn:lV sc is=true):fY G C sc d (.tup is) (.Tuple (pb sc is l) k pos):=fun A E env ρ σ K s v w ao es eo F R vr h=>by
 obtain⟨vs,e,hl,q⟩:=h
 rw [assign_Tuple]
 refine ab (fg ?_)
 unfold unpack
 rw [fO,dG,hl]
 refine ab (bu (sf U ao.handled R vr e fun ws h' vrs R' hk=>?_))
 refine pR es eo hn hl (F.evo (Evo.keeps hk)) R' vrs fun h2 tk2 F2 R2 x2=>?_
 exact⟨_,σ,h2,tk2,rfl,q,F2,R2,(Evo.keeps hk).trans x2⟩
theorem nR {prog:Program} {w:World} {A:Around} {E:Value→Shared→Prop} {s:Shared} {l:Addr} {items:Array Value} {n:Nat} {k:Int} {t:Tok} {v:Value} {Q:Unit→Shared→Prop} (hl:IsL s.heap l items n) (h0:k<0) (h1:-(items.size:Int)≤k) (hfit:-(2^63)≤k)
  (hQ:Q () { s with heap:=s.heap.update l (Obj.mapSeq (·.setIfInBounds (k+items.size).toNat v)) }):wpAny (model prog w) A (setItem (.ref l) (.int k t) v) Q E s:=by
 unfold setItem
 try with_reducible refine bu ?_
 first | refine ab (ae ?_) | skip
 refine ab (wpAny_sequenceKey hl.isList.typeIs (by decide) ?_)
 refine ab (ur (name:=Str.ofString "__setitem__") hl.isList.typeIs slot_list_setitem (jm slot_list_setitem hl.isList.typeIs entry_list_setitem ?_ (args_list_setitem _ _ _)))
 show wpAny _ _ (Builtin.List.listSubscript? (.int k t)>>=_) _ _ s
 refine ab (wpAny_listSubscript_int (fitsIndex_neg h0 hfit) ?_)
 clear hfit
 have hidx:=seqIndex_neg h0 h1
 have hx:items[(k+items.size).toNat]?=some items[(k+items.size).toNat]:=aO (by exact(Ar.ton _).elim (fun q1=>(pH .B .b (.il .A .O) (.ie .L (.a .A .P)) h0 q1.2)) fun q1=>(E8 .B .d (.il .A .O) (.ik .V .A) .M h0 h1 q1.2))
 obtain⟨j,rfl⟩:∃ j:Nat,k=Int.negSucc j:=by
  cases k with
  | ofNat n=>exact absurd h0 (Int.not_lt.mpr (Int.ofNat_nonneg n))
  | negSucc n=>exact⟨n,rfl⟩
 show wpAny _ _ ((Builtin.List.listItems (.ref l)>>=fun xs=>pure ((seqIndex? (Int.negSucc j) xs.size).bind fun i=>xs[i]?.map (i,·)))>>=_) _ _ s
 refine ab (ab ?_)
 show wpAny _ _ (seqItems? (.ref l)>>=_) _ _ s
 refine ab (ju hl rfl (ae (ae ?_)))
 rw [hidx]
 simp only [Option.bind_some,hx,wt]
 show wpAny _ _ (setSeqItemAt l _ v>>=_) _ _ s
 refine ab (wpAny_setSeqItemAt hl rfl ?_)
 first
  | exact ab (ae (ae ⟨.none,rfl,ae hQ⟩))
  | exact ae ⟨.none,rfl,ae hQ⟩
theorem VRs.set {h:Heap}:∀ {vs:List V} {ws:List Value} (n:Nat) {v:V} {w:Value},VRs G h vs ws→VR G h v w→VRs G h (vs.set n v) (ws.set n w)
 | [],_,n,_,_,e,_=>by subst e;exact .nil
 | _::_,_,0,_,_,⟨_,_,e,_,r⟩,q=>by subst e;exact .cons q r
 | _::_,_,n+1,_,_,⟨_,_,e,a,r⟩,q=>by subst e;exact .cons a (VRs.set n r q)
theorem AE {o i:Ex} {x y:Expr} {pos:Pos} (ho:cz G C sc d o x) (hi:cz G C sc d i y):fY G C sc d (.sub o i) (.Subscript x y pos):=fun A E env ρ σ K s v w ao es eo F R vr h=>by
 rw [arm_assign_Subscript]
 refine ab (bu (mr (ho A E env ρ σ _ s ao es eo F R h) fun u σ₁ h₁ tk w₁ q vr₁ r x=>?_))
 refine ab (bu (mr (hi A E env ρ σ₁ _ { s with heap:=h₁,toks:=tk } ao es eo (F.evo x) r q) fun j σ₂ h₂ tk₂ w₂ q₂ vr₂ r₂ x₂=>?_))
 refine ab (fg (ab (bu ?_)))
 have hvw:VR G h₂ v w:=(vr.mono x.frz).mono x₂.frz
 unfold jW at q₂
 cases eu:dY u with
 | some a =>
  rw [eu] at q₂
  obtain rfl:=za eu
  obtain rfl:=vr₁
  obtain⟨i,rfl,xs,e,h0,h1,q₂⟩:=nr (v:=j) q₂
  obtain⟨t,rfl⟩:=vr₂
  obtain⟨ws,n,hl,hv⟩:=r₂.L _ _ e
  have hz:=r₂.Ll _ _ e
  have hlen:=hv.length
  refine nR (s:={ s with heap:=h₂,toks:=tk₂ }) hl h0 (by simp only [bh];(exact pH (.ik (.g .L) .A) .b (.ik .O (.a .A .P)) .bD h1 hlen)) (by unfold ax at hz;(exact mw .a3 .b (.ik .O (.a .A .L)) .bX h1 hz)) (wpAny_release ?_)
  have hsz:ws.toArray.size=xs.length:=by rw [bh,hlen]
  rw [hsz]
  obtain⟨R',x'⟩:=pP r₂ e hl (hv.set (i+xs.length).toNat hvw) (by rw [List.length_set];exact hz) (f:=fun a=>a.setIfInBounds (i+xs.length).toNat w) (by simp)
  exact⟨ρ,_,_,_,rfl,q₂,((F.evo x).evo x₂).evo x',R',((x.trans x₂).trans x').wide env⟩
 | none =>
 rw [eu] at q₂
 obtain⟨a,rfl,es',kk,e,hkey,hz,q₂⟩:=eE (v:=u) q₂
 obtain rfl:=vr₁
 obtain⟨ds,hd,hv⟩:=r₂.D _ _ e
 refine wpAny_setItem_pairs (s:={ s with heap:=h₂,toks:=tk₂ }) (key_is hkey vr₂) hd (fun h' hd' hs'=>wpAny_release ?_) (by rw [← hv.length];exact lq (by exact av .A .a .B hz))
 obtain⟨R',x'⟩:=GK (s:={ s with heap:=h₂,toks:=tk₂ }) r₂ e hs' hd' (hv.put hvw) (jd (gI _ _ _) (by exact av .F .a .B hz))
 exact⟨ρ,_,h',_,rfl,q₂,((F.evo x).evo x₂).evo x',R',((x.trans x₂).trans x').wide env⟩
end
end MP
end
section
set_option tactic.hygienic true
namespace MP
open PySem PyProof.Rows
noncomputable def sr (sc:Scope) (ts:List Expr):List Str:=ts.filterMap fun
 | .Name id pos=>if sc.names.lookup id==some .local&&pos.line==(ts.head?.map (·.pos.line)).getD 0 then some id else none
 | _=>none
noncomputable def IL (x:Expr):Option (Option (List Expr)):=bif eK 25 x then some (some (kids x)) else bif eK 24 x then none else some none
noncomputable def tgK:List Expr→Option (Option (List Expr))
 | []=>some none
 | x::r=>bif r.isEmpty then IL x else some none
noncomputable def tupK (x:Expr):Option (List Expr):=bif eK 25 x then some (kids x) else none
noncomputable def GP (sc:Scope) (ts vs:List Expr):Option (Option (List Str)) :=
 bif !(ts.length==2||ts.length==3)||vs.length != ts.length then some none
 else bif vs.any isStar then some none
 else bif (sr sc ts).length != ts.length||(sr sc ts).eraseDups.length != (sr sc ts).length then some none
 else bif vs.all (foldedForSure 8) then some none
 else bif vs.all (constantsAlone 8) then none
 else some (some (sr sc ts))
noncomputable def swp (sc:Scope) (targets:List Expr) (value:Expr):Option (Option (List Str)) :=
 (tgK targets).bind fun o=>o.elim (some none) fun ts=>(tupK value).elim (some none) (GP sc ts)
theorem wG {targets:List Expr} (h:tgK targets=some none) (value:Expr) (env:Env):swappedStores targets value env=pure none:=by
 cases targets with
 | nil=>rfl
 | cons x r =>
  cases r with
  | nil=>cases x<;>first | rfl | exact fu (af h).symm | exact fu h
  | cons y r=>cases x<;>rfl
theorem wF {targets:List Expr} {ts:List Expr} (h:tgK targets=some (some ts)):∃ k p,targets=[.Tuple ts k p]:=by
 cases targets with
 | nil=>exact fu (af h)
 | cons x r =>
  cases r with
  | nil =>
   cases x
   case Tuple=>obtain rfl:=af (af h);exact⟨_,_,rfl⟩
   all_goals first | exact fu (af h) | exact fu h
  | cons y r=>exact fu (af h)
theorem u9 {value:Expr} (h:tupK value=none) (ts:List Expr) (k:Nat) (p:Pos) (env:Env):swappedStores [.Tuple ts k p] value env=pure none:=by
 cases value<;>first | rfl | exact fu h.symm
theorem u7 {value:Expr} {vs:List Expr} (h:tupK value=some vs):∃ k p,value=.Tuple vs k p:=by
 cases value
 case Tuple=>obtain rfl:=af h;exact⟨_,_,rfl⟩
 all_goals exact fu h
theorem eR {α:Type} {b:Bool} {x y:Option (Option α)} {r:Option α} {t u:Sem (Option α)} (h:(bif b then x else y)=some r) (h1:x=some r→t=pure r) (h2:y=some r→u=pure r):(if b=true then t else u)=pure r:=by
 cases b with
 | true=>exact h1 h
 | false=>exact h2 h
theorem lL {sc:Scope} {targets:List Expr} {value:Expr} {r:Option (List Str)} {env:Env} (h:swp sc targets value=some r) (hs:env.scope=sc) (hk:env.blockKind=.function):swappedStores targets value env=pure r:=by
 obtain⟨o,h1,h⟩:=dg.mp h
 cases o with
 | none=>obtain rfl:=af h;exact wG h1 value env
 | some ts =>
  obtain⟨k,p,rfl⟩:=wF h1
  have h:(tupK value).elim (some none) (GP sc ts)=some r:=h
  cases h2:tupK value with
  | none=>rw [h2] at h;obtain rfl:=af h;exact u9 h2 ts k p env
  | some vs =>
   rw [h2] at h
   obtain⟨k',p',rfl⟩:=u7 h2
   subst hs
   have e:swappedStores [.Tuple ts k p] (.Tuple vs k' p') env=(if (!(ts.length==2||ts.length==3)||vs.length != ts.length||env.blockKind != .function)=true then pure none
    else if vs.any isStar=true then pure none
    else if ((sr env.scope ts).length != ts.length||(sr env.scope ts).eraseDups.length != (sr env.scope ts).length)=true then pure none
    else if vs.all (foldedForSure 8)=true then pure none
    else if vs.all (constantsAlone 8)=true then (do unsupported "assign.tuple-of-constant-expressions:order-of-the-stores";pure (some (sr env.scope ts)))
    else pure (some (sr env.scope ts))):=rfl
   rw [e,hk,show(ScopeKind.function != ScopeKind.function)=false from rfl,dU]
   exact eR h (fun h=>af h▸rfl) fun h=>eR h (fun h=>af h▸rfl) fun h=>eR h (fun h=>af h▸rfl) fun h=>eR h (fun h=>af h▸rfl) fun h=>eR h (fun h=>fu h) fun h=>af h▸rfl
theorem sd {value:Expr} (h:we value=true) (targets:List Expr) (n:Nat) (env:Env):swapsWithSole targets value n env=pure false:=by
 cases targets with
 | nil=>rfl
 | cons t r =>
  cases r with
  | nil=>exact yb h _ _ _
  | cons=>rfl
section
variable {G:Stc} {C:Cal} {sc:Scope} {d:Nat}
inductive zo (G:Stc) (C:Cal) (sc:Scope) (d:Nat):List Tgt→List Expr→Prop
 | nil:zo G C sc d [] []
 | cons {t:Tgt} {x:Expr} {ts:List Tgt} {xs:List Expr}:fY G C sc d t x→(∀ env,assignEach (x::xs) env=(false,assign x env)::assignEach xs env)→zo G C sc d ts xs→zo G C sc d (t::ts) (x::xs)
theorem sR {A:Around} {E:Value→Shared→Prop} {env:Env} (ao:AOk A d) (es:env.scope=sc) (eo:jl env) {ts:List Tgt} {xs:List Expr} (ht:zo G C sc d ts xs):∀ {ρ:Fr} {σ:St} {K:Fr→St→Prop} {s:Shared} {v:V} {w:Value},FR G σ env ρ s.heap→Rel G σ s.heap→VR G s.heap v w →
  fF C ts v ρ σ K→wpAny G.M A (assignAll w ((assignEach xs env).map (·.2))) (LU G env σ s K) E s:=by
 induction ht with
 | nil =>
  intro ρ σ K s v w F R vr h
  exact ae ⟨ρ,σ,s.heap,s.toks,rfl,h,F,R,Evo.refl _ _ _⟩
 | @cons t x ts xs hx he hr ih =>
  intro ρ σ K s v w F R vr h
  rw [he]
  have go:wpAny G.M A (holding [w] (assign x env w)>>=fun _=>assignAll w ((assignEach xs env).map (·.2))) (LU G env σ s K) E s:=by
   refine ab (bu (ba (hx A E env ρ σ _ s v w ao es eo F R vr h) (fun _ s' l=>?_) fun _ _ x=>x))
   obtain⟨ρ',σ',h',tk,rfl,q,F',R',x'⟩:=l
   exact ba (ih F' R' (vr.mono x'.frz) q) (fun _ _ l=>lE.back x' l) fun _ _ x=>x
  cases hr with
  | nil =>
   show wpAny G.M A (assign x env w) (LU G env σ s K) E s
   refine ba (hx A E env ρ σ _ s v w ao es eo F R vr h) (fun _ s' l=>?_) fun _ _ x=>x
   exact l
  | cons a b c =>
   rw [b env] at go ⊢
   exact go
theorem pZ {ts:List Tgt} {e:Ex} {xs:List Expr} {x:Expr} {pos:Pos} (ht:zo G C sc d ts xs) (he:cz G C sc d e x) (hc:we x=true) (hw:swp sc xs x=some none):vg G C sc d (.assign ts e) (.Assign xs x pos):=fun A E env ρ σ K s ao es eo F R h=>by
 rw [exec_Assign]
 refine ab (fg ?_)
 rw [sd hc]
 refine ab (ae ?_)
 rw [aw (by decide)]
 refine ab (mr (he A E env ρ σ _ s ao es eo F R h) fun v σ₁ h₁ tk w q vr r x=>?_)
 rw [lL hw es (by unfold Env.blockKind;rw [eo.kind];rfl)]
 refine ab (ae ?_)
 show wpAny G.M A (do assignAll w _;pure Flow.next) _ _ _
 refine ab (ba (sR (s:={ s with heap:=h₁,toks:=tk }) ao es eo ht (F.evo x) r vr q) (fun _ s' l=>ae ?_) fun _ _ x=>x)
 obtain⟨ρ',σ',h',tk',rfl,q',F',R',x'⟩:=l
 exact⟨.next,ρ',σ',h',tk',rfl,.next,q',F',R',(x.wide env).trans x'⟩
theorem cR:∀ (xs:List Nat) (vs:List V) (x:Nat) (v:V) (ρ:Fr),xs.length=vs.length→dk (xs++[x]) (vs++[v]) ρ=upd (dk xs vs ρ) x v
 | [],[],_,_,_,_=>rfl
 | [],_::_,_,_,_,h=>absurd h.symm (fA _)
 | _::_,[],_,_,_,h=>absurd h (fA _)
 | y::xs,u::vs,x,v,ρ,h=>by
  exact cR xs vs x v _ (Nat.succ.inj h)
theorem w8 {α:Type} {f:Nat→Option α} {i j:Nat} {a b:α} (h:i≠j):upd (upd f i a) j b=upd (upd f j b) i a:=by
 funext k
 unfold upd
 by_cases h1:k=j<;>by_cases h2:k=i<;>simp_all
theorem i8:∀ (xs:List Nat) (vs:List V) (x:Nat) (v:V) (ρ:Fr),x∉xs→dk xs vs (upd ρ x v)=upd (dk xs vs ρ) x v
 | [],_,_,_,_,_=>rfl
 | _::_,[],_,_,_,_=>rfl
 | y::xs,u::vs,x,v,ρ,h=>by
  show dk xs vs (upd (upd ρ x v) y u)=upd (dk xs vs (upd ρ y u)) x v
  have h:=lG h
  rw [w8 h.1,i8 xs vs x v _ h.2]
theorem yd:∀ (xs:List Nat) (vs:List V) (ρ:Fr),xs.length=vs.length→xs.Nodup→dk xs.reverse vs.reverse ρ=dk xs vs ρ
 | [],[],_,_,_=>rfl
 | [],_::_,_,h,_=>absurd h.symm (fA _)
 | _::_,[],_,h,_=>absurd h (fA _)
 | x::xs,v::vs,ρ,h,hn=>by
  have hn:=List.nodup_cons.mp hn
  have h:xs.length=vs.length:=Nat.succ.inj h
  rw [d9,d9,cR _ _ _ _ _ (by rw [List.length_reverse,List.length_reverse];exact h),yd xs vs ρ h hn.2]
  exact(i8 xs vs x v ρ hn.1).symm
noncomputable def GX (sc:Scope) (is:List Nat) (xs:List Str):Bool:=decide (xs=is.map (zp sc))&&lV sc is
theorem gF {A:Around} {E:Value→Shared→Prop} {env:Env} (hsc:env.scope=sc) (eo:jl env) {σ:St}:(is:List Nat)→{vs:List V}→{ws:List Value}→{ρ:Fr}→{s:Shared}→{Q:Unit→Shared→Prop}→lV sc is=true→is.length=vs.length →
  FR G σ env ρ s.heap→Rel G σ s.heap→VRs G s.heap vs ws→(∀ h' tk,FR G σ env (dk is vs ρ) h'→Rel G σ h'→Evo (envX env) σ s.heap σ h'→Q () { s with heap:=h',toks:=tk }) →
  wpAny G.M A (assignInOrder ((is.map (zp sc)).map fun n=>bindName env n) ws) Q E s
 | [],_,ws,_,s,_,_,_,F,R,_,k=>by
  show wpAny G.M A (assignInOrder [] ws) _ E s
  exact ae (k s.heap s.toks F R (Evo.refl _ _ _))
 | _::_,[],_,_,_,_,_,hl,_,_,_,_=>nomatch hl
 | i::is,v::vs,_,ρ,s,Q,hn,hl,F,R,⟨w,us,e,va,vr⟩,k=>by
  subst e
  obtain⟨kk,hi,hk,_⟩:=rj (band hn).1
  show wpAny G.M A (do holding us (bindName env (zp sc i) w);assignInOrder ((is.map (zp sc)).map fun n=>bindName env n) us) Q E s
  refine ab (bu (wpAny_bindName (tf eo F R (by rw [hsc];exact hi) hk va fun h' tk F' R' x'=>?_)))
  exact gF hsc eo is (s:={ s with heap:=h',toks:=tk }) (band hn).2 (Nat.succ.inj hl) F' R' (vr.mono x'.frz) fun h2 tk2 F2 R2 x2=>k h2 tk2 F2 R2 (x'.trans x2)
theorem snd_swap {is:List Nat} {e:Ex} {xs:List Expr} {x:Expr} {pos:Pos} {names:List Str} (U:vS G) (he:cz G C sc d e x) (hc:we x=true) (hw:swp sc xs x=some (some names)) (hn:GX sc is names=true) (hnd:is.Nodup):vg G C sc d (.assign [.tup is] e) (.Assign xs x pos):=fun A E env ρ σ K s ao es eo F R h=>by
 rw [exec_Assign]
 refine ab (fg ?_)
 rw [sd hc]
 refine ab (ae ?_)
 rw [aw (by decide)]
 refine ab (mr (he A E env ρ σ _ s ao es eo F R h) fun v σ₁ h₁ tk w q vr r x=>?_)
 rw [lL hw es (by unfold Env.blockKind;rw [eo.kind];rfl)]
 refine ab (ae ?_)
 obtain⟨vs,ev,hl,q⟩:=q
 show wpAny G.M A (do rule "assign.swapped-stores";let items←unpackItems w names.length none;assignInOrder (names.reverse.map fun n=>bindName env n) items.reverse;pure Flow.next) _ _ _
 refine ab (wpAny_rule (ab ?_))
 obtain rfl:=bb (band hn).1
 rw [az,hl,← List.map_reverse]
 refine sf (s:={ s with heap:=h₁,toks:=tk }) U ao.handled r vr ev fun ws h' vrs R' hk=>?_
 refine ab (gF es eo is.reverse (by unfold lV;rw [List.all_reverse];exact(band hn).2) (by simpa using hl) ((F.evo x).evo (Evo.keeps hk)) R' vrs.reverse fun h2 tk2 F2 R2 x2=>ae ?_)
 rw [yd _ _ _ hl hnd] at F2
 exact⟨.next,_,_,h2,tk2,rfl,.next,q,F2,R2,(x.wide env).trans ((Evo.keeps hk).trans x2)⟩
end
end MP
end
section
namespace MP
open PySem PyProof.Rows
theorem gN:typeLookup (.type "list") (dunderI "add")=pure (some (.builtin "list.__iadd__")):=by rw [fq,dw];kernel_rfl
theorem rB:fillsInplaceSlot (.type "list") "add" (Operator.Add==.Add)=pure false:=by
 unfold fillsInplaceSlot
 show(typeLookup (.type "list") (dunderI "add")>>=fun fi=>pure (fi.isSome&&!isSeqSlot fi))=pure false
 rw [gN];first | rfl | kernel_rfl
theorem yV:seqSlot? (.type "list") (dunderI "add")=pure (some (.builtin "list.__iadd__")):=by
 unfold seqSlot?
 rw [gN];first | rfl | kernel_rfl
section
variable {G:Stc} {A:Around} {E:Value→Shared→Prop} {s:Shared} {σ:St}
theorem rA {a b:Value} {Q:Value→Shared→Prop} (ha:s.TypeIs a "list") (hb:s.TypeIs b "list") (hc:wpAny G.M A (call (.builtin "list.__iadd__") [a,b]) Q E s):wpAny G.M A (inplaceOp .Add a b) Q E s:=by
 unfold inplaceOp
 refine bu ?_
 refine ab (dQ ha (ab (di rB ?_)))
 show wpAny _ A (if false=true then _ else _) Q E s
 rw [aw og]
 refine ab (wpAny_binaryOp1_none (nm:="add") ha hb noFill_list_add ?_)
 refine ab (di yV ?_)
 exact ab (wpAny_rule hc)
theorem xG {op:Bop} {a b:V} {x y:Value} {Q:V→St→Prop} (hop:op=.add∨op=.sub) (R:Rel G σ s.heap) (va:VR G s.heap a x) (vb:VR G s.heap b y) (h:DH op a b σ Q):wpAny G.M A (inplaceOp (binOp op) x y) (fx G [] σ s Q) E s:=by
 cases a with
 | lst a =>
  obtain rfl:=va
  obtain⟨b,rfl,h⟩:=rg (v:=b) h
  obtain rfl:=vb
  rcases hop with rfl | rfl
  ·obtain⟨xs,ys,hne,e1,e2,hz,q⟩:=h
   obtain⟨us,n,hl,hv⟩:=R.L _ _ e1
   obtain⟨ts,m,hl',hv'⟩:=R.L _ _ e2
   have hlen:=hv.length;have hlen':=hv'.length
   have hz1:us.length+ts.length≤sizeLine:=by rw [← hlen,← hlen'];exact lq hz
   refine rA ⟨_,hl,rfl⟩ ⟨_,hl',rfl⟩ (xr PySem.F.slot_list_iadd ⟨_,hl,rfl⟩ PySem.F.entry_list_iadd (PySem.F.args_list_iadd_2 _ _) (AutoSeq1.list___iadd___list_list_0 _ _ _ _ _ _ ?_ (by simp only [bh];(exact cv .A .a .aP hz1)) (by simp only [bh];(exact cv (.k .P .R) .a .G hz1))) ⟨hl,hl',?_⟩)
   ·simp only [bh,Builtin.List.listTooLong];rw [show sizeLine=16777216 from rfl] at hz1;simp;intro _;first | omega | (unfold sizeLine;(exact av (.k .P .aI) .a (.k .P .a9) hz1))
   ·obtain⟨r',x'⟩:=pP (f:=fun x=>x++ts.toArray) R e1 hl (hv.append hv') (by simpa using hz) (by simp)
    exact⟨.lst _,_,_,_,rfl,q,.lst _,r',x'⟩
  ·exact False.elim h
 | int a =>
  obtain⟨t,rfl⟩:=va
  obtain⟨b,rfl,h⟩:=nr (v:=b) h
  obtain⟨u,rfl⟩:=vb
  rcases hop with rfl | rfl
  ·exact P.iadd_int (fx.here h (.int _ _) R)
  ·exact P.isub_int (fx.here h (.int _ _) R)
 | _=>exact False.elim h
theorem B9 {C:Cal} {sc:Scope} {d:Nat} {op:Bop} {i:Nat} {e:Ex} {x:Str} {k:NameKind} {y:Expr} {pos pos':Pos} (hop:op=.add∨op=.sub) (he:cz G C sc d e y) (hi:sc.names[i]?=some (x,k)) (hk:uo k=true) (hx:fy x=true) :
  vg G C sc d (.aug i op e) (.AugAssign (.Name x pos') (binOp op) y pos):=fun A E env ρ σ K s ao es eo F R h=>by
 obtain⟨v,hv,h⟩:=h
 have hkv:isVar k=true:=by cases k<;>first | rfl | exact Bool.noConfusion hk
 refine wpAny_AugAssign_Name (eA eo F (by rw [es];exact hi) hkv hx hv fun w vr=>?_)
 refine mr (he A E env ρ σ _ s ao es eo F R h) fun u σ₁ h₁ tk w₁ q vr₁ r x=>?_
 refine ba (xG (s:={ s with heap:=h₁,toks:=tk }) hop r (vr.mono x.frz) vr₁ q) (fun w' s' l=>?_) fun _ _ x=>x
 obtain⟨v',σ',h',tk',rfl,q',vr',r',x'⟩:=l
 refine tf (s:={ s with heap:=h',toks:=tk' }) eo ((F.evo x).evo x') r' (by rw [es];exact hi) hk vr' fun h2 tk2 F2 R2 x2=>?_
 exact⟨.next,_,σ',h2,tk2,rfl,.next,q',F2,R2,((x.trans x').wide env).trans x2⟩
end
end MP
end
section
namespace MP
set_option genInjectivity false
open PySem PyProof.Rows
theorem FR.but {G:Stc} {own:List Addr} {σ:St} {env:Env} {ρ:Fr} {h h':Heap} (F:FR G σ env ρ h) (hk:∀ b o,b∉own→h.get? b=some o→h'.get? b=some o) (hf:gp h h') (hX:∀ b∈own,b∉envX env):FR G σ env ρ h':=by
 obtain⟨m,⟨o,es,ep,ho,r⟩,hm⟩:=F.ns
 have ho':=hk _ _ (fun q=>hX _ q (.head _)) ho
 refine⟨⟨m,⟨o,es,ep,ho',r⟩,fun i y e=>(hm i y e).mono hf⟩,fun i y k e hkk=>?_,F.inj,F.loc,fun o'' e=>?_,F.new,fun p hp=>?_⟩
 ·obtain⟨c,w,h1,⟨oc,hoc,hd⟩,h3,h4,h5⟩:=F.cells i y k e hkk
  exact⟨c,w,h1,⟨oc,hk _ _ (fun q=>hX _ q (.tail _ (ee.mpr ⟨(y,c),mem_of_lookup h1,rfl⟩))) hoc,hd⟩,h3.mono hf,h4,h5⟩
 ·rw [ho'] at e;cases e;exact F.notfrz o ho
 ·obtain⟨o,e⟩:=F.allc p hp
  exact⟨o,hk _ _ (fun q=>hX _ q (.tail _ (ee.mpr ⟨p,hp,rfl⟩))) e⟩
theorem Evo.but {X own:List Addr} {σ σ':St} {h₀ h h':Heap} (x:Evo X σ h₀ σ' h) (hk:∀ b o,b∉own→h.get? b=some o→h'.get? b=some o) (hnew:∀ b∈own,h₀.get? b=none):Evo X σ h₀ σ' h':=by
 have out:∀ b o,h₀.get? b=some o→b∉own:=fun b o e q=>by rw [hnew b q] at e;cases e
 exact⟨fun b o e nd nx=>hk b o (out b o e) (x.keep b o e nd nx),fun b o e f=>hk b o (out b o e) (x.frz b o e f),x.dom,fun b o e=>by obtain⟨o₁,e₁⟩:=x.there b o e;exact⟨o₁,hk b o₁ (out b o e) e₁⟩⟩
structure Itr (G:Stc) where
 it:Addr
 own:List Addr
 vs:List V
 Gd:St→Prop
 tup:Bool
 pos:Nat→Heap→Prop
 keep:∀ i h h',pos i h→(∀ b∈own,∀ o,h.get? b=some o→h'.get? b=some o)→gp h h'→pos i h'
 there:∀ i h,pos i h→∀ b∈own,∃ o,h.get? b=some o
 self:∀ (A:Around) (E:Value→Shared→Prop) (s:Shared) (i:Nat) (Q:Value→Shared→Prop),pos i s.heap→Q (.ref it) s→wpAny G.M A (pyIter (.ref it)) Q E s
 nofrz:∀ i h,pos i h→∀ b∈own,∀ o,h.get? b=some o→¬ Frz o
 next:∀ (A:Around) (E:Value→Shared→Prop) (s:Shared) (σ:St) (i:Nat) (v:V) (target:Expr) (Q:Value→Shared→Prop),A.handled=none→Rel G σ s.heap→Gd σ→pos i s.heap→vs[i]?=some v→(tup=true→∃ es k p,target=.Tuple es k p) →
  (∀ w h' tk,VR G h' v w→pos (i+1) h'→(∀ b o,b∉own→s.heap.get? b=some o→h'.get? b=some o)→Q w { s with heap:=h',toks:=tk }) →
  wpAny G.M A (pyNext (.ref it)) (fun r s₁=>match r with | none=>False | some w=>wpAny G.M A (letOwnedTupleGo target (.ref it) w) (fun _ s₂=>Q w s₂) E s₁) E s
 stop:∀ (A:Around) (E:Value→Shared→Prop) (s:Shared) (σ:St) (i:Nat) (Q:Option Value→Shared→Prop),A.handled=none→Rel G σ s.heap→Gd σ→pos i s.heap→vs[i]?=none →
  (∀ h' tk,(∀ b o,b∉own→s.heap.get? b=some o→h'.get? b=some o)→Q none { s with heap:=h',toks:=tk })→wpAny G.M A (pyNext (.ref it)) Q E s
section
variable {G:Stc} {C:Cal} {sc:Scope} {d:Nat}
theorem Itr.frz (I:Itr G) {h h':Heap} {i:Nat} (hp:I.pos i h) (hk:∀ b o,b∉I.own→h.get? b=some o→h'.get? b=some o):gp h h':=fun b o e f=>hk b o (fun hb=>I.nofrz i h hp b hb o e f) e
theorem Itr.rel (I:Itr G) {σ:St} {h h':Heap} {i:Nat} (hp:I.pos i h) (R:Rel G σ h) (hd:∀ b∈I.own,¬ σ.dom b) (hb:∀ b∈I.own,G.hb.get? b=none) (hk:∀ b o,b∉I.own→h.get? b=some o→h'.get? b=some o):Rel G σ h' :=
 R.same (fun b o e dm=>hk b o (fun q=>hd b q dm) e) (fun b o e f=>hk b o (fun q=>I.nofrz i h hp b q o e f) e) fun b o e=>hk b o (fun q=>by rw [hb b q] at e;cases e) (R.base b o e)
inductive zX (G:Stc) (σ:St) (s:Shared) (tupled:Bool) (P:List V→(St→Prop)→St→Prop) (itv:Value) (s':Shared):Prop
 | mk (I:Itr G) (σ':St) (h':Heap) (tk:Nat):s'={ s with heap:=h',toks:=tk }→itv=.ref I.it→(I.tup=true→tupled=true)→P I.vs I.Gd σ'→I.pos 0 h'→Rel G σ' h'→Evo [] σ s.heap σ' h'→(∀ b∈I.own,s.heap.get? b=none)→(∀ b∈I.own,¬ σ'.dom b)→zX G σ s tupled P itv s'
noncomputable def yn (G:Stc) (C:Cal) (sc:Scope) (d:Nat) (tupled:Bool) (it:It) (x:Expr):Prop :=
 ∀ (A:Around) (E:Value→Shared→Prop) (env:Env) (ρ:Fr) (σ:St) (P:List V→(St→Prop)→St→Prop) (s:Shared),AOk A d→env.scope=sc→jl env→FR G σ env ρ s.heap→Rel G σ s.heap →
  u6 C it ρ σ P→wpAny G.M A (eval x env) (fun v s₁=>wpAny G.M A (pyIter v) (zX G σ s tupled P) E s₁) E s
noncomputable def tY (G:Stc) (C:Cal) (sc:Scope) (d:Nat) (t:Tg) (x:Expr):Prop :=
 ∀ (A:Around) (E:Value→Shared→Prop) (env:Env) (ρ:Fr) (σ:St) (K:Fr→Prop) (s:Shared) (v:V) (w:Value),AOk A d→env.scope=sc→jl env→FR G σ env ρ s.heap→Rel G σ s.heap→VR G s.heap v w →
  qd t v σ ρ K→wpAny G.M A (assign x env w) (fun _ s'=>∃ ρ' h' tk,s'={ s with heap:=h',toks:=tk }∧K ρ'∧FR G σ env ρ' h'∧Rel G σ h'∧Evo (envX env) σ s.heap σ h') E s
noncomputable def isTup (x:Expr):Bool:=eK 25 x
noncomputable def dZ (x:Expr):List Str:=bif eK 23 x then [ji x] else bif eK 25 x then sL (kids x) else []
noncomputable def ue (G:Stc) (C:Cal) (sc:Scope) (d:Nat) (t:Tg) (x:Expr):Prop :=
 ∀ (A:Around) (E:Value→Shared→Prop) (X:List Addr) (env:Env) (ρ:Fr) (σ:St) (K:Fr→Prop) (s:Shared) (v:V) (w:Value),env.locals∈X→(∀ y∈dZ x,∀ c,env.cells.lookup y=some c→c∈X)→AOk A d→env.scope=sc→jl env→FR G σ env ρ s.heap→Rel G σ s.heap→VR G s.heap v w →
  qd t v σ ρ K→wpAny G.M A (assign x env w) (fun _ s'=>∃ ρ' h' tk,s'={ s with heap:=h',toks:=tk }∧K ρ'∧FR G σ env ρ' h'∧Rel G σ h'∧Evo X σ s.heap σ h') E s
theorem ue.plain {t:Tg} {x:Expr} (h:ue G C sc d t x):tY G C sc d t x:=fun A E env ρ σ K s v w=>h A E (envX env) env ρ σ K s v w (.head _) fun y _ c hc=>.tail _ (ee.mpr ⟨(y,c),mem_of_lookup hc,rfl⟩)
theorem AF {i:Nat} {x:Str} {k:NameKind} {pos:Pos} (hi:sc.names[i]?=some (x,k)) (hk:uo k=true):ue G C sc d (.var i) (.Name x pos):=fun A E X env ρ σ K s v w hXl hXc ao es eo F R vr h =>
 assign_Name (dB eo F R (by rw [es];exact hi) hk vr hXl (hXc x (.head _)) fun h' tk F' R' x=>⟨_,h',tk,rfl,h,F',R',x⟩)
theorem AG {is:List Nat} {l:List Expr} {k:Nat} {pos:Pos} (U:vS G) (hn:lV sc is=true):ue G C sc d (.tup is) (.Tuple (pb sc is l) k pos):=fun A E X env ρ σ K s v w hXl hXc ao es eo F R vr h=>by
 obtain⟨vs,e,hl,q⟩:=h
 rw [assign_Tuple]
 refine ab (fg ?_)
 unfold unpack
 rw [fO,dG,hl]
 refine ab (bu (sf U ao.handled R vr e fun ws h' vrs R' hk=>?_))
 refine yc es eo hXl is l hn hl hXc (F.evo (Evo.keeps hk)) R' vrs fun h2 tk2 F2 R2 x2=>?_
 exact⟨_,h2,tk2,rfl,q,F2,R2,(Evo.keeps hk).trans x2⟩
inductive jD (I:Itr G) (env:Env) (σ:St) (s:Shared) (T:V→Fr→St→(Fr→St→Prop)→Prop) (K:Fr→St→Prop) (n:Nat) (s':Shared):Prop
 | mk (i:Nat) (σ':St) (ρ':Fr) (h':Heap) (tk':Nat):n=I.vs.length-i→s'={ s with heap:=h',toks:=tk' }→I.pos i h'→FR G σ' env ρ' h'→Rel G σ' h'→Evo (envX env) σ s.heap σ' h'→(∀ b∈I.own,¬ σ'.dom b)→oE (I.vs.drop i) I.Gd T ρ' σ' K→jD I env σ s T K n s'
theorem jD.next {I:Itr G} {env:Env} {σ:St} {s:Shared} {T:V→Fr→St→(Fr→St→Prop)→Prop} {K:Fr→St→Prop} {i tk:Nat} {σ':St} {ρ':Fr} {h':Heap} (lt:i<I.vs.length) (hp:I.pos (i+1) h') (F:FR G σ' env ρ' h') (R:Rel G σ' h') (x:Evo (envX env) σ s.heap σ' h') (hd:∀ b∈I.own,¬ σ'.dom b) (q:oE (I.vs.drop (i+1)) I.Gd T ρ' σ' K) :
  ∃ m,m<I.vs.length-i∧jD I env σ s T K m { s with heap:=h',toks:=tk }:=⟨_,by exact dn .B .e .c9 (.e .Q .D) (aa (av .F .a .B lt)) (aa (av .A .a .B lt)),i+1,σ',ρ',h',tk,rfl,rfl,hp,F,R,x,hd,q⟩
theorem Itr.wK {I:Itr G} {Y:List Addr} {σa σb:St} {ha hb:Heap} {j:Nat} (hX:∀ b∈I.own,b∉Y) (hp:I.pos j ha) (hd:∀ c∈I.own,¬ σa.dom c) (x:Evo Y σa ha σb hb):I.pos j hb∧∀ c∈I.own,¬ σb.dom c :=
 ⟨I.keep _ _ _ hp (fun c hc o e=>x.keep c o e (hd c hc) (hX c hc)) x.frz,fun c hc dm=>(x.dom c dm).elim (hd c hc) fun q=>by obtain⟨o,e⟩:=I.there _ _ hp c hc;rw [e] at q;cases q⟩
theorem tP {l:List V} {i:Nat} {v:V} (e:l[i]?=some v):i<l.length∧l.drop i=v::l.drop (i+1):=by
 have h:=ay.mp e
 refine⟨h.1,?_⟩
 rw [dj h.1,h.2]
theorem oD {x:Expr} (h:isTup x=true):∃ es k p,x=.Tuple es k p:=by
 cases x<;>first | exact⟨_,_,_,rfl⟩ | exact Bool.noConfusion h
theorem lU {σ:St} {env:Env} {ρ:Fr} {h:Heap} {own:List Addr} (F:FR G σ env ρ h) (hn:∀ b∈own,h.get? b=none):∀ b∈own,b∉envX env:=fun b hb hm=>by
 rcases cf.mp hm with rfl | hm
 ·obtain⟨m,⟨o,es',ep,ho,_⟩,_⟩:=F.ns
  rw [hn _ hb] at ho;cases ho
 ·obtain⟨p,hp,rfl⟩:=ee.mp hm
  obtain⟨o,ho⟩:=F.allc p hp
  rw [hn _ hb] at ho;cases ho
theorem y8 {σ:St} {h:Heap} {own:List Addr} (R:Rel G σ h) (hn:∀ b∈own,h.get? b=none):∀ b∈own,G.hb.get? b=none:=fun b hb=>by
 cases hq:G.hb.get? b with
 | none=>rfl
 | some o=>have:=R.base b o hq;rw [hn b hb] at this;cases this
theorem vG {t:Tg} {b:ky} {x:Expr} {ys:List Stmt} (ht:tY G C sc d t x) (hb:d4 G C sc d b ys) {A:Around} {E:Value→Shared→Prop} {env:Env} {I:Itr G} {σ₀ σ:St} {s:Shared} {ρ:Fr} {K:Fl→Fr→St→Prop} {i tk:Nat} {h:Heap} {v:V} {w:Value} (ao:AOk A d) (es:env.scope=sc) (eo:jl env)
  (hX:∀ b∈I.own,b∉envX env) (lt:i<I.vs.length) (F:FR G σ env ρ h) (R:Rel G σ h) (x0:Evo (envX env) σ₀ s.heap σ h) (hp:I.pos (i+1) h) (hd:∀ b∈I.own,¬ σ.dom b) (vr:VR G h v w)
  (hf:qd t v σ ρ fun ρ=>eg C b ρ σ (ph (fun ρ σ=>oE (I.vs.drop (i+1)) I.Gd (fun v ρ σ k=>qd t v σ ρ fun ρ=>eg C b ρ σ (ph k K)) ρ σ fun ρ σ=>K .next ρ σ) K))
  {Qp:Flow→Shared→Prop} (h1:∀ s',(∃ m,m<I.vs.length-i∧jD I env σ₀ s (fun v ρ σ k=>qd t v σ ρ fun ρ=>eg C b ρ σ (ph k K)) (fun ρ σ=>K .next ρ σ) m s')→Qp .next s'∧Qp .cont s') (h2:∀ s',my G env σ₀ s K .next s'→Qp .brk s') (h3:∀ w s',my G env σ₀ s K (.ret w) s'→Qp (.ret w) s') :
  wpAny G.M A (assign x env w) (fun _ s₃=>wpAny G.M A (execs ys env) Qp E s₃) E { s with heap:=h,toks:=tk }:=by
 refine ba (ht A _ env ρ σ _ { s with heap:=h,toks:=tk } v w ao es eo F R vr hf) (fun _ s₃ l=>?_) fun _ _ x=>x
 obtain⟨ρ₃,h₃,tk₃,rfl,q₃,F₃,R₃,x₃⟩:=l
 obtain⟨hp3,hnd3⟩:=I.wK hX hp hd x₃
 refine ba (hb A _ env ρ₃ σ _ _ ao es eo F₃ R₃ q₃) (fun f s₄ l=>?_) fun _ _ x=>x
 obtain⟨fl,ρ₄,σ₄,h₄,tk₄,rfl,a,q₄,F₄,R₄,x₄⟩:=l
 obtain⟨hp4,hnd4⟩:=I.wK hX hp3 hnd3 x₄
 have x5:=(x0.trans x₃).trans x₄
 cases a with
 | next=>exact(h1 _ (jD.next lt hp4 F₄ R₄ x5 hnd4 q₄)).1
 | cont=>exact(h1 _ (jD.next lt hp4 F₄ R₄ x5 hnd4 q₄)).2
 | brk=>exact h2 _ ⟨.next,ρ₄,σ₄,h₄,tk₄,rfl,.next,q₄,F₄,R₄,x5⟩
 | ret v=>exact h3 _ _ ⟨_,ρ₄,σ₄,h₄,tk₄,rfl,.ret v,q₄,F₄,R₄,x5⟩
theorem x8 {t:Tg} {it:It} {b:ky} {x y:Expr} {ys:List Stmt} {pos:Pos} (ht:tY G C sc d t x) (hi:yn G C sc d (isTup x) it y) (hb:d4 G C sc d b ys) (hs:∀ env v,foldedSetIterable y env v=pure v) :
  vg G C sc d (.each t it b) (.For x y ys [] pos):=fun A E env ρ σ K s ao es eo F R h=>by
 refine wpAny_For (ba (hi A E env ρ σ _ s ao es eo F R h) (fun v s₁ h₁=>ba h₁ (fun itv s₂ l=>?_) fun _ _ x=>x) fun _ _ x=>x) (hs env)
 obtain⟨I,σ₁,h₁,tk,rfl,rfl,htup,hf,hp,r,x₁,hnew,hnd⟩:=l
 have hbase:=y8 R hnew
 have hX:=lU F hnew
 refine codeAny_forLoop_any (jD I env σ s (fun v ρ σ k=>qd t v σ ρ fun ρ=>eg C b ρ σ (ph k K)) fun ρ σ=>K .next ρ σ) ?_ (I.vs.length-0)
  ⟨0,σ₁,ρ,h₁,tk,rfl,rfl,hp,F.evo x₁,r,x₁.wide env,hnd,hf⟩
 rintro n s' ⟨i,σ',ρ',h',tk',rfl,rfl,hp',F',R',x',hnd',hf'⟩
 cases hq:I.vs[i]? with
 | none =>
  rw [List.drop_eq_nil_of_le (aE.mp hq)] at hf'
  refine I.stop A _ { s with heap:=h',toks:=tk' } σ' i _ ao.handled R' hf'.1 hp' hq fun h2 tk2 hk2=>?_
  exact wpAny_execs_nil ⟨.next,ρ',σ',h2,tk2,rfl,.next,hf'.2,F'.but hk2 (I.frz hp' hk2) hX,I.rel hp' R' hnd' hbase hk2,x'.but hk2 hnew⟩
 | some v =>
  obtain⟨hlt,hcons⟩:=tP hq
  rw [hcons] at hf'
  refine ba (I.next A _ { s with heap:=h',toks:=tk' } σ' i v x ?Q ao.handled R' hf'.1 hp' hq (fun q=>oD (htup q)) ?k) (fun r s₁ hr=>?m) fun _ _ x=>x
  case m =>
   cases r with
   | none=>exact hr.elim
   | some w=>exact hr
  case k =>
   intro w h2 tk2 vr hp2 hk2
   exact vG ht hb ao es eo hX hlt (F'.but hk2 (I.frz hp' hk2) hX) (I.rel hp' R' hnd' hbase hk2) (x'.but hk2 hnew) hp2 hnd' vr hf'.2 (fun _ q=>⟨q,q⟩) (fun _ q=>q) fun _ _ q=>q
end
end MP
end
section
set_option tactic.hygienic true
namespace MP
open PySem PyProof.Rows
noncomputable def ownsTuple (n:String):Bool:=["enumerate","zip","dict_itemiterator","dict_reverseitemiterator","odict_iterator","itertools.zip_longest","itertools.pairwise"].contains n
section
variable {G:Stc} {A:Around} {E:Value→Shared→Prop} {s:Shared}
theorem ua {it:Addr} {o:Obj} {n:String} {target:Expr} {w:Value} {Q:Unit→Shared→Prop} (ho:s.heap.get? it=some o) (hc:o.cls=.type n) (hn:ownsTuple n=false) (h:Q () s):wpAny G.M A (letOwnedTupleGo target (.ref it) w) Q E s:=by
 have go:wpAny G.M A (do
   let (.ref r,.ref a):=(Value.ref it,w) | return
   let o←load r
   match o.cls,o.data with
   | .type n,.fields vs=>if (ownsTuple n&&vs[0]?==some (rawInt a))=true then do rule "for.unpacks-the-owned-tuple";updateField r 0 .none else pure ()
   | _,_=>pure ():Sem Unit) Q E s:=by
  cases w with
  | ref a =>
   refine ab (uj ho ?_)
   rw [hc]
   cases o.data with
   | fields vs =>
    show wpAny _ _ (if (ownsTuple n&&vs[0]?==some (rawInt a))=true then _ else _) _ _ _
    rw [hn,Bool.false_and,aw (by decide)]
    exact ae h
   | _=>exact ae h
  | _=>exact ae h
 cases target<;>first | exact go | exact ae h
theorem gx {o:Obj} {n:String} {vs:Array Value} (hc:o.cls=.type n) (hd:o.data=.fields vs) (h1:n ≠ "builtin_function_or_method") (h2:n ≠ "method-wrapper"):¬ Frz o:=by
 rintro (⟨_,_,_,h⟩ | ⟨h | h,_⟩ | ⟨_,h⟩)
 ·rw [hd] at h;cases h
 ·rw [hc] at h;injection h with h;exact h1 h
 ·rw [hc] at h;injection h with h;exact h2 h
 ·rw [hd] at h;cases h
noncomputable def C4 (G:Stc) (it l:Addr) (hne:l≠it) (xs:List V):Itr G where
 it:=it
 own:=[it]
 vs:=xs
 Gd:=fun τ=>τ.L l=some xs
 tup:=false
 pos:=fun i h=>h.IsListIter it l i
 keep:=fun i h h' zz3 hk _=>by obtain⟨o,ho,r⟩:=zz3;exact⟨o,hk it (.head _) o ho,r⟩
 there:=fun i h zz2 b hb=>by obtain⟨o,ho,r⟩:=zz2;obtain rfl:=au.mp hb;exact⟨o,ho⟩
 self:=fun A E s i Q hp q=>wpAny_pyIter_listiter hp q
 nofrz:=fun i h zz2 b hb o' e=>by
  obtain⟨o,ho,hc,hd⟩:=zz2
  obtain rfl:=au.mp hb
  obtain rfl:=af (ho.symm.trans e)
  exact gx hc hd (by decide) (by decide)
 next:=fun A E s σ i v target Q hh R hg hp hv htup k=>by
  obtain⟨ws,n,hl,hvs⟩:=R.L l xs hg
  obtain⟨w,hw,vr⟩:=hvs.get hv
  refine wpAny_pyNext_list_item hp hl.isList (by simpa using hw) fun h' hp' hs=>?_
  obtain⟨o,ho,hc,hd⟩:=id hp'
  have hf:gp s.heap h':=mv hs fun o e=>by
   obtain⟨o',ho',hc',hd'⟩:=id hp
   obtain rfl:=af (ho'.symm.trans e)
   exact gx hc' hd' (by decide) (by decide)
  refine ua ho hc (by decide) (k w h' s.toks (vr.mono hf) hp' fun b o hb e=>?_)
  rw [hs.2 b (fun q=>hb (q▸.head _))];exact e
 stop:=fun A E s σ i Q hh R hg hp hv k=>by
  obtain⟨ws,n,hl,hvs⟩:=R.L l xs hg
  have hlen:=hvs.length
  refine wpAny_pyNext_list_end hh hp hl.isList (by simpa [← hlen] using hv) fun h' he=>?_
  exact k h' s.toks fun b o hb e=>he b o (fun q=>hb (q▸.head _)) e
end
end MP
end
section
namespace MP
open PySem PyProof.Rows
section
variable {G:Stc} {A:Around} {E:Value→Shared→Prop} {s:Shared} {σ:St}
theorem jh {env:Env} {x:Str} {pos:Pos} {v:Value} {Q:Value→Shared→Prop} (K:GOk G) (eo:jl env) (R:Rel G σ s.heap) (hx:env.scope.names.lookup x=some .globalImplicit) (hn:fy x=true) (hv:G.gl x=some v) (h:Q v s):wpAny G.M A (eval (.Name x pos) env) Q E s:=by
 have hx':(x==("__debug__":Str))=false:=by simp only [fy,cq,fh] at hn;exact hn.1
 refine Calls.Name_function_global eo.kind hx ?_ hx'
 obtain⟨mg,mb,hg,hb,e⟩:=K.names
 rw [e] at hv
 have hg':s.heap.Ns env.globals mg:=by rw [eo.globals];exact hg.keeps R.base
 have hb':s.heap.Ns env.builtins mb:=by rw [eo.builtins];exact hb.keeps R.base
 cases hq:mg x with
 | some u=>rw [hq] at hv;cases hv;exact Calls.loadGlobal_global hg' hq h
 | none=>rw [hq] at hv;exact Calls.loadGlobal_builtin hg' hq hb' hv h
end
end MP
end
section
namespace MP
open PySem PyProof.Rows
noncomputable def yQ (G:Stc) (it:Addr) (a c:Int) (n:Nat) (xs:List V) (hl:xs.length=n) (hx:∀ i,i<n→xs[i]?=some (.int (a+c*i))):Itr G where
 it:=it
 own:=[it]
 vs:=xs
 Gd:=fun _=>True
 tup:=false
 pos:=fun i h=>i≤n∧IsRangeIter h it (a+c*i) (n-i) c
 keep:=fun i h h' zz3 hk _=>by obtain⟨hi,hp⟩:=zz3;exact⟨hi,hk it (.head _) _ hp⟩
 there:=fun i h zz2 b hb=>by obtain⟨_,hp⟩:=zz2;obtain rfl:=au.mp hb;exact⟨_,hp⟩
 self:=fun A E s i Q hp q=>wpAny_pyIter_rangeiter hp.2 q
 nofrz:=fun i h zz2 b hb o' e=>by
  obtain⟨_,hp⟩:=zz2
  obtain rfl:=au.mp hb
  obtain rfl:=af (hp.symm.trans e)
  exact gx rfl rfl (by decide) (by decide)
 next:=fun A E s σ i v target Q hh R hg hp hv htup k=>by
  obtain⟨hi,hp⟩:=hp
  have hlt:i<n:=by rw [← hl];exact(ay.mp hv).1
  obtain rfl:v=.int (a+c*i):=af (hv.symm.trans (hx i hlt))
  refine wpAny_pyNext_range_item hp (by exact av (.il .O (.s .L .P)) .a .J hlt) fun h' hp' hs=>?_
  have e:a+c*i+c=a+c*((i+1:Nat):Int):=by push_cast;rw [Int.mul_add];(exact EA (.ie (.a (.a .A .B) .C) (.a .A (.a .B (.r .C 1)))) .m)
  have e2:(n:Int)-i-1=n-((i+1:Nat):Int):=by(exact vv (.ie (.s (.s .L .P) .U) (.s .L (.t .L))) .m)
  rw [e,e2] at hp'
  refine ua hp' rfl (by decide) (k _ h' _ (.int _ _) ⟨hlt,hp'⟩ fun b o hb e=>?_)
  rw [hs.2 b (fun q=>hb (q▸.head _))];exact e
 stop:=fun A E s σ i Q hh R hg hp hv k=>by
  obtain⟨hi,hp⟩:=hp
  have hge:n≤i:=by rw [← hl];exact aE.mp hv
  refine wpAny_pyNext_range_end hh hp (by exact av (.ik (.s .L .P) .O) .a .A hge) fun h' he=>?_
  exact k h' s.toks fun b o hb e=>he b o (fun q=>hb (q▸.head _)) e
theorem nN {a b c:Int} (ha:a.natAbs<2^40) (hb:b.natAbs<2^40) (hc:0<c) (hc':c<2^40):Builtin.Range.small a b c=true:=by
 have hs:0≤Builtin.Range.rangeSize a b c∧Builtin.Range.rangeSize a b c≤2^42:=by
  unfold Builtin.Range.rangeSize
  rw [bp hc]
  split
  ·rename_i h
   have h0:0≤b-a-1:=by(exact km (.ik .O (.s (.s .A .B) .U)) .a .aX h)
   have h1:=Int.ediv_nonneg h0 (Int.le_of_lt hc)
   have h2:=Int.ediv_le_self c h0
   generalize (b-a-1)/c=X at h1 h2 ⊢
   omega
  ·(exact⟨(zv (.ik .O .O) .j),(zv (.ik .O (.n (2^42))) .j)⟩)
 unfold Builtin.Range.small Builtin.Range.rangeFitsLong
 rw [bp hc]
 simp only [cq,ry,d7]
 refine⟨⟨⟨⟨by exact⟨((Ar.nab _).elim (fun q1=>(jf .a3 .a .a1 q1.1)) fun q1=>(mw .a3 .e .R .aJ ha q1.2)),((Ar.nab _).elim (fun q1=>(mw .aY .e .R .aF ha q1.2)) fun q1=>(jf .aY .a .aW q1.1))⟩,by exact⟨((Ar.nab _).elim (fun q1=>(jf .a3 .a .a1 q1.1)) fun q1=>(mw .a3 .e .R .aJ hb q1.2)),((Ar.nab _).elim (fun q1=>(mw .aY .e .R .aF hb q1.2)) fun q1=>(jf .aY .a .aW q1.1))⟩⟩,by exact⟨(jf .a3 .a .aV hc),(jf .aY .a (.il .A (.n (2^40))) hc')⟩⟩,by exact⟨(jf .a3 .a .a1 hs.1),(jf .aY .a (.ik .A (.n (2^42))) hs.2)⟩⟩,.inr (by exact⟨((Ar.nab _).elim (fun q1=>(cZ (.ik (.g .M) .T) .b (.il .O .B) .a1 hc q1.1)) fun q1=>(E9 (.ik (.g .M) .T) .q .R (.il .O .B) .aJ hb hc q1.2)),((Ar.nab _).elim (fun q1=>(E9 (.il .T .M) .q .R (.il .B (.n (2^40))) .aF hb hc' q1.2)) fun q1=>(cZ (.il .T .M) .b (.il .B (.n (2^40))) .aW hc' q1.1))⟩)⟩
theorem lS (a b c:Int) (hc:0<c):Builtin.Range.rangeSize a b c=(((b-a+c-1)/c).toNat:Int):=by
 unfold Builtin.Range.rangeSize
 rw [bp hc]
 split
 ·rename_i h
  have e:b-a+c-1=(b-a-1)+c*1:=by(exact EA (.ie (.s (.a (.s .A .B) .C) .U) (.a (.s (.s .A .B) .U) (.r .C 1))) .m)
  rw [e,Int.add_mul_ediv_left _ _ (by exact jf (.iu .A .O) .a .aV hc)]
  have:=Int.ediv_nonneg (show 0≤b-a-1 by exact km (.ik .O (.s (.s .A .B) .U)) .a .aX h) (Int.le_of_lt hc)
  (exact(Ar.ton _).elim (fun q1=>(pI (.ie (.a .A .U) .L) .h (.ie .L (.a .A .U)) q1.2)) fun q1=>(zR (.ie (.a .A .U) .L) .l .a1 (.ik (.a .A .U) .O) .M this q1.1 q1.2))
 ·rename_i h
  have:(b-a+c-1)/c≤0:=by
   have h1:(b-a+c-1)/c<1:=Int.ediv_lt_of_lt_mul hc (by exact IA (.il (.s (.a (.s .A .B) .C) .U) (.m 1 .C)) .a (.ig .B .A) h)
   (exact jf .aW .a (.il .A .U) h1)
  (exact(Ar.ton _).elim (fun q1=>(mw (.ie .O .L) [[1,1,1],[1,0,0]] .aW .aF this q1.2)) fun q1=>(dh (.ie .O .L) [[1,1],[1,0]] .M q1.2))
section
variable {G:Stc} {C:Cal} {sc:Scope} {d:Nat}
theorem nq {A:Around} {E:Value→Shared→Prop} {s:Shared} {env:Env} {ρ:Fr} {σ:St} {x:Str} {T:String} {es:Exs} {args:List Expr} {p pos:Pos} {P:List V→St→Prop} {Q:Value→Shared→Prop} (K:GOk G) (hs:noStar args=true) (hes:ke G C sc d es args) (hx:sc.names.lookup x=some .globalImplicit) (hn:fy x=true) (hv:G.gl x=some (.type T))
  (ao:AOk A d) (hsc:env.scope=sc) (eo:jl env) (F:FR G σ env ρ s.heap) (R:Rel G σ s.heap) (h:rz C es ρ σ P)
  (k:∀ vs σ₁ h₁ tk ws,P vs σ₁→VRs G h₁ vs ws→Rel G σ₁ h₁→Evo [] σ s.heap σ₁ h₁→wpAny G.M A (call (.type T) ws) Q E { s with heap:=h₁,toks:=tk }) :
  wpAny G.M A (eval (.Call (.Name x p) args [] pos) env) Q E s :=
 Call_ (jh K eo R (by rw [hsc];exact hx) hn hv (qh (gi hs pos env) (ki (gi hs pos env) (jJ (hes A E env ρ σ P s pos ao hsc eo F R h) k))))
theorem dC {A:Around} {E:Value→Shared→Prop} {s:Shared} {env:Env} {ρ:Fr} {σ:St} {x:Str} {id:String} {es:Exs} {args:List Expr} {p pos:Pos} {P:List V→St→Prop} {Q:Value→Shared→Prop} (K:GOk G) (hs:noStar args=true) (hes:ke G C sc d es args) (hx:sc.names.lookup x=some .globalImplicit) (hn:fy x=true) (hv:G.gl x=some (.builtin id))
  (ao:AOk A d) (hsc:env.scope=sc) (eo:jl env) (F:FR G σ env ρ s.heap) (R:Rel G σ s.heap) (h:rz C es ρ σ P)
  (k:∀ vs σ₁ h₁ tk ws,P vs σ₁→VRs G h₁ vs ws→Rel G σ₁ h₁→Evo [] σ s.heap σ₁ h₁→wpAny G.M A (call (.builtin id) ws) Q E { s with heap:=h₁,toks:=tk }) :
  wpAny G.M A (eval (.Call (.Name x p) args [] pos) env) Q E s :=
 Call_ (jh K eo R (by rw [hsc];exact hx) hn hv (oz hs hes ao hsc eo F R h fun vs σ₁ h₁ tk ws q vr r x=>k vs σ₁ h₁ tk ws q vr r x))
theorem dD {A:Around} {E:Value→Shared→Prop} {σ₀ σ:St} {s₀:Shared} {a b c:Int} {t u v:Tok} {xs:List V} {n:Nat} {P:List V→(St→Prop)→St→Prop} {tupled:Bool} {tk:Nat} {h₁:Heap} (R:Rel G σ h₁) (x:Evo [] σ₀ s₀.heap σ h₁) (ha:a.natAbs<2^40) (hb:b.natAbs<2^40) (hc:0<c) (hc':c<2^40)
  (hsz:Builtin.Range.rangeSize a b c=n) (hl:xs.length=n) (hx:∀ i,i<n→xs[i]?=some (.int (a+c*i))) (q:P xs (fun _=>True) σ) :
  wpAny G.M A (pyIter (.ref h₁.objs.size)) (zX G σ₀ s₀ tupled P) E { s₀ with heap:=h₁.push { cls:=.type "range",data:=.fields #[.int a t,.int b u,.int c v] },toks:=tk }:=by
 refine wpAny_pyIter_range (IsRange.new ..) (nN ha hb hc hc') ?_
 have hk:∀ z o,h₁.get? z=some o→((h₁.push { cls:=.type "range",data:=.fields #[.int a t,.int b u,.int c v] }).push { cls:=.type "range_iterator",data:=.fields #[rawInt a,rawInt (Builtin.Range.rangeSize a b c),rawInt c] }).get? z=some o:=fun z o e=>aj _ (aj _ e)
 have hsz1:(h₁.push { cls:=.type "range",data:=.fields #[.int a t,.int b u,.int c v] }).objs.size=h₁.objs.size+1:=ez ..
 have hnone:h₁.get? (h₁.objs.size+1)=none:=yv (by exact fo (.k .A .M) .j)
 refine⟨yQ G (h₁.objs.size+1) a c n xs hl hx,σ,_,tk,rfl,by rw [← hsz1];rfl,fun h=>(nomatch h),q,⟨br _,?_⟩,R.keeps hk,x.trans (Evo.keeps hk),fun z hz=>?_,fun z hz dm=>?_⟩
 ·rw [← hsz1]
  have:=cm (h₁.push { cls:=.type "range",data:=.fields #[.int a t,.int b u,.int c v] }) (o:={ cls:=.type "range_iterator",data:=.fields #[rawInt a,rawInt (Builtin.Range.rangeSize a b c),rawInt c] }) rfl
  show IsRangeIter _ _ (a+c*((0:Nat):Int)) ((n:Int)-((0:Nat):Int)) c
  rw [show a+c*((0:Nat):Int)=a by simp,show(n:Int)-((0:Nat):Int)=n by simp,← hsz]
  exact this
 ·obtain rfl:=au.mp hz
  cases hq:s₀.heap.get? (h₁.objs.size+1) with
  | none=>rfl
  | some o=>obtain⟨o',e'⟩:=x.there _ _ hq;rw [hnone] at e';cases e'
 ·obtain rfl:=au.mp hz
  obtain⟨o,e⟩:=R.nt dm
  rw [hnone] at e;cases e
theorem iM (a b:Int) (n:Nat) (hn:n=(b-a).toNat):(qc a b).length=n∧∀ i,i<n→(qc a b)[i]?=some (.int (a+1*i)):=by
 subst hn
 refine⟨by simp [qc],fun i hi=>?_⟩
 unfold qc
 rw [bw,List.getElem?_range hi]
 simp
theorem qZ (a b c:Int) (hc:0<c) (n:Nat) (hn:n=((b-a+c-1)/c).toNat):(fP a b c).length=n∧∀ i,i<n→(fP a b c)[i]?=some (.int (a+c*i)):=by
 subst hn
 refine⟨by simp [fP,hc],fun i hi=>?_⟩
 unfold fP
 rw [bp hc,bw,List.getElem?_range hi]
 simp
theorem C8 {tupled:Bool} {e:Ex} {x:Str} {y:Expr} {p pos:Pos} (K:GOk G) (he:cz G C sc d e y) (hst:noStar [y]=true) (hx:sc.names.lookup x=some .globalImplicit) (hn:fy x=true) (hv:G.gl x=some (.type "range")) :
  yn G C sc d tupled (.rng1 e) (.Call (.Name x p) [y] [] pos):=fun A E env ρ σ P s ao es eo F R h=>by
 have hes:ke G C sc d (.cons e .nil) [y]:=ek he jo (cu hst).1
 refine nq (P:=fun vs σ=>on1 vs fun v=>∃ n:Int,v=.int n∧n.natAbs<2^40∧P (qc 0 n) (fun _=>True) σ) K hst hes hx hn hv ao es eo F R h fun vs σ₁ h₁ tk ws q vr r x₁=>?_
 obtain⟨v,rfl,n,rfl,hb,q⟩:=gK (vs:=vs) q
 obtain⟨w,rfl,t,rfl⟩:=vr.one
 obtain⟨g1,g2⟩:=iM 0 n _ rfl
 exact call_range_1 (dD r x₁ (by decide) hb (by decide) (by decide) (by rw [rangeSize_nat]) g1 g2 q)
theorem C7 {tupled:Bool} {e f:Ex} {x:Str} {y z:Expr} {p pos:Pos} (K:GOk G) (he:cz G C sc d e y) (hf:cz G C sc d f z) (hst:noStar [y,z]=true) (hx:sc.names.lookup x=some .globalImplicit) (hn:fy x=true) (hv:G.gl x=some (.type "range")) :
  yn G C sc d tupled (.rng2 e f) (.Call (.Name x p) [y,z] [] pos):=fun A E env ρ σ P s ao es eo F R h=>by
 have hes:ke G C sc d (.cons e (.cons f .nil)) [y,z]:=ek he (ek hf jo (cu (cu hst).2).1) (cu hst).1
 refine nq (P:=fun vs σ=>on2 vs fun v u=>∃ m n:Int,v=.int m∧u=.int n∧m.natAbs<2^40∧n.natAbs<2^40∧P (qc m n) (fun _=>True) σ) K hst hes hx hn hv ao es eo F R h fun vs σ₁ h₁ tk ws q vr r x₁=>?_
 obtain⟨v,u,rfl,m,n,rfl,rfl,ha,hb,q⟩:=gJ (vs:=vs) q
 obtain⟨w,w',rfl,⟨t,rfl⟩,⟨t',rfl⟩⟩:=vr.two
 obtain⟨g1,g2⟩:=iM m n _ rfl
 exact call_range_2 (dD r x₁ ha hb (by decide) (by decide) (by rw [rangeSize_nat]) g1 g2 q)
theorem VRs.three {h:Heap} {v u z:V} {ws:List Value} (x:VRs G h [v,u,z] ws):∃ w w' w'',ws=[w,w',w'']∧VR G h v w∧VR G h u w'∧VR G h z w'':=by
 obtain⟨w,us,e,a,r⟩:=x
 obtain⟨w',w'',e',b,c⟩:=VRs.two r
 exact⟨w,w',w'',e.trans (bx (w::·) e'),a,b,c⟩
theorem C6 {tupled:Bool} {e f g:Ex} {x:Str} {y z o:Expr} {p pos:Pos} (K:GOk G) (he:cz G C sc d e y) (hf:cz G C sc d f z) (hg:cz G C sc d g o) (hst:noStar [y,z,o]=true) (hx:sc.names.lookup x=some .globalImplicit) (hn:fy x=true) (hv:G.gl x=some (.type "range")) :
  yn G C sc d tupled (.rng3 e f g) (.Call (.Name x p) [y,z,o] [] pos):=fun A E env ρ σ P s ao es eo F R h=>by
 have hes:ke G C sc d (.cons e (.cons f (.cons g .nil))) [y,z,o]:=ek he (ek hf (ek hg jo (cu (cu (cu hst).2).2).1) (cu (cu hst).2).1) (cu hst).1
 refine nq (P:=fun vs σ=>on3 vs fun v u z=>∃ m n k:Int,v=.int m∧u=.int n∧z=.int k∧m.natAbs<2^40∧n.natAbs<2^40∧0<k∧k<2^40∧P (fP m n k) (fun _=>True) σ) K hst hes hx hn hv ao es eo F R h fun vs σ₁ h₁ tk ws q vr r x₁=>?_
 obtain⟨v,u,z,rfl,m,n,k,rfl,rfl,rfl,ha,hb,hc,hc',q⟩:=DL (vs:=vs) q
 obtain⟨w,w',w'',rfl,⟨t,rfl⟩,⟨t',rfl⟩,⟨t'',rfl⟩⟩:=vr.three
 obtain⟨g1,g2⟩:=qZ m n k hc _ rfl
 exact call_range_3 (by exact jf (.iu .A .O) .a .aV hc) (dD r x₁ ha hb hc hc' (by rw [lS _ _ _ hc]) g1 g2 q) (.inl (dS (log2_lt_of (by exact(Ar.nab _).elim (fun q1=>(mw .W .b (.il .A (.n (2^40))) .aF hc' q1.2)) fun q1=>(mw .W .b .aV .aJ hc q1.2)))))
end
end MP
end
section
namespace MP
open PySem PyProof.Rows
noncomputable def FP (G:Stc) (it t:Addr) (xs:List V):Itr G where
 it:=it
 own:=[it]
 vs:=xs
 Gd:=fun _=>True
 tup:=false
 pos:=fun i h=>IsTupIter h it t i∧t≠it∧∃ ws n,IsT h t ws.toArray n∧VRs G h xs ws
 keep:=fun i h h' zz3 hk hf=>by obtain⟨⟨o,ho,r⟩,hne,ws,n,ht,vr⟩:=zz3;exact⟨⟨o,hk it (.head _) o ho,r⟩,hne,ws,n,hf t _ (show h.get? t=some { cls:=.type "tuple",dict:=none,data:=.seq ws.toArray n,slots:=#[] } from ht) (.inl ⟨show Value.type "tuple" ≠ .type "list" by decide,_,_,rfl⟩),vr.mono hf⟩
 there:=fun i h zz2 b hb=>by obtain⟨⟨o,ho,r⟩,_⟩:=zz2;obtain rfl:=au.mp hb;exact⟨o,ho⟩
 self:=fun A E s i Q hp q=>wpAny_pyIter_tupleiter hp.1 q
 nofrz:=fun i h zz2 b hb o' e=>by
  obtain⟨⟨o,ho,hc,hd⟩,_⟩:=zz2
  obtain rfl:=au.mp hb
  obtain rfl:=af (ho.symm.trans e)
  exact gx hc hd (by decide) (by decide)
 next:=fun A E s σ i v target Q hh R hg hp hv htup k=>by
  obtain⟨hp,hne,ws,n,ht,vrs⟩:=hp
  obtain⟨w,hw,vr⟩:=vrs.get hv
  refine next_tuple_item hp ⟨_,ht,rfl,n,rfl⟩ (by simpa using hw) fun h' hp' hs=>?_
  obtain⟨o,ho,hc,hd⟩:=id hp'
  have hf:gp s.heap h':=mv hs fun o e=>by
   obtain⟨o',ho',hc',hd'⟩:=id hp
   obtain rfl:=af (ho'.symm.trans e)
   exact gx hc' hd' (by decide) (by decide)
  refine ua ho hc (by decide) (k w h' s.toks (vr.mono hf) ⟨hp',hne,ws,n,by rw [IsT,hs.2 _ hne];exact ht,vrs.mono hf⟩ fun b o hb e=>?_)
  rw [hs.2 b (fun q=>hb (q▸.head _))];exact e
 stop:=fun A E s σ i Q hh R hg hp hv k=>by
  obtain⟨hp,hne,ws,n,ht,vrs⟩:=hp
  have hlen:=vrs.length
  refine next_tuple_end hh hp ⟨_,ht,rfl,n,rfl⟩ (by simpa [← hlen] using hv) fun h' he=>?_
  exact k h' s.toks fun b o hb e=>he b o (fun q=>hb (q▸.head _)) e
section
variable {G:Stc} {C:Cal} {sc:Scope} {d:Nat}
theorem FQ {tupled:Bool} {e:Ex} {y:Expr} (he:cz G C sc d e y):yn G C sc d tupled (.seq e) y:=fun A E env ρ σ P s ao es eo F R h=>by
 refine mr (he A E env ρ σ _ s ao es eo F R h) fun v σ₁ h₁ tk w q vr r x=>?_
 have hnone:h₁.get? h₁.objs.size=none:=none_at_size h₁
 have hnew:s.heap.get? h₁.objs.size=none:=by
  cases hq:s.heap.get? h₁.objs.size with
  | none=>rfl
  | some o=>obtain⟨o',e'⟩:=x.there _ _ hq;rw [hnone] at e';cases e'
 have hdom:¬ σ₁.dom h₁.objs.size:=fun dm=>by obtain⟨o,e⟩:=r.nt dm;rw [hnone] at e;cases e
 cases v with
 | lst a =>
  obtain rfl:=vr
  obtain⟨xs,e,q⟩:=q
  obtain⟨ws,n,hl,hv⟩:=r.L _ _ e
  have hne:=jn (et hl)
  refine wpAny_pyIter_list (s:={ s with heap:=h₁,toks:=tk }) hl.isList ?_
  exact⟨C4 G h₁.objs.size _ hne xs,σ₁,_,tk,rfl,rfl,fun h=>(nomatch h),q,⟨_,cm _ rfl,rfl,rfl⟩,r.push _,x.trans (Evo.push _ _ _ _),fun z hz=>by obtain rfl:=au.mp hz;exact hnew,fun z hz=>by obtain rfl:=au.mp hz;exact hdom⟩
 | tup xs =>
  obtain⟨a,ws,n,rfl,g,vrs⟩:=vr
  have hne:=jn (et g)
  refine iter_tuple (s:={ s with heap:=h₁,toks:=tk }) ⟨_,g,rfl,_,rfl⟩ ?_
  exact⟨FP G h₁.objs.size _ _,σ₁,_,tk,rfl,rfl,fun h=>(nomatch h),q,⟨⟨_,cm _ rfl,rfl,rfl⟩,hne,_,_,g.push _,vrs.mono fun _ _ e _=>aj _ e⟩,r.push _,x.trans (Evo.push _ _ _ _),fun z hz=>by obtain rfl:=au.mp hz;exact hnew,fun z hz=>by obtain rfl:=au.mp hz;exact hdom⟩
 | _=>exact False.elim q
end
end MP
end
section
namespace MP
open PySem PyProof.Rows
noncomputable def C5 (G:Stc) (e it l:Addr) (hle:l≠e) (hli:l≠it) (hei:e≠it) (xs:List V):Itr G where
 it:=e
 own:=[e,it]
 vs:=xs.zipIdx.map fun p=>V.tup [.int p.2,p.1]
 Gd:=fun τ=>τ.L l=some xs
 tup:=true
 pos:=fun i h=>(∃ old,IsEnum h e it i old)∧h.IsListIter it l i
 keep:=fun i h h' zz3 hk _=>by obtain⟨⟨old,he⟩,⟨o,ho,r⟩⟩:=zz3;exact⟨⟨old,hk e (.head _) _ he⟩,⟨o,hk it (.tail _ (.head _)) o ho,r⟩⟩
 there:=fun i h zz2 b hb=>by
  obtain⟨⟨old,he⟩,⟨o,ho,r⟩⟩:=zz2
  rcases cf.mp hb with rfl | hb
  ·exact⟨_,he⟩
  ·obtain rfl:=au.mp hb;exact⟨o,ho⟩
 self:=fun A E s i Q hp q=>by obtain⟨⟨old,he⟩,_⟩:=hp;exact wpAny_pyIter_enum he q
 nofrz:=fun i h zz2 b hb o' eo=>by
  obtain⟨⟨old,he⟩,⟨o,ho,hc,hd⟩⟩:=zz2
  rcases cf.mp hb with rfl | hb
  ·obtain rfl:=af (he.symm.trans eo)
   exact gx rfl rfl (by decide) (by decide)
  ·obtain rfl:=au.mp hb
   obtain rfl:=af (ho.symm.trans eo)
   exact gx hc hd (by decide) (by decide)
 next:=fun A E s σ i v target Q hh R hg hp hv htup k=>by
  obtain⟨⟨old,he⟩,hit⟩:=hp
  obtain⟨ws,n,hl,hvs⟩:=R.L l xs hg
  rw [bw,List.getElem?_zipIdx] at hv
  cases hxi:xs[i]? with
  | none=>rw [hxi] at hv;cases hv
  | some u =>
   rw [hxi] at hv
   simp only [wt,dv,qj] at hv
   subst hv
   obtain⟨w,hw,vr⟩:=hvs.get hxi
   obtain⟨es,kk,p,rfl⟩:=htup rfl
   refine wpAny_pyNext_enum_item he hit hl.isList (by simpa using hw) hei fun h' heo hit' htp hz hk=>?_
   refine wpAny_letOwnedTupleGo_enum heo fun h₂ he₂ hs₂=>?_
   have old':∀ b o,b∉[e,it]→s.heap.get? b=some o→h₂.get? b=some o:=fun b o hb eb=>by
    have hbe:b≠e:=fun q=>hb (q▸.head _)
    rw [hs₂.2 b hbe]
    exact hk b o hbe (fun q=>hb (q▸.tail _ (.head _))) eb
   have hf:gp s.heap h₂:=fun b o eb f=>old' b o (fun hb=>by
    rcases cf.mp hb with rfl | hb
    ·obtain rfl:=af (he.symm.trans eb)
     exact gx rfl rfl (by decide) (by decide) f
    ·obtain rfl:=au.mp hb
     obtain⟨o',ho',hc',hd'⟩:=hit
     obtain rfl:=af (ho'.symm.trans eb)
     exact gx hc' hd' (by decide) (by decide) f) eb
   have hne:s.heap.objs.size≠e:=fun q=>gm e (Nat.lt_of_lt_of_eq (et he) q)
   have htp2:IsT h₂ s.heap.objs.size [Value.int i s.toks,w].toArray 0:=by
    show h₂.get? _=_
    rw [hs₂.2 _ hne];exact htp
   refine k _ h₂ _ (.tup htp2 (.cons (.int _ _) (.cons (vr.mono hf) .nil))) ⟨⟨_,by exact_mod_cast he₂⟩,?_⟩ old'
   obtain⟨o,ho,r⟩:=hit'
   exact⟨o,by rw [hs₂.2 _ hei.symm];exact ho,r⟩
 stop:=fun A E s σ i Q hh R hg hp hv k=>by
  obtain⟨⟨old,he⟩,hit⟩:=hp
  obtain⟨ws,n,hl,hvs⟩:=R.L l xs hg
  have hlen:=hvs.length
  have hx:xs[i]?=none:=by
   rw [bw,List.getElem?_zipIdx] at hv
   cases hxi:xs[i]? with
   | none=>rfl
   | some u=>rw [hxi] at hv;cases hv
  refine wpAny_pyNext_enum_end hh he hit hl.isList (by simpa [← hlen] using hx) fun h' hx'=>?_
  exact k h' s.toks fun b o hb e=>hx' b o (fun q=>hb (q▸.tail _ (.head _))) e
section
variable {G:Stc} {C:Cal} {sc:Scope} {d:Nat}
theorem C9 {e:Ex} {x:Str} {y:Expr} {p pos:Pos} (K:GOk G) (he:cz G C sc d e y) (hst:noStar [y]=true) (hx:sc.names.lookup x=some .globalImplicit) (hn:fy x=true) (hv:G.gl x=some (.type "enumerate")) :
  yn G C sc d true (.enum e) (.Call (.Name x p) [y] [] pos):=fun A E env ρ σ P s ao es eo F R h=>by
 have hes:ke G C sc d (.cons e .nil) [y]:=ek he jo (cu hst).1
 refine nq (P:=fun vs σ=>on1 vs fun v=>∃ (a:Addr) (xs:List V),v=.lst a∧σ.L a=some xs∧P (xs.zipIdx.map fun p:V × Nat=>V.tup [.int p.2,p.1]) (fun τ=>τ.L a=some xs) σ) K hst hes hx hn hv ao es eo F R h fun vs σ₁ h₁ tk ws q vr r x₁=>?_
 obtain⟨v,rfl,a,xs,rfl,e1,q⟩:=gK (vs:=vs) q
 obtain⟨w,rfl,rfl⟩:=vr.one
 obtain⟨us,n,hl,hvs⟩:=r.L _ _ e1
 have hlt:=et hl
 refine call_enumerate_list (s:={ s with heap:=h₁,toks:=tk }) hl.isList fun h' hE hI hz hk=>?_
 refine wpAny_pyIter_enum (s:={ s with heap:=h',toks:=tk }) hE ?_
 have fresh:∀ z,h₁.objs.size≤z→h₁.get? z=none:=fun z hz=>yv hz
 refine⟨C5 G (h₁.objs.size+1) h₁.objs.size a (jn (Nat.lt_succ_of_lt hlt)) (jn hlt) (Nat.succ_ne_self _) xs,σ₁,h',tk,rfl,rfl,fun _=>rfl,q,⟨⟨_,hE⟩,hI⟩,r.keeps hk,x₁.trans (Evo.keeps hk),fun z hz=>?_,fun z hz dm=>?_⟩
 ·have hzz:h₁.objs.size≤z:=by
   rcases cf.mp hz with rfl | hz
   ·(exact fo (.k .A .M) .j)
   ·obtain rfl:=au.mp hz;(exact fo (.k .A .A) .j)
  cases hq:s.heap.get? z with
  | none=>rfl
  | some o=>obtain⟨o',e'⟩:=x₁.there _ _ hq;rw [fresh z hzz] at e';cases e'
 ·have hzz:h₁.objs.size≤z:=by
   rcases cf.mp hz with rfl | hz
   ·(exact fo (.k .A .M) .j)
   ·obtain rfl:=au.mp hz;(exact fo (.k .A .A) .j)
  obtain⟨o,e⟩:=r.nt dm
  rw [fresh z hzz] at e;cases e
end
end MP
end
section
namespace MP
open PySem PyProof.Rows
theorem gk:∀ (names:List (Str × NameKind)) (n:Nat) (acc:List (Str × Addr)),cellsFrom n names acc=cellsFrom n names []++acc
 | [],_,_=>by simp [cellsFrom]
 | (x,k)::r,n,acc=>by
  unfold cellsFrom
  split
  ·rw [gk r (n+1) ((x,n)::acc),gk r (n+1) [(x,n)]];simp
  ·exact gk r n acc
theorem vd:∀ (names:List (Str × NameKind)) (n:Nat) (x:Str) (c:Addr),(x,c)∈cellsFrom n names []→(x,NameKind.cell)∈names
 | [],_,_,_,h=>by simp [cellsFrom] at h
 | (y,k)::r,n,x,c,h=>by
  unfold cellsFrom at h
  split at h
  ·rename_i hk
   rw [gk] at h
   rcases dz.mp h with h | h
   ·exact .tail _ (vd r _ x c h)
   ·obtain⟨rfl,rfl⟩:=kn (au.mp h)
    rw [sg] at hk;subst hk;exact .head _
  ·exact .tail _ (vd r _ x c h)
theorem vf:∀ (names:List (Str × NameKind)) (n:Nat) (x:Str),(x,NameKind.cell)∈names→∃ c,(x,c)∈cellsFrom n names []
 | [],_,_,h=>by cases h
 | (y,k)::r,n,x,h=>by
  unfold cellsFrom
  split
  ·rw [gk]
   rcases cf.mp h with e | h
   ·obtain⟨rfl,_⟩:=kn e
    exact⟨n,gq _ (.head _)⟩
   ·obtain⟨c,hc⟩:=vf r (n+1) x h
    exact⟨c,gz _ hc⟩
  ·rename_i hk
   rcases cf.mp h with e | h
   ·obtain⟨_,rfl⟩:=kn e;simp at hk
   ·exact vf r n x h
theorem tx {α:Type} {l:List (Str × α)} {x:Str} {c:α} (h:(x,c)∈l):∃ c',l.lookup x=some c':=by
 cases hq:l.lookup x with
 | some c'=>exact⟨c',rfl⟩
 | none=>rw [so] at hq;have:=hq _ h;simp at this
theorem dH {α:Type} {l r:List (Str × α)} {x:Str} {c:α} (h:l.lookup x=some c):(l++r).lookup x=some c:=by
 rw [List.lookup_append,h];rfl
theorem zt {α:Type} {l r:List (Str × α)} {x:Str} (h:l.lookup x=none):(l++r).lookup x=r.lookup x:=by
 rw [List.lookup_append,h];rfl
theorem oC {names:List (Str × NameKind)} (nd:(names.map (·.1)).Nodup) {x:Str} {k k':NameKind} (h:(x,k)∈names) (h':(x,k')∈names):k=k':=by
 obtain⟨i,hi,e⟩:=jE.mp h
 obtain⟨j,hj,e'⟩:=jE.mp h'
 have h1:names[i]?=some (x,k):=by rw [bq hi,e]
 have h2:names[j]?=some (x,k'):=by rw [bq hj,e']
 have:=eG nd h1 h2
 subst this
 rw [h1] at h2;cases h2;rfl
structure zZ (G:Stc) (σ:St) (h:Heap) (names:List (Str × NameKind)) (cl:List (Str × Addr)) (ρf:Fr):Prop where
 free:∀ (i:Nat) (x:Str),names[i]?=some (x,.free)→∃ c w,cl.lookup x=some c∧h.IsCell c w∧OV G h (ρf i) w∧¬ σ.dom c∧G.hb.get? c=none
 inj:∀ (i j:Nat) (x y:Str) (c:Addr),names[i]?=some (x,.free)→names[j]?=some (y,.free)→cl.lookup x=some c→cl.lookup y=some c→i=j
 all:∀ p∈cl,∃ o,h.get? p.2=some o
 other:∀ (i:Nat) (x:Str) (k:NameKind),names[i]?=some (x,k)→k≠.free→ρf i=none
theorem iQ {G:Stc} {σ:St} {h:Heap} {names:List (Str × NameKind)} {cl:List (Str × Addr)} {ρf:Fr} {env:Env} {T:String} (R:Rel G σ h) (nd:(names.map (·.1)).Nodup) (K:zZ G σ h names cl ρf)
  (hl:env.locals=h.objs.size) (hc:env.cells=cellsFrom (h.objs.size+1) names cl) (hk:∀ (i:Nat) (x:Str) (k':NameKind),env.scope.names[i]?=some (x,k')→∃ k,names[i]?=some (x,k)∧(k'=k∨(k=.free∧k'=.cell))) :
  FR G σ env ρf (pushCells (h.push { cls:=.type T,data:=.dict #[] }) names)∧(∀ b o,h.get? b=some o→(pushCells (h.push { cls:=.type T,data:=.dict #[] }) names).get? b=some o):=by
 have keep:∀ b o,h.get? b=some o→(pushCells (h.push { cls:=.type T,data:=.dict #[] }) names).get? b=some o:=fun b o e=>pushCells_keeps _ _ b o (aj _ e)
 have frz:gp h (pushCells (h.push { cls:=.type T,data:=.dict #[] }) names):=fun b o e _=>keep b o e
 have ok:=cellsFrom_ok names (h.push { cls:=.type T,data:=.dict #[] }) (h.objs.size+1) [] ⟨fun _ _ hm=>(nomatch hm),List.Pairwise.nil⟩ (by rw [ez];exact ah _)
 rw [ez] at ok
 have nodom:∀ c,h.objs.size≤c→¬ σ.dom c:=fun c hc d=>by obtain⟨o,e⟩:=R.nt d;exact absurd (et e) (qi.mpr hc)
 have nobase:∀ c,h.objs.size≤c→G.hb.get? c=none:=fun c hc=>by
  cases hq:G.hb.get? c with
  | none=>rfl
  | some o=>exact absurd (et (R.base c o hq)) (qi.mpr hc)
 have locObj:(pushCells (h.push { cls:=.type T,data:=.dict #[] }) names).get? h.objs.size=some { cls:=.type T,data:=.dict #[] }:=pushCells_keeps _ _ _ _ (cm _ rfl)
 have cellAt:∀ (i:Nat) (x:Str),names[i]?=some (x,.cell)→∃ c,env.cells.lookup x=some c∧(x,c)∈cellsFrom (h.objs.size+1) names []:=fun i x e=>by
  obtain⟨c,hm⟩:=vf names (h.objs.size+1) x (ew e)
  obtain⟨c',hl'⟩:=tx hm
  exact⟨c',by rw [hc,gk];exact dH hl',mem_of_lookup hl'⟩
 have freeAt:∀ (i:Nat) (x:Str),names[i]?=some (x,.free)→env.cells.lookup x=cl.lookup x:=fun i x e=>by
  rw [hc,gk]
  refine zt ?_
  cases hq:(cellsFrom (h.objs.size+1) names []).lookup x with
  | none=>rfl
  | some c=>have:=oC nd (vd _ _ _ _ (mem_of_lookup hq)) (ew e);cases this
 refine⟨⟨⟨_,by rewrite [hl];exact(Heap.Ns.new h (.type T)).keeps (pushCells_keeps _ _),fun i x e=>?_⟩,fun i x k' e hk'=>?_,fun i j x y k k' c ei ej hki hkj lx ly=>?_,by rw [hl];exact nodom _ (ah _),fun o e=>?_,by rw [hl];exact nobase _ (ah _),fun p hp=>?_⟩,keep⟩
 ·obtain⟨k,e',hkk⟩:=hk i x _ e
  have:ρf i=none:=K.other i x k e' (by rcases hkk with h | ⟨_,h⟩;exact h▸(by decide);cases h)
  rw [this];trivial
 ·obtain⟨k,e',hkk⟩:=hk i x _ e
  have hk2:k=.cell∨k=.free:=by rcases hkk with h | ⟨h,_⟩;exact h▸hk';exact .inr h
  rcases hk2 with rfl | rfl
  ·obtain⟨c,hlk,hm⟩:=cellAt i x e'
   have hce:=ok.empty x c hm
   refine⟨c,none,hlk,hce.1,by rewrite [K.other i x _ e' (by decide)];trivial,nodom c (Nat.le_of_succ_le hce.2),by rewrite [hl];exact Nat.ne_of_gt (Nat.lt_of_succ_le hce.2),nobase c (Nat.le_of_succ_le hce.2)⟩
  ·obtain⟨c,w,h1,h2,h3,h4,h5⟩:=K.free i x e'
   refine⟨c,w,by rw [freeAt i x e'];exact h1,h2.keeps keep,h3.mono frz,h4,?_,h5⟩
   rw [hl];exact jn h2.lt
 ·obtain⟨k1,e1,hk1⟩:=hk i x _ ei
  obtain⟨k2,e2,hk2⟩:=hk j y _ ej
  have hk1':k1=.cell∨k1=.free:=by rcases hk1 with h | ⟨h,_⟩;exact h▸hki;exact .inr h
  have hk2':k2=.cell∨k2=.free:=by rcases hk2 with h | ⟨h,_⟩;exact h▸hkj;exact .inr h
  have low:∀ (i:Nat) (x:Str) (c:Addr),names[i]?=some (x,.free)→env.cells.lookup x=some c→c<h.objs.size:=fun i x c e l=>by
   obtain⟨c',w,h1,h2,_⟩:=K.free i x e
   rw [freeAt i x e,h1] at l;cases l;exact h2.lt
  have high:∀ (i:Nat) (x:Str) (c:Addr),names[i]?=some (x,.cell)→env.cells.lookup x=some c→h.objs.size<c∧(x,c)∈cellsFrom (h.objs.size+1) names []:=fun i x c e l=>by
   obtain⟨c',h1,h2⟩:=cellAt i x e
   rw [h1] at l;cases l
   exact⟨(ok.empty x c h2).2,h2⟩
  rcases hk1' with rfl | rfl<;>rcases hk2' with rfl | rfl
  ·obtain⟨_,m1⟩:=high i x c e1 lx
   obtain⟨_,m2⟩:=high j y c e2 ly
   have:=name_of_addr ok.apart m1 m2
   subst this
   exact eG nd e1 e2
  ·have:=(high i x c e1 lx).1;have:=low j y c e2 ly;exact absurd ‹c<h.objs.size› (qi.mpr (xt ‹h.objs.size<c›))
  ·have:=(high j y c e2 ly).1;have:=low i x c e1 lx;exact absurd ‹c<h.objs.size› (qi.mpr (xt ‹h.objs.size<c›))
  ·exact K.inj i j x y c e1 e2 (by rw [← freeAt i x e1];exact lx) (by rw [← freeAt j y e2];exact ly)
 ·rw [hl,locObj] at e;cases e;exact pj rfl
 ·rw [hc,gk] at hp
  rcases dz.mp hp with hp | hp
  ·obtain⟨⟨o,ho,_⟩,_⟩:=ok.empty p.1 p.2 hp;exact⟨o,ho⟩
  ·obtain⟨o,ho⟩:=K.all p hp;exact⟨o,keep _ _ ho⟩
section
variable {G:Stc} {A:Around} {E:Value→Shared→Prop}
theorem kZ {env:Env} {σ:St} (eo:jl env) (f:Str × Value→PUnit→Sem (ForInStep PUnit)) (hf:∀ n v u,f (n,v) u=(do storeName env n v;pure (.yield ⟨⟩))) :
  ∀ (j:Nat) (ns:List Str) (vs:List V) (ws:List Value) (ρ:Fr) (s:Shared) (Q:PUnit→Shared→Prop),ns.length=ws.length→(∀ (i:Nat) (x:Str),ns[i]?=some x→∃ k,env.scope.names[j+i]?=some (x,k)∧uo k=true) →
   FR G σ env ρ s.heap→Rel G σ s.heap→VRs G s.heap vs ws →
   (∀ h' tk ρ',(∀ i,ρ' i=if i<j then ρ i else if i<j+vs.length then vs[i-j]? else ρ i)→FR G σ env ρ' h'→Rel G σ h'→Evo (envX env) σ s.heap σ h'→Q ⟨⟩ { s with heap:=h',toks:=tk }) →
   wpAny G.M A (forIn (ns.zip ws) ⟨⟩ f) Q E s
 | j,[],vs,ws,ρ,s,Q,hl,hn,F,R,vr,q=>by
  cases ws with
  | cons _ _=>simp at hl
  | nil =>
   cases vs with
   | cons _ _=>obtain⟨_,_,e,_⟩:=vr;cases e
   | nil =>
    rw [List.zip_nil_left,jy]
    refine ae (q s.heap s.toks ρ (fun i=>?_) F R (Evo.refl _ _ _))
    by_cases h:i<j
    ·simp [h]
    ·simp [h]
 | j,x::ns,vs,ws,ρ,s,Q,hl,hn,F,R,vr,q=>by
  cases vs with
  | nil=>obtain rfl:=vr;cases hl
  | cons v vs =>
   obtain⟨w,ws,rfl,va,vr⟩:=vr
   rw [List.zip_cons_cons,lp,hf]
   obtain⟨k,hi,hk⟩:=hn 0 x rfl
   refine ab (ab (tf eo F R hi hk va fun h' tk F' R' x'=>ae ?_))
   refine kZ eo f hf (j+1) ns vs ws _ { s with heap:=h',toks:=tk } Q (by simpa using hl) (fun i y e=>?_) F' R' (vr.mono x'.frz) fun h2 tk2 ρ' hρ F2 R2 x2=>?_
   ·obtain⟨k,hi,hk⟩:=hn (i+1) y (by simpa using e)
    exact⟨k,by rw [show j+1+i=j+(i+1) by(exact vv (.e (.a .M .B) .a2) .m)];exact hi,hk⟩
   ·refine q h2 tk2 ρ' (fun i=>?_) F2 R2 (x'.trans x2)
    rw [hρ i]
    simp only [bz,qk]
    by_cases h1:i<j
    ·rw [bp (by exact av .Q .a .B h1),bp h1,cj (by exact av .cG .x .B h1)]
    ·rw [aw h1]
     by_cases h2:i=j
     ·subst h2
      rw [bp (by exact fo (.l .A .M) .j),bp (by exact vv (.l .A .a2) .j),bc];simp
     ·rw [aw (by exact(aq h2).elim (fun q1=>(dq (.g .A .L) .c .aM .B h1 q1)) fun q1=>(av (.g .A .L) .a .J q1))]
      by_cases h3:i<j+1+vs.length
      ·rw [bp h3,bp (by exact cv (.l .A .aC) .a (.l .A (.a .L .C)) h3),show i-j=(i-(j+1))+1 by(exact Ar.sub _ _ (fun q1 p1=>(dn .a9 .n .bM (.e .aC .D) (aa (av .A .a .cH h1)) p1)) fun q1 p1=>((aq h2).elim (fun q2=>(eT .a9 [[0,1,0,0,1],[1,0,1,1,0]] (.g .C .D) .b2 (.k .C .V) .L h1 (aa (av .A .a .cH h1)) q1 q2)) fun q2=>(eT .a9 [[1,-1,0,1,1],[1,1,1,0,0]] .bM (.k .D .R) (.e .B .O) .L (aa (av .A .a .cH h1)) q1 p1 q2)))];simp
      ·rw [aw h3,aw (by exact cv (.g .A .aC) .a (.g .A (.a .L .C)) h3),cj h2]
end
end MP
end
section
namespace MP
open PySem PyProof.Rows
noncomputable def om:List Str→List (Str × NameKind)→Bool
 | [],_=>true
 | x::xs,(y,k)::r=>x==y&&uo k&&om xs r
 | _::_,[]=>false
theorem gL:∀ {xs:List Str} {r:List (Str × NameKind)},om xs r=true→∀ (i:Nat) (x:Str),xs[i]?=some x→∃ k,r[i]?=some (x,k)∧uo k=true
 | [],_,_,i,x,e=>by simp at e
 | _::_,[],h,_,_,_=>by simp [om] at h
 | x::xs,(y,k)::r,h,0,z,e=>by
  simp only [om,cq,sg] at h
  simp at e;subst e
  exact⟨k,by simp [h.1.1],h.1.2⟩
 | x::xs,(y,k)::r,h,i+1,z,e=>by
  simp only [om,cq] at h
  simpa using gL h.2 i z (by simpa using e)
structure FnAt (G:Stc) (a:Addr) (n:Nat) (dflt:List V) (sc:Scope) (body:List Stmt):Prop where
 lim:G.hb.NoLimit
 kind:sc.kind=.function
 co:sc.isCoroutine=false
 gen:sc.isGenerator=false
 nd:(sc.names.map (·.1)).Nodup
 mB:∀ (i:Nat) (x:Str),sc.names[i]?≠some (x,.free)
 here:∃ o fd,G.hb.get? a=some o∧o.data=.func fd∧fd.scope=sc∧fd.body=.stmts body∧fd.closure=[]∧fd.globals=mainGlobals∧fd.builtins=builtinsNs∧G.hb.CodeRec fd.code fd.qualname ∧
  zf fd.params=true∧om (fd.params.args.map (·.arg)) sc.names=true∧fd.params.args.length=n ∧
  ((fd.defaults=.none∧dflt=[])∨∃ t ot ds m,fd.defaults=.ref t∧G.hb.get? t=some ot∧ot.data=.seq (ds.toArray) m∧VRs G G.hb dflt ds)∧dflt.length≤n
section
variable {G:Stc} {A:Around} {E:Value→Shared→Prop} {s:Shared} {σ:St}
theorem AOk.deep {d:Nat} (h:AOk A (d+1)) (env:Env):AOk (A.deeper env) d :=
 ⟨h.handled,by have:=h.depth;show A.depth+1+3*d+20<_;(exact cv (.l (.a (.a .M (.m 3 .B)) (.n 20)) .C) .a .bQ this),by have:=h.units;show A.units+3+30*d+300<_;(exact cv (.l (.a (.a (.a .A (.n 3)) (.m 30 .B)) (.n 300)) .C) .a (.l (.a (.a .A (.m 30 .L)) (.n 300)) .C) this)⟩
theorem kW {a:Addr} {n d:Nat} {dflt:List V} {sc:Scope} {body:List Stmt} {b:ky} {vs:List V} {ws:List Value} {Q:V→St→Prop} (K:FnAt G a n dflt sc body)
  (hb:∀ (A':Around) (E':Value→Shared→Prop) (env:Env) (s':Shared),AOk A' d→env.scope=sc→jl env→FR G σ env (frameOf ⟨n,dflt,b⟩ vs) s'.heap→Rel G σ s'.heap→wpAny G.M A' (execs body env) (my G env σ s' (qE Q)) E' s')
  (ao:AOk A (d+1)) (R:Rel G σ s.heap) (vr:VRs G s.heap vs ws)
  (h1:vs.length≤n) (h2:n≤vs.length+dflt.length):codeAny G.M A (.call (.ref a) ⟨ws,[]⟩) (wants (fx G [] σ s Q) E) s:=by
 obtain⟨o,fd,ho,hd,hsc,hbody,hclo,hgl,hbu,hcode,hpl,hpar,hn,hdf,hdl⟩:=K.here
 subst hsc
 have hlen:=vr.length
 obtain⟨ds,hds,hvd⟩:∃ ds,(∀ (A:Around) (E:Value→Shared→Prop) (Q:Option (Array Value)→Shared→Prop),(∀ o,(o.getD #[]).toList=ds→Q o s)→wpAny G.M A (seqItems? fd.defaults) Q E s)∧VRs G s.heap dflt ds:=by
  rcases hdf with ⟨e1,e2⟩ | ⟨t,ot,ds,m,e1,e2,e3,e4⟩
  ·refine⟨[],fun A E Q q=>?_,by subst e2;exact .nil⟩
   rw [e1]
   show wpAny G.M A (do notAStandIn .none;pure none) Q E s
   exact di (by rfl) (q none rfl)
  ·refine⟨ds,fun A E Q q=>?_,e4.mono fun b o e _=>R.base b o e⟩
   rw [e1]
   show wpAny G.M A (do match (← load t).data with | .seq xs _=>pure (some xs) | _=>pure none) Q E s
   refine ab (uj (R.base _ _ e2) ?_)
   rw [e3]
   exact ae (q _ (by simp))
 have hdlen:=hvd.length
 have hnd:(fd.params.args.map (·.arg)).Nodup:=by
  have hp:∀ {xs:List Str} {r:List (Str × NameKind)},om xs r=true→∃ ys,r.map (·.1)=xs++ys:=by
   intro xs
   induction xs with
   | nil=>intro r _;exact⟨_,rfl⟩
   | cons x xs ih =>
    intro r h
    cases r with
    | nil=>simp [om] at h
    | cons p r =>
     simp only [om,cq,sg] at h
     obtain⟨ys,e⟩:=ih h.2
     exact⟨ys,by simp [e,h.1.1]⟩
  obtain⟨ys,e⟩:=hp hpar
  have:=K.nd
  rw [e] at this
  exact(List.nodup_append.mp this).1
 refine codeAny_call_function (by have:=ao.depth;(exact cv .B .a (.l (.a (.a .A (.m 3 .R)) (.n 20)) .B) this)) (R.base _ _ ho) hd K.co K.gen hbody (hcode.keeps R.base) ?_
 refine rU (ds:=ds) hpl (hds _ _) hnd (by rw [hn,← hlen];exact h1) (by rw [hn,← hlen,← hdlen];exact h2) (by rw [hn,← hdlen];exact hdl) ?_
 rw [hn,hclo,hgl,hbu]
 simp only [newFunctionEnv,sh,cw,iq]
 refine ab (wpAny_alloc ?_)
 refine ab (wpAny_layCells _ (fun name kind cells=>by cases hkc:kind==NameKind.cell<;>simp [hkc]) _ _ _ _ ?_)
 rw [show({ s with heap:=s.heap.push { cls:=.type "frame",data:=.dict #[] } }:Shared).heap.objs.size=s.heap.objs.size+1 from ez ..]
 have clo:zZ G σ s.heap fd.scope.names [] (fun _=>none):=⟨fun i x e=>absurd e (K.mB i x),fun i j x y c e=>absurd e (K.mB i x),fun p hp=>(nomatch hp),fun _ _ _ _ _=>rfl⟩
 obtain⟨F₀,hk₀⟩:=iQ (T:="frame") (env:=newEnv fd.scope s.heap.objs.size mainGlobals (cellsFrom (s.heap.objs.size+1) fd.scope.names []) (fd.qualname ++ ".<locals>.") (some a) fd.code none builtinsNs) R K.nd clo rfl rfl fun i x k' e=>⟨k',e,.inl rfl⟩
 have eo:jl (newEnv fd.scope s.heap.objs.size mainGlobals (cellsFrom (s.heap.objs.size+1) fd.scope.names []) (fd.qualname ++ ".<locals>.") (some a) fd.code none builtinsNs):=⟨K.kind,K.nd,rfl,rfl⟩
 have x₀:Evo [] σ s.heap σ (pushCells (s.heap.push { cls:=.type "frame",data:=.dict #[] }) fd.scope.names):=Evo.keeps hk₀
 have hall:VRs G s.heap (yj ⟨n,dflt,b⟩ vs) (ws++ds.drop (ds.length-(n-ws.length))):=by
  unfold yj
  rw [← hdlen,← hlen]
  exact vr.append (hvd.drop _)
 refine ab (kZ eo _ (fun _ _ _=>rfl) 0 (fd.params.args.map (·.arg)) (yj ⟨n,dflt,b⟩ vs) _ (fun _=>none) { s with heap:=pushCells (s.heap.push { cls:=.type "frame",data:=.dict #[] }) fd.scope.names } _ ?_ (fun i x e=>?_) F₀ (R.keeps hk₀) (hall.mono fun b o e _=>hk₀ b o e) fun h' tk ρ' hρ F' R' x'=>?_)
 ·rw [az,bg,jw,hn];(exact Ar.sub _ _ (fun q1 p1=>(Ar.sub _ _ (fun q2 p2=>(Ar.sub _ _ (fun q3 p3=>(pF .b1 [[1,1,-1,1],[1,-1,1,-1]] (.e .Y .F) (.e (.a .D .G) .F) (.e (.a .G .B) .A) p1 p2 p3)) fun q3 p3=>(I8 .b1 [[1,1,-1,1,-1,0,1],[1,0,0,0,0,1,0]] (.k .D .A) (.e .D .B) (.e (.a .C .F) .G) (.e (.a .F .H) .G) .A (.e .H .O) h1 hlen p1 p2 q3 p3))) fun q2 p2=>(Ar.sub _ _ (fun q3 p3=>(J6 .b1 [[1,0,0,0,1,1,0,1],[1,1,1,1,-1,0,1,0]] (.k .A .a1) (.e .D .B) (.e .F .G) .cN (.k .G .I) (.e .H .O) (.e (.a .I .B) .A) h2 hlen hdlen p1 q2 p2 p3)) fun q3 p3=>(J4 .b1 [[1,1,0,-1,0,1,1,0,1],[1,0,1,1,1,-1,0,1,0]] (.k .D .A) (.k .A .a1) (.e .D .B) (.e .F .G) .cN (.k .G .I) (.e .H .O) (.e .I .O) h1 h2 hlen hdlen p1 q2 p2 p3)))) fun q1 p1=>(Ar.sub _ _ (fun q2 p2=>(Ar.sub _ _ (fun q3 p3=>(I8 .b1 [[1,1,-1,0,1,0,0],[1,0,0,1,0,1,-1]] (.k .D .A) (.e .D .B) (.k .F .G) .b3 (.e (.a .G .H) .F) (.e (.a .H .B) .A) h1 hlen q1 p1 p2 p3)) fun q3 p3=>(eT .b1 [[1,1,-1,1,0],[1,0,0,0,1]] (.k .D .A) (.e .D .B) .b3 .A h1 hlen p1 q3))) fun q2 p2=>(J7 .b1 [[1,1,0,-1,0,0,1,0],[1,0,1,1,1,1,0,1]] (.k .D .A) (.k .A .a1) (.e .D .B) (.e .F .G) (.k .G .H) .b3 (.e .H .O) h1 h2 hlen hdlen q1 p1 p2)))
 ·rw [qj];exact gL hpar i x e
 ·refine ae ⟨(K.lim.keeps R'.base),codeAny_func ?_⟩
  have hρ':ρ'=frameOf ⟨n,dflt,b⟩ vs:=by
   funext i
   rw [hρ i]
   unfold frameOf
   simp only [kg,iq,qj,Nat.sub_zero]
   split
   ·rfl
   ·rename_i hge
    rw [List.getElem?_eq_none (by exact av .A .a .cH hge)]
  subst hρ'
  refine ba (hb _ _ _ { s with heap:=h',toks:=tk } (ao.deep _) rfl eo F' R') (fun f s' l=>?_) fun _ _ x=>x
  obtain⟨fl,ρ₂,σ₂,h₂,tk₂,rfl,fr,q,F₂,R₂,x₂⟩:=l
  have hX:∀ z∈envX (newEnv fd.scope s.heap.objs.size mainGlobals (cellsFrom (s.heap.objs.size+1) fd.scope.names []) (fd.qualname ++ ".<locals>.") (some a) fd.code none builtinsNs),s.heap.get? z=none:=fun z hz=>by
   rcases cf.mp hz with rfl | hz
   ·exact none_at_size _
   ·obtain⟨p,hp,rfl⟩:=ee.mp hz
    have ok:=cellsFrom_ok fd.scope.names (s.heap.push { cls:=.type "frame",data:=.dict #[] }) (s.heap.objs.size+1) [] ⟨fun _ _ hm=>(nomatch hm),List.Pairwise.nil⟩ (by rw [ez];exact ah _)
    rw [ez] at ok
    exact yv (Nat.le_of_succ_le (ok.empty p.1 p.2 hp).2)
  have x3:Evo [] σ s.heap σ₂ h₂:=((x₀.more (fun _ h=>nomatch h)).trans (x'.trans x₂)).less fun z hz=>.inr (hX z hz)
  cases fr with
  | next=>exact⟨.none,σ₂,h₂,tk₂,rfl,q,.none,R₂,x3⟩
  | ret v=>exact⟨_,σ₂,h₂,tk₂,rfl,q,v,R₂,x3⟩
  | brk=>exact q.elim
  | cont=>exact q.elim
theorem kY {a:Addr} {n d:Nat} {dflt:List V} {sc:Scope} {body:List Stmt} {b:ky} {vs:List V} {ws:List Value} {Q:V→St→Prop} (K:FnAt G a n dflt sc body)
  (hb:∀ (A':Around) (E':Value→Shared→Prop) (env:Env) (s':Shared),AOk A' d→env.scope=sc→jl env→FR G σ env (frameOf ⟨n,dflt,b⟩ vs) s'.heap→Rel G σ s'.heap→wpAny G.M A' (execs body env) (my G env σ s' (qE Q)) E' s')
  (ao:AOk A (d+1)) (R:Rel G σ s.heap) (vr:VRs G s.heap vs ws)
  (h1:vs.length≤n) (h2:n≤vs.length+dflt.length):wpAny G.M A (call (.ref a) ws) (fx G [] σ s Q) E s:=rx (kW K hb ao R vr h1 h2)
theorem D3 {C:Cal} {a:Addr} {n d:Nat} {dflt:List V} {sc:Scope} {body:List Stmt} {b:ky} {vs:List V} {ws:List Value} {Q:V→St→Prop} (K:FnAt G a n dflt sc body) (hb:d4 G C sc d b body) (ao:AOk A (d+1)) (R:Rel G σ s.heap) (vr:VRs G s.heap vs ws)
  (h1:vs.length≤n) (h2:n≤vs.length+dflt.length) (h:eg C b (frameOf ⟨n,dflt,b⟩ vs) σ (qE Q)):wpAny G.M A (call (.ref a) ws) (fx G [] σ s Q) E s :=
 kY (b:=b) K (fun A' E' env s' ao' es eo F' R'=>hb A' E' env _ σ _ s' ao' es eo F' R' h) ao R vr h1 h2
noncomputable def eW (G:Stc) (fa:Nat→Option Addr) (C:Cal) (d:Nat):Prop:=∀ (k:Nat) (a:Addr),fa k=some a→(∃ o fd,G.hb.get? a=some o∧o.data=.func fd)∧∀ (A:Around) (E:Value→Shared→Prop) (vs:List V) (ws:List Value) (σ:St) (Q:V→St→Prop) (s:Shared),AOk A d→Rel G σ s.heap→VRs G s.heap vs ws →
 C k vs σ Q→wpAny G.M A (call (.ref a) ws) (fx G [] σ s Q) E s
theorem gH {C:Cal} {sc:Scope} {d:Nat} {env:Env} {ρ:Fr} {f:Addr} {o:Obj} {fd:FuncData} {first:List Value} {es:Exs} {args:List Expr} {pos:Pos} {P:List V→St→Prop} {Q:Value→Shared→Prop} (hf:G.hb.get? f=some o) (hfd:o.data=.func fd) (hs:noStar args=true) (hes:ke G C sc d es args)
  (ao:AOk A d) (hsc:env.scope=sc) (eo:jl env) (F:FR G σ env ρ s.heap) (R:Rel G σ s.heap) (h:rz C es ρ σ P)
  (k:∀ vs σ₁ h₁ tk ws,P vs σ₁→VRs G h₁ vs ws→Rel G σ₁ h₁→Evo [] σ s.heap σ₁ h₁→wpAny G.M A (call (.ref f) (first++ws)) Q E { s with heap:=h₁,toks:=tk }) :
  wpAny G.M A (callWith pos (.ref f) first (backTo pos (starEach args env)) []) Q E s :=
 Calls.callWith_function (o:=o) (fd:=fd) (ki (gi hs pos env) (jJ (hes A E env ρ σ P s pos ao hsc eo F R h) fun vs σ₁ h₁ tk ws q vr r x=>⟨⟨r.base _ _ hf,hfd⟩,k vs σ₁ h₁ tk ws q vr r x⟩))
theorem xD {fa:Nat→Option Addr} {C:Cal} {sc:Scope} {d:Nat} {k:Nat} {f:Addr} {x:Str} {es:Exs} {args:List Expr} {p pos:Pos} (K:GOk G) (CO:eW G fa C d) (hk:fa k=some f) (hes:ke G C sc d es args) (hs:noStar args=true) (hx:sc.names.lookup x=some .globalImplicit) (hn:fy x=true) (hv:G.gl x=some (.ref f)) :
  cz G C sc d (.call k es) (.Call (.Name x p) args [] pos):=fun A E env ρ σ Q s ao ess eo F R h=>by
 obtain⟨⟨o,fd,ho,hd⟩,hc⟩:=CO k f hk
 refine Call_ (jh K eo R (by rw [ess];exact hx) hn hv (gH ho hd hs hes ao ess eo F R h fun vs σ₁ h₁ tk ws q vr r x=>?_))
 exact ba (hc A E vs ws σ₁ Q { s with heap:=h₁,toks:=tk } ao r vr q) (fun _ _ l=>fx.back x l) fun _ _ x=>x
end
end MP
end
section
namespace MP
open PySem PyProof.Rows
structure MethAt (G:Stc) (name:Str) (f:Addr):Prop where
 here:∃ N mN of fd,ClsAt G.hb G.cS N mN∧mN "__getattribute__"=none∧mN "__getattr__"=none∧mN name=some (.ref f)∧G.hb.get? f=some of∧of.cls=.type "function"∧of.data=.func fd
 out:name∉G.attrs
 lk:∃ y,typeLookup (.type "object") name=pure y
section
variable {G:Stc} {A:Around} {E:Value→Shared→Prop} {s:Shared} {σ:St} {fa:Nat→Option Addr} {C:Cal} {sc:Scope} {d:Nat}
theorem nJ {a:Addr} {name:Str} {f:Addr} {pl:Sem Bool} {Q:Value × List Value→Shared→Prop} (M:MethAt G name f) (R:Rel G σ s.heap) (hI:(σ.I a).isSome) (q:Q (.ref f,[.ref a]) s):wpAny G.M A (getMethod (.ref a) name pl) Q E s:=by
 obtain⟨N,mN,of,fd,X,hga,hgt,hf,hfo,hfc,_⟩:=M.here
 obtain⟨y,hB⟩:=M.lk
 obtain⟨⟨dd,g⟩,hI⟩:=cc.mp hI
 have I:=R.I a dd g hI
 obtain⟨m,hm,hv,hout⟩:=I.ns
 obtain⟨hh,gg,dr,t,os⟩:=s
 obtain⟨nm,q',bs,sn,sub,col,d2,k0,k1,k2,k3,k5,hC⟩:=(X.keeps R.base).obj
 exact method_of hC (X.keeps R.base).ns hga hgt hf (R.base _ _ hfo) hfc hB (I.inst hm) (hout name M.out) q
theorem wY {e:Ex} {k:Nat} {f:Addr} {name:Str} {es:Exs} {o:Expr} {args:List Expr} {apos pos:Pos} (CO:eW G fa C d) (hk:fa k=some f) (M:MethAt G name f) (ha:cz G C sc d e o) (hes:ke G C sc d es args) (hb:pf o=true) (hs:noStar args=true) (hlen:args.length<30) (hline:(apos.endLine==pos.line)=true) :
  cz G C sc d (.meth e k es) (.Call (.Attribute o name apos) args [] pos):=fun A E env ρ σ Q s ao ess eo F R h=>by
 refine pa hb hs hlen hline (mr (ha A E env ρ σ _ s ao ess eo F R h) fun v σ₁ h₁ tk w q vr r x pl=>?_)
 obtain⟨a,rfl,hI,q⟩:=q
 obtain rfl:=vr
 obtain⟨⟨of,fd,ho,hd⟩,hc⟩:=CO k f hk
 refine nJ (s:={ s with heap:=h₁,toks:=tk }) M r hI (gH (s:={ s with heap:=h₁,toks:=tk }) ho hd hs hes ao ess eo (F.evo x) r q fun vs σ₂ h₂ tk₂ ws q₂ vrs r₂ x₂=>?_)
 exact ba (hc A E _ _ σ₂ Q { s with heap:=h₂,toks:=tk₂ } ao r₂ (.cons (.obj a) vrs) q₂) (fun _ _ l=>fx.back (x.trans x₂) l) fun _ _ x=>x
structure n8 (G:Stc) (f:Addr):Prop where
 here:∃ N mN of,ClsAt G.hb G.cS N mN∧mN "__init__"=some (.ref f)∧G.hb.get? f=some of∧of.cls=.type "function"
theorem qO (C:Addr) (ws:List Value):(Code.builtin "type.__call__" ⟨.ref C::ws,[]⟩).cUnits≤10:=by
 show 1+3*(Code.frames (.builtin "type.__call__" ⟨.ref C::ws,[]⟩))≤10
 exact cp rfl
theorem AOk.make (h:AOk A (d+1)) (C:Addr) (ws:List Value):AOk (A.under (.builtin "type.__call__" ⟨.ref C::ws,[]⟩)) d :=
 ⟨h.handled,by have:=h.depth;show A.depth+1+3*d+20<_;(exact cv (.l (.a (.a .M (.m 3 .B)) (.n 20)) .C) .a .bQ this),by have:=h.units;have:=qO C ws;show A.units+(Code.cUnits _)+30*d+300<_;(rename_i z1;exact dn (.l (.a (.a .P (.m 30 .C)) (.n 300)) .D) .b (.l (.a (.a .A (.m 30 .R)) (.n 300)) .D) (.k .B (.n 10)) z1 this)⟩
theorem AOk.less {d':Nat} (h:AOk A d) (hd:d'≤d):AOk A d':=⟨h.handled,by have:=h.depth;(exact dn (.l (.a (.a .A (.m 3 .B)) (.n 20)) .C) [[1,3,1]] (.k .B .D) (.l (.a (.a .A (.m 3 .D)) (.n 20)) .C) hd this),by have:=h.units;(exact dn (.l (.a (.a .A (.m 30 .B)) (.n 300)) .C) [[1,30,1]] (.k .B .D) (.l (.a (.a .A (.m 30 .D)) (.n 300)) .C) hd this)⟩
theorem wV {f:Addr} {x:Str} {es:Exs} {args:List Expr} {p pos:Pos} (K:GOk G) (CO:eW G fa C (d-1)) (hd:1≤d) (hk:fa 0=some f) (M:n8 G f) (hes:ke G C sc d es args) (hs:noStar args=true) (hne:args≠[]) (hx:sc.names.lookup x=some .globalImplicit) (hn:fy x=true) (hv:G.gl x=some (.ref G.cS)) :
  cz G C sc d (.newM es) (.Call (.Name x p) args [] pos):=fun A E env ρ σ Q s ao ess eo F R h=>by
 obtain⟨N,mN,of,X,hi,hfo,hfc⟩:=M.here
 obtain⟨_,hc⟩:=CO 0 f hk
 have ao':AOk A (d-1+1):=by rw [aa hd];exact ao
 refine Call_ (jh K eo R (by rw [ess];exact hx) hn hv ?_)
 have go:∀ vs σ₁ h₁ tk ws,(∀ a dd,σ₁.I a=none→C 0 (.obj a::vs) (σ₁.fj a dd fun _=>none) fun v σ=>v=.none∧Q (.obj a) σ)→VRs G h₁ vs ws→Rel G σ₁ h₁→Evo [] σ s.heap σ₁ h₁→wpAny G.M A (call (.ref G.cS) ws) (fx G [] σ s Q) E { s with heap:=h₁,toks:=tk }:=fun vs σ₁ h₁ tk ws q vr r x=>by
  obtain⟨nm,q',bs,sn,sub,col,d2,k0,k1,k2,k3,k5,hC⟩:=(X.keeps r.base).obj
  refine wpAny_call_obj_init PySem.F.objNew hC (X.keeps r.base).ns hi (r.base _ _ hfo) hfc fun h' xx dx made=>?_
  have hnoI:σ₁.I xx=none:=by
   cases hq:σ₁.I xx with
   | none=>rfl
   | some y=>obtain⟨o,e⟩:=r.nt (.inr (.inr (.inr (.inl (by rw [hq];rfl)))));rw [made.newX] at e;cases e
  have hI:yp G h' xx dx fun _=>none:=by
   obtain⟨o,ho,hcls,hnc,hd⟩:=made.inst
   have hdd:=made.dict o ho
   rcases hd with ⟨hn0,_⟩ | ⟨d',hd',hne,hns⟩
   ·rw [hdd] at hn0;cases hn0
   ·rw [hdd] at hd';cases hd'
    exact⟨⟨o,ho,hcls,hdd,hnc⟩,⟨_,hns,fun _ _ _=>trivial,fun _ _=>rfl⟩,hne⟩
  have r':=r.FE made.newX made.newD hI.ne made.keeps hI
  have x':Evo [] σ₁ h₁ (σ₁.fj xx dx fun _=>none) h':=Evo.FE _ made.newX made.newD made.keeps
  refine ba (hc _ E _ _ _ _ { s with heap:=h',toks:=tk } (ao'.make _ _) r' (.cons (.obj xx) (vr.mono x'.frz)) (q xx dx hnoI)) (fun w s' l=>?_) fun _ _ x=>x
  obtain⟨v,σ₂,h₂,tk₂,rfl,⟨rfl,q₂⟩,vr₂,r₂,x₂⟩:=l
  cases vr₂
  exact⟨rfl,.obj xx,σ₂,h₂,tk₂,rfl,q₂,.obj xx,r₂,x.trans (x'.trans x₂)⟩
 cases args with
 | nil=>exact absurd rfl hne
 | cons e rest =>
  refine callWith_cls X (jJ (hes A E env ρ σ _ s pos ao ess eo F R h) fun vs σ₁ h₁ tk ws q vr r x=>⟨r.base,go vs σ₁ h₁ tk ws q vr r x⟩) ((cu hs).1 env) (gi (cu hs).2 pos env)
theorem eW.more {d':Nat} (h:eW G fa C d) (hd:d≤d'):eW G fa C d':=fun k a hk=>⟨(h k a hk).1,fun A E vs ws σ Q s ao=>(h k a hk).2 A E vs ws σ Q s (ao.less hd)⟩
end
end MP
end
section
set_option tactic.hygienic true
namespace MP
open PySem PyProof.Rows
theorem i7:Slot "method_descriptor" "__get__" "method_descriptor.__get__" :=
 .of (owner:="method_descriptor") (n:="__get__") (by rw [fq,dw];kernel_rfl) (by decide +kernel) (by decide +kernel) (by decide +kernel)
  (by first | exact .inl (by decide +kernel) | exact .inr (by decide +kernel)) (by rw [jv];kernel_rfl)
theorem oK:entryFor table "method_descriptor.__get__"=some Builtin.«method_descriptor.__get__»:=xq (by kernel_rfl)
theorem rY (a b c:Value):argsOk "method_descriptor.__get__" ⟨[a,b,c],[]⟩:=by unfold argsOk;kernel_rfl
theorem yH:typeLookup (.type "method_descriptor") "__set__"=pure none:=by rw [fq,dw];kernel_rfl
theorem yI:typeLookup (.type "method_descriptor") "__delete__"=pure none:=by rw [fq,dw];kernel_rfl
structure lF (T:String) (name:Str) (id nm:String):Prop where
 lk:typeLookup (.type T) name=pure (some (.builtin id))
 ty:typeOf (.builtin id)=pure (.type "method_descriptor")
 own:(kfb_private% "ownerAndName") id=(T,nm)
 told:Manifest.toldItsClass.contains id=false
 sub:isSubtype (.type T) (.type T)=pure true
 nm1:(["__module__","__name__","__qualname__","__doc__","__annotations__"]:List Str).contains name=false
 tp1:(Value.type T==Value.type "module")=false
theorem zQ:lF "dict" "get" "dict.get" "get" where
 lk:=PySem.F.slot_dict_get.lookup
 ty:=PySem.F.type_dict_get
 own:=by first | decide +kernel | kernel_rfl
 told:=by first | decide +kernel | kernel_rfl
 sub:=by rw [jv];kernel_rfl
 nm1:=by decide +kernel
 tp1:=by decide +kernel
theorem zP:lF "set" "__contains__" "set.__contains__" "__contains__" where
 lk:=by rw [fq,dw];kernel_rfl
 ty:=by show builtinType _=_;rw [builtinType_eq_fast];kernel_rfl
 own:=by first | decide +kernel | kernel_rfl
 told:=by first | decide +kernel | kernel_rfl
 sub:=by rw [jv];kernel_rfl
 nm1:=by decide +kernel
 tp1:=by decide +kernel
noncomputable def fX (id:String) (a:Addr):Obj:={ cls:=.type "builtin_function_or_method",data:=.fields #[.builtin id,.ref a] }
section
variable {prog:Program} {w:World} {A:Around} {E:Value→Shared→Prop} {s:Shared}
theorem uP {T:String} {name:Str} {id nm:String} {a:Addr} {o:Obj} {P:Fin→Shared→Prop} (B:lF T name id nm) (hx:s.heap.get? a=some o) (hc:o.cls=.type T) (h:P (.done (.ret (.ref s.heap.objs.size))) { s with heap:=s.heap.push (fX id a) }) :
  wpAny (model prog w) A (Builtin.«method_descriptor.__get__» ⟨[.builtin id,.ref a,.type T],[]⟩) P E s:=by
 have hT:s.TypeIs (.ref a) T:=⟨_,hx,hc⟩
 unfold Builtin.«method_descriptor.__get__»
 refine ab (di (a:=(.builtin id,some (.ref a),some (.type T))) (by first | rfl | kernel_rfl) ?_)
 simp only [B.told]
 show wpAny _ _ (do
  (do
   let (owner,name):=(kfb_private% "ownerAndName") id
   if !(← isInstance (.ref a) (.type owner)) then
    rule "descr.get.wrong-instance"
    raiseError "TypeError" s!"descriptor '{(Str.ofString name).toString}' for '{← typeName (.type owner)}' objects doesn't apply to a '{← typeNameOf (.ref a)}' object":Sem Unit)
  ret (← newFields "builtin_function_or_method" [.builtin id,.ref a])) _ _ _
 rw [B.own]
 dsimp only
 unfold isInstance
 have hsub:=B.sub
 refine ab (ab ?_)
 refine ab (dQ hT ?_)
 refine di B.sub ?_
 refine ae ?_
 refine ab ?_
 unfold newFields
 exact gy (ae h)
theorem rS {T:String} {name:Str} {id nm:String} {a:Addr} {o:Obj} {Q:Value→Shared→Prop} (B:lF T name id nm) (hx:s.heap.get? a=some o) (hc:o.cls=.type T) (h:Q (.ref s.heap.objs.size) { s with heap:=s.heap.push (fX id a) }) :
  wpAny (model prog w) A (call (.builtin "method_descriptor.__get__") [.builtin id,.ref a,.type T]) Q E s :=
 jm i7 B.ty oK (uP B hx hc ⟨_,rfl,h⟩) (rY _ _ _)
theorem xS {T:String} {name:Str} {id nm:String} {a:Addr} {o:Obj} {tk:Tok} {P:Fin→Shared→Prop} (B:lF T name id nm) (hx:s.heap.get? a=some o) (hc:o.cls=.type T) (hd:o.dict=none) (hnc:∀ c,o.data≠.cls c) (h:P (.done (.ret (.ref s.heap.objs.size))) { s with heap:=s.heap.push (fX id a) }) :
  wpAny (model prog w) A (Builtin.«object.__getattribute__» ⟨[.ref a,.str name tk],[]⟩) P E s:=by
 obtain⟨hh,g,d,t,os⟩:=s
 have hT:(⟨hh,g,d,t,os⟩:Shared).TypeIs (.ref a) T:=⟨_,hx,hc⟩
 have hT5:(⟨hh,g,d,t,os⟩:Shared).TypeIs (.builtin id) "method_descriptor":=B.ty
 have f4:=B.lk
 have f5:=B.ty
 have f6:=i7.lookup
 have f7:=yH
 have f8:=yI
 have hnm:=B.nm1
 unfold Builtin.«object.__getattribute__»
 repeat (any_goals (first | assumption | wp_step))
 split
 ·rename_i c e;exact absurd e (hnc c)
 ·unfold instanceDict
  repeat (any_goals (first | assumption | (with_reducible refine nc hx ?_;rw [hc]) | with_reducible refine wpAny_loadHead hx ?_ | wp_step))
  rw [hd]
  repeat (any_goals (first | assumption | wp_step))
  rw [aw (by rw [hnm];decide)]
  refine ae ?_
  repeat (any_goals (first | assumption | ((with_reducible show wpAny _ _ (call (Value.builtin "method_descriptor.__get__") _ _) _ _ _);refine rS B hx hc ?_) | wp_step))
theorem gO {T:String} {name:Str} {id nm ga:String} {a:Addr} {o:Obj} {expr:Bool} {Q:Value→Shared→Prop} (B:lF T name id nm) (sl:Slot T "__getattribute__" ga) (en:entryFor table ga=some Builtin.«object.__getattribute__») (ar:∀ x y,argsOk ga ⟨[x,y],[]⟩)
  (hx:s.heap.get? a=some o) (hc:o.cls=.type T) (hd:o.dict=none) (hnc:∀ c,o.data≠.cls c) (h:Q (.ref s.heap.objs.size) { s with heap:=s.heap.push (fX id a),toks:=s.toks+1 }) :
  wpAny (model prog w) A (getAttr (.ref a) name expr) Q E s:=by
 obtain⟨hh,g,d,t,os⟩:=s
 obtain⟨c,dct,dat,slt⟩:=o
 simp only at hc hd hnc
 subst hc;subst hd
 have hT:∀ tk',(⟨hh,g,d,tk',os⟩:Shared).TypeIs (.ref a) T:=fun _=>⟨_,hx,rfl⟩
 have f3:=sl.lookup
 have f4:=sl.bind (.ref a)
 unfold getAttr getAttrBy
 repeat (any_goals (first | assumption | exact hT _ | ((with_reducible show wpAny _ _ (call (Value.builtin ga) _ _) _ _ _);refine jm sl (hT _) en (xS B (s:=⟨hh,g,d,t+1,os⟩) hx rfl rfl hnc ⟨_,rfl,?_⟩) (ar _ _)) | wp_step))
 have e:(expr&&onTheHeap (Value.builtin ga))=false:=by cases expr<;>rfl
 rw [aw (by rw [e];decide)]
 unfold boundAndCalled
 refine ab (di f4 ?_)
 refine jm sl (hT _) en (xS B (s:=⟨hh,g,d,t+1,os⟩) hx rfl rfl hnc ⟨_,rfl,?_⟩) (ar _ _)
 exact ae h
theorem mL {a:Addr} {o:Obj} {expr:Bool} {Q:Value→Shared→Prop} (hx:s.heap.get? a=some o) (hc:o.cls=.type "dict") (hd:o.dict=none) (hnc:∀ c,o.data≠.cls c) (h:Q (.ref s.heap.objs.size) { s with heap:=s.heap.push (fX "dict.get" a),toks:=s.toks+1 }) :
  wpAny (model prog w) A (getAttr (.ref a) "get" expr) Q E s :=
 gO zQ PySem.F.slot_dict_getattribute am_entry_dict_getattribute PySem.F.args_dict_getattribute_2 hx hc hd hnc h
theorem entry_set_ga:entryFor table "set.__getattribute__"=some Builtin.«object.__getattribute__» :=
 entryFor_alias (id':="object.__getattribute__") (by kernel_rfl) (by first | rfl | decide +kernel) (by decide +kernel) (by kernel_rfl)
theorem mK {a:Addr} {o:Obj} {expr:Bool} {Q:Value→Shared→Prop} (hx:s.heap.get? a=some o) (hc:o.cls=.type "set") (hd:o.dict=none) (hnc:∀ c,o.data≠.cls c) (h:Q (.ref s.heap.objs.size) { s with heap:=s.heap.push (fX "set.__contains__" a),toks:=s.toks+1 }) :
  wpAny (model prog w) A (getAttr (.ref a) "__contains__" expr) Q E s :=
 gO zP PySem.F.slot_set_getattribute entry_set_ga PySem.F.args_set_getattribute_2 hx hc hd hnc h
theorem mY {pos:Pos} {u a:Addr} {id:String} {first:List Value} {o:Obj} {args:List (Bool × Sem Value)} {Q:Value→Shared→Prop} (hplain:args.any (·.1)=false) (hcl:o.cls=.type "builtin_function_or_method") (hdt:o.data=.fields #[.builtin id,.ref a])
  (h:wpAny (model prog w) A (evalArgs (.ref u) true args []) (fun x s₁=>s₁.heap.get? u=some o∧wpAny (model prog w) A (call (.ref u) (first++x.pos) x.kw) Q E s₁) E s):wpAny (model prog w) A (callWith pos (.ref u) first args []) Q E s:=by
 unfold callWith
 refine ab (bu (ba h (fun x s₁ h₁=>ab (fg ?_)) fun _ _ x=>x))
 obtain⟨ho,hcall⟩:=h₁
 simp only [hplain,List.any_nil,dU]
 refine ab (m:=keeperOf (.ref u)) ?_
 unfold keeperOf
 refine ab (uj ho ?_)
 simp only [hcl,hdt,show(Value.type "builtin_function_or_method" != Value.type "method")=true by decide,show(Value.type "builtin_function_or_method" == Value.type "builtin_function_or_method" || Value.type "builtin_function_or_method" == Value.type "method-wrapper")=true by decide,uf]
 refine ae ?_
 exact ab (ba hcall (fun r s₂ hr=>ab (bu (wpAny_point (ae hr)))) fun _ _ x=>x)
theorem zK {u a:Addr} {id:String} {o:Obj} {b:Builtin} {args:List Value} {Q:Value→Shared→Prop} (ho:s.heap.get? u=some o) (hcl:o.cls=.type "builtin_function_or_method") (hdt:o.data=.fields #[.builtin id,.ref a])
  (hck:∀ (A:Around) (E:Value→Shared→Prop) (Q:Unit→Shared→Prop),Q () s→wpAny (model prog w) A (checkBoundCall id ⟨.ref a::args,[]⟩) Q E s) (hq:id.startsWith "lifetime."=false) (he:entryFor table id=some b)
  (h:∀ A':Around,wpAny (model prog w) A' (b ⟨.ref a::args,[]⟩) (fun fin s'=>∃ v,fin=.done (.ret v)∧Q v s') E s):wpAny (model prog w) A (call (.ref u) args) Q E s:=by
 refine rx (zw ?_)
 show wpAny _ A.in1 (callAny (.ref u) ⟨args,[]⟩) _ _ s
 simp only [callAny]
 refine ab (uj ho ?_)
 simp only [hcl,hdt,show(Value.type "builtin_function_or_method" == Value.type "method" || Value.type "builtin_function_or_method" == Value.type "builtin_function_or_method" || Value.type "builtin_function_or_method" == Value.type "method-wrapper")=true by decide,uf]
 show wpAny _ _ (do checkBoundCall id ⟨.ref a::args,[]⟩;again (.builtin id ⟨.ref a::args,[]⟩)) _ _ s
 refine ab (hck _ _ _ (ae ⟨Code.quiet_builtin _ hq,qg he ?_⟩))
 refine ba (h _) (fun fin s' h'=>?_) fun _ _ x=>x
 obtain⟨v,rfl,hv⟩:=h'
 exact hv
theorem zI (a b c:Value):(match Manifest.signature? "dict.get" with | some sig=>Bind.checkArgs "dict.get" { sig with full:=s!"{Bind.lastOf "dict"}.{Bind.lastOf "dict.get"}" } ⟨[a,b,c],[]⟩ | none=>pure ())=pure ():=by
 rw [gX (id:="dict.get") (n:=['t','e','g']) (o:=['t','c','i','d']) (by kernel_rfl) PySem.F.owner_dict];kernel_rfl
theorem zH (a b:Value):(match Manifest.signature? "set.__contains__" with | some sig=>Bind.checkArgs "set.__contains__" { sig with full:=s!"{Bind.lastOf "set"}.{Bind.lastOf "set.__contains__"}" } ⟨[a,b],[]⟩ | none=>pure ())=pure ():=by
 rw [gX (id:="set.__contains__") (n:=['_','_','s','n','i','a','t','n','o','c','_','_']) (o:=['t','e','s']) (by kernel_rfl) PySem.F.owner_set];kernel_rfl
theorem oY {T id:String} {a:Addr} {o:Obj} {rest:List Value} {Q:Unit→Shared→Prop} (hx:s.heap.get? a=some o) (hc:o.cls=.type T) (hnc:∀ c,o.data≠.cls c) (hk:builtinKind id=some .method) (hm:isSubtype (.type T) (.type "module")=pure false) (hv:Manifest.varargsMethods.contains id=false)
  (hF:(match Manifest.signature? id with | some sig=>Bind.checkArgs id { sig with full:=s!"{Bind.lastOf T}.{Bind.lastOf id}" } ⟨.ref a::rest,[]⟩ | none=>pure ())=pure ()) (h:Q () s):wpAny (model prog w) A (checkBoundCall id ⟨.ref a::rest,[]⟩) Q E s:=by
 have hT:s.TypeIs (.ref a) T:=⟨_,hx,hc⟩
 unfold checkBoundCall
 cases hsig:Manifest.signature? id with
 | none=>exact ae h
 | some sig =>
  rw [hsig] at hF
  dsimp only at hF ⊢
  rw [hk]
  dsimp only
  rw [aw (by decide)]
  unfold isInstance
  refine ab (ab (dQ hT ?_))
  refine di hm ?_
  rw [hv,aw (by decide)]
  have hnot:∀ Q':Bool→Shared→Prop,Q' false s→wpAny (model prog w) A (isType (.ref a)) Q' E s:=fun Q' q=>by
   unfold isType loadHead
   refine ab (eY hx (ae ?_))
   split
   ·rename_i c e;exact absurd e (hnc c)
   ·exact q
  refine ab (hnot _ ?_)
  rw [aw (by decide)]
  refine ab (dQ hT ?_)
  exact di hF h
theorem vA:builtinKind "dict.get"=some .method:=by kernel_rfl
theorem v9:builtinKind "set.__contains__"=some .method:=by kernel_rfl
theorem EM:isSubtype (.type "dict") (.type "module")=pure false:=by rw [jv];kernel_rfl
theorem EL:isSubtype (.type "set") (.type "module")=pure false:=by rw [jv];kernel_rfl
theorem A7:Manifest.varargsMethods.contains "dict.get"=false:=by decide +kernel
theorem A6:Manifest.varargsMethods.contains "set.__contains__"=false:=by decide +kernel
theorem CZ {a:Addr} {o:Obj} {x y:Value} {Q:Unit→Shared→Prop} (hx:s.heap.get? a=some o) (hc:o.cls=.type "dict") (hnc:∀ c,o.data≠.cls c) (h:Q () s):wpAny (model prog w) A (checkBoundCall "dict.get" ⟨[.ref a,x,y],[]⟩) Q E s :=
 oY hx hc hnc vA EM A7 (zI _ _ _) h
theorem CY {a:Addr} {o:Obj} {x:Value} {Q:Unit→Shared→Prop} (hx:s.heap.get? a=some o) (hc:o.cls=.type "set") (hnc:∀ c,o.data≠.cls c) (h:Q () s):wpAny (model prog w) A (checkBoundCall "set.__contains__" ⟨[.ref a,x],[]⟩) Q E s :=
 oY (T:="set") (id:="set.__contains__") (rest:=[x]) hx hc hnc v9 EL A6 (zH (.ref a) x) h
end
end MP
end
section
namespace MP
open PySem PyProof.Rows
theorem qH:plainId "dict.get"=true:=PySem.F.slot_dict_get.plain
theorem uY:("dict.get":String).startsWith "lifetime."=false:=by decide +kernel
theorem uX:("set.__contains__":String).startsWith "lifetime."=false:=by decide +kernel
section
variable {prog:Program} {w:World} {A:Around} {E:Value→Shared→Prop} {s:Shared}
theorem vP {u a:Addr} {id:String} {o:Obj} {b:Builtin} {args:List Value} {S:PySem.Spec} {Q:Value→Shared→Prop} (ho:s.heap.get? u=some o) (hcl:o.cls=.type "builtin_function_or_method") (hdt:o.data=.fields #[.builtin id,.ref a])
  (hck:∀ (A:Around) (E:Value→Shared→Prop) (Q:Unit→Shared→Prop),Q () s→wpAny (model prog w) A (checkBoundCall id ⟨.ref a::args,[]⟩) Q E s) (hq:id.startsWith "lifetime."=false) (he:entryFor table id=some b) (hp:plainId id=true)
  (g:MeetsIn prog w (b ⟨.ref a::args,[]⟩) S) (h:S A (wants Q E) s):wpAny (model prog w) A (call (.ref u) args) Q E s:=by
 refine rx (zw ?_)
 show wpAny _ A.in1 (callAny (.ref u) ⟨args,[]⟩) _ _ s
 simp only [callAny]
 refine ab (uj ho ?_)
 simp only [hcl,hdt,show(Value.type "builtin_function_or_method" == Value.type "method" || Value.type "builtin_function_or_method" == Value.type "builtin_function_or_method" || Value.type "builtin_function_or_method" == Value.type "method-wrapper")=true by decide,uf]
 show wpAny _ _ (do checkBoundCall id ⟨.ref a::args,[]⟩;again (.builtin id ⟨.ref a::args,[]⟩)) _ _ s
 refine ab (hck _ _ _ (ae ⟨Code.quiet_builtin _ hq,qg he ?_⟩))
 rw [nj hp]
 exact g A (wants Q E) s h
theorem jF {K:Type} [DecidableEq K] {knd:KeyKind prog w K} {a:Addr} {k:K} {key:Value} {S:K→Bool} {n:Nat} {Q:Value→Shared→Prop} (hkey:knd.is k key=true) (hsc:key.scannable=true) (hS:s.heap.SetOf knd a S n)
  (h:Q (.bool (S k)) { s with toks:=s.toks+1 }):wpAny (model prog w) A (Builtin.«frozenset.__contains__» ⟨[.ref a,key],[]⟩) (fun fin s'=>∃ v,fin=.done (.ret v)∧Q v s') E s:=by
 unfold Builtin.«frozenset.__contains__» Builtin.Frozenset.oneOther
 simp only [List.isEmpty_nil,bind_assoc]
 unfold Builtin.Frozenset.addrOf Builtin.Frozenset.withSetAsKey setContains
 refine ab (ae ?_)
 try dsimp only
 refine ab (ae ?_)
 try dsimp only
 refine ab (rv ?_)
 refine bu ?_
 refine ab (knd.pyHash hkey ?_)
 refine ab (wpAny_setFind_of (s:={ s with toks:=s.toks+1 }) hkey hsc hS fun r hr=>?_)
 refine ae ?_
 show wpAny _ _ (ret (Value.bool r.isSome)) _ _ _
 rw [hr]
 exact ae ⟨_,rfl,h⟩
end
section
variable {G:Stc} {C:Cal} {sc:Scope} {d:Nat}
theorem pX {e:Ex} {x:Expr} {pos:Pos} (he:cz G C sc d e x) (hb:pf x=true):cz G C sc d (.dgetOf e) (.Attribute x "get" pos):=fun A E env ρ σ Q s ao es eo F R h =>
 Attribute_any_ (mr (he A E env ρ σ _ s ao es eo F R h) fun v σ₁ h₁ tk w q vr r x=>by
  obtain⟨a,rfl,hD,q⟩:=q
  obtain rfl:=vr
  obtain⟨es',e⟩:=cc.mp hD
  obtain⟨ds,hd,_⟩:=r.D _ _ e
  have hnd:=hd.mapOf.noDict a rfl
  obtain⟨o,ees,ep,ho,hc,hdt,_⟩:=id hd
  obtain⟨o',ho',hdn⟩:=hnd
  obtain rfl:=af (ho.symm.trans ho')
  refine mL (s:={ s with heap:=h₁,toks:=tk }) ho hc.1 hdn (fun c q=>by rw [hdt] at q;cases q) ?_
  exact⟨.dM a,σ₁,_,_,rfl,q,.dM (cm _ rfl) rfl rfl,r.push _,x.trans (Evo.push _ _ _ _)⟩) (by rw [arm_eval_Attribute,wm hb])
theorem pT {e:Ex} {x:Expr} {pos:Pos} (he:cz G C sc d e x) (hb:pf x=true):cz G C sc d (.shasOf e) (.Attribute x "__contains__" pos):=fun A E env ρ σ Q s ao es eo F R h =>
 Attribute_any_ (mr (he A E env ρ σ _ s ao es eo F R h) fun v σ₁ h₁ tk w q vr r x=>by
  obtain⟨a,rfl,hD,q⟩:=q
  obtain rfl:=vr
  obtain⟨es',e⟩:=cc.mp hD
  have hd:=r.S _ _ e
  obtain⟨o',ho',hdn⟩:=hd.noDict (s:={ s with heap:=h₁,toks:=tk }) a rfl
  obtain⟨o,ees,ep,t,ho,hc,hdt,_⟩:=id hd
  obtain rfl:=af (ho.symm.trans ho')
  refine mK (s:={ s with heap:=h₁,toks:=tk }) ho hc.1 hdn (fun c q=>by rw [hdt] at q;cases q) ?_
  exact⟨.eC a,σ₁,_,_,rfl,q,.eC (cm _ rfl) rfl rfl,r.push _,x.trans (Evo.push _ _ _ _)⟩) (by rw [arm_eval_Attribute,wm hb])
theorem kX {A:Around} {E:Value→Shared→Prop} {s:Shared} {σ:St} {env:Env} {ρ:Fr} {u a:Addr} {id:String} {o:Obj} {es:Exs} {args:List Expr} {pos:Pos} {P:List V→St→Prop} {Q:Value→Shared→Prop} (ho:s.heap.get? u=some o) (hcl:o.cls=.type "builtin_function_or_method") (hdt:o.data=.fields #[.builtin id,.ref a]) (hs:noStar args=true) (hes:ke G C sc d es args)
  (ao:AOk A d) (hsc:env.scope=sc) (eo:jl env) (F:FR G σ env ρ s.heap) (R:Rel G σ s.heap) (h:rz C es ρ σ P)
  (k:∀ vs σ₁ h₁ tk ws,P vs σ₁→VRs G h₁ vs ws→Rel G σ₁ h₁→Evo [] σ s.heap σ₁ h₁→h₁.get? u=some o→wpAny G.M A (call (.ref u) ws) Q E { s with heap:=h₁,toks:=tk }) :
  wpAny G.M A (callWith pos (.ref u) [] (backTo pos (starEach args env)) []) Q E s :=
 mY (o:=o) (gi hs pos env) hcl hdt (ki (gi hs pos env) (jJ (hes A E env ρ σ P s pos ao hsc eo F R h) fun vs σ₁ h₁ tk ws q vr r x=>by
  have hu:=x.frz _ _ ho (.inr (.inl ⟨.inl hcl,_,hdt⟩))
  exact⟨hu,k vs σ₁ h₁ tk ws q vr r x hu⟩))
theorem kE {f:Nat} {es:Exs} {x:Str} {kd:NameKind} {args:List Expr} {p pos:Pos} (K:GOk G) (hi:sc.names[f]?=some (x,kd)) (hk:isVar kd=true) (hx:fy x=true) (hes:ke G C sc d es args) (hs:noStar args=true):cz G C sc d (.callv f es) (.Call (.Name x p) args [] pos):=fun A E env ρ σ Q s ao ess eo F R h=>by
 obtain⟨v,hv,h⟩:=h
 have hx':(x==("__debug__":Str))=false:=by simp only [fy,cq,fh] at hx;exact hx.1
 refine Call_ (wpAny_Name (eA eo F (by rw [ess];exact hi) hk hx hv fun w vr=>?_) hx')
 have no:(∀ vs σ,¬ G7 v vs C 1000 σ Q)→wpAny G.M A (callWith pos w [] (backTo pos (starEach args env)) []) (fx G [] σ s Q) E s:=fun hno=>by
  unfold callWith
  exact ab (bu (ki (gi hs pos env) (jJ (hes A E env ρ σ _ s pos ao ess eo F R h) fun vs σ₁ h₁ tk ws q vr r x=>(hno _ _ q).elim)))
 cases v with
 | dM a =>
  obtain⟨q,o,rfl,ho,hcl,hdt⟩:=vr
  refine kX ho hcl hdt hs hes ao ess eo F R h fun vs σ₁ h₁ tk ws q₁ vrs r x₁ hu=>?_
  obtain⟨k,dd,rfl,es',kk,e,hkey,q₁⟩:=gJ (vs:=vs) q₁
  obtain⟨wa,wb,rfl,va,vb⟩:=vrs.two
  obtain⟨ds,hd,hvd⟩:=r.D _ _ e
  obtain⟨od,ees,ep,hod,hcd,hdd,_⟩:=id hd
  have hl:=hvd.look kk
  refine vP (s:={ s with heap:=h₁,toks:=tk }) hu hcl hdt (fun A E Q q=>CZ (s:={ s with heap:=h₁,toks:=tk }) hod hcd.1 (fun c q=>by rw [hdd] at q;cases q) q) uY PySem.F.entry_dict_get qH (meets_dict_get_default G.kk _ (key_is hkey va) (hO (s:={ s with heap:=h₁,toks:=tk }) K r (.inr (.inl (by rw [e];rfl)))) _) ⟨_,hd.mapOf,?_⟩
  exact⟨_,σ₁,h₁,_,rfl,q₁,hl.getD vb,r,x₁⟩
 | eC a =>
  obtain⟨q,o,rfl,ho,hcl,hdt⟩:=vr
  refine kX ho hcl hdt hs hes ao ess eo F R h fun vs σ₁ h₁ tk ws q₁ vrs r x₁ hu=>?_
  obtain⟨k,rfl,ks,kk,e,hkey,q₁⟩:=gK (vs:=vs) q₁
  obtain⟨wa,rfl,va⟩:=vrs.one
  have hS:=r.S _ _ e
  obtain⟨od,ees,ep,t,hod,hcd,hdd,_⟩:=id hS
  refine zK (s:={ s with heap:=h₁,toks:=tk }) hu hcl hdt (fun A E Q q=>CY (s:={ s with heap:=h₁,toks:=tk }) hod hcd.1 (fun c q=>by rw [hdd] at q;cases q) q) uX PySem.entry_set_contains fun A'=>?_
  refine jF (s:={ s with heap:=h₁,toks:=tk }) (key_is hkey va) (yO hkey va) hS ?_
  exact⟨_,σ₁,h₁,_,rfl,q₁,.bool _,r,x₁⟩
 | clo _ _=>exact vr.elim
 | _=>exact no fun _ _ q=>q
end
end MP
end
section
namespace MP
open PySem PyProof.Rows
theorem At.grow {h h':Heap} {a:Addr} {o:Obj} (hn:h.get? a=none) (hk:∀ b o,h.get? b=some o→h'.get? b=some o) (ha:h'.get? a=some o):At a h h' :=
 ⟨fun b o _ e=>hk b o e,⟨_,ha⟩,fun o e=>by rw [hn] at e;cases e⟩
section
variable {G:Stc} {C:Cal} {sc:Scope} {d:Nat}
theorem uW {X:List Addr} {σ σ₁:St} {s:Shared} {h₁ h₂:Heap} {tk:Nat} {Q:V→St→Prop} {vs:List V} {ws:List Value} {a n:Nat} (r:Rel G σ₁ h₁) (x:Evo X σ s.heap σ₁ h₁) (hn:h₁.get? a=none) (hk:∀ b o,h₁.get? b=some o→h₂.get? b=some o) (hl:IsL h₂ a ws.toArray n) (vrs:VRs G h₁ vs ws) (hz:vs.length≤ax)
  (q:∀ c,σ₁.L c=none→Q (.lst c) (σ₁.ct c vs)):fx G X σ s Q (.ref a) { s with heap:=h₂,toks:=tk }:=by
 have at':At a h₁ h₂:=At.grow hn hk hl
 have hL:σ₁.L a=none:=by
  cases hq:σ₁.L a with
  | none=>rfl
  | some ys=>obtain⟨o,ho,_⟩:=r.mW hq;rw [hn] at ho;cases ho
 exact⟨.lst _,_,_,tk,rfl,q _ hL,.lst _,r.putL at' (fun _=>hn) hl vrs hz,x.trans (Evo.putL at' (fun _=>hn) _)⟩
theorem AV {e:Ex} {x:Str} {y:Expr} {p pos:Pos} (K:GOk G) (he:cz G C sc d e y) (hst:noStar [y]=true) (hx:sc.names.lookup x=some .globalImplicit) (hn:fy x=true) (hv:G.gl x=some (.builtin "len")) :
  cz G C sc d (.bf .len (.cons e .nil)) (.Call (.Name x p) [y] [] pos):=fun A E env ρ σ Q s ao es eo F R h=>by
 have hes:ke G C sc d (.cons e .nil) [y]:=ek he jo (cu hst).1
 refine dC K hst hes hx hn hv ao es eo F R h fun vs σ₁ h₁ tk ws q vr r x₁=>?_
 obtain⟨v,rfl,q⟩:=gK (vs:=vs) q
 obtain⟨w,rfl,va⟩:=vr.one
 cases v with
 | lst a =>
  obtain rfl:=va
  obtain⟨xs,e,q⟩:=q
  obtain⟨us,n,hl,hvs⟩:=r.L _ _ e
  rw [hvs.length] at q
  exact PySem.Calls.call_len_list (s:={ s with heap:=h₁,toks:=tk }) hl.isList (uZ (jC r e hvs)) ⟨_,σ₁,h₁,_,rfl,q,.int _ _,r,x₁⟩
 | tup xs =>
  obtain⟨a,us,n,rfl,g,rr⟩:=va
  obtain⟨hz,q⟩:=q
  rw [rr.length] at q hz
  exact PyProof.Rows.len_tuple (s:={ s with heap:=h₁,toks:=tk }) ⟨_,g,rfl,_,rfl⟩ (uZ hz) ⟨_,σ₁,h₁,_,rfl,q,.int _ _,r,x₁⟩
 | ro ns =>
  obtain⟨a,us,n,rfl,g,rr⟩:=va
  obtain⟨hz,q⟩:=q
  rw [← rr.length] at q hz
  exact PySem.Calls.call_len_list (s:={ s with heap:=h₁,toks:=tk }) (IsL.isList (r.base _ _ g)) (uZ hz) ⟨_,σ₁,h₁,_,rfl,q,.int _ _,r,x₁⟩
 | dct a =>
  obtain rfl:=va
  obtain⟨es',e,q⟩:=q
  obtain⟨ds,hd,hvd⟩:=r.D _ _ e
  have hlen:=hvd.length
  have hz:=r.Dl _ _ e
  unfold ax at hz
  refine call_len_dict (s:={ s with heap:=h₁,toks:=tk }) (hO (s:={ s with heap:=h₁,toks:=tk }) K r (.inr (.inl (by rw [e];rfl)))) hd (by exact dq (.il .L .M) .s .bD (.k .B .S) hlen hz) ?_
  rw [hlen] at q
  exact⟨_,σ₁,h₁,_,rfl,q,.int _ _,r,x₁⟩
 | _=>exact False.elim q
theorem lO {k:BF} {id:String} {W:Int→Int→St→(V→St→Prop)→Prop} {e f:Ex} {x:Str} {y z:Expr} {p pos:Pos} (K:GOk G) (he:cz G C sc d e y) (hf:cz G C sc d f z) (hst:noStar [y,z]=true) (hx:sc.names.lookup x=some .globalImplicit) (hn:fy x=true) (hv:G.gl x=some (.builtin id))
  (hk:∀ vs σ Q,pO k vs σ Q→on2 vs fun v u=>qa v fun i=>qa u fun j=>W i j σ Q)
  (hc:∀ (A:Around) (E:Value→Shared→Prop) (σ:St) (s:Shared) (i j:Int) (t u:Tok) (Q:V→St→Prop),AOk A d→Rel G σ s.heap→W i j σ Q→wpAny G.M A (call (.builtin id) [.int i t,.int j u]) (fx G [] σ s Q) E s) :
  cz G C sc d (.bf k (.cons e (.cons f .nil))) (.Call (.Name x p) [y,z] [] pos):=fun A E env ρ σ Q s ao es eo F R h=>by
 have hes:ke G C sc d (.cons e (.cons f .nil)) [y,z]:=ek he (ek hf jo (cu (cu hst).2).1) (cu hst).1
 refine dC (P:=fun vs σ=>pO k vs σ Q) K hst hes hx hn hv ao es eo F R h fun vs σ₁ h₁ tk ws q vr r x₁=>?_
 have q1:=hk vs σ₁ Q q
 clear q
 obtain⟨v,u,rfl,q2⟩:=gJ (vs:=vs) q1
 obtain⟨i,rfl,q3⟩:=nr (v:=v) q2
 obtain⟨j,rfl,q⟩:=nr (v:=u) q3
 obtain⟨w,w',rfl,⟨t,rfl⟩,⟨t',rfl⟩⟩:=vr.two
 exact ba (hc A E σ₁ { s with heap:=h₁,toks:=tk } i j t t' Q ao r q) (fun _ _ l=>fx.back x₁ l) fun _ _ x=>x
theorem wX {e f:Ex} {x:Str} {y z:Expr} {p pos:Pos} (K:GOk G) (he:cz G C sc d e y) (hf:cz G C sc d f z) (hst:noStar [y,z]=true) (hx:sc.names.lookup x=some .globalImplicit) (hn:fy x=true) (hv:G.gl x=some (.builtin "min")) :
  cz G C sc d (.bf .min (.cons e (.cons f .nil))) (.Call (.Name x p) [y,z] [] pos):=lO K he hf hst hx hn hv (fun _ _ _=>id) fun A E σ s i j t u Q ao r q=>by
 refine min_two_ints ao.handled fun h' tk' hk=>?_
 refine⟨_,σ,h',tk',rfl,q,?_,r.keeps hk,Evo.keeps hk⟩
 split
 ·rw [Int.min_eq_right (by(rename_i z1;exact km .cK .a .aA z1))];exact .int _ _
 ·rw [Int.min_eq_left (by(rename_i z1;exact km .cK .a (.ig .B .A) z1))];exact .int _ _
theorem wZ {e f:Ex} {x:Str} {y z:Expr} {p pos:Pos} (K:GOk G) (he:cz G C sc d e y) (hf:cz G C sc d f z) (hst:noStar [y,z]=true) (hx:sc.names.lookup x=some .globalImplicit) (hn:fy x=true) (hv:G.gl x=some (.builtin "max")) :
  cz G C sc d (.bf .max (.cons e (.cons f .nil))) (.Call (.Name x p) [y,z] [] pos):=lO K he hf hst hx hn hv (fun _ _ _=>id) fun A E σ s i j t u Q ao r q=>by
 refine max_two_ints ao.handled fun h' tk' hk=>?_
 refine⟨_,σ,h',tk',rfl,q,?_,r.keeps hk,Evo.keeps hk⟩
 split
 ·rw [Int.max_eq_right (by(rename_i z1;exact km .cK .a .aA z1))];exact .int _ _
 ·rw [Int.max_eq_left (by(rename_i z1;exact km .cK .a (.ig .B .A) z1))];exact .int _ _
theorem pW {e f:Ex} {x:Str} {y z:Expr} {p pos:Pos} (K:GOk G) (he:cz G C sc d e y) (hf:cz G C sc d f z) (hst:noStar [y,z]=true) (hx:sc.names.lookup x=some .globalImplicit) (hn:fy x=true) (hv:G.gl x=some (.builtin "divmod")) :
  cz G C sc d (.bf .divmod (.cons e (.cons f .nil))) (.Call (.Name x p) [y,z] [] pos):=lO K he hf hst hx hn hv (fun _ _ _=>id) fun A E σ s i j t u Q ao r zz11=>by
 obtain⟨h0,hb,q⟩:=zz11
 refine divmod_int h0 ?_ (.inl (dS (log2_lt_of hb)))
 exact⟨_,σ,_,_,rfl,q,.tup (IsT.new _ _) (.cons (.int _ _) (.cons (.int _ _) .nil)),r.push _,Evo.push _ _ _ _⟩
theorem wO {x:Str} {p pos:Pos} (K:GOk G) (hx:sc.names.lookup x=some .globalImplicit) (hn:fy x=true) (hv:G.gl x=some (.type "set")) :
  cz G C sc d (.bf .set .nil) (.Call (.Name x p) [] [] pos):=fun A E env ρ σ Q s ao es eo F R h=>by
 refine nq (P:=fun vs σ=>pO .set vs σ Q) K rfl jo hx hn hv ao es eo F R h fun vs σ₁ h₁ tk ws q vr r x₁=>?_
 obtain⟨rfl,q⟩:=sY (vs:=vs) q
 obtain rfl:=vr
 ·refine call_set_0 (s:={ s with heap:=h₁,toks:=tk }) fun led=>?_
  have hno:σ₁.S h₁.objs.size=none:=r.FU
  have at':At h₁.objs.size h₁ (h₁.push { cls:=.type "set",dict:=none,data:=.set #[] 0 (.fresh 0 0 led) }):=At.push h₁
  have hS:(h₁.push { cls:=.type "set",dict:=none,data:=.set #[] 0 (.fresh 0 0 led) }).SetOf G.kk h₁.objs.size (fun k=>decide (k∈([]:List Key))) ([]:List Key).length :=
   ⟨_,#[],0,_,cm _ rfl,⟨rfl,rfl,rfl⟩,rfl,fun e he=>by simp at he,fun k=>by simp,by decide,by rfl,by rfl⟩
  exact⟨.set _,_,_,_,rfl,q _ hno,.set _,r.F5 at' (fun _=>none_at_size _) hS,x₁.trans (Evo.F5 at' (fun _=>none_at_size _) _)⟩
theorem pU {e:Ex} {x x':Str} {y:Expr} {p p' pos pos':Pos} (K:GOk G) (he:cz G C sc d e y) (hst:noStar [y]=true) (hx:sc.names.lookup x=some .globalImplicit) (hn:fy x=true) (hv:G.gl x=some (.type "list"))
  (hx':sc.names.lookup x'=some .globalImplicit) (hn':fy x'=true) (hv':G.gl x'=some (.type "range")) :
  cz G C sc d (.bf .lrange (.cons e .nil)) (.Call (.Name x p) [.Call (.Name x' p') [y] [] pos'] [] pos):=fun A E env ρ σ Q s ao es eo F R h=>by
 have hes:ke G C sc d (.cons e .nil) [y]:=ek he jo (cu hst).1
 refine Call_ (jh K eo R (by rw [es];exact hx) hn hv (qh (gi (args:=[.Call (.Name x' p') [y] [] pos']) rfl pos env) (ki (gi (args:=[.Call (.Name x' p') [y] [] pos']) rfl pos env) (spliced_more ?_ rfl))))
 refine nq (P:=fun vs σ=>pO .lrange vs σ Q) K hst hes hx' hn' hv' ao es eo F R h fun vs σ₁ h₁ tk ws q vr r x₁=>?_
 obtain⟨v,rfl,q⟩:=gK (vs:=vs) q
 obtain⟨n,rfl,h0,hz,q⟩:=nr (v:=v) q
 obtain⟨w,rfl,t,rfl⟩:=vr.one
 have hz':=hz
 unfold ax at hz
 refine call_range_1 (s:={ s with heap:=h₁,toks:=tk }) (wd ?_)
 have r':=r.push { cls:=.type "range",data:=.fields #[.int 0 tk,.int n t,.int 1 (tk+1)] }
 have x':Evo [] σ s.heap σ₁ (h₁.push { cls:=.type "range",data:=.fields #[.int 0 tk,.int n t,.int 1 (tk+1)] }):=x₁.trans (Evo.push _ _ _ _)
 refine call_list_range (s:={ s with heap:=h₁.push { cls:=.type "range",data:=.fields #[.int 0 tk,.int n t,.int 1 (tk+1)] },toks:=tk+1+1 }) (n:=n.toNat) ao.handled (IsRange.new ..) (nN (by decide) (by exact(Ar.nab _).elim (fun q1=>(mw .R .b (.ik .A (.t .S)) .aF hz q1.2)) fun q1=>(mw .R .b .a1 .aJ h0 q1.2)) (by decide) (by decide)) (by rw [rangeSize_nat];simp) (by exact(Ar.ton _).elim (fun q1=>(mw (.k .A .aI) .b (.ik .A (.t .S)) .aF hz q1.2)) fun q1=>(dh (.k .A .aI) .a .M q1.2)) fun h' tk' acc' c' hk hS' hacc=>?_
 refine uW (ws:=acc'.toList) (vs:=(List.range n.toNat).map fun i:Nat=>V.int i) r' x' (none_at_size _) hk (n:=c') (by show h'.get? _=_;rw [hS']) ?_ (by simp;(exact pI (.ik .A .L) .a (.ik .A .L) hz')) q
 have hlen:acc'.size=n.toNat:=hacc.1
 have key:∀ (m:Nat) (l:List Value),l.length=m→(∀ (i:Nat) (v:Value),l[i]?=some v→∃ t,v=Value.int (((n.toNat-m)+i:Nat):Int) t)→m≤n.toNat→VRs G (h₁.push { cls:=.type "range",data:=.fields #[.int 0 tk,.int n t,.int 1 (tk+1)] }) ((List.range' (n.toNat-m) m).map fun i:Nat=>V.int i) l:=by
  intro m
  induction m with
  | zero=>intro l hl _ _;obtain rfl:=sq.mp hl;exact .nil
  | succ m ih =>
   intro l hl hh hm
   cases l with
   | nil=>simp at hl
   | cons w l =>
    obtain⟨t0,rfl⟩:=hh 0 w rfl
    rw [List.range'_succ,mq]
    refine .cons (.int _ _) ?_
    have e:n.toNat-(m+1)+1=n.toNat-m:=by(exact dn .aT .n .c9 (.e .Q .D) (aa (av .F .a .F hm)) (aa (av .A .a .F hm)))
    rw [e]
    refine ih l (by simpa using hl) (fun i v e=>?_) (by exact av .A .a .F hm)
    obtain⟨t1,rfl⟩:=hh (i+1) v (by simpa using e)
    exact⟨t1,by congr 1;(rename_i z1;exact cv (.ie (.t .a2) (.t .a0)) .g .bK z1)⟩
 have:=key n.toNat acc'.toList (by simpa using hlen) (fun i v e=>by
  obtain⟨t1,rfl⟩:=hacc.2 i v (by simpa using e)
  exact⟨t1,by congr 1;simp⟩) (ah _)
 rw [Nat.sub_self,← List.range_eq_range'] at this
 exact this
end
end MP
end
section
namespace MP
open PySem PyProof.Rows
noncomputable def Tg.vars:Tg→List Nat
 | .var x=>[x]
 | .tup xs=>xs
noncomputable def Gens.vars:Gens→List Nat
 | .elt _=>[]
 | .cons _ t _ more=>t.vars++more.vars
theorem i9:∀ (xs:List Nat) (vs:List V) (ρ:Fr) (i:Nat),i∉xs→dk xs vs ρ i=ρ i
 | [],_,_,_,_=>rfl
 | _::_,[],_,_,_=>rfl
 | x::xs,v::vs,ρ,i,h=>by
  have h:=lG h
  exact(i9 xs vs _ i h.2).trans (cj h.1)
theorem rV {t:Tg} {v:V} {σ:St} {ρ:Fr} {K:Fr→Prop} (h:qd t v σ ρ K):qd t v σ ρ fun ρ'=>K ρ'∧∀ i,i∉t.vars→ρ' i=ρ i:=by
 cases t with
 | var x=>exact⟨h,fun i hi=>cj (by simpa [Tg.vars] using hi)⟩
 | tup xs =>
  obtain⟨vs,e,hl,h⟩:=h
  exact⟨vs,e,hl,h,fun i hi=>i9 _ _ _ _ hi⟩
theorem Rel.G9 {G:Stc} {σ:St} {h:Heap} {a:Addr} {xs:List V} {ws:List Value} {n:Nat} (R:Rel G σ h) (hd:¬ σ.dom a) (hb:G.hb.get? a=none) (hl:IsL h a ws.toArray n) (hv:VRs G h xs ws) (hz:xs.length≤ax):Rel G (σ.ct a xs) h:=by
 refine⟨fun b ys e=>?_,R.D,R.S,R.I,R.Z,fun b ys e=>?_,R.Dl,R.inj,R.apart,R.sep,fun b d=>?_,R.base⟩
 ·by_cases hba:b=a
  ·subst hba
   simp only [St.ct,bc,dv] at e
   subst e
   exact⟨ws,n,hl,hv⟩
  ·simp only [St.ct,cj hba] at e
   exact R.L b ys e
 ·by_cases hba:b=a
  ·subst hba
   simp only [St.ct,bc,dv] at e
   exact e▸hz
  ·simp only [St.ct,cj hba] at e
   exact R.Ll b ys e
 ·rcases vp d with d | rfl
  ·exact R.new b d
  ·exact hb
inductive u0 (G:Stc) (env:Env) (D:Addr) (X:List Addr) (tv:List Nat) (ρ:Fr) (σ:St) (s:Shared) (K:Fr→List V→St→Prop) (s':Shared):Prop
 | mk (ρ':Fr) (acc':List V) (σ':St) (h':Heap) (tk:Nat) (ws:List Value) (n:Nat):s'={ s with heap:=h',toks:=tk }→K ρ' acc' σ'→FR G σ' env ρ' h'→Rel G σ' h'→IsL h' D ws.toArray n→VRs G h' acc' ws→acc'.length≤ax→¬ σ'.dom D→Evo (D::X) σ s.heap σ' h'→(∀ i,i∉tv→ρ' i=ρ i)→u0 G env D X tv ρ σ s K s'
structure xj (G:Stc) (env:Env) (D:Addr) (σ:St) (h:Heap) (acc:List V):Prop where
 here:∃ ws n,IsL h D ws.toArray n∧VRs G h acc ws
 len:acc.length≤ax
 out:¬ σ.dom D
 off:D∉envX env
 base:G.hb.get? D=none
theorem xj.evo {G:Stc} {env:Env} {D:Addr} {σ σ':St} {h h':Heap} {acc:List V} {X:List Addr} (a:xj G env D σ h acc) (x:Evo X σ h σ' h') (hX:D∉X):xj G env D σ' h' acc:=by
 obtain⟨ws,n,hl,hv⟩:=a.here
 exact⟨⟨ws,n,x.keep _ _ hl a.out hX,hv.mono x.frz⟩,a.len,fun d=>(x.dom D d).elim a.out fun q=>(by rw [show h.get? D=_ from hl] at q;cases q),a.off,a.base⟩
noncomputable def rd (elt:Expr) (gens:List Comprehension) (scope:Scope) (pos:Pos) (depth:Nat) (acc:Value) (env:Env):Sem Unit :=
 match gens[depth+1]? with
 | some g'=>eval g'.iter env>>=fun x=>standAt g'.iter.pos>>=fun _=>foldedSetIterable g'.iter env x>>=fun x=>holding [x] (pyIter x)>>=fun i =>
  runOwn (.compStart (.ListComp elt gens scope pos) (depth+1) i acc env) env>>=fun _=>pure ()
 | none=>eval elt env>>=fun x=>call (.builtin "list.append") [acc,x]>>=fun _=>pure ()
noncomputable def tests (ifs:List Expr) (env:Env):Sem Bool:=forIn ifs true fun c r=>if r=true then do let ok←isTrue c env (eval c env);pure (ForInStep.yield ok) else pure (ForInStep.yield r)
theorem oU {elt:Expr} {gens:List Comprehension} {scope:Scope} {pos:Pos} {depth:Nat} {it acc:Value} {env:Env} {target iter:Expr} {ifs:List Expr} (hg:gens[depth]?=some ⟨target,iter,ifs,0⟩) (hg':∀ g',gens[depth+1]?=some g'→g'.is_async=0) :
  compTurn (.ListComp elt gens scope pos) depth it acc env=(standAt iter.pos>>=fun _=>pyNext it>>=fun r=>match r with
   | none=>pure (.done .next)
   | some v=>letOwnedTupleGo target it v>>=fun _=>assign target env v>>=fun _=>tests ifs env>>=fun ok =>
    if ok=true then rd elt gens scope pos depth acc env>>=fun _=>again (.compLoop (.ListComp elt gens scope pos) depth it acc env) else again (.compLoop (.ListComp elt gens scope pos) depth it acc env)):=by
 unfold compTurn
 simp only [hg]
 unfold rd tests
 cases hq:gens[depth+1]? with
 | none=>first | rfl | simp
 | some g' =>
  have:=hg' g' hq
  simp [this]
  congr 1
section
variable {prog:Program} {w:World} {A:Around} {R:Result→Shared→Prop} {s:Shared}
theorem eQ {elt:Expr} {gens:List Comprehension} {scope:Scope} {pos:Pos} {depth:Nat} {it acc:Value} {env:Env} {target iter:Expr} {ifs:List Expr} (hg:gens[depth]?=some ⟨target,iter,ifs,0⟩)
  (h0:codeAny (model prog w) A (.compLoop (.ListComp elt gens scope pos) depth it acc env) R s)
  (h:wpAny (model prog w) A (pyIter it) (fun it' s'=>codeAny (model prog w) A (.compLoop (.ListComp elt gens scope pos) depth it' acc env) R s') (notedBy (model prog w) A env fun x s'=>R (.error x) s') s) :
  codeAny (model prog w) A (.compStart (.ListComp elt gens scope pos) depth it acc env) R s:=by
 refine zw ?_
 show wpAny _ A ((compStart (.ListComp elt gens scope pos) depth it acc env).onRaise (fun x=>do noteFrame x env;standAt theWindowsPlace)) _ _ s
 refine wpAny_notedAt ?_
 unfold compStart
 have e:clausesOf (.ListComp elt gens scope pos)=gens:=rfl
 simp only [e,hg]
 show wpAny _ A (ask>>=_) _ _ s
 refine ab (wpAny_askSetting (wpAny_ite ?_))
 split
 ·first
   | exact ab (ae (ae (And.intro rfl h0)))
   | exact ae (And.intro rfl h0)
 ·exact ab (wpAny_rule (ab (fg (ab (ba h (fun it' s' h'=>ae (And.intro rfl h')) fun _ _ x=>x)))))
theorem oW {elt:Expr} {gens:List Comprehension} {scope:Scope} {pos:Pos} {depth:Nat} {it acc:Value} {env:Env} {target iter:Expr} {ifs:List Expr} (hg:gens[depth]?=some ⟨target,iter,ifs,0⟩) (hg':∀ g',gens[depth+1]?=some g'→g'.is_async=0) (I:Nat→Shared→Prop)
  (turn:∀ n s,I n s→wpAny (model prog w) A (pyNext it) (fun r s₁=>match r with
   | none=>R (.ok .next) s₁
   | some v=>wpAny (model prog w) A (letOwnedTupleGo target it v) (fun _ s₁'=>wpAny (model prog w) A (assign target env v) (fun _ s₂ =>
     wpAny (model prog w) A (tests ifs env) (fun ok s₃=>if ok=true then wpAny (model prog w) A (rd elt gens scope pos depth acc env) (fun _ s₄=>∃ m,m<n∧I m s₄) (notedBy (model prog w) A env fun e s'=>R (.error e) s') s₃ else ∃ m,m<n∧I m s₃)
      (notedBy (model prog w) A env fun e s'=>R (.error e) s') s₂) (notedBy (model prog w) A env fun e s'=>R (.error e) s') s₁') (notedBy (model prog w) A env fun e s'=>R (.error e) s') s₁) (notedBy (model prog w) A env fun e s'=>R (.error e) s') s)
  (n:Nat) (h:I n s):codeAny (model prog w) A (.compLoop (.ListComp elt gens scope pos) depth it acc env) R s:=by
 refine codeAny_loop rfl I (fun n s hI=>?_) n h
 show wpAny _ A ((compTurn (.ListComp elt gens scope pos) depth it acc env).onRaise (fun x=>do noteFrame x env;theTreesLotGoes x)) _ _ s
 refine wpAny_noted ?_
 rw [oU hg hg']
 refine ab (fg (ab (ba (turn n s hI) (fun r s₁ h₁=>?_) fun _ _ h'=>h')))
 cases r with
 | none=>exact ae h₁
 | some v =>
  refine ab (ba h₁ (fun _ s₁' h₁'=>ab (ba h₁' (fun _ s₂ h₂=>ab (ba h₂ (fun ok s₃ h₃=>?_) fun _ _ h'=>h')) fun _ _ h'=>h')) fun _ _ h'=>h')
  cases ok with
  | false=>exact ae ⟨rfl,h₃⟩
  | true=>exact ab (ba h₃ (fun _ s₄ h₄=>ae ⟨rfl,h₄⟩) fun _ _ h'=>h')
end
section
variable {G:Stc} {C:Cal} {sc:Scope} {d:Nat}
noncomputable def oq (G:Stc) (C:Cal) (sc:Scope) (d:Nat) (cs:Exs) (ifs:List Expr):Prop :=
 ∀ (A:Around) (E:Value→Shared→Prop) (env:Env) (ρ:Fr) (σ:St) (Q:Bool→St→Prop) (s:Shared),AOk A d→env.scope=sc→jl env→FR G σ env ρ s.heap→Rel G σ s.heap →
  yx C cs ρ σ Q→wpAny G.M A (tests ifs env) (jk G [] σ s Q) E s
theorem gE {A:Around} {E:Value→Shared→Prop} {env:Env} {s:Shared} {Q:Bool→Shared→Prop} (f:Expr→Bool→Sem (ForInStep Bool)) (hf:∀ c,f c false=pure (.yield false)) (h:Q false s):∀ ifs:List Expr,wpAny G.M A (forIn ifs false f) Q E s
 | []=>by rw [jy];exact ae h
 | c::r=>by
  rw [lp,hf]
  exact ab (ae (gE (env:=env) f hf h r))
theorem vL:oq G C sc d .nil []:=fun A E env ρ σ Q s ao es eo F R h=>by
 unfold tests
 rw [jy]
 exact ae (jk.here h R)
theorem rN {c:Ex} {cs:Exs} {x:Expr} {xs:List Expr} (hc:pq G C sc d c x) (hr:oq G C sc d cs xs):oq G C sc d (.cons c cs) (x::xs):=fun A E env ρ σ Q s ao es eo F R h=>by
 unfold tests
 rw [lp]
 rw [bp rfl]
 refine ab (ab (jK (hc A E env ρ σ _ s ao es eo F R h) fun b σ₁ h₁ tk q r x=>ae ?_))
 cases b with
 | true=>exact ba (hr A E env ρ σ₁ Q _ ao es eo (F.evo x) r q) (fun _ _ l=>jk.back x l) fun _ _ x=>x
 | false=>exact gE (env:=env) _ (fun c=>by simp) (jk.back (tk:=tk) x (jk.here q r)) xs
structure XOk (env:Env) (X:List Addr) (gens:List Comprehension):Prop where
 loc:env.locals∈X
 cells:∀ g∈gens,∀ y∈dZ g.target,∀ c,env.cells.lookup y=some c→c∈X
 sub:∀ b∈X,b∈envX env
noncomputable def qe (G:Stc) (C:Cal) (sc:Scope) (d:Nat) (more:Gens) (elt:Expr) (gens:List Comprehension) (scope:Scope) (pos:Pos) (depth:Nat):Prop :=
 ∀ (A:Around) (E:Value→Shared→Prop) (env:Env) (ρ:Fr) (σ:St) (acc:List V) (K:Fr→List V→St→Prop) (s:Shared) (D:Addr) (X:List Addr),XOk env X gens→AOk A d→env.scope=sc→jl env→FR G σ env ρ s.heap→Rel G σ s.heap→xj G env D σ s.heap acc →
  hV C more ρ acc σ K→wpAny G.M A (rd elt gens scope pos depth (.ref D) env) (fun _ s'=>u0 G env D X more.vars ρ σ s K s') E s
theorem vR {e:Ex} {elt:Expr} {gens:List Comprehension} {scope:Scope} {pos:Pos} {depth:Nat} (he:cz G C sc d e elt) (hg:gens[depth+1]?=none):qe G C sc d (.elt e) elt gens scope pos depth:=fun A E env ρ σ acc K s D X xo ao es eo F R a h=>by
 unfold rd
 rw [hg]
 refine ab (mr (he A E env ρ σ _ s ao es eo F R h) fun v σ₁ h₁ tk w q vr r x=>?_)
 have a₁:=a.evo x (by simp)
 obtain⟨ws,n,hl,hv⟩:=a₁.here
 have hlen:=hv.length
 have hz:=q.1
 refine ab (xr (s:={ s with heap:=h₁,toks:=tk }) dR ⟨_,hl,rfl⟩ PySem.F.entry_list_append (PySem.F.args_list_append_2 _ _) (list_append _ _ _ _ (by simp only [bh];rw [← hlen];exact lq (by exact av .A .a .B q.1))) ⟨hl,ae ?_⟩)
 have hu:=hl.update (fun x=>x.push w)
 have e2:ws.toArray.push w=(ws++[w]).toArray:=by simp
 rw [e2] at hu
 have hs:Heap.SameBut D h₁ (h₁.update D (Obj.mapSeq fun x=>x.push w)):=td ..
 have hf:gp h₁ (h₁.update D (Obj.mapSeq fun x=>x.push w)):=mv hs fun o eo=>by
  obtain rfl:=af (eo.symm.trans hl);exact uk rfl rfl
 have hk:∀ b o,b∉[D]→h₁.get? b=some o→(h₁.update D (Obj.mapSeq fun x=>x.push w)).get? b=some o:=fun b o hb e=>by rw [hs.2 b (fun q=>hb (q▸.head _))];exact e
 refine⟨ρ,acc++[v],σ₁,_,tk,ws++[w],_,rfl,q.2,(F.evo x).but hk hf (fun b hb=>by obtain rfl:=au.mp hb;exact a.off),r.frame (o':=default) hs a₁.out a.base hf,hu,(hv.mono hf).append (.cons (vr.mono hf) .nil),by simp;(exact av .F .a .B q.1),a₁.out,?_,fun _ _=>rfl⟩
 exact(x.more fun _ h=>nomatch h).trans (Evo.frame hs hu (.head _) hf)
noncomputable def kA (C:Cal) (t:Tg) (cs:Exs) (more:Gens) (v:V) (ρ:Fr) (acc:List V) (σ:St) (K:Fr→List V→St→Prop):Prop:=qd t v σ ρ fun ρ'=>yx C cs ρ' σ fun ok σ=>if ok then hV C more ρ' acc σ K else K ρ' acc σ
inductive gR (I:Itr G) (env:Env) (σ₀:St) (s₀:Shared) (D:Addr) (X:List Addr) (vs:List Nat) (ρ:Fr) (T:V→Fr→List V→St→(Fr→List V→St→Prop)→Prop) (K:Fr→List V→St→Prop) (n:Nat) (s':Shared):Prop
 | mk (i:Nat) (σ':St) (ρ':Fr) (acc':List V) (h':Heap) (tk':Nat):n=I.vs.length-i→s'={ s₀ with heap:=h',toks:=tk' }→I.pos i h'→FR G σ' env ρ' h'→Rel G σ' h'→xj G env D σ' h' acc'→Evo (D::X) σ₀ s₀.heap σ' h'→(∀ b∈I.own,¬ σ'.dom b)→(∀ j,j∉vs→ρ' j=ρ j)→mO (I.vs.drop i) I.Gd T ρ' acc' σ' K→gR I env σ₀ s₀ D X vs ρ T K n s'
theorem gR.next {I:Itr G} {env:Env} {σ₀:St} {s₀:Shared} {D:Addr} {X:List Addr} {vs:List Nat} {ρ:Fr} {T:V→Fr→List V→St→(Fr→List V→St→Prop)→Prop} {K:Fr→List V→St→Prop} {i tk:Nat} {σ':St} {ρ':Fr} {acc':List V} {h':Heap} (lt:i<I.vs.length) (hp:I.pos (i+1) h') (F:FR G σ' env ρ' h') (R:Rel G σ' h') (a:xj G env D σ' h' acc') (x:Evo (D::X) σ₀ s₀.heap σ' h') (hd:∀ b∈I.own,¬ σ'.dom b) (ag:∀ j,j∉vs→ρ' j=ρ j) (q:mO (I.vs.drop (i+1)) I.Gd T ρ' acc' σ' K) :
  ∃ m,m<I.vs.length-i∧gR I env σ₀ s₀ D X vs ρ T K m { s₀ with heap:=h',toks:=tk }:=⟨_,by exact dn .B .e .c9 (.e .Q .D) (aa (av .F .a .B lt)) (aa (av .A .a .B lt)),i+1,σ',ρ',acc',h',tk,rfl,rfl,hp,F,R,a,x,hd,ag,q⟩
theorem xj.kept {env:Env} {D:Addr} {σ:St} {h h':Heap} {acc:List V} {own:List Addr} (a:xj G env D σ h acc) (hD:D∉own) (hk:∀ b o,b∉own→h.get? b=some o→h'.get? b=some o) (fz:gp h h'):xj G env D σ h' acc:=by
 obtain⟨ws,m,hl,hv⟩:=a.here
 exact⟨⟨ws,m,hk _ _ hD hl,hv.mono fz⟩,a.len,a.out,a.off,a.base⟩
theorem EJ {t:Tg} {cs:Exs} {more:Gens} {elt:Expr} {gens:List Comprehension} {scope:Scope} {pos:Pos} {depth:Nat} {target:Expr} {ifs:List Expr} (ht:ue G C sc d t target) (hcs:oq G C sc d cs ifs) (haf:qe G C sc d more elt gens scope pos depth)
  {A:Around} {E:Value→Shared→Prop} {env:Env} {ρ₀ ρ:Fr} {σ₀ σ:St} {acc:List V} {K:Fr→List V→St→Prop} {s₀:Shared} {h:Heap} {tk i:Nat} {D:Addr} {X:List Addr} {I:Itr G} {v:V} {w:Value} (xo:XOk env X gens) (hcell:∀ y∈dZ target,∀ c,env.cells.lookup y=some c→c∈X) (ao:AOk A d) (es:env.scope=sc) (eo:jl env)
  (hX:∀ b∈I.own,b∉envX env) (hD:D∉I.own) (lt:i<I.vs.length) (F:FR G σ env ρ h) (R:Rel G σ h) (a:xj G env D σ h acc) (x0:Evo (D::X) σ₀ s₀.heap σ h) (hp:I.pos (i+1) h) (hd:∀ b∈I.own,¬ σ.dom b) (ag:∀ j,j∉t.vars++more.vars→ρ j=ρ₀ j) (vr:VR G h v w)
  (hf:kA C t cs more v ρ acc σ fun ρ acc σ=>mO (I.vs.drop (i+1)) I.Gd (kA C t cs more) ρ acc σ K) :
  wpAny G.M A (assign target env w) (fun _ s₂=>wpAny G.M A (tests ifs env) (fun ok s₃=>if ok=true then wpAny G.M A (rd elt gens scope pos depth (.ref D) env) (fun _ s₄=>∃ m,m<I.vs.length-i∧gR I env σ₀ s₀ D X (t.vars++more.vars) ρ₀ (kA C t cs more) K m s₄) E s₃
   else ∃ m,m<I.vs.length-i∧gR I env σ₀ s₀ D X (t.vars++more.vars) ρ₀ (kA C t cs more) K m s₃) E s₂) E { s₀ with heap:=h,toks:=tk }:=by
 have ownX:∀ c∈I.own,c∉X:=fun c hc q=>hX c hc (xo.sub c q)
 refine ba (ht A _ X env ρ σ _ { s₀ with heap:=h,toks:=tk } v w xo.loc hcell ao es eo F R vr (rV hf)) (fun _ s₃ l=>?_) fun _ _ x=>x
 obtain⟨ρ₃,h₃,tk₃,rfl,⟨q₃,hag₃⟩,F₃,R₃,x₃⟩:=l
 obtain⟨hp3,hnd3⟩:=I.wK ownX hp hd x₃
 have a3:=a.evo x₃ fun q=>a.off (xo.sub D q)
 refine jK (hcs A _ env ρ₃ σ _ { s₀ with heap:=h₃,toks:=tk₃ } ao es eo F₃ R₃ q₃) fun ok σ₄ h₄ tk₄ q₄ R₄ x₄=>?_
 obtain⟨hp4,hnd4⟩:=I.wK (fun c _=>vh) hp3 hnd3 x₄
 have a4:=a3.evo x₄ vh
 have F4:=F₃.evo x₄
 have x5:Evo (D::X) σ₀ s₀.heap σ₄ h₄:=(x0.trans (x₃.more fun b hb=>.tail _ hb)).trans (x₄.more fun _ h=>nomatch h)
 have ag4:∀ j,j∉t.vars++more.vars→ρ₃ j=ρ₀ j:=fun j hj=>(hag₃ j (fun q=>hj (gz _ q))).trans (ag j hj)
 cases ok with
 | false =>
  rw [aw og]
  exact gR.next lt hp4 F4 R₄ a4 x5 hnd4 ag4 q₄
 | true =>
  rw [bp rfl]
  refine ba (haf A _ env ρ₃ σ₄ acc _ { s₀ with heap:=h₄,toks:=tk₄ } D X xo ao es eo F4 R₄ a4 q₄) (fun _ s₆ l=>?_) fun _ _ x=>x
  obtain⟨ρ₆,acc₆,σ₆,h₆,tk₆,ws₆,n₆,rfl,q₆,F₆,R₆,hl₆,hv₆,hz₆,hd₆,x₆,hag₆⟩:=l
  obtain⟨hp6,hnd6⟩:=I.wK (fun c hc q=>(cf.mp q).elim (fun e=>by rw [e] at hc;exact hD hc) (ownX c hc)) hp4 hnd4 x₆
  exact gR.next lt hp6 F₆ R₆ ⟨⟨ws₆,n₆,hl₆,hv₆⟩,hz₆,hd₆,a.off,a.base⟩ (x5.trans x₆) hnd6 (fun j hj=>(hag₆ j (fun q=>hj (gq _ q))).trans (ag4 j hj)) q₆
theorem DR {t:Tg} {cs:Exs} {more:Gens} {elt:Expr} {gens:List Comprehension} {scope:Scope} {pos:Pos} {depth:Nat} {target iter:Expr} {ifs:List Expr} (ht:ue G C sc d t target) (hcs:oq G C sc d cs ifs) (haf:qe G C sc d more elt gens scope pos depth) (hg:gens[depth]?=some ⟨target,iter,ifs,0⟩) (hg':∀ g',gens[depth+1]?=some g'→g'.is_async=0)
  {A:Around} {env:Env} {ρ:Fr} {σ₀ σ:St} {acc:List V} {K:Fr→List V→St→Prop} {s₀:Shared} {h:Heap} {tk:Nat} {D:Addr} {X:List Addr} {R:Result→Shared→Prop} (I:Itr G) (hI:I.tup=true→isTup target=true) (xo:XOk env X gens) (ao:AOk A d) (es:env.scope=sc) (eo:jl env) (F:FR G σ env ρ h) (Rl:Rel G σ h) (a:xj G env D σ h acc)
  (hp:I.pos 0 h) (x₀:Evo (D::X) σ₀ s₀.heap σ h) (hnew:∀ b∈I.own,s₀.heap.get? b=none) (hX:∀ b∈I.own,b∉envX env) (hnd:∀ b∈I.own,¬ σ.dom b) (hD:D∉I.own) (hbase:∀ b∈I.own,G.hb.get? b=none)
  (hf:mO I.vs I.Gd (kA C t cs more) ρ acc σ K)
  (hR:∀ s',u0 G env D X (t.vars++more.vars) ρ σ₀ s₀ K s'→R (.ok .next) s') :
  codeAny G.M A (.compLoop (.ListComp elt gens scope pos) depth (.ref I.it) (.ref D) env) R { s₀ with heap:=h,toks:=tk }:=by
 refine oW hg hg' (gR I env σ₀ s₀ D X (t.vars++more.vars) ρ (kA C t cs more) K) ?_ (I.vs.length-0)
  ⟨0,σ,ρ,acc,h,tk,rfl,rfl,hp,F,Rl,a,x₀,hnd,fun _ _=>rfl,hf⟩
 rintro n s' ⟨i,σ',ρ',acc',h',tk',rfl,rfl,hp',F',R',a',x',hnd',hag,hf'⟩
 cases hq:I.vs[i]? with
 | none =>
  rw [List.drop_eq_nil_of_le (aE.mp hq)] at hf'
  refine I.stop A _ { s₀ with heap:=h',toks:=tk' } σ' i _ ao.handled R' hf'.1 hp' hq fun h2 tk2 hk2=>?_
  have fz:=I.frz hp' hk2
  obtain⟨ws,m,hl,hv⟩:=(a'.kept hD hk2 fz).here
  exact hR _ ⟨ρ',acc',σ',h2,tk2,ws,m,rfl,hf'.2,F'.but hk2 fz hX,I.rel hp' R' hnd' hbase hk2,hl,hv,a'.len,a'.out,x'.but hk2 hnew,hag⟩
 | some v =>
  obtain⟨hlt,hcons⟩:=tP hq
  rw [hcons] at hf'
  refine ba (I.next A _ { s₀ with heap:=h',toks:=tk' } σ' i v target ?Q ao.handled R' hf'.1 hp' hq (fun q=>oD (hI q)) ?k) (fun r s₁ hr=>?m) fun _ _ x=>x
  case m =>
   cases r with
   | none=>exact hr.elim
   | some w=>exact hr
  case k =>
   intro w h2 tk2 vr hp2 hk2
   have fz:=I.frz hp' hk2
   exact EJ ht hcs haf xo (xo.cells _ (ew hg)) ao es eo hX hD hlt (F'.but hk2 fz hX) (I.rel hp' R' hnd' hbase hk2) (a'.kept hD hk2 fz) (x'.but hk2 hnew) hp2 hnd' hag vr hf'.2
theorem rZ {it:It} {t:Tg} {cs:Exs} {more:Gens} {elt:Expr} {gens:List Comprehension} {scope:Scope} {pos:Pos} {depth:Nat} {target iter:Expr} {ifs:List Expr} (hit:yn G C sc d (isTup target) it iter) (ht:ue G C sc d t target) (hcs:oq G C sc d cs ifs) (haf:qe G C sc d more elt gens scope pos (depth+1))
  (hg:gens[depth+1]?=some ⟨target,iter,ifs,0⟩) (hg':∀ g',gens[depth+1+1]?=some g'→g'.is_async=0) (hs:∀ env v,foldedSetIterable iter env v=pure v):qe G C sc d (.cons it t cs more) elt gens scope pos depth:=fun A E env ρ σ acc K s D X xo ao es eo F R a h=>by
 unfold rd
 rw [hg]
 refine ab (ba (hit A E env ρ σ _ s ao es eo F R h) (fun v s₁ h₁=>?_) fun _ _ x=>x)
 refine ab (fg (ab (di (hs env v) (ab (bu (ba h₁ (fun itv s₂ l=>?_) fun _ _ x=>x))))))
 obtain⟨I,σ₁,h₁,tk,rfl,rfl,htup,hf,hp,r,x₁,hnew,hnd⟩:=l
 have hbase:∀ b∈I.own,G.hb.get? b=none:=fun b hb=>by
  cases hq:G.hb.get? b with
  | none=>rfl
  | some o=>have:=R.base b o hq;rw [hnew b hb] at this;cases this
 have hD:D∉I.own:=fun q=>by
  obtain⟨ws,n,hl,_⟩:=a.here
  have:=hnew D q
  rw [show s.heap.get? D=_ from hl] at this;cases this
 have x₁':Evo (D::X) σ s.heap σ₁ h₁:=x₁.more fun _ h=>nomatch h
 have loop:∀ {R':Result→Shared→Prop},(∀ s',u0 G env D X (t.vars++more.vars) ρ σ s K s'→R' (.ok .next) s')→codeAny G.M A (.compLoop (.ListComp elt gens scope pos) (depth+1) (.ref I.it) (.ref D) env) R' { s with heap:=h₁,toks:=tk }:=fun hR =>
  DR ht hcs haf hg hg' I htup xo ao es eo (F.evo x₁) r (a.evo x₁ (by simp)) hp x₁' hnew (lU F hnew) hnd hD hbase hf hR
 refine ab (wpAny_runOwn (eQ hg (loop fun s' l=>ae l) (I.self _ _ _ _ _ hp (loop fun s' l=>ae l))))
end
end MP
end
section
set_option tactic.hygienic true
namespace MP
open PySem PyProof.Rows
noncomputable def kx (cells:List (Str × Addr)):List (Str × NameKind)→List (Str × Addr)→List (Str × Addr)
 | [],acc=>acc
 | (n,k)::r,acc=>if k==.free then kx cells r ((n,(cells.lookup n).getD 0)::acc) else kx cells r acc
theorem yi {env:Env} (f:Str × NameKind→List (Str × Addr)→Sem (ForInStep (List (Str × Addr))))
  (hf:∀ n k cs,f (n,k) cs=if k==.free then (do let c←cellOf env n;pure (.yield ((n,c)::cs))) else pure (.yield cs)) :
  ∀ (names:List (Str × NameKind)) (acc:List (Str × Addr)),(∀ n,(n,NameKind.free)∈names→(env.cells.lookup n).isSome=true)→forIn names acc f=pure (kx env.cells names acc)
 | [],acc,_=>by rw [jy];rfl
 | (n,k)::r,acc,h=>by
  have hr:=fun acc=>yi f hf r acc fun m hm=>h m (.tail _ hm)
  rw [lp,hf]
  unfold kx
  split
  ·rename_i hk
   rw [sg] at hk
   subst hk
   obtain⟨c,hc⟩:=cc.mp (h n (.head _))
   have e:cellOf env n=pure c:=by unfold cellOf;rw [hc]
   rw [e,hc]
   exact hr _
  ·exact hr acc
theorem jP {scope:Scope} {env:Env} (h:∀ n,(n,NameKind.free)∈scope.names→(env.cells.lookup n).isSome=true):closureFor scope env=pure (kx env.cells scope.names []):=by
 have e:closureFor scope env=(forIn scope.names [] (fun(x:Str × NameKind) (cs:List (Str × Addr))=>if x.2==.free then (do let c←cellOf env x.1;pure (ForInStep.yield ((x.1,c)::cs))) else pure (ForInStep.yield cs))>>=fun cs=>pure cs):=by
  unfold closureFor
  first | rfl | simp
 rw [e,yi _ (fun n k cs=>rfl) scope.names [] h]
 rfl
theorem vq (cells:List (Str × Addr)):∀ (names:List (Str × NameKind)) (acc:List (Str × Addr)),kx cells names acc=kx cells names []++acc
 | [],_=>by simp [kx]
 | (n,k)::r,acc=>by
  unfold kx
  split
  ·rw [vq cells r ((n,(cells.lookup n).getD 0)::acc),vq cells r [(n,(cells.lookup n).getD 0)]];simp
  ·exact vq cells r acc
theorem nu (cells:List (Str × Addr)):∀ (names:List (Str × NameKind)) (x:Str) (c:Addr),(x,c)∈kx cells names []→(x,NameKind.free)∈names∧c=(cells.lookup x).getD 0
 | [],_,_,h=>by simp [kx] at h
 | (n,k)::r,x,c,h=>by
  unfold kx at h
  split at h
  ·rename_i hk
   rw [vq] at h
   rcases dz.mp h with h | h
   ·exact⟨.tail _ (nu cells r x c h).1,(nu cells r x c h).2⟩
   ·obtain⟨rfl,rfl⟩:=kn (au.mp h)
    rw [sg] at hk;subst hk;exact⟨.head _,rfl⟩
  ·exact⟨.tail _ (nu cells r x c h).1,(nu cells r x c h).2⟩
theorem fW (cells:List (Str × Addr)):∀ (names:List (Str × NameKind)) (x:Str),(x,NameKind.free)∈names→(x,(cells.lookup x).getD 0)∈kx cells names []
 | [],_,h=>by cases h
 | (n,k)::r,x,h=>by
  unfold kx
  split
  ·rw [vq]
   rcases cf.mp h with e | h
   ·obtain⟨rfl,_⟩:=kn e;exact gq _ (.head _)
   ·exact gz _ (fW cells r x h)
  ·rename_i hk
   rcases cf.mp h with e | h
   ·obtain⟨_,rfl⟩:=kn e;simp at hk
   ·exact fW cells r x h
theorem wk {cells:List (Str × Addr)} {names:List (Str × NameKind)} {x:Str} (h:(x,NameKind.free)∈names):(kx cells names []).lookup x=some ((cells.lookup x).getD 0):=by
 obtain⟨c,hc⟩:=tx (fW cells names x h)
 rw [hc]
 rw [(nu cells names x c (mem_of_lookup hc)).2]
noncomputable def oj (scope sc:Scope):Scope :=
 { scope with names:=scope.names.map fun(n,k)=>if (k==.free&&sc.kind==.function&&sc.names.lookup n==some .cell) then (n,.cell) else (n,k) }
theorem xT {scope:Scope} {env:Env}:relabel scope env=oj scope env.scope:=rfl
noncomputable def lY (sc:Scope) (fv:List (Nat × Nat)) (i:Nat):Str × NameKind→Bool
 | (x,.free)=>match fv.lookup i with
  | some j=>match sc.names[j]? with
   | some (y,k)=>x==y&&(k==.cell||k==.free)
   | none=>false
  | none=>false
 | (_,_)=>(fv.lookup i).isNone
noncomputable def lZ (sc:Scope) (fv:List (Nat × Nat)):Nat→List (Str × NameKind)→Bool
 | _,[]=>true
 | i,p::r=>lY sc fv i p&&lZ sc fv (i+1) r
theorem lX {sc:Scope} {fv:List (Nat × Nat)}:∀ {names:List (Str × NameKind)} {i:Nat},lZ sc fv i names=true→∀ (j:Nat) (p:Str × NameKind),names[j]?=some p→lY sc fv (i+j) p=true
 | [],_,_,j,p,e=>by simp at e
 | q::r,i,h,0,p,e=>by
  simp only [lZ,cq] at h
  simp at e;subst e;exact h.1
 | q::r,i,h,j+1,p,e=>by
  simp only [lZ,cq] at h
  have:=lX h.2 j p (by simpa using e)
  rw [show i+(j+1)=i+1+j by(exact vv .b9 .m)];exact this
noncomputable def ownIn (scope:Scope) (y:Str):Bool:=match scope.names.lookup y with
 | some .local=>true
 | some .cell=>true
 | _=>false
noncomputable def lW (scope:Scope) (gens:List Comprehension):Bool:=gens.all fun g=>(dZ g.target).all (ownIn scope)
theorem Evo.adopt {X:List Addr} {σ σ':St} {h h':Heap} {D:Addr} (xs:List V) (x:Evo X σ h σ' h') (hn:h.get? D=none):Evo X σ h (σ'.ct D xs) h' :=
 ⟨x.keep,x.frz,fun b d=>(vp d).elim (x.dom b) fun e=>.inr (e▸hn),x.there⟩
section
variable {G:Stc} {C:Cal} {sc:Scope} {d:Nat}
theorem zG {σ:St} {env:Env} {ρ:Fr} {h:Heap} {scope:Scope} {fv:List (Nat × Nat)} (F:FR G σ env ρ h) (es:env.scope=sc) (nd:(scope.names.map (·.1)).Nodup) (hfv:lZ sc fv 0 scope.names=true) :
  (∀ n,(n,NameKind.free)∈scope.names→(env.cells.lookup n).isSome=true)∧zZ G σ h scope.names (kx env.cells scope.names []) (j3 fv ρ):=by
 have at':∀ (i:Nat) (x:Str),scope.names[i]?=some (x,.free)→∃ j k,fv.lookup i=some j∧env.scope.names[j]?=some (x,k)∧(k=.cell∨k=.free):=fun i x e=>by
  have:=lX hfv i _ e
  rw [qj] at this
  simp only [lY] at this
  split at this
  ·rename_i j hj
   split at this
   ·rename_i y k hy
    simp only [cq,sg,ry] at this
    exact⟨j,k,hj,by rw [es,hy,this.1],this.2⟩
   ·cases this
  ·cases this
 have cellAt:∀ (i:Nat) (x:Str),scope.names[i]?=some (x,.free)→∃ j k c w,fv.lookup i=some j∧env.scope.names[j]?=some (x,k)∧(k=.cell∨k=.free)∧env.cells.lookup x=some c∧h.IsCell c w∧OV G h (ρ j) w∧¬ σ.dom c∧c≠env.locals∧G.hb.get? c=none:=fun i x e=>by
  obtain⟨j,k,h1,h2,h3⟩:=at' i x e
  obtain⟨c,w,g1,g2,g3,g4,g5,g6⟩:=F.cells j x k h2 h3
  exact⟨j,k,c,w,h1,h2,h3,g1,g2,g3,g4,g5,g6⟩
 have idx:∀ n,(n,NameKind.free)∈scope.names→∃ i:Nat,scope.names[i]?=some (n,NameKind.free):=fun n hn=>List.getElem?_of_mem hn
 refine⟨fun n hn=>?_,⟨fun i x e=>?_,fun i j x y c ei ej lx ly=>?_,fun p hp=>?_,fun i x k e hk=>?_⟩⟩
 ·obtain⟨i,e⟩:=idx n hn
  obtain⟨j,k,c,w,_,_,_,hc,_⟩:=cellAt i n e
  rw [hc];rfl
 ·obtain⟨j,k,c,w,h1,h2,h3,g1,g2,g3,g4,g5,g6⟩:=cellAt i x e
  refine⟨c,w,by rw [wk (ew e),g1];rfl,g2,?_,g4,g6⟩
  unfold j3
  rw [h1]
  exact g3
 ·obtain⟨a,ka,ca,wa,a1,a2,a3,a4,_⟩:=cellAt i x ei
  obtain⟨b,kb,cb,wb,b1,b2,b3,b4,_⟩:=cellAt j y ej
  rw [wk (ew ei),a4] at lx
  rw [wk (ew ej),b4] at ly
  have lx':ca=c:=by simpa using lx
  have ly':cb=c:=by simpa using ly
  have hab:=F.inj a b x y ka kb c a2 b2 a3 b3 (lx'▸a4) (ly'▸b4)
  subst hab
  rw [a2] at b2
  obtain⟨rfl,_⟩:=kn (af b2)
  exact eG nd ei ej
 ·obtain⟨hm,hc⟩:=nu _ _ p.1 p.2 hp
  obtain⟨i,e⟩:=idx _ hm
  obtain⟨j,k,c,w,_,_,_,g1,⟨o,ho,_⟩,_⟩:=cellAt i _ e
  rw [g1] at hc
  exact⟨o,by rw [hc];exact ho⟩
 ·have:=lX hfv i _ e
  rw [qj] at this
  unfold j3
  cases k<;>first | exact absurd rfl hk | (simp only [lY,qr] at this;rw [this];rfl)
noncomputable def qz (scope:Scope) (env:Env) (cells:List (Str × Addr)) (L:Addr):Env :=
 { scope:=relabel scope env,locals:=L,globals:=env.globals,cells:=cells,qual:=env.qual,func:=none,code:=env.code,frame:=env.frame,builtins:=env.builtins }
theorem oT {fv:List (Nat × Nat)} {it:It} {t:Tg} {cs:Exs} {more:Gens} {elt target iter:Expr} {ifs:List Expr} {rest:List Comprehension} {scope:Scope} {pos p0:Pos} {use:Option (Value→Sem Unit)} (hit:yn G C sc d (isTup target) it iter) (ht:ue G C (oj scope sc) d t target) (hcs:oq G C (oj scope sc) d cs ifs)
  (haf:qe G C (oj scope sc) d more elt (⟨target,iter,ifs,0⟩::rest) scope pos 0) (hs:∀ env v,foldedSetIterable iter env v=pure v) (hkind:scope.kind=.function) (nd:(scope.names.map (·.1)).Nodup) (hfv:lZ sc fv 0 scope.names=true) (hgo:lW scope (⟨target,iter,ifs,0⟩::rest)=true) (hasy:∀ g'∈rest,g'.is_async=0)
  {A:Around} {E:Value→Shared→Prop} {env:Env} {ρ:Fr} {σ:St} {Q:V→St→Prop} {s:Shared} {P:Value→Shared→Prop} (ao:AOk A d) (es:env.scope=sc) (eo:jl env) (F:FR G σ env ρ s.heap) (R:Rel G σ s.heap) (h:wpE C (.comp fv it t cs more) ρ σ Q)
  (hP:∀ (v:V) (σ':St) (h':Heap) (tk:Nat) (w:Value) (L:Addr),Q v σ'→VR G h' v w→Rel G σ' h'→Evo [] σ s.heap σ' h'→s.heap.get? L=none→¬ σ'.dom L→(∃ m,h'.Ns L m)→compPost G.M A E use P w L (.ok .next) { s with heap:=h',toks:=tk }) :
  wpAny G.M A (comprehension (.ListComp elt (⟨target,iter,ifs,0⟩::rest) scope pos) scope env p0 (newList []) false (eval iter env) use) P E s:=by
 obtain⟨hsome,_⟩:=zG F es nd hfv
 refine wpAny_comprehension_free rfl (hs env) (jP hsome) hkind (fun x hx hl=>?_) (ba (hit A E env ρ σ _ s ao es eo F R h) (fun v s₁ h₁=>ba h₁ (fun itv s₂ l=>?_) fun _ _ x=>x) fun _ _ x=>x)
 ·obtain⟨i,e⟩:=List.getElem?_of_mem hx
  obtain⟨y,k⟩:=x
  simp only at hl
  subst hl
  exact rh nd e
 obtain⟨I,σ₁,h₁,tk,rfl,rfl,htup,hf,hp,r,x₁,hnew,hnd⟩:=l
 have F₁:=F.evo x₁
 refine gy (?_:wpAny G.M A _ _ E _) (by show([]:List Value).toArray.size≤sizeLine;simp)
 have F₂:FR G σ₁ env ρ (h₁.push { cls:=.type "list",data:=.seq ([]:List Value).toArray }):=F₁.evo (Evo.push [] σ₁ h₁ { cls:=.type "list",data:=.seq ([]:List Value).toArray })
 have r₂:=r.push { cls:=.type "list",data:=.seq ([]:List Value).toArray }
 have hD₂:(h₁.push { cls:=.type "list",data:=.seq ([]:List Value).toArray }).get? h₁.objs.size=some { cls:=.type "list",data:=.seq ([]:List Value).toArray }:=cm _ rfl
 have x₂:Evo [] σ s.heap σ₁ (h₁.push { cls:=.type "list",data:=.seq ([]:List Value).toArray }):=x₁.trans (Evo.push _ _ _ _)
 have I₂:I.pos 0 (h₁.push { cls:=.type "list",data:=.seq ([]:List Value).toArray }):=I.keep _ _ _ hp (fun b _ o e=>aj _ e) fun b o e _=>aj _ e
 generalize hH2:h₁.push { cls:=.type "list",data:=.seq ([]:List Value).toArray }=H at *
 have hHs:H.objs.size=h₁.objs.size+1:=by rw [← hH2];exact ez ..
 obtain⟨_,clo⟩:=zG F₂ es nd hfv
 have hrel:∀ (i:Nat) (x:Str) (k':NameKind),(relabel scope env).names[i]?=some (x,k')→∃ k,scope.names[i]?=some (x,k)∧(k'=k∨(k=.free∧k'=.cell)):=fun i x k' e=>by
  simp only [relabel,bw] at e
  cases hq:scope.names[i]? with
  | none=>rw [hq] at e;cases e
  | some p =>
   obtain⟨y,k⟩:=p
   rw [hq] at e
   simp only [wt,dv] at e
   split at e
   ·rename_i hc
    obtain⟨rfl,rfl⟩:=kn e
    simp only [cq,sg] at hc
    exact⟨k,rfl,.inr ⟨hc.1.1,rfl⟩⟩
   ·obtain⟨rfl,rfl⟩:=kn e
    exact⟨k,rfl,.inl rfl⟩
 obtain⟨F₃,keep⟩:=iQ (T:="dict") (env:=qz scope env (cellsFrom (H.objs.size+1) scope.names (kx env.cells scope.names [])) H.objs.size) r₂ nd clo rfl rfl hrel
 have eo₃:jl (qz scope env (cellsFrom (H.objs.size+1) scope.names (kx env.cells scope.names [])) H.objs.size):=by
  refine⟨hkind,?_,eo.globals,eo.builtins⟩
  have e:(relabel scope env).names.map (·.1)=scope.names.map (·.1):=by
   simp only [relabel,md]
   refine List.map_congr_left fun p _=>?_
   obtain⟨y,k⟩:=p
   simp only [Function.comp]
   split<;>rfl
  show((relabel scope env).names.map (·.1)).Nodup
  rw [e];exact nd
 have ok:=cellsFrom_ok scope.names (H.push { cls:=.type "dict",data:=.dict #[] }) (H.objs.size+1) [] ⟨fun _ _ hm=>(nomatch hm),List.Pairwise.nil⟩ (by rw [ez];exact ah _)
 rw [ez] at ok
 simp only [newFunctionEnv,Option.isSome_some,uf]
 refine ab (wpAny_alloc ?_)
 refine ab (wpAny_layCells _ (fun name kind cells=>by cases hkc:kind==NameKind.cell<;>simp [hkc]) _ _ _ _ ?_)
 rw [show(H.push { cls:=.type "dict",data:=.dict #[] }).objs.size=H.objs.size+1 from ez ..]
 rw [jy]
 refine ab (ae (ae ?_))
 generalize hH3:pushCells (H.push { cls:=.type "dict",data:=.dict #[] }) scope.names=H3 at *
 have r₃:=r₂.keeps keep
 have fz:gp H H3:=fun b o e _=>keep b o e
 have x₃:Evo [] σ s.heap σ₁ H3:=x₂.trans (Evo.keeps keep)
 have I₃:I.pos 0 H3:=I.keep _ _ _ I₂ (fun b _ o e=>keep b o e) fz
 have sNone:∀ b,h₁.objs.size≤b→s.heap.get? b=none:=fun b hb=>by
  cases hq:s.heap.get? b with
  | none=>rfl
  | some o=>obtain⟨o',e'⟩:=x₁.there _ _ hq;exact absurd (et e') (qi.mpr hb)
 have ownLt:∀ b∈I.own,b<h₁.objs.size:=fun b hb=>by obtain⟨o,e⟩:=I.there _ _ hp b hb;exact et e
 have hXe:∀ b∈I.own,b∉envX (qz scope env (cellsFrom (H.objs.size+1) scope.names (kx env.cells scope.names [])) H.objs.size):=fun b hb hm=>by
  have hlt:=ownLt b hb
  rcases cf.mp hm with rfl | hm
  ·exact absurd hlt (qi.mpr (by show h₁.objs.size≤H.objs.size;(exact av .A .A (.e .B .M) hHs)))
  ·obtain⟨p,hp',rfl⟩:=ee.mp hm
   have hp2:p∈cellsFrom (H.objs.size+1) scope.names (kx env.cells scope.names []):=hp'
   rw [gk] at hp2
   rcases dz.mp hp2 with h1 | h1
   ·have:=(ok.empty p.1 p.2 h1).2
    exact gm _ (kz hlt (by(exact eh .A .s (.e .C .M) (.k .R .B) hHs this):h₁.objs.size≤p.2))
   ·obtain⟨hm1,hm2⟩:=nu _ _ p.1 p.2 h1
    obtain⟨c,hc⟩:=cc.mp (hsome _ hm1)
    rw [hc] at hm2
    simp only [Option.getD_some] at hm2
    obtain⟨o,ho⟩:=F.allc (p.1,c) (mem_of_lookup hc)
    have:=hnew p.2 hb
    rw [hm2] at this
    rw [show s.heap.get? c=some o from ho] at this
    cases this
 have hDe:h₁.objs.size∉envX (qz scope env (cellsFrom (H.objs.size+1) scope.names (kx env.cells scope.names [])) H.objs.size):=fun hm=>by
  rcases cf.mp hm with e | hm
  ·have:h₁.objs.size=H.objs.size:=e
   (exact dq .ff [[0,-1,-1]] .a9 .bD hHs this)
  ·obtain⟨p,hp',e⟩:=ee.mp hm
   have hp2:p∈cellsFrom (H.objs.size+1) scope.names (kx env.cells scope.names []):=hp'
   rw [gk] at hp2
   rcases dz.mp hp2 with h1 | h1
   ·have:=(ok.empty p.1 p.2 h1).2;(exact kc .ff [[0,-1,1,1]] .a9 (.e .C .B) (.k .M .C) hHs e this)
   ·obtain⟨hm1,hm2⟩:=nu _ _ p.1 p.2 h1
    obtain⟨c,hc⟩:=cc.mp (hsome _ hm1)
    rw [hc] at hm2
    obtain⟨o,ho⟩:=F.allc (p.1,c) (mem_of_lookup hc)
    have:=sNone c (by rw [← show p.2=c from hm2,e];exact ah _)
    rw [show s.heap.get? c=some o from ho] at this
    cases this
 have baseNone:∀ b,h₁.objs.size≤b→G.hb.get? b=none:=fun b hb=>by
  cases hq:G.hb.get? b with
  | none=>rfl
  | some o=>exact absurd (et (r.base b o hq)) (qi.mpr hb)
 have domNone:∀ b,h₁.objs.size≤b→¬ σ₁.dom b:=fun b hb dm=>by obtain⟨o,e⟩:=r.nt dm;exact absurd (et e) (qi.mpr hb)
 have acc₀:xj G (qz scope env (cellsFrom (H.objs.size+1) scope.names (kx env.cells scope.names [])) H.objs.size) h₁.objs.size σ₁ H3 [] :=
  ⟨⟨[],0,keep _ _ hD₂,.nil⟩,br _,domNone _ (ah _),hDe,baseNone _ (ah _)⟩
 have xo:XOk (qz scope env (cellsFrom (H.objs.size+1) scope.names (kx env.cells scope.names [])) H.objs.size) (H.objs.size::(cellsFrom (H.objs.size+1) scope.names []).map (·.2)) (⟨target,iter,ifs,0⟩::rest):=by
  refine⟨.head _,fun g hg y hy c hc=>?_,fun b hb=>?_⟩
  ·have hown:=jg.mp (jg.mp hgo g hg) y hy
   have hc':(cellsFrom (H.objs.size+1) scope.names (kx env.cells scope.names [])).lookup y=some c:=hc
   rw [gk] at hc'
   rcases dz.mp (mem_of_lookup hc') with h1 | h1
   ·exact .tail _ (ee.mpr ⟨_,h1,rfl⟩)
   ·obtain⟨hm1,_⟩:=nu _ _ y c h1
    obtain⟨i,e⟩:=List.getElem?_of_mem hm1
    have:=rh nd e
    unfold ownIn at hown
    rw [this] at hown
    cases hown
  ·rcases cf.mp hb with rfl | hb
   ·exact .head _
   ·obtain⟨p,hp',rfl⟩:=ee.mp hb
    refine .tail _ (ee.mpr ⟨p,?_,rfl⟩)
    show p∈cellsFrom (H.objs.size+1) scope.names (kx env.cells scope.names [])
    rw [gk];exact gz _ hp'
 have hg':∀ g',(⟨target,iter,ifs,0⟩::rest:List Comprehension)[0+1]?=some g'→g'.is_async=0:=fun g' e=>hasy g' (ew (by simpa using e))
 have loop:codeAny G.M A (.compLoop (.ListComp elt (⟨target,iter,ifs,0⟩::rest) scope pos) 0 (.ref I.it) (.ref h₁.objs.size) (qz scope env (cellsFrom (H.objs.size+1) scope.names (kx env.cells scope.names [])) H.objs.size)) (compPost G.M A E use P (.ref h₁.objs.size) H.objs.size) { s with heap:=H3,toks:=tk }:=by
  refine DR (s₀:=s) (σ₀:=σ) ht hcs haf rfl hg' I htup xo ao (by show relabel scope env=_;rw [xT,es]) eo₃ F₃ r₃ acc₀ I₃ (x₃.more fun _ h=>nomatch h) hnew hXe hnd (fun q=>absurd (ownLt _ q) (gm _)) (fun b hb=>?_) hf fun s' l=>?_
  ·cases hq:G.hb.get? b with
   | none=>rfl
   | some o=>have:=R.base b o hq;rw [hnew b hb] at this;cases this
  ·obtain⟨ρ',acc',σ',h',tk',ws,n,rfl,q,F',R',hl,hv,hz,hd,x',_⟩:=l
   have hb0:=baseNone h₁.objs.size (ah _)
   have hL:σ'.L h₁.objs.size=none:=by
    cases hq:σ'.L h₁.objs.size with
    | none=>rfl
    | some y=>exact absurd (.inl (by rw [hq];rfl)) hd
   have R'':=R'.G9 hd hb0 hl hv hz
   have hXnone:∀ z∈(h₁.objs.size::H.objs.size::(cellsFrom (H.objs.size+1) scope.names []).map (·.2)),s.heap.get? z=none:=fun z hz=>by
    rcases cf.mp hz with rfl | hz
    ·exact sNone _ (ah _)
    rcases cf.mp hz with rfl | hz
    ·exact sNone _ (by exact av .A .A (.e .B .M) hHs)
    ·obtain⟨p,hp',rfl⟩:=ee.mp hz
     have:=(ok.empty p.1 p.2 hp').2
     exact sNone _ (by exact eh .A .s (.e .C .M) (.k .R .B) hHs this)
   have x'':Evo [] σ s.heap (σ'.ct h₁.objs.size acc') h':=(x'.adopt acc' (sNone _ (ah _))).less fun z hz=>.inr (hXnone z hz)
   obtain⟨m,hm,_⟩:=F'.ns
   have hlocD:¬ (σ'.ct h₁.objs.size acc').dom H.objs.size:=fun dm=>by
    rcases vp dm with dm | e
    ·exact F'.loc dm
    ·have e':H.objs.size=h₁.objs.size:=e
     (exact dq .ff .z .a9 .C hHs e)
   exact hP (.lst h₁.objs.size) _ h' tk' _ H.objs.size (q _ hL) (.lst _) R'' x'' (sNone _ (by exact av .A .A (.e .B .M) hHs)) hlocD ⟨m,hm⟩
 exact eQ rfl loop (I.self _ _ _ _ _ I₃ loop)
theorem nL {fv:List (Nat × Nat)} {it:It} {t:Tg} {cs:Exs} {more:Gens} {elt target iter:Expr} {ifs:List Expr} {rest:List Comprehension} {scope:Scope} {pos:Pos} (hit:yn G C sc d (isTup target) it iter) (ht:ue G C (oj scope sc) d t target) (hcs:oq G C (oj scope sc) d cs ifs)
  (haf:qe G C (oj scope sc) d more elt (⟨target,iter,ifs,0⟩::rest) scope pos 0) (hs:∀ env v,foldedSetIterable iter env v=pure v) (hkind:scope.kind=.function) (nd:(scope.names.map (·.1)).Nodup) (hfv:lZ sc fv 0 scope.names=true) (hgo:lW scope (⟨target,iter,ifs,0⟩::rest)=true) (hasy:∀ g'∈rest,g'.is_async=0) :
  cz G C sc d (.comp fv it t cs more) (.ListComp elt (⟨target,iter,ifs,0⟩::rest) scope pos):=fun A E env ρ σ Q s ao es eo F R h=>by
 rw [eval_ListComp]
 refine oT (use:=none) hit ht hcs haf hs hkind nd hfv hgo hasy ao es eo F R h fun v σ' h' tk w L q vr R' x hL hd hm=>?_
 obtain⟨m,hm⟩:=hm
 refine⟨m,hm,fun h2 hs2=>?_⟩
 obtain⟨o,ees,ep,ho,hdt,_⟩:=id hm
 have hf:gp h' h2:=mv hs2 fun o' e=>by obtain rfl:=af (ho.symm.trans e);exact pj hdt
 have hb:G.hb.get? L=none:=by
  cases hq:G.hb.get? L with
  | none=>rfl
  | some o=>have:=R.base L o hq;rw [hL] at this;cases this
 exact⟨v,σ',h2,tk,rfl,q,vr.mono hf,R'.frame (o':=default) hs2 hd hb hf,x.but (own:=[L]) (fun b o hb e=>by rw [hs2.2 b (fun q=>hb (q▸.head _))];exact e) fun b hb=>by obtain rfl:=au.mp hb;exact hL⟩
theorem i6 {i:Nat} {fv:List (Nat × Nat)} {it:It} {t:Tg} {cs:Exs} {more:Gens} {elt target iter:Expr} {ifs:List Expr} {rest:List Comprehension} {scope:Scope} {x:Str} {kd:NameKind} {px pos spos:Pos} (hi:sc.names[i]?=some (x,kd)) (hk:uo kd=true) (hit:yn G C sc d (isTup target) it iter) (ht:ue G C (oj scope sc) d t target) (hcs:oq G C (oj scope sc) d cs ifs)
  (haf:qe G C (oj scope sc) d more elt (⟨target,iter,ifs,0⟩::rest) scope pos 0) (hs:∀ env v,foldedSetIterable iter env v=pure v) (hkind:scope.kind=.function) (nd:(scope.names.map (·.1)).Nodup) (hfv:lZ sc fv 0 scope.names=true) (hgo:lW scope (⟨target,iter,ifs,0⟩::rest)=true) (hasy:∀ g'∈rest,g'.is_async=0) :
  vg G C sc d (.assign [.var i] (.comp fv it t cs more)) (.Assign [.Name x px] (.ListComp elt (⟨target,iter,ifs,0⟩::rest) scope pos) spos):=fun A E env ρ σ K s ao es eo F R h=>by
 have plain:cz G C sc d (.comp fv it t cs more) (.ListComp elt (⟨target,iter,ifs,0⟩::rest) scope pos):=nL hit ht hcs haf hs hkind nd hfv hgo hasy
 by_cases hsw:(env.blockKind==.function&&env.kindOf x==some .local&&px.line==pos.line&&!(scope.names.any fun(n,k)=>n==x&&(k==.local||k==.cell)))=true
 ·have hsw':swapsWith (.ListComp elt (⟨target,iter,ifs,0⟩::rest) scope pos) (some (.Name x px)) spos.line env=pure true:=by
   show(pure _:Sem Bool)=_
   exact bx pure hsw
  rw [exec_Assign_Name_used _ _ _ _ hsw']
  refine ab (fg (ab ?_))
  show wpAny G.M A (comprehension _ scope env _ (newList []) false (eval iter env) (some (assign (.Name x px) env))>>=fun _=>pure ()) _ E s
  refine ab ?_
  refine oT (use:=some (assign (.Name x px) env)) (Q:=fun v σ=>fF C [.var i] v ρ σ fun ρ σ=>K .next ρ σ) hit ht hcs haf hs hkind nd hfv hgo hasy ao es eo F R h fun v σ' h' tk w L q vr R' x' hL hd hm=>?_
  obtain⟨m,hm⟩:=hm
  show wpAny G.M A (assign (.Name x px) env w) _ E _
  refine assign_Name (tf (s:={ s with heap:=h',toks:=tk }) eo (F.evo x') R' (by rw [es];exact hi) hk vr fun h2 tk2 F2 R2 x2=>?_)
  have hLX:L∉envX env:=lU (own:=[L]) F (fun b hb=>by obtain rfl:=au.mp hb;exact hL) L (.head _)
  obtain⟨o,ees,ep,ho,hdt,hrest⟩:=id hm
  have ho2:=x2.keep _ _ ho hd hLX
  refine⟨m,⟨o,ees,ep,ho2,hdt,hrest⟩,fun h3 hs3=>ae (ae ?_)⟩
  have hf:gp h2 h3:=mv hs3 fun o' e=>by obtain rfl:=af (ho2.symm.trans e);exact pj hdt
  have hb:G.hb.get? L=none:=by
   cases hq:G.hb.get? L with
   | none=>rfl
   | some o=>have:=R.base L o hq;rw [hL] at this;cases this
  have hk3:∀ b o,b∉[L]→h2.get? b=some o→h3.get? b=some o:=fun b o hb e=>by rw [hs3.2 b (fun q=>hb (q▸.head _))];exact e
  exact⟨.next,_,σ',h3,tk2,rfl,.next,q,F2.but hk3 hf (fun b hb=>by obtain rfl:=au.mp hb;exact hLX),R2.frame (o':=default) hs3 hd hb hf,((x'.wide env).trans x2).but (own:=[L]) hk3 fun b hb=>by obtain rfl:=au.mp hb;exact hL⟩
 ·have hsw':swapsWith (.ListComp elt (⟨target,iter,ifs,0⟩::rest) scope pos) (some (.Name x px)) spos.line env=pure false:=by
   show(pure _:Sem Bool)=_
   exact bx pure (Bool.eq_false_iff.mpr hsw)
  rw [exec_Assign]
  refine ab (fg ?_)
  have e1:swapsWithSole [.Name x px] (.ListComp elt (⟨target,iter,ifs,0⟩::rest) scope pos) spos.line env=pure false:=hsw'
  rw [e1]
  refine ab (ae ?_)
  rw [aw (by decide)]
  refine ab (mr (plain A E env ρ σ (fun v σ=>fF C [.var i] v ρ σ fun ρ σ=>K .next ρ σ) s ao es eo F R h) fun v σ₁ h₁ tk w q vr r x=>?_)
  rw [lL (sc:=sc) (r:=none) rfl es (by unfold Env.blockKind;rw [eo.kind];rfl)]
  refine ab (ae ?_)
  show wpAny G.M A (do assignAll w _;pure Flow.next) _ _ _
  refine ab (ba (sR (s:={ s with heap:=h₁,toks:=tk }) ao es eo (.cons (sJ hi hk) (fun _=>rfl) .nil) (F.evo x) r vr q) (fun _ s' l=>ae ?_) fun _ _ x=>x)
  obtain⟨ρ',σ',h',tk',rfl,q',F',R',x'⟩:=l
  exact⟨.next,ρ',σ',h',tk',rfl,.next,q',F',R',(x.wide env).trans x'⟩
end
end MP
end
section
namespace MP
open PySem PyProof.Rows PySem.W
noncomputable def ends {α:Type} (n:Nat) (lt:Nat→Nat→Bool):KasT α→(α→Prop)→Prop
 | .ret a,Q=>Q a
 | .ask i j k,Q=>i<n∧j<n∧ends n lt (k (lt i j)) Q
theorem ja {α:Type} {n:Nat} {lt:Nat→Nat→Bool} {Q Q':α→Prop} (hq:∀ a,Q a→Q' a):∀ {t:KasT α},ends n lt t Q→ends n lt t Q'
 | .ret a,h=>hq a h
 | .ask i j k,h=>⟨h.1,h.2.1,ja hq (t:=k (lt i j)) h.2.2⟩
theorem tj {α β:Type} {n:Nat} {lt:Nat→Nat→Bool} {f:α→KasT β} {Q:β→Prop}:∀ {t:KasT α},ends n lt t (fun a=>ends n lt (f a) Q)→ends n lt (t.bind f) Q
 | .ret a,h=>h
 | .ask i j k,h=>⟨h.1,h.2.1,tj (t:=k (lt i j)) h.2.2⟩
theorem tO {α:Type} {n:Nat} {lt:Nat→Nat→Bool} {cmp:Nat→Nat→(Bool→Shared→Prop)→Shared→Prop} {s:Shared} (hc:∀ i j (C:Bool→Shared→Prop),i<n→j<n→C (lt i j) s→cmp i j C s) {Q:α→Shared→Prop}:∀ {t:KasT α},ends n lt t (fun a=>Q a s)→t.kasWp cmp Q s
 | .ret a,h=>h
 | .ask i j k,h=>hc i j _ h.1 h.2.1 (tO hc (t:=k (lt i j)) h.2.2)
structure eU (lt:Nat→Nat→Bool):Prop where
 asym:∀ a b,lt a b=true→lt b a=false
 tr:∀ a b c,lt b a=false→lt c b=false→lt c a=false
section
variable {n:Nat} {lt:Nat→Nat→Bool}
noncomputable abbrev at0 (p:Array Nat) (i:Nat):Nat:=p.getD i 0
noncomputable def dN (lt:Nat→Nat→Bool) (p:Array Nat) (k:Nat):Prop:=∀ i j,i<j→j<k→lt (at0 p j) (at0 p i)=false
noncomputable def jV (lt:Nat→Nat→Bool) (p:Array Nat) (k:Nat):Prop:=∀ i j,i<j→j<k→lt (at0 p i) (at0 p j)=false
structure rt (n:Nat) (p:Array Nat):Prop where
 perm:p.Perm (List.toArray (List.range n))
theorem rt.size {p:Array Nat} (h:rt n p):p.size=n:=by have:=h.perm.size_eq;simpa using this
theorem rt.low {p:Array Nat} (h:rt n p) (hn:0<n) (i:Nat):at0 p i<n:=by
 unfold at0
 by_cases hi:i<p.size
 ·have e:p.getD i 0=p[i]:=by simp [Array.getD,hi]
  rw [e]
  have hm:p[i]∈p.toList:=by simp
  have:=(yw.mp h.perm).mem_iff.mp hm
  simpa using this
 ·have e:p.getD i 0=0:=by simp [Array.getD,hi]
  rw [e];exact hn
theorem rt.step {p q:Array Nat} (h:rt n p) (hq:q.Perm p):rt n q:=⟨hq.trans h.perm⟩
theorem eS {p:Array Nat} (i:Nat):at0 p i=(p[i]?).getD 0:=by
 unfold at0
 by_cases hi:i<p.size<;>simp [Array.getD,hi]
theorem dN.le (L:eU lt) {p:Array Nat} {k:Nat} (h:dN lt p k) {i j:Nat} (hij:i≤j) (hj:j<k):lt (at0 p j) (at0 p i)=false:=by
 rcases oa hij with h1 | rfl
 ·exact h i j h1 hj
 ·cases hq:lt (at0 p i) (at0 p i) with
  | false=>rfl
  | true=>have:=L.asym _ _ hq;rw [hq] at this;cases this
theorem eU.irr (L:eU lt) (a:Nat):lt a a=false:=by
 cases hq:lt a a with
 | false=>rfl
 | true=>have:=L.asym _ _ hq;rw [hq] at this;cases this
theorem j8 (L:eU lt) (hn:0<n) {p:Array Nat} (hp:rt n p):∀ (f m:Nat),1≤m→ends n lt (kas_asc p f m) fun r=>m≤r∧r≤m+f∧(dN lt p m→dN lt p r)
 | 0,m,h1=>⟨ah _,by exact fo (.k .A .aQ) .j,fun h=>h⟩
 | f+1,m,h1=>by
  refine⟨hp.low hn _,hp.low hn _,?_⟩
  cases hc:lt (at0 p m) (at0 p (m-1)) with
  | true=>exact⟨ah _,by exact vv (.k .A .a2) .j,fun h=>h⟩
  | false =>
   show ends n lt (kas_asc p f (m+1)) _
   refine ja (fun r hr=>⟨by exact av .A .a .F hr.1,by exact cv (.k .A .aC) .a .cP hr.2.1,fun hu=>hr.2.2 fun i j hij hj=>?_⟩) (j8 L hn hp f (m+1) (by exact fo (.k .U .M) .j))
   rcases oa (Nat.le_of_lt_succ hj) with h | rfl
   ·exact hu i j hij h
   ·exact L.tr _ (at0 p (j-1)) _ (hu.le L (by exact eh .A .e .S (.e .L .C) hij (aa (dh .D .a .D h1))) (by exact av .B .a .aT (aa (dh .D .a .D h1)))) hc
theorem ye {p:Array Nat} {i j:Nat} (hj:j≤p.size) (k:Nat):at0 (kas_rev p i j) k=if i≤k∧k<j then at0 p (i+j-1-k) else at0 p k:=by
 unfold kas_rev
 rw [eS,getElem?_mirror_all hj]
 split<;>rw [eS]
theorem jV.le (L:eU lt) {p:Array Nat} {k:Nat} (h:jV lt p k) {i j:Nat} (hij:i≤j) (hj:j<k):lt (at0 p i) (at0 p j)=false:=by
 rcases oa hij with h1 | rfl
 ·exact h i j h1 hj
 ·exact L.irr _
noncomputable def Flat (lt:Nat→Nat→Bool) (p:Array Nat) (m q:Nat):Prop:=q+1≤m∧∀ i j,m-(q+1)≤i→i<m→m-(q+1)≤j→j<m→lt (at0 p i) (at0 p j)=false
theorem zE (L:eU lt) {p:Array Nat} {m q:Nat} (hm:m≤p.size) (h:jV lt p m) (hq:Flat lt p m q):jV lt (kas_rev p (m-(q+1)) m) m:=fun i j hij hj=>by
 rw [ye hm,ye hm]
 obtain⟨h1,h2⟩:=hq
 split<;>split
 ·exact h2 _ _ (by exact Ar.sub _ _ (fun q1 p1=>(Ar.sub _ _ (fun q2 p2=>(yk .A [[1,1,1,-1,-1]] .L (.l .D .F) (.e .aG .aJ) (.e .Q .G) hij hj p1 p2)) fun q2 p2=>(yk .A [[1,1,1,-1,1]] .L (.l .D .F) (.e .aG .aJ) (.k .G .C) hij hj p1 q2))) fun q1 p1=>(dn .A .b .L (.k .T .U) hj q1)) (by(rename_i z2 z1;exact Ar.sub _ _ (fun q1 p1=>(Ar.sub _ _ (fun q2 p2=>(jt .B .d .a7 .c0 (.e .X .a0) z2.1 p1 p2)) fun q2 p2=>(jt .B .d .U .c0 .b7 hj p1 p2))) fun q1 p1=>(eh .B .b .U .M hj p1))) (by exact Ar.sub _ _ (fun q1 p1=>(Ar.sub _ _ (fun q2 p2=>(jt .A [[1,1,-1,-1]] .L (.e .X .T) (.e .Q .F) hj p1 p2)) fun q2 p2=>(jt .A .r .L (.e .X .T) (.k .F .C) hj p1 q2))) fun q1 p1=>(dn .A .b .L (.k .T .U) hj q1)) (by(rename_i z2 z1;exact Ar.sub _ _ (fun q1 p1=>(Ar.sub _ _ (fun q2 p2=>(yk .B .u .L (.k .F .C) (.e .T .G) (.e .aG (.a .F .B)) hij z2.1 p1 p2)) fun q2 p2=>(jt .B .d .U .c0 .b7 z2.2 p1 p2))) fun q1 p1=>(eh .B .b .U .M hj p1)))
 ·(rename_i z2 z1;exact False.elim ((ak.mp z1).elim (fun q1=>(kc .ff .k .B .aR (.j .C .B) hij z2.1 q1)) fun q1=>(dq .ff .c .B .aM hj q1)))
 ·exact h _ _ (by(rename_i z2 z1;exact Ar.sub _ _ (fun q1 p1=>((ak.mp z2).elim (fun q2=>(Ar.sub _ _ (fun q3 p3=>(yk .B [[1,1,-1,1,-1]] .L (.e .X (.a .G .D)) (.j .G .A) (.e .Q .F) hj p1 q2 p3)) fun q3 p3=>(yk .B [[0,1,-1,1,1]] .L (.e .X (.a .G .D)) (.j .G .A) (.k .F .C) hj p1 q2 q3))) fun q2=>(jj .B .k .S .L (.g .A .D) hij hj q2))) fun q1 p1=>(jt .B .k .S .L (.k .aK .U) hij hj q1))) (by(rename_i z1;exact Ar.sub _ _ (fun q1 p1=>(Ar.sub _ _ (fun q2 p2=>(jt .B .d .a7 .c0 (.e .X .a0) z1.1 p1 p2)) fun q2 p2=>(jt .B .d (.k .R .B) .c0 .b7 h1 p1 p2))) fun q1 p1=>(eh .B .b .U .M hj p1)))
 ·exact h _ _ hij hj
theorem zl (L:eU lt) (hn:0<n):∀ (f:Nat) (p:Array Nat) (m q:Nat),rt n p→1≤m→m+f≤n→jV lt p m→Flat lt p m q →
  ends n lt (kas_desc f p m q) fun r=>rt n r.1∧m≤r.2.1∧r.2.1≤m+f∧jV lt r.1 r.2.1∧Flat lt r.1 r.2.1 r.2.2
 | 0,p,m,q,hp,h1,hf,hd,hq=>⟨hp,ah _,by simp,hd,hq⟩
 | f+1,p,m,q,hp,h1,hf,hd,hq=>by
  refine⟨hp.low hn _,hp.low hn _,?_⟩
  have hsz:=hp.size
  have grow:∀ {p:Array Nat},jV lt p m→lt (at0 p (m-1)) (at0 p m)=false→jV lt p (m+1):=fun {p} hd hc i j hij hj=>by
   rcases oa (Nat.le_of_lt_succ hj) with h | rfl
   ·exact hd i j hij h
   ·have:=hd.le L (i:=i) (j:=j-1) (by exact eh .A .e .S (.e .L .C) hij (aa (dh .D .a .D h1))) (by exact av .B .a .aT (aa (dh .D .a .D h1)))
    exact L.tr _ (at0 p (j-1)) _ hc this
  cases hc:lt (at0 p m) (at0 p (m-1)) with
  | true =>
   have ha:=L.asym _ _ hc
   show ends n lt (if q>0 then kas_desc f (kas_rev p (m-(q+1)) m) (m+1) 0 else kas_desc f p (m+1) 0) _
   split
   ·have hp':rt n (kas_rev p (m-(q+1)) m):=hp.step (mirror_perm _ _ _ _)
    have hd':=zE L (by exact dn .A .e (.k .a4 .D) .c1 hf hsz) hd hq
    have e1:at0 (kas_rev p (m-(q+1)) m) m=at0 p m:=by rw [ye (by exact dn .A .e (.k .a4 .D) .c1 hf hsz),aw (by exact fun q1=>(dh .ff .o (.l .A .A) q1.2))]
    have e2:lt (at0 (kas_rev p (m-(q+1)) m) (m-1)) (at0 p m)=false:=by
     obtain⟨g1,g2⟩:=hq
     rw [ye (by exact dn .A .e (.k .a4 .D) .c1 hf hsz),bp (by exact⟨(dn .A .e .c9 .cJ (aa (av .F .a .F g1)) (aa (dh .D .a .D h1))),(av .B .a .aT (aa (dh .D .a .D h1)))⟩)]
     exact L.tr _ (at0 p (m-1)) _ ha (g2 _ _ (by exact Ar.sub _ _ (fun q1 p1=>(Ar.sub _ _ (fun q2 p2=>(Ar.sub _ _ (fun q3 p3=>(jt .A [[1,-1,1,-1]] (.e .R .T) (.e .X .D) (.e .a6 .C) p1 p2 p3)) fun q3 p3=>(jt .A [[1,-1,1,1]] (.e .R .T) (.e .X .D) (.k .C .F) p1 p2 q3))) fun q2 p2=>(dn .A .b .c9 (.k .D .U) (aa (av .F .a .F g1)) q2))) fun q1 p1=>(eh .A .b (.k .U .C) (.k .Z .U) h1 q1)) (by(rename_i z1;exact Ar.sub _ _ (fun q1 p1=>(Ar.sub _ _ (fun q2 p2=>(Ar.sub _ _ (fun q3 p3=>(Ar.sub _ _ (fun q4 p4=>(yk .B [[1,1,1,-1,1]] .bM (.e .V (.a .F .B)) (.e .R .B) (.e (.a .F .aG) .B) p1 p2 p3 p4)) fun q4 p4=>(jt .B .d .bM (.e .V (.a .F .B)) .b7 p1 p2 p4))) fun q3 p3=>(kc .B .k .a5 (.k .R .B) (.k .B .U) z1 g1 q3))) fun q2 p2=>(jt .B .d (.k .R .B) .c0 .b7 g1 p1 p2))) fun q1 p1=>(eh .B .b (.k .R .B) .M g1 p1))) (by exact dn .A .e .c9 .cJ (aa (av .F .a .F g1)) (aa (dh .D .a .D h1))) (by exact av .B .a .aT (aa (av .D .a (.k .L .A) g1))))
    refine ja (fun r hr=>⟨hr.1,by exact av .A .a .F hr.2.1,by exact cv (.k .A .aC) .a .cP hr.2.2.1,hr.2.2.2⟩) (zl L hn f _ (m+1) 0 hp' (by exact fo (.k .U .M) .j) (by exact cv .a2 .a .H hf) (grow hd' (by rw [e1];exact e2)) ⟨by exact fo .Z .j,fun i j a b c d=>?_⟩)
    have:i=m:=by(exact kc .C .t .aR .Q .aL a b (aa (fo .Z .j)))
    have:j=m:=by(exact kc .C .t .aR .Q .aL c d (aa (fo .Z .j)))
    subst_vars
    exact L.irr _
   ·refine ja (fun r hr=>⟨hr.1,by exact av .A .a .F hr.2.1,by exact cv (.k .A .aC) .a .cP hr.2.2.1,hr.2.2.2⟩) (zl L hn f _ (m+1) 0 hp (by exact fo (.k .U .M) .j) (by exact cv .a2 .a .H hf) (grow hd ha) ⟨by exact fo .Z .j,fun i j a b c d=>?_⟩)
    have:i=m:=by(exact kc .C .t .aR .Q .aL a b (aa (fo .Z .j)))
    have:j=m:=by(exact kc .C .t .aR .Q .aL c d (aa (fo .Z .j)))
    subst_vars
    exact L.irr _
  | false =>
   refine⟨hp.low hn _,hp.low hn _,?_⟩
   cases hd2:lt (at0 p (m-1)) (at0 p m) with
   | true=>exact⟨hp,ah _,by simp,hd,hq⟩
   | false =>
    show ends n lt (kas_desc f p (m+1) (q+1)) _
    refine ja (fun r hr=>⟨hr.1,by exact av .A .a .F hr.2.1,by exact cv (.k .A .aC) .a .cP hr.2.2.1,hr.2.2.2⟩) (zl L hn f p (m+1) (q+1) hp (by exact fo (.k .U .M) .j) (by exact cv .a2 .a .H hf) (grow hd hd2) ?_)
    obtain⟨g1,g2⟩:=hq
    refine⟨by exact av (.k .aF .L) .a .F g1,fun i j a b c d=>?_⟩
    by_cases hi:i=m
    ·by_cases hj:j=m
     ·subst hi;subst hj;exact L.irr _
     ·subst hi
      exact L.tr _ (at0 p (i-1)) _ (g2 _ _ (by exact dn .A .e .c9 .cJ (aa (av .F .a .F g1)) (aa (dh .D .a .D h1))) (by exact av .B .a .aT (aa (dh .D .a .D h1))) (by exact jt .A .r .N .bR .c3 c (aa (av (.k .aF .L) .a .F g1)) (aa (av .F .a .F g1))) (by exact(aq hj).elim (fun q1=>(av .B .a .B q1)) fun q1=>(dq .B .c .Q .J d q1))) hc
    ·by_cases hj:j=m
     ·subst hj
      exact L.tr _ (at0 p (j-1)) _ hd2 (g2 _ _ (by exact jt .A .r .N .bR .c3 a (aa (av (.k .aF .L) .a .F g1)) (aa (av .F .a .F g1))) (by exact(aq hi).elim (fun q1=>(av .B .a .B q1)) fun q1=>(dq .B .c .Q .J b q1)) (by exact dn .A .e .c9 .cJ (aa (av .F .a .F g1)) (aa (dh .D .a .D h1))) (by exact av .B .a .aT (aa (dh .D .a .D h1))))
     ·exact g2 _ _ (by exact jt .A .r .N .bR .c3 a (aa (av (.k .aF .L) .a .F g1)) (aa (av .F .a .F g1))) (by exact(aq hi).elim (fun q1=>(av .B .a .B q1)) fun q1=>(dq .B .c .Q .J b q1)) (by exact jt .A .r .N .bR .c3 c (aa (av (.k .aF .L) .a .F g1)) (aa (av .F .a .F g1))) (by exact(aq hi).elim (fun q1=>((aq hj).elim (fun q2=>(av .B .a .B q2)) fun q2=>(dq .B .c .Q .J d q2))) fun q1=>(eh .B .c .bL .cI b q1))
theorem i1 (L:eU lt) (hn:0<n) {p:Array Nat} {m nrem:Nat} (hp:rt n p) (h1:1≤m) (hm:m≤nrem) (hr:nrem≤n) (hd:jV lt p m) :
  ends n lt (kas_tail3 m nrem p) fun r=>rt n r.2∧m≤r.1∧r.1≤nrem∧dN lt r.2 r.1:=by
 unfold kas_tail3
 have hsz:=hp.size
 have hp':rt n (kas_rev p 0 m):=hp.step (mirror_perm _ _ _ _)
 refine tj (ja (fun r hr=>⟨hp',hr.1,by exact dn .A .b (.k .A .Y) (.e .aA .B) hr.2.1 (aa (av .A .a .A hm)),hr.2.2 fun i j hij hj=>?_⟩) (j8 L hn hp' (nrem-m) m h1))
 rw [ye (by(rename_i z1;exact jj .A .q .I .a7 .c1 hm z1 hsz)),ye (by(rename_i z1;exact jj .A .q .I .a7 .c1 hm z1 hsz)),bp (by exact⟨(fo (.k .O .A) .j),(av .B .a .B hj)⟩),bp (by exact⟨(fo (.k .O .A) .j),(eh .B .b .S .U hij hj)⟩)]
 exact hd _ _ (by exact Ar.sub _ _ (fun q1 p1=>(Ar.sub _ _ (fun q2 p2=>(Ar.sub _ _ (fun q3 p3=>(jt .B .r .L (.e .Q .F) .c0 hij p2 p3)) fun q3 p3=>(n3 .B [[1,1,1,-1,-1,1]] .L (.l .D .F) (.e .aG (.a .O .F)) (.e .Q .G) .M hij hj p1 p2 p3))) fun q2 p2=>(yk .B [[0,1,1,-1,1]] .L (.l .D .F) (.e .aG (.a .O .F)) (.k .G .C) hij hj p1 q2))) fun q1 p1=>(jt .B .k .L (.l .D .F) (.k (.a .O .F) .U) hij hj q1)) (by exact Ar.sub _ _ (fun q1 p1=>(Ar.sub _ _ (fun q2 p2=>(dn .B .b .bM .cQ p1 p2)) fun q2 p2=>(jt .B .d .U .c0 .b7 hj p1 p2))) fun q1 p1=>(eh .B .b .U .M hj p1))
theorem cY (L:eU lt) (hn:0<n) {p:Array Nat} {m nrem:Nat} (hp:rt n p) (hm:m+1≤nrem) (hr:nrem≤n) (hd:jV lt p (m+1)) (h1:1≤m) :
  ends n lt (kas_descPart m nrem p) fun r=>rt n r.2∧1≤r.1∧r.1≤nrem∧dN lt r.2 r.1:=by
 unfold kas_descPart
 refine tj (ja (fun r hr=>?_) (zl L hn (nrem-(m+1)) p (m+1) 0 hp (by exact fo (.k .U .M) .j) (by exact dn .a2 .b .b8 (.e (.a .B .M) .D) hr (aa (av .F .a .F hm))) hd ⟨by exact fo .Z .j,fun i j a b c d=>?_⟩))
 ·obtain⟨g1,g2,g3,g4,g5⟩:=hr
  have hsz:=g1.size
  split
  ·exact ja (fun r hr=>⟨hr.1,by exact eh .D .b (.k .L .C) .aR g2 hr.2.1,hr.2.2⟩) (i1 L hn (g1.step (mirror_perm _ _ _ _)) (by exact av .D .a (.k .L .A) g2) (by exact dn .A .b (.k .A (.a .R .D)) (.e (.a .D .R) .B) g3 (aa (av .F .a .F hm))) (by exact av .A .a .A hr) (zE L (by exact yk .A [[1,1,1,-1,1]] .a7 (.k .A (.a .X .G)) .c1 (.e (.a .G .X) .C) hr g3 hsz (aa (av .F .a .F hm))) g4 g5))
  ·exact ja (fun r hr=>⟨hr.1,by exact eh .D .b (.k .L .C) .aR g2 hr.2.1,hr.2.2⟩) (i1 L hn g1 (by exact av .D .a (.k .L .A) g2) (by exact dn .A .b (.k .A (.a .R .D)) (.e (.a .D .R) .B) g3 (aa (av .F .a .F hm))) (by exact av .A .a .A hr) g4)
 ·have:i=m:=by(exact kc .C .t .aR .Q .aL a b (aa (fo .Z .j)))
  have:j=m:=by(exact kc .C .t .aR .Q .aL c d (aa (fo .Z .j)))
  subst_vars
  exact L.irr _
theorem pD (hn:0<n) {p:Array Nat} (hp:rt n p) {Q:Nat→Prop}:∀ (f m:Nat),ends n lt (kas_asc p f m) Q→ends n lt (kas_asc p f m) fun r=>Q r∧(r<m+f→lt (at0 p r) (at0 p (r-1))=true)
 | 0,m,h=>⟨h,fun q=>absurd q (by exact fo (.g .A .aQ) .j)⟩
 | f+1,m,h=>by
  obtain⟨h1,h2,h⟩:=h
  refine⟨h1,h2,?_⟩
  cases hc:lt (at0 p m) (at0 p (m-1)) with
  | true =>
   have e:lt (p.getD m 0) (p.getD (m-1) 0)=true:=hc
   rw [e] at h
   exact⟨h,fun _=>hc⟩
  | false =>
   have e:lt (p.getD m 0) (p.getD (m-1) 0)=false:=hc
   rw [e] at h
   show ends n lt (kas_asc p f (m+1)) _
   exact ja (fun r hr=>⟨hr.1,fun q=>hr.2 (by exact cv (.l .A (.a .L .C)) .a (.l .A .aC) q)⟩) (pD hn hp f (m+1) h)
theorem rL (L:eU lt) (hn:0<n) {p:Array Nat} (hp:rt n p) {nrem:Nat} (h1:1≤nrem) (hr:nrem≤n):ends n lt (kas_count nrem p) fun r=>rt n r.2∧1≤r.1∧r.1≤nrem∧dN lt r.2 r.1:=by
 unfold kas_count
 have hsz:=hp.size
 refine tj (ja (fun m hm=>?_) (pD hn hp _ _ (j8 L hn hp (nrem-1) 1 (ah _))))
 obtain⟨⟨g1,g2,g3⟩,g4⟩:=hm
 have hu:dN lt p m:=g3 fun i j hij hj=>absurd hj (by exact av (.g .A .U) .a .J hij)
 by_cases he:m=nrem
 ·rw [bp (by simp [he])]
  exact⟨hp,g1,by exact av .A .a .C he,hu⟩
 ·rw [aw (by simp [he])]
  have hstep:=g4 (by exact(aq he).elim (fun q1=>(eh (.l .A (.a .U .B)) .s (.e .L .C) .S (aa (dh .D .a .D h1)) q1)) fun q1=>(kc (.l .A (.a .U .B)) .k (.k .A (.a .U .B)) (.e .L .C) .c8 g2 (aa (dh .D .a .D h1)) q1))
  split
  ·refine⟨hp.low hn _,hp.low hn _,?_⟩
   cases hc:lt (at0 p 0) (at0 p (m-1)) with
   | true=>exact⟨hp,g1,by exact eh .A .b (.k .A (.a .U .C)) (.e .R .B) g2 (aa (dh .D .a .D h1)),hu⟩
   | false =>
    show ends n lt (kas_descPart m nrem (kas_rev p 0 m)) _
    have alike:∀ a b,a<m→b<m→lt (at0 p a) (at0 p b)=false:=fun a b ha hb=>by
     have e1:=hu.le L (i:=b) (j:=m-1) (by exact eh .A .e .S (.e .L .C) hb (aa (dh .D .a .D g1))) (by exact av .B .a .aT (aa (dh .D .a .D g1)))
     have e2:=hu.le L (i:=0) (j:=a) (by exact fo (.k .O .A) .j) (by exact av .B .a .B ha)
     exact L.tr _ _ _ (L.tr _ _ _ e1 hc) e2
    refine cY L hn (hp.step (mirror_perm _ _ _ _)) (by exact(aq he).elim (fun q1=>(av .F .a .B q1)) fun q1=>(kc .F .k (.k .A (.a .U .C)) (.e .R .B) .J g2 (aa (dh .D .a .D h1)) q1)) hr (fun i j hij hj=>?_) (by exact dh .D .a .D g1)
    rw [ye (by exact jU .A [[1,1,-1,1,1]] .a7 .c1 (.k .A (.a .U .F)) (.e .X .C) hr hsz g2 (aa (dh .D .a .D h1))),ye (by exact jU .A [[1,1,-1,1,1]] .a7 .c1 (.k .A (.a .U .F)) (.e .X .C) hr hsz g2 (aa (dh .D .a .D h1))),bp (by exact⟨(fo (.k .O .A) .j),(eh .B .b .S .bL hij hj)⟩)]
    split
    ·exact alike _ _ (by(rename_i z1;exact Ar.sub _ _ (fun q1 p1=>(Ar.sub _ _ (fun q2 p2=>(dn .B .b .bM .cQ p1 p2)) fun q2 p2=>(jt .B .d .U .c0 .b7 z1.2 p1 p2))) fun q1 p1=>(eh .B .b .U .M z1.2 p1))) (by(rename_i z2 z1;exact Ar.sub _ _ (fun q1 p1=>(Ar.sub _ _ (fun q2 p2=>(dn .B .b .bM .cQ p1 p2)) fun q2 p2=>(dq .B .c (.l .U .B) (.k (.a .O .B) .U) z2 q2))) fun q1 p1=>(eh .B .b .U .M z1.2 p1)))
    ·have:j=m:=by(rename_i z1;exact(aq he).elim (fun q1=>((Ar.imp g4).elim (fun q2=>(eT .C [[0,0,-1,1,1],[1,1,0,0,0]] .Q (.e .R .D) .cA (.g .B (.a .U .C)) hj (aa (dh .D .a .D h1)) q1 q2)) fun q2=>((ak.mp z1).elim (fun q3=>(dq .C [[0,0,1],[1,1,0]] .Q (.j .O .A) hj q3)) fun q3=>(dq .C .i .Q .aM hj q3)))) fun q1=>(eT .C [[0,1,0,1,1],[1,0,1,0,0]] (.k .B (.a .U .C)) .Q (.e .R .D) .cB g2 hj (aa (dh .D .a .D h1)) q1))
     subst this
     exact L.tr _ _ _ (L.asym _ _ hstep) (alike _ _ (by exact Ar.sub _ _ (fun q1 p1=>(Ar.sub _ _ (fun q2 p2=>(dn .B .b .bM .cQ p1 p2)) fun q2 p2=>(jj .B .d (.k .U .B) .bM .bN g1 p1 p2))) fun q1 p1=>(dq .B .b (.k .U .B) .M g1 p1)) (by exact av .B .a .aT (aa (dh .D .a .D g1))))
  ·have hm1:m=1:=by(rename_i z1;exact G6 (.e .A .U) .v .D (.g .U .A) g1 z1)
   subst hm1
   refine cY L hn hp (by exact(aq he).elim (fun q1=>(dh (.k (.a .U .U) .A) .a (.l .U .A) q1)) fun q1=>(G6 (.k (.a .U .U) .A) .c .D (.l .A .U) h1 q1)) hr (fun i j hij hj=>?_) (by exact zv (.k .U .U) .j)
   have hi:i=0:=by(exact dq .M [[1,0,0],[1,1,1]] .B (.l .B (.a .U .U)) hij hj)
   have hj:j=1:=by(exact dq (.e .A .U) .v .J (.l .A (.a .U .U)) hij hj)
   subst hi;subst hj
   exact L.asym _ _ hstep
theorem dF (L:eU lt) (hn:0<n) {p:Array Nat} (hp:rt n p) {k:Nat} (hu:dN lt p k):∀ (f l r:Nat),l≤r→r≤k→r-l≤f→(∀ i,i<l→lt (at0 p k) (at0 p i)=false)→(∀ i,r≤i→i<k→lt (at0 p i) (at0 p k)=false) →
  ends n lt (kas_place p k f l r) fun m=>m≤k∧(∀ i,i<m→lt (at0 p k) (at0 p i)=false)∧∀ i,m≤i→i<k→lt (at0 p i) (at0 p k)=false
 | 0,l,r,h1,h2,h3,ha,hb=>⟨by exact eh .A .b .I .N h1 h2,ha,fun i hi=>hb i (by exact jj .A .q (.k .C .O) .bB (.e .Y .A) h3 hi (aa (av .A .a .A h1)))⟩
 | f+1,l,r,h1,h2,h3,ha,hb=>by
  unfold kas_place
  split
  ·exact⟨by exact eh .A .b .I .N h1 h2,ha,fun i hi=>hb i (by(rename_i z1;exact eh .A .b .I .N z1 hi))⟩
  ·refine⟨hp.low hn _,hp.low hn _,?_⟩
   cases hc:lt (at0 p k) (at0 p ((l+r)/2)) with
   | true =>
    show ends n lt (kas_place p k f l ((l+r)/2)) _
    refine dF L hn hp hu f l _ (by(rename_i z1;exact jj .A [[2,1,1,-1]] (.j .C .A) (.l .D .W) (.e (.a .a7 .D) .Z) z1 (Ar.fL _ 2 (by decide)).1 (Ar.fL _ 2 (by decide)).2)) (by(rename_i z1;exact jt .A [[2,2,1,1]] .N (.j .C .D) (.e (.a (.m 2 .A) .F) .aA) h2 z1 (Ar.fL _ 2 (by decide)).2)) (by(rename_i z1;exact JA .A [[2,1,1,-1,2]] .bV (.e (.a .aM .F) (.a .G .H)) (.e (.a .C .G) .H) (.e (.a .A .G) .D) h3 (Ar.fL _ 2 (by decide)).2 (aa (av .A .a .A h1)) (aa (jj .A [[2,1,1,-1]] (.j .C .A) (.l .D .W) (.e (.a .a7 .D) .Z) z1 (Ar.fL _ 2 (by decide)).1 (Ar.fL _ 2 (by decide)).2)))) ha fun i hi hk=>?_
    exact L.tr _ _ _ (L.asym _ _ hc) (hu.le L hi hk)
   | false =>
    show ends n lt (kas_place p k f ((l+r)/2+1) r) _
    refine dF L hn hp hu f _ r (by(rename_i z1;exact dn .F [[2,1,1]] (.j .B .C) (.e (.a (.m 2 .A) .D) .a0) z1 (Ar.fL _ 2 (by decide)).2)) h2 (by(rename_i z1;exact vQ .A [[2,1,1,-1,-1,2]] .bV (.l .D .W) (.e (.a (.m 2 .F) .D) (.a .G .H)) (.e (.a .C .G) .H) (.e (.a .A .X) .H) h3 (Ar.fL _ 2 (by decide)).1 (Ar.fL _ 2 (by decide)).2 (aa (av .A .a .A h1)) (aa (dn .F [[2,1,1]] (.j .B .C) (.e (.a (.m 2 .A) .D) .a0) z1 (Ar.fL _ 2 (by decide)).2)))) (fun i hi=>?_) hb
    exact L.tr _ _ _ (hu.le L (i:=i) (j:=(l+r)/2) (by exact av .A .a .Q hi) (by(rename_i z1;exact jt .B [[2,2,1,1]] .N (.j .C .D) (.e (.a (.m 2 .A) .F) .aA) h2 z1 (Ar.fL _ 2 (by decide)).2))) hc
theorem zM {p:Array Nat} {src d:Nat} (hs:src<p.size) (hd:d≤src) (k:Nat):at0 (bubble p src d) k=if k=src-d then at0 p src else if src-d<k∧k≤src then at0 p (k-1) else at0 p k:=by
 have e:=fun i=>eS (p:=p) i
 rw [eS,getElem?_bubble hs d hd,e src,e (k-1),e k]
 split
 ·rfl
 ·split<;>rfl
theorem pB (L:eU lt) (hn:0<n):∀ (f:Nat) (p:Array Nat) (k:Nat),rt n p→k+f≤n→dN lt p k→ends n lt (kas_bin f p k) fun q=>rt n q∧dN lt q (k+f)
 | 0,p,k,hp,hk,hu=>⟨hp,hu⟩
 | f+1,p,k,hp,hk,hu=>by
  unfold kas_bin
  have hsz:=hp.size
  refine tj (ja (fun l hl=>?_) (dF L hn hp hu k 0 k (br _) (ah _) (by exact av .A .a (.e .aQ .B) (aa (fo (.k .O .A) .j))) (fun i hi=>absurd hi (by exact fo (.g .A .O) .j)) fun i hi hk=>absurd hk (by exact av .aM .a .a4 hi)))
  obtain⟨g1,g2,g3⟩:=hl
  refine ja (fun q hq=>⟨hq.1,by rw [show k+(f+1)=k+1+f by(exact vv .b9 .m)];exact hq.2⟩) (pB L hn f (bubble p k (k-l)) (k+1) (hp.step (bubble_perm _ _ _)) (by exact cv .a2 .a .H hk) fun i j hij hj=>?_)
  have e:k-(k-l)=l:=by(exact Ar.sub _ _ (fun q1 p1=>(Ar.sub _ _ (fun q2 p2=>(dn .C .n .bM (.e .a0 .D) p1 p2)) fun q2 p2=>(eT .C [[1,1,-1,0,1],[1,0,1,1,0]] .bJ .b2 .N .bN g1 p1 q2 p2))) fun q1 p1=>(Ar.sub _ _ (fun q2 p2=>(jj .C .l .a7 .M (.e .aB .C) q1 p1 p2)) fun q2 p2=>(yk .C [[0,1,1,1,1],[0,1,1,1,1]] .L (.l .D .X) (.k .F .G) (.e .G .O) hij hj q1 p2)))
  rw [zM (by exact dn .B .e (.k .a4 .D) .c1 hk hsz) (by exact cv .A .a (.e .Z .B) (aa (av .A .a .A g1))),zM (by exact dn .B .e (.k .a4 .D) .c1 hk hsz) (by exact cv .A .a (.e .Z .B) (aa (av .A .a .A g1))),e]
  by_cases hjl:j=l
  ·rw [bp hjl,aw (by exact eh .cG [[-1,1,1]] .S (.e .C .B) hij hjl),aw (by exact fun q1=>(kc .ff .k .B (.e .B .C) .c8 hij hjl q1.1))]
   exact g2 i (by exact eh .B .b .S (.e .C .B) hij hjl)
  ·rw [aw hjl]
   by_cases hjk:l<j∧j≤k
   ·rw [bp hjk]
    by_cases hil:i=l
    ·rw [bp hil]
     exact g3 _ (by exact jj .A [[1,1,-1,-1]] .L .c7 .cJ hij hil (aa (av .D .a .J hij))) (by exact eh .B .b .bL .bK hj (aa (av .D .a .J hij)))
    ·rw [aw hil]
     split
     ·exact hu _ _ (by(rename_i z1;exact jj .B .q .L .bK .cJ hij (aa (av .D .a .J z1.1)) (aa (av .D .a .J hij)))) (by exact eh .B .b .bL .bK hj (aa (av .D .a .J hij)))
     ·exact hu _ _ (by(rename_i z1;exact Ar.sub _ _ (fun q1 p1=>((aq hjl).elim (fun q2=>(dn .B .c .L .aN hjk.1 q2)) fun q2=>((aq hil).elim (fun q3=>(jj .B .r .L .cJ .S hjk.1 (aa (av .D .a .J hij)) q3)) fun q3=>((ak.mp z1).elim (fun q4=>(eh .B .c .c8 (.g .C .A) q3 q4)) fun q4=>(jj .B .k .S (.l .C .V) (.j .A .D) hij hj q4))))) fun q1 p1=>(jt .B .k (.l .C .V) (.l .F .C) (.k .D .F) hj hjk.1 q1))) (by exact eh .B .b .bL .bK hj (aa (av .D .a .J hij)))
   ·rw [aw hjk,aw (by exact Ar.sub _ _ (fun q1 p1=>((aq hjl).elim (fun q2=>(eh .cG [[-1,1,1]] .S .U hij q2)) fun q2=>((ak.mp hjk).elim (fun q3=>(eh .cG [[-1,1,1]] .S (.g .B .C) hij q3)) fun q3=>(dn .cG .c (.l .C .V) (.j .C .D) hj q3)))) fun q1 p1=>(jj .cG [[-1,1,1,1]] .S (.l .C .V) .bB hij hj q1)),aw (by exact fun q1=>(Ar.sub _ _ (fun q2 p2=>((aq hjl).elim (fun q3=>(kc .ff .k .B .c8 .cI hij q1.1 q3)) fun q3=>((ak.mp hjk).elim (fun q4=>(kc .ff .k .B .c8 (.g .C .B) hij q1.1 q4)) fun q4=>(dq .ff .c .Q (.j .A .B) hj q4)))) fun q2 p2=>(eT .ff [[0,1,1,1,1]] .B (.l .B .R) (.l .D .A) .a7 hij hj q1.1 q2)))]
    exact hu _ _ hij (by exact(aq hjl).elim (fun q1=>(eh .B .b .N .S g1 q1)) fun q1=>(Ar.sub _ _ (fun q2 p2=>((ak.mp hjk).elim (fun q3=>(eh .B .c .c8 (.g .C .A) q1 q3)) fun q3=>(dq .B .c .Q (.j .A .B) hj q3))) fun q2 p2=>(kc .B .k .Q .c8 .bJ hj q1 q2)))
theorem uC (L:eU lt) (hn:0<n):ends n lt (kas_sort n) fun q=>rt n q∧dN lt q n:=by
 unfold kas_sort
 refine tj (ja (fun r hr=>?_) (rL L hn (p:=List.toArray (List.range n)) ⟨Array.Perm.refl _⟩ (by exact dh .D .a .O hn) (ah _)))
 obtain⟨g1,g2,g3,g4⟩:=hr
 split
 ·have e:max r.1 1=r.1:=by(exact(Ar.FC _ _).2.2.elim (fun q1=>(dq .C .v .a4 .A (Ar.FC _ _).1 q1)) fun q1=>(JB .C [[1,0,1,0],[1,1,0,1]] (.k .U .B) .a4 (.k .A .U) g2 (Ar.FC _ _).1 q1))
  rw [e]
  exact ja (fun q hq=>⟨hq.1,by have:=hq.2;rwa [show r.1+(n-r.1)=n by(exact cv .aQ .g (.e .aD .C) (aa (av .A .a .A g3)))] at this⟩) (pB L hn (n-r.1) r.2 r.1 g1 (by exact cv .G .a (.e .aD .C) (aa (av .A .a .A g3))) g4)
 ·have e:r.1=n:=by(rename_i z1;exact dq .C .i .A .aM g3 z1)
  exact⟨g1,e▸g4⟩
end
end MP
end
section
namespace MP
open PySem PyProof.Rows
noncomputable def zr (C N:Addr) (nm q:Str) (k0 k2 k3:Option Value):Obj :=
 { cls:=.type "type",dict:=none,data:=.cls { name:=nm,bases:=[.type "tuple"],mro:=[.ref C,.type "tuple",.type "object"],ns:=N,qualname:=q,hasDict:=false,slotNames:=[],subclasses:=[],abstract:=false,collection:=none,hasDel:=false },slots:=#[k0,none,k2,k3,some .none,some (.bool false)] }
noncomputable def vl (C:Addr) (dd:Option Addr) (ws:List Value) (n:Nat):Obj:={ cls:=.ref C,dict:=dd,data:=.seq ws.toArray n,slots:=#[] }
theorem mro_tuple:mroOf (.type "tuple")=pure [.type "tuple",.type "object"]:=by kernel_rfl
section
variable {prog:Program} {w:World} {M:Model} {A:Around} {E:Value→Shared→Prop} {h:Heap} {g:Array GenState} {d:Drawn} {t:Nat} {os:OsState} {C N:Addr} {nm q:Str} {k0 k2 k3:Option Value} {mN:Str→Option Value} {dd:Option Addr}
theorem gM {base:Value} {Q:Bool→Shared→Prop} (hC:h.get? C=some (zr C N nm q k0 k2 k3)) (hq:Q ([Value.ref C,.type "tuple",.type "object"].contains base) ⟨h,g,d,t,os⟩):wpAny M A (isSubtype (.ref C) base) Q E ⟨h,g,d,t,os⟩:=by
 unfold zr at hC
 unfold isSubtype
 repeat (any_goals (first | assumption | wp_step))
theorem BX {Q:List Value→Shared→Prop} (hC:h.get? C=some (zr C N nm q k0 k2 k3)) (hq:Q [.ref C,.type "tuple",.type "object"] ⟨h,g,d,t,os⟩):wpAny M A (mroOf (.ref C)) Q E ⟨h,g,d,t,os⟩:=by
 unfold zr at hC
 unfold mroOf
 repeat (any_goals (first | assumption | wp_step))
theorem qQ {name:Str} {Q:Option Value→Shared→Prop} (hC:h.get? C=some (zr C N nm q k0 k2 k3)) (hn:h.Ns N mN) (hq:Q (mN name) ⟨h,g,d,t,os⟩):wpAny M A (classOwn (.ref C) name) Q E ⟨h,g,d,t,os⟩:=by
 unfold classOwn
 refine ab ?_
 unfold classData
 refine ab (uj hC (ae (wpAny_nsGet hn hq)))
theorem sv {name:Str} {y:Option Value} {Q:Option Value→Shared→Prop} (hC:h.get? C=some (zr C N nm q k0 k2 k3)) (hn:h.Ns N mN) (hB:typeLookup (.type "tuple") name=pure y) (hq:Q ((mN name).or y) ⟨h,g,d,t,os⟩):wpAny M A (typeLookup (.ref C) name) Q E ⟨h,g,d,t,os⟩:=by
 have hrest:lookupAlong [.type "tuple",.type "object"] name=pure y:=by rw [typeLookup_eq,mro_tuple] at hB;exact hB
 rw [typeLookup_eq]
 refine ab (BX hC ?_)
 rw [lookupAlong_cons]
 refine ab (qQ hC hn ?_)
 cases hv:mN name with
 | some v=>rw [hv] at hq;exact ae hq
 | none=>rw [hv] at hq;exact di hrest hq
theorem xR {it x:Addr} {ox:Obj} {i:Nat} {xs:Array Value} {n:Nat} {v:Value} {Q:Option Value→Shared→Prop} {s:Shared} (hit:IsTupIter s.heap it x i) (hx:s.heap.get? x=some ox) (hd:ox.data=.seq xs n) (hv:xs[i]?=some v)
  (hQ:∀ h',IsTupIter h' it x (i+1)→Heap.SameBut it s.heap h'→Q (some v) { s with heap:=h' }):wpAny (model prog w) A (pyNext (.ref it)) Q E s:=by
 obtain⟨o,ho,hc,hdt⟩:=id hit
 unfold pyNext
 refine ab (wpAny_attempt (ur (name:=Str.ofString "__next__") hit.typeIs lu (jm lu hit.typeIs nB ?_ (nA _))))
 show wpAny _ _ (field (.ref it) 0>>=_) _ _ s
 refine ab (gS ho hdt (x:=.ref x) rfl ?_)
 show wpAny _ _ (if (Value.ref x==Value.none)=true then _ else _) _ _ s
 rw [aw (show ¬ ((Value.ref x==Value.none)=true) from og)]
 show wpAny _ _ (field (.ref it) 1>>=_) _ _ s
 refine ab (gS ho hdt (x:=.int i 0) rfl ?_)
 show wpAny _ _ (seqItems? (.ref x)>>=_) _ _ s
 refine ab (ju hx hd ?_)
 simp only [ef,hv]
 refine ab (wpAny_setField ho hdt (by simp) (ae ⟨v,rfl,ae (hQ _ ⟨_,mh _ ho (Obj.isFreed_of_fields (Obj.data_mapFields hdt _)),(Obj.cls_mapFields ..).trans hc,?_⟩ (td ..))⟩))
 rw [Obj.data_mapFields hdt];simp [rawInt]
theorem BC {it x:Addr} {ox:Obj} {i:Nat} {xs:Array Value} {n:Nat} {Q:Option Value→Shared→Prop} {s:Shared} (hh:A.handled=none) (hit:IsTupIter s.heap it x i) (hx:s.heap.get? x=some ox) (hd:ox.data=.seq xs n) (hv:xs[i]?=none)
  (hQ:∀ h',Heap.ExtBut it s.heap h'→Q none { s with heap:=h' }):wpAny (model prog w) A (pyNext (.ref it)) Q E s:=by
 obtain⟨o,ho,hc,hdt⟩:=id hit
 unfold pyNext
 refine ab (wpAny_attempt (ur (name:=Str.ofString "__next__") hit.typeIs lu (jm lu hit.typeIs nB ?_ (nA _))))
 show wpAny _ _ (field (.ref it) 0>>=_) _ _ s
 refine ab (gS ho hdt (x:=.ref x) rfl ?_)
 show wpAny _ _ (if (Value.ref x==Value.none)=true then _ else _) _ _ s
 rw [aw (show ¬ ((Value.ref x==Value.none)=true) from og)]
 show wpAny _ _ (field (.ref it) 1>>=_) _ _ s
 refine ab (gS ho hdt (x:=.int i 0) rfl ?_)
 show wpAny _ _ (seqItems? (.ref x)>>=_) _ _ s
 refine ab (ju hx hd ?_)
 simp only [ef,hv]
 refine ab (wpAny_rule (ab (wpAny_setField ho hdt (by simp) ?_)))
 show wpAny _ _ (newExc (.type "StopIteration") []>>=_) _ _ _
 refine ab ?_
 simp only [newExc,newTuple]
 refine ab (gy ?_ (by size_fits))
 refine ab (m:=firstArgMember _ _) (di (a:=Value.none) (by first | rfl | (simp only [firstArgMember];rfl)) ?_)
 refine gy ?_ (by size_fits)
 simp only [raiseNew]
 refine ab (wpAny_handled ?_)
 first | rw [show A.in1.handled=none from hh] | rw [hh]
 refine ab (ae (wpAny_throw ?_))
 refine ab (wpAny_isInstance (T:="StopIteration") (b:=true) ⟨_,cm _ rfl,rfl⟩ isSubtype_stop ?_)
 exact ae (hQ _ (((td ..).extBut.push _).push _))
theorem BZ {x:Addr} {ws:List Value} {n:Nat} {id nn:String} {rest:List Value} {Q:Unit→Shared→Prop} (hC:h.get? C=some (zr C N nm q k0 k2 k3)) (hx:h.get? x=some (vl C dd ws n)) (hs:splitId id=some ("tuple",nn)) (hk:builtinKind id=some .slot∨builtinKind id=some .method) (ha:argsOk id ⟨.ref x::rest,[]⟩) (hQ:Q () ⟨h,g,d,t,os⟩) :
  wpAny M A (checkBuiltinCall id ⟨.ref x::rest,[]⟩) Q E ⟨h,g,d,t,os⟩:=by
 have inst:∀ {R:Bool→Shared→Prop},R true ⟨h,g,d,t,os⟩→wpAny M A (isInstance (.ref x) (.type "tuple")) R E ⟨h,g,d,t,os⟩:=fun {R} hr=>by
  unfold isInstance
  unfold vl at hx
  repeat (first | (with_reducible refine nc hx ?_) | (with_reducible refine gM hC ?_) | wp_step)
  exact hr
 rcases hk with hk | hk <;>
 ·simp only [checkBuiltinCall,hk,hs]
  refine ab (inst ?_)
  simp only [vj,cw,iq]
  cases hsig:Manifest.signature? id with
  | none=>exact ae hQ
  | some sig =>
   simp only [argsOk,hsig] at ha
   have h2:Bind.checkArgs id sig ⟨.ref x::rest,[]⟩=pure ():=ha
   show wpAny M A (Bind.checkArgs id sig ⟨.ref x::rest,[]⟩) Q E _
   rw [h2];exact ae hQ
theorem qR {x:Addr} {ws:List Value} {n:Nat} {id nn:String} {b:Builtin} {rest:List Value} {Q:Value→Shared→Prop} (hC:h.get? C=some (zr C N nm q k0 k2 k3)) (hx:h.get? x=some (vl C dd ws n)) (hs:splitId id=some ("tuple",nn)) (hk:builtinKind id=some .slot∨builtinKind id=some .method) (hp:plainId id=true) (he:entryFor table id=some b) (ha:argsOk id ⟨.ref x::rest,[]⟩)
  (hc:wpAny (model prog w) A.in1 (b ⟨.ref x::rest,[]⟩) (fun fin s'=>∃ v,fin=.done (.ret v)∧Q v s') E ⟨h,g,d,t,os⟩):wpAny (model prog w) A (call (.builtin id) (.ref x::rest)) Q E ⟨h,g,d,t,os⟩:=by
 refine rx (codeAny_call_builtin hp he (BZ hC hx hs hk ha (ba hc (fun fin s' h'=>?_) fun _ _ e=>e)))
 obtain⟨v,rfl,hv⟩:=h'
 exact hv
theorem nH:splitId "tuple.__iter__"=some ("tuple","__iter__"):=by kernel_rfl
theorem qU:builtinKind "tuple.__iter__"=some .slot:=by kernel_rfl
theorem FN {x:Addr} {ws:List Value} {n:Nat} {Q:Value→Shared→Prop} (hC:h.get? C=some (zr C N nm q k0 k2 k3)) (hn:h.Ns N mN) (hi:mN "__iter__"=none) (hx:h.get? x=some (vl C dd ws n))
  (hQ:Q (.ref h.objs.size) ⟨h.push { cls:=.type "tuple_iterator",data:=.fields #[.ref x,.int 0 0] },g,d,t,os⟩):wpAny (model prog w) A (pyIter (.ref x)) Q E ⟨h,g,d,t,os⟩:=by
 have hl:=PySem.F.slot_tuple_iter.lookup
 have hb:=PySem.F.slot_tuple_iter.bind (.ref x)
 have hx':=hx
 unfold pyIter specialOf
 unfold vl at hx
 repeat (first | (with_reducible refine nc hx ?_) | (with_reducible refine sv hC hn hl ?_;rw [hi]) | wp_step)
 have go:∀ (E:Value→Shared→Prop) (R:Option (Value × List Value)→Shared→Prop),R (some (.builtin "tuple.__iter__",[.ref x])) ⟨h,g,d,t,os⟩→wpAny (model prog w) A (do let r←bindSpecial (Value.builtin "tuple.__iter__") (Value.ref x);pure (some r)) R E ⟨h,g,d,t,os⟩:=fun E R hr=>ab (di hb (ae hr))
 have fin:wpAny (model prog w) A (call (.builtin "tuple.__iter__") [.ref x]) (fun r s'=>∃ y,r=.ref y∧y=h.objs.size∧s'=⟨h.push { cls:=.type "tuple_iterator",data:=.fields #[.ref x,.int 0 0] },g,d,t,os⟩) E ⟨h,g,d,t,os⟩:=by
  refine qR hC hx' nH (.inl qU) PySem.F.slot_tuple_iter.plain PySem.F.entry_tuple_iter (PySem.F.args_tuple_iter_1 _) ?_
  show wpAny _ _ (do ret (← newFields "tuple_iterator" [.ref x,rawInt 0])) _ _ _
  exact ab (gy (ae ⟨_,rfl,_,rfl,rfl,rfl⟩))
 have tail:wpAny (model prog w) A (match (some (Value.builtin "tuple.__iter__",[Value.ref x]):Option (Value × List Value)) with
    | some (g,first)=>if (g==Value.none)=true then (do let r←(do rule "iter.none";raiseError "TypeError" s!"'{← typeNameOf (.ref x)}' object is not iterable":Sem Value);pure (some r)) else (do let r←call g first;pure (some r))
    | _=>pure none:Sem (Option Value)) (fun a s'=>wpAny (model prog w) A (match a with
     | some it=>(do match←(do typeLookup (← typeOf it) "__next__":Sem (Option Value)) with
       | none=>(do rule "iter.non-iterator";raiseError "TypeError" s!"iter() returned non-iterator of type '{← typeNameOf it}'":Sem Value)
       | some _=>pure it)
     | none=>(do match←bindSpecialIfBound? (.ref x) "__getitem__" with
       | none=>(do rule "iter.not-iterable";raiseError "TypeError" s!"'{← typeNameOf (.ref x)}' object is not iterable":Sem Value)
       | some _=>(do rule "iter.getitem-fallback";newFields "iterator" [.ref x,← mkInt 0]))) Q E s') E ⟨h,g,d,t,os⟩:=by
  dsimp only
  rw [aw (show ¬ ((Value.builtin "tuple.__iter__" == Value.none)=true) from og)]
  refine ab (ba fin (fun r s' hr=>?_) fun _ _ e=>e)
  obtain⟨y,rfl,rfl,rfl⟩:=hr
  refine ae ?_
  dsimp only
  refine ab (ab (dQ (T:="tuple_iterator") ⟨_,cm _ rfl,rfl⟩ (di lu.lookup ?_)))
  exact ae hQ
 refine wpAny_askSetting ?_
 split
 ·exact go _ _ tail
 ·exact rv (go _ _ tail)
theorem nS {it x:Addr} {ox:Obj} {xs:Array Value} {k:Nat} (hne:x≠it) (hd:ox.data=.seq xs k):∀ (n i:Nat) (s:Shared) (Q:List Value→Shared→Prop),IsTupIter s.heap it x i→s.heap.get? x=some ox→i+n≤xs.size →
  (∀ h',IsTupIter h' it x (i+n)→Heap.SameBut it s.heap h'→Q ((xs.toList.drop i).take n) { s with heap:=h' })→wpAny (model prog w) A (draw (.ref it) n) Q E s
 | 0,i,s,Q,hit,hx,hn,hQ=>by
  rw [draw]
  exact ae (by simpa using hQ s.heap hit (.refl ..))
 | n+1,i,s,Q,hit,hx,hn,hQ=>by
  rw [draw]
  have hv:xs[i]?=some xs[i]:=aO (by exact cv .B .a (.k .a4 .B) hn)
  refine ab (xR hit hx hd hv fun h₁ hit₁ hs₁=>?_)
  refine ab (bu (nS hne hd n (i+1) _ _ hit₁ (by rw [hs₁.2 x hne];exact hx) (by exact cv .a2 .a .H hn) fun h₂ hit₂ hs₂=>ae ?_))
  have hdr:xs.toList.drop i=xs[i]::xs.toList.drop (i+1):=by
   rw [dj (by simpa using (by(exact cv .B .a (.k .a4 .B) hn):i<xs.size))];simp
  have:=hQ h₂ (by rw [show i+(n+1)=i+1+n by(exact vv .b9 .m)];exact hit₂) (hs₁.trans hs₂)
  rw [hdr,List.take_succ_cons] at this
  exact this
end
structure pe (G:Stc):Prop where
 here:∃ N mN nm q k0 k2 k3,G.hb.get? G.cM=some (zr G.cM N nm q k0 k2 k3)∧G.hb.Ns N mN∧mN "__iter__"=none∧mN "__lt__"=none∧mN "__len__"=none∧mN "__init__"=none
theorem IJ {G:Stc} (K:pe G):vS G:=fun A E s x ws n dd Q hh hbase hx hQ=>by
 obtain⟨N,mN,nm,q,k0,k2,k3,hC,hN,hi,_⟩:=K.here
 have hlt:x≠s.heap.objs.size:=jn (et hx)
 obtain⟨h,g,d,t,os⟩:=s
 have hC':=hbase _ _ hC
 have hN':=hN.keeps hbase
 have hl:=PySem.F.slot_tuple_iter.lookup
 have hx':h.get? x=some (vl G.cM dd ws n):=hx
 have hx2:h.get? x=some { cls:=.ref G.cM,dict:=dd,data:=.seq ws.toArray n,slots:=#[] }:=hx
 have ni:∀ R:Bool→Shared→Prop,R false ⟨h,g,d,t,os⟩→wpAny G.M A (notIterableAtAll (.ref x)) R E ⟨h,g,d,t,os⟩:=fun R hr=>by
  unfold notIterableAtAll specialOf
  repeat (first | (with_reducible refine nc hx2 ?_) | (with_reducible refine sv hC' hN' hl ?_;rw [hi]) | wp_step)
  exact hr
 unfold unpackItems
 refine ab (ni _ ?_)
 simp only [cw,iq]
 have hp:(h.push { cls:=.type "tuple_iterator",data:=.fields #[.ref x,.int 0 0] }).get? x=some { cls:=.ref G.cM,dict:=dd,data:=.seq ws.toArray n,slots:=#[] }:=aj _ hx2
 refine ab (bu (FN hC' hN' hi hx' ?_))
 refine ab (bu (nS (xs:=ws.toArray) (k:=n) hlt rfl ws.length 0 _ _ ⟨_,cm _ rfl,rfl,rfl⟩ hp (by simp) fun h₁ hit₁ hs₁=>?_))
 have hall:List.take ws.length (List.drop 0 ws.toArray.toList)=ws:=by simp
 rw [hall,aw (by simp)]
 have hx₁:h₁.get? x=some { cls:=.ref G.cM,dict:=dd,data:=.seq ws.toArray n,slots:=#[] }:=by rw [hs₁.2 x hlt];exact hp
 refine ab (bu (BC (xs:=ws.toArray) (n:=n) hh hit₁ hx₁ rfl (by simp) fun h₂ he₂=>?_))
 simp only [sh,cw,iq]
 exact ae (hQ h₂ fun b o hb e=>he₂ b o hb (hs₁.extBut b o hb (aj _ e)))
end MP
end
section
namespace MP
open PySem PyProof.Rows
noncomputable def dI (ns ms:List Int):Option Fin × Unit:=if ns=ms then (none,()) else (some (.done (.ret (.bool (gv ns ms)))),())
theorem iG:∀ ns:List Int,gv ns ns=false
 | []=>rfl
 | a::as=>(bp rfl).trans (iG as)
section
variable {prog:Program} {w:World} {M:Model} {A:Around} {E:Value→Shared→Prop} {h:Heap} {g:Array GenState} {d:Drawn} {t:Nat} {os:OsState} {C N:Addr} {nm q:Str} {k0 k2 k3:Option Value} {mN:Str→Option Value} {dd de:Option Addr}
theorem C1 {s:Shared} (f:Value × Value→Option Fin × Unit→Sem (ForInStep (Option Fin × Unit)))
  (hf:∀ a b st,f (a,b) st=(do let r←eqBool a b;if (!r)=true then (do rule "tuple.compare.by-the-first-pair-that-differs";let v←richCompare .Lt a b;let z←ret v;pure (.done (some z,()))) else pure (.yield (none,())))) :
  ∀ {ws us:List Value} {ns ms:List Int} {Q:Option Fin × Unit→Shared→Prop},IntsAre ws ns→IntsAre us ms→ns.length=ms.length→Q (dI ns ms) s→wpAny (model prog w) A (forIn (ws.zip us) (none,()) f) Q E s:=by
 intro ws us ns ms Q h1
 induction h1 generalizing us ms Q with
 | nil =>
  intro h2 hl hq
  cases h2 with
  | nil=>rw [List.zip_nil_left,jy];exact ae hq
  | cons=>simp at hl
 | @cons a ta ws ns h1 ih =>
  intro h2 hl hq
  cases h2 with
  | nil=>simp at hl
  | @cons b tb us ms h2 =>
   rw [List.zip_cons_cons,lp,hf]
   refine ab (ab (wpAny_eqBool_int ?_))
   by_cases hab:a=b
   ·subst hab
    simp only [beq_self_eq_true,vj,cw,iq]
    refine ae (ih h2 (by simpa using hl) ?_)
    have e:dI (a::ns) (a::ms)=dI ns ms:=by unfold dI;rw [show gv (a::ns) (a::ms)=gv ns ms from bp rfl];simp
    rw [e] at hq;exact hq
   ·have hne:(a==b)=false:=by simpa using hab
    rw [hne]
    simp only [Bool.not_false,uf]
    have e:dI (a::ns) (b::ms)=(some (.done (.ret (.bool (decide (a<b))))),()):=by unfold dI;rw [show gv (a::ns) (b::ms)=decide (a<b) from aw hab,aw fun q=>hab (List.cons.inj q).1]
    rw [e] at hq
    refine ab (wpAny_rule (ab ?_))
    have hlt:∀ R:Value→Shared→Prop,R (.bool (decide (a<b))) s→wpAny (model prog w) A (richCompare .Lt (.int a ta) (.int b tb)) R E s:=fun R hr=>lt_int hr
    exact hlt _ (ab (ae (ae (ae hq))))
theorem t7 {x y:Addr} {ox oy:Obj} {ws us:List Value} {ns ms:List Int} {n m:Nat} {P:Fin→Shared→Prop} (hx:h.get? x=some ox) (dx:ox.data=.seq ws.toArray n) (hy:h.get? y=some oy) (dy:oy.data=.seq us.toArray m) (h1:IntsAre ws ns) (h2:IntsAre us ms) (hl:ns.length=ms.length)
  (inst:∀ R:Bool→Shared→Prop,R true ⟨h,g,d,t,os⟩→wpAny (model prog w) A (isInstance (.ref y) (.type "tuple")) R E ⟨h,g,d,t,os⟩) (hP:P (.done (.ret (.bool (gv ns ms)))) ⟨h,g,d,t,os⟩):wpAny (model prog w) A (Builtin.«tuple.__lt__» ⟨[.ref x,.ref y],[]⟩) P E ⟨h,g,d,t,os⟩:=by
 unfold Builtin.«tuple.__lt__»
 refine ab (di (a:=(.ref x,[.ref y])) (by rfl) ?_)
 dsimp only
 refine ab (inst _ ?_)
 simp only [vj,cw,iq]
 refine ab (m:=Builtin.Tuple.tupleItemsOf (.ref x)) (ab (ju hx dx (ae ?_)))
 refine ab (m:=Builtin.Tuple.tupleItemsOf (.ref y)) (ab (ju hy dy (ae ?_)))
 refine ab (C1 _ (fun a b st=>by rfl) (ws:=ws) (us:=us) h1 h2 hl ?_)
 unfold dI
 by_cases e:ns=ms
 ·rw [bp e]
  subst e
  rw [iG] at hP
  have hlen:ws.toArray.size=us.toArray.size:=by simp [h1.length,h2.length]
  have e2:Builtin.Tuple.tupleCompareSizes .Lt ws.toArray.size us.toArray.size=.bool false:=by unfold Builtin.Tuple.tupleCompareSizes;rw [hlen];simp
  show wpAny _ _ (ret (Builtin.Tuple.tupleCompareSizes .Lt ws.toArray.size us.toArray.size)) _ _ _
  rw [e2]
  exact ae hP
 ·rw [aw e]
  exact ae hP
theorem uV {x y:Addr} {ws us:List Value} {ns ms:List Int} {n m:Nat} {P:Fin→Shared→Prop} (hC:h.get? C=some (zr C N nm q k0 k2 k3)) (hx:h.get? x=some (vl C dd ws n)) (hy:h.get? y=some (vl C de us m)) (h1:IntsAre ws ns) (h2:IntsAre us ms) (hl:ns.length=ms.length)
  (hP:P (.done (.ret (.bool (gv ns ms)))) ⟨h,g,d,t,os⟩):wpAny (model prog w) A (Builtin.«tuple.__lt__» ⟨[.ref x,.ref y],[]⟩) P E ⟨h,g,d,t,os⟩:=t7 hx rfl hy rfl h1 h2 hl (fun R hr=>by
  unfold isInstance
  unfold vl at hy
  repeat (first | (with_reducible refine nc hy ?_) | (with_reducible refine gM hC ?_) | wp_step)
  exact hr) hP
theorem uB:splitId "tuple.__lt__"=some ("tuple","__lt__"):=by kernel_rfl
theorem yN:builtinKind "tuple.__lt__"=some .slot:=by kernel_rfl
theorem BY {x y:Addr} {ws us:List Value} {ns ms:List Int} {n m:Nat} {Q:Bool→Shared→Prop} (hu:A.units<cLine) (hC:h.get? C=some (zr C N nm q k0 k2 k3)) (hn:h.Ns N mN) (hlt:mN "__lt__"=none) (hx:h.get? x=some (vl C dd ws n)) (hy:h.get? y=some (vl C de us m)) (h1:IntsAre ws ns) (h2:IntsAre us ms) (hl:ns.length=ms.length)
  (hQ:Q (gv ns ms) ⟨h,g,d,t,os⟩):wpAny (model prog w) A (keyLt' oneType' (.ref x) (.ref y)) Q E ⟨h,g,d,t,os⟩:=by
 rw [keyLt'_oneType,oneLt'_eq]
 simp only [uf]
 refine ab (wpAny_cRoomFor hu ?_)
 have hlk:=PySem.F.slot_tuple_lt.lookup
 have hlk':typeLookup (.type "tuple") "__lt__"=pure (some (.builtin "tuple.__lt__")):=hlk
 have hb:=PySem.F.slot_tuple_lt.bind (.ref x)
 have hx2:h.get? x=some { cls:=.ref C,dict:=dd,data:=.seq ws.toArray n,slots:=#[] }:=hx
 have fin:∀ (E:Value→Shared→Prop) (R:Value→Shared→Prop),R (.bool (gv ns ms)) ⟨h,g,d,t,os⟩→wpAny (model prog w) A (call (.builtin "tuple.__lt__") [.ref x,.ref y]) R E ⟨h,g,d,t,os⟩:=fun E R hr =>
  qR hC hx uB (.inl yN) PySem.F.slot_tuple_lt.plain PySem.F.entry_tuple_lt (PySem.F.args_tuple_lt_2 _ _) (uV hC hx hy h1 h2 hl ⟨_,rfl,hr⟩)
 have sp:∀ (R:Option (Value × List Value)→Shared→Prop),R (some (.builtin "tuple.__lt__",[.ref x])) ⟨h,g,d,t,os⟩→wpAny (model prog w) A (bindSpecialIfBound? (.ref x) "__lt__") R E ⟨h,g,d,t,os⟩:=fun R hr=>by
  have go:∀ (E:Value→Shared→Prop),wpAny (model prog w) A (do let r←bindSpecial (Value.builtin "tuple.__lt__") (Value.ref x);pure (some r)) R E ⟨h,g,d,t,os⟩:=fun E=>ab (di hb (ae hr))
  unfold bindSpecialIfBound? specialOf
  repeat (first | (with_reducible refine nc hx2 ?_) | (with_reducible refine sv hC hn hlk' ?_;rw [hlt]) | wp_step)
  refine wpAny_askSetting ?_
  split
  ·exact go _
  ·exact rv (go _)
 unfold callSpecialIfBound?
 refine ab (bu (ab (sp _ ?_)))
 refine ab (fin _ _ (ae ?_))
 exact mz hQ
end
end MP
end
section
namespace MP
open PySem PyProof.Rows PySem.W
noncomputable def tl (t:Int × Int × Int):List Int:=[t.1,t.2.1,t.2.2]
theorem tC (s t:Int × Int × Int):leT s t=!(gv (tl t) (tl s)):=rfl
noncomputable def LeT (s t:Int × Int × Int):Prop:=s.1<t.1∨(s.1=t.1∧(s.2.1<t.2.1∨(s.2.1=t.2.1∧s.2.2≤t.2.2)))
theorem rp (s t:Int × Int × Int):leT s t=true↔LeT s t:=by
 rw [tC,fh]
 unfold LeT
 by_cases h1:t.1=s.1
 ·rw [show gv (tl t) (tl s)=gv [t.2.1,t.2.2] [s.2.1,s.2.2] from bp h1]
  by_cases h2:t.2.1=s.2.1
  ·rw [show gv [t.2.1,t.2.2] [s.2.1,s.2.2]=gv [t.2.2] [s.2.2] from bp h2]
   by_cases h3:t.2.2=s.2.2
   ·rw [show gv [t.2.2] [s.2.2]=false from bp h3]
    exact⟨fun _=>.inr ⟨h1.symm,.inr ⟨h2.symm,xv h3.symm⟩⟩,fun _=>rfl⟩
   ·rw [show gv [t.2.2] [s.2.2]=decide (t.2.2<s.2.2) from aw h3,eZ]
    (exact⟨fun q1=>(.inr ⟨(km .K .h .bT h1),(.inr ⟨(km .K .h .bT h2),(km .cK .a (.ig .B .A) q1)⟩)⟩),fun q1=>((lh h3).elim (fun q2=>(q1.elim (fun q3=>(qq .bA .c .b6 .b5 h1 q3)) fun q3=>(q3.2.elim (fun q4=>(qq .bA .c .b6 .b5 h2 q4)) fun q4=>(km .bA .a (.ik .B .A) q4.2)))) fun q2=>(km .bA .a .aX q2))⟩)
  ·rw [show gv [t.2.1,t.2.2] [s.2.1,s.2.2]=decide (t.2.1<s.2.1) from aw h2,eZ]
   (exact⟨fun q1=>(.inr ⟨(km .K .h .bT h1),(.inl ((lh h2).elim (fun q2=>(cZ .aA .c (.ig .B .A) .aX q1 q2)) fun q2=>(km .aA .a .aA q2)))⟩),fun q1=>((lh h2).elim (fun q2=>(q1.elim (fun q3=>(qq .bA .c .b6 .b5 h1 q3)) fun q3=>(q3.2.elim (fun q4=>(km .bA .a .aX q4)) fun q4=>(km .bA .a .bT q4.1)))) fun q2=>(km .bA .a .aX q2))⟩)
 ·rw [show gv (tl t) (tl s)=decide (t.1<s.1) from aw h1,eZ]
  (exact⟨fun q1=>(.inl ((lh h1).elim (fun q2=>(cZ .aA .c (.ig .B .A) .aX q1 q2)) fun q2=>(km .aA .a .aA q2))),fun q1=>((lh h1).elim (fun q2=>(q1.elim (fun q3=>(km .bA .a .aX q3)) fun q3=>(km .bA .a .bT q3.1))) fun q2=>(km .bA .a .aX q2))⟩)
theorem LeT.trans {a b c:Int × Int × Int} (h1:LeT a b) (h2:LeT b c):LeT a c:=by
 unfold LeT at *
 rcases h1 with p | ⟨p,p1⟩
 ·exact .inl (by exact h2.elim (fun q1=>(l0 .aA .b (.il .A .C) (.il .C .B) p q1)) fun q1=>(l0 .aA .b (.il .A .C) (.ie .C .B) p q1.1))
 ·rcases h2 with q | ⟨q,q1⟩
  ·exact .inl (by exact l0 .aA .b (.ie .A .C) (.il .C .B) p q)
  ·refine .inr ⟨p.trans q,?_⟩
   rcases p1 with p | ⟨p,p1⟩
   ·exact .inl (by exact q1.elim (fun q1=>(l0 .aA .b (.il .A .C) (.il .C .B) p q1)) fun q1=>(l0 .aA .b (.il .A .C) (.ie .C .B) p q1.1))
   ·rcases q1 with q | ⟨q,q1⟩
    ·exact .inl (by exact l0 .aA .b (.ie .A .C) (.il .C .B) p q)
    ·exact .inr ⟨p.trans q,Int.le_trans p1 q1⟩
theorem LeT.total (a b:Int × Int × Int):LeT a b∨LeT b a:=by
 rcases Int.lt_trichotomy a.1 b.1 with h | h | h
 ·exact .inl (.inl h)
 ·rcases Int.lt_trichotomy a.2.1 b.2.1 with g | g | g
  ·exact .inl (.inr ⟨h,.inl g⟩)
  ·exact(xu a.2.2 b.2.2).imp (fun k=>.inr ⟨h,.inr ⟨g,k⟩⟩) fun k=>.inr ⟨h.symm,.inr ⟨g.symm,k⟩⟩
  ·exact .inr (.inr ⟨h.symm,.inl g⟩)
 ·exact .inr (.inl h)
theorem LeT.JD {a b:Int × Int × Int} (h1:LeT a b) (h2:LeT b a):a=b:=by
 unfold LeT at *
 have e1:a.1=b.1:=by(exact h1.elim (fun q1=>(h2.elim (fun q2=>(cZ .K .i .aA .aX q1 q2)) fun q2=>(km .K .h .bT q2.1))) fun q1=>(km .K .g .K q1.1))
 have e2:a.2.1=b.2.1:=by(exact h1.elim (fun q1=>(qq .K [[0,-1,1],[0,-1,1]] .b6 .bU e1 q1)) fun q1=>(h2.elim (fun q2=>(qq .K .f .b6 .b5 e1 q2)) fun q2=>(q1.2.elim (fun q3=>(q2.2.elim (fun q4=>(cZ .K .i .aA .aX q3 q4)) fun q4=>(km .K .h .bT q4.1))) fun q3=>(km .K .g .K q3.1))))
 have e3:a.2.2=b.2.2:=by(exact h1.elim (fun q1=>(qq .K [[0,-1,1],[0,-1,1]] .b6 .bU e1 q1)) fun q1=>(h2.elim (fun q2=>(qq .K .f .b6 .b5 e1 q2)) fun q2=>(q1.2.elim (fun q3=>(qq .K [[0,-1,1],[0,-1,1]] .b6 .bU e2 q3)) fun q3=>(q2.2.elim (fun q4=>(qq .K .f .b6 .b5 e2 q4)) fun q4=>(cZ .K .i .cK (.ik .B .A) q3.2 q4.2)))))
 exact Prod.ext e1 (Prod.ext e2 e3)
theorem bO:∀ {a b:List (Int × Int × Int)},a.Perm b→a.Pairwise LeT→b.Pairwise LeT→a=b
 | [],b,hp,_,_=>by simpa using hp.nil_eq
 | x::a,[],hp,_,_=>by have:=hp.length_eq;simp at this
 | x::a,y::b,hp,ha,hb=>by
  have hx:=oe.mp ha
  have hy:=oe.mp hb
  have hxy:x=y:=by
   have h1:LeT y x:=by
    have:x∈y::b:=hp.mem_iff.mp (.head _)
    rcases cf.mp this with rfl | h
    ·unfold LeT;(exact .inr ⟨(lA (.ie .A .A) .m),(.inr ⟨(lA (.ie .A .A) .m),(lA (.ik .A .A) .j)⟩)⟩)
    ·exact hy.1 x h
   have h2:LeT x y:=by
    have:y∈x::a:=hp.mem_iff.mpr (.head _)
    rcases cf.mp this with rfl | h
    ·unfold LeT;(exact .inr ⟨(lA (.ie .A .A) .m),(.inr ⟨(lA (.ie .A .A) .m),(lA (.ik .A .A) .j)⟩)⟩)
    ·exact hx.1 y h
   exact h2.JD h1
  subst hxy
  rw [bO (hp.cons_inv) hx.2 hy.2]
theorem cU (ts:List (Int × Int × Int)):(ts.mergeSort leT).Pairwise LeT:=by
 have h:=List.pairwise_mergeSort (le:=leT) (fun a b c h1 h2=>(rp a c).mpr (((rp a b).mp h1).trans ((rp b c).mp h2))) (fun a b=>by
  rcases LeT.total a b with h | h
  ·rw [(rp a b).mpr h];rfl
  ·rw [(rp b a).mpr h];simp) ts
 exact h.imp fun hab=>(rp _ _).mp hab
noncomputable def iH (ts:List (Int × Int × Int)) (i j:Nat):Bool:=gv (tl (ts.getD i (0,0,0))) (tl (ts.getD j (0,0,0)))
theorem wg {ts:List (Int × Int × Int)} {i j:Nat}:iH ts j i=false↔LeT (ts.getD i (0,0,0)) (ts.getD j (0,0,0)):=by
 rw [← rp,tC]
 unfold iH
 cases gv (tl (ts.getD j (0,0,0))) (tl (ts.getD i (0,0,0)))<;>simp
theorem C2 (ts:List (Int × Int × Int)):eU (iH ts) where
 asym:=fun a b h=>by
  rw [wg]
  have h1:¬ LeT (ts.getD b (0,0,0)) (ts.getD a (0,0,0)):=fun hl=>by rw [← wg] at hl;rw [h] at hl;cases hl
  rcases LeT.total (ts.getD a (0,0,0)) (ts.getD b (0,0,0)) with h2 | h2
  ·exact h2
  ·exact absurd h2 h1
 tr:=fun a b c h1 h2=>by
  rw [wg] at *
  exact h1.trans h2
theorem nQ {ts:List (Int × Int × Int)} {p:Array Nat} (hp:rt ts.length p) (hu:dN (iH ts) p ts.length):p.toList.map (fun i=>ts.getD i (0,0,0))=ts.mergeSort leT:=by
 refine bO ?_ ?_ (cU ts)
 ·have h1:(p.toList.map fun i=>ts.getD i (0,0,0)).Perm ((List.range ts.length).map fun i=>ts.getD i (0,0,0)):=(yw.mp hp.perm).map _
  have h2:((List.range ts.length).map fun i=>ts.getD i (0,0,0))=ts:=by
   apply List.ext_getElem
   ·simp
   ·intro i h1 h2;simp at h1;simp [List.getD,h1]
  rw [h2] at h1
  exact h1.trans (List.mergeSort_perm ts leT).symm
 ·rw [List.pairwise_iff_getElem]
  intro i j hi hj hij
  simp only [az,Array.length_toList] at hi hj
  have hs:=hp.size
  have:=hu i j hij (by exact eh .B .b .S (.e .C .B) hj hs)
  rw [wg] at this
  simp only [at0,Array.getD,hi,hj,dite_true] at this
  simpa using this
noncomputable def Mts (C:Addr) (h:Heap):List (Int × Int × Int)→List Value→Prop
 | []=>fun vs=>vs=[]
 | t::ts=>fun vs=>∃ x dd ws n us,vs=.ref x::us∧h.get? x=some (vl C dd ws n)∧IntsAre ws (tl t)∧Mts C h ts us
theorem Mts.length {C:Addr} {h:Heap}:{ts:List (Int × Int × Int)}→{vs:List Value}→Mts C h ts vs→ts.length=vs.length
 | []=>fun e=>e▸rfl
 | _::_=>fun z0=>by obtain⟨_,_,_,_,_,e,_,_,r⟩:=z0;exact e▸bx (·+1) r.length
theorem Mts.at {C:Addr} {h:Heap}:{ts:List (Int × Int × Int)}→{vs:List Value}→Mts C h ts vs→(i:Nat)→i<ts.length→∃ x dd ws n,vs.getD i Value.none=.ref x∧h.get? x=some (vl C dd ws n)∧IntsAre ws (tl (ts.getD i (0,0,0)))
 | [],_,_,i,hi=>absurd hi (kg i)
 | _::_,_,⟨x,dd,ws,n,_,e,g,q,_⟩,0,_=>⟨x,dd,ws,n,e▸rfl,g,q⟩
 | _::_,_,⟨_,_,_,_,_,e,_,_,r⟩,i+1,hi=>by subst e;exact r.at i (Nat.lt_of_succ_lt_succ hi)
theorem Mts.mono {C:Addr} {h h':Heap} (hk:gp h h'):{ts:List (Int × Int × Int)}→{vs:List Value}→Mts C h ts vs→Mts C h' ts vs
 | []=>fun e=>e
 | _::_=>fun z0=>by obtain⟨x,dd,ws,n,us,e,g,q,r⟩:=z0;exact⟨x,dd,ws,n,us,e,hk _ _ g (.inl ⟨fun q=>(nomatch q),_,_,rfl⟩),q,r.mono hk⟩
theorem Mts.of {G:Stc} {h:Heap}:{ts:List (Int × Int × Int)}→{vs:List Value}→VRs G h (ts.map mtV) vs→Mts G.cM h ts vs
 | []=>fun e=>e
 | t::_=>fun z0=>by obtain⟨_,us,e,⟨a,ws,n,dd,e',g,r⟩,rest⟩:=z0;exact⟨a,dd,ws,n,us,e'▸e,g,rq (ns:=tl t) r,Mts.of rest⟩
theorem Mts.vr {G:Stc} {h:Heap}:{ts:List (Int × Int × Int)}→{vs:List Value}→Mts G.cM h ts vs→VRs G h (ts.map mtV) vs
 | []=>fun e=>e
 | t::_=>fun z0=>by obtain⟨x,_,_,_,us,e,g,q,r⟩:=z0;exact⟨.ref x,us,e,.mt g (VRs.ints (ns:=tl t) q),r.vr⟩
theorem Mts.pick {C:Addr} {h:Heap} {ts:List (Int × Int × Int)} {vs:List Value} (m:Mts C h ts vs):(l:List Nat)→(∀ i∈l,i<ts.length)→Mts C h (l.map fun i=>ts.getD i (0,0,0)) (l.map fun i=>vs.getD i Value.none)
 | [],_=>rfl
 | i::l,hl=>by
  obtain⟨x,dd,ws,n,e,g,hi⟩:=m.at i (hl i (.head _))
  exact⟨x,dd,ws,n,l.map fun i=>vs.getD i Value.none,bx (·::_) e,g,hi,m.pick l fun j hj=>hl j (.tail _ hj)⟩
section
variable {G:Stc} {A:Around} {E:Value→Shared→Prop} {s:Shared} {σ:St}
theorem o9 (K:pe G) {a:Addr} {ts:List (Int × Int × Int)} {vs:List Value} {n:Nat} {P:Fin→Shared→Prop} (hu:A.units<cLine) (hbase:∀ b o,G.hb.get? b=some o→s.heap.get? b=some o) (hab:G.hb.get? a=none) (ho:IsL s.heap a vs.toArray n) (m:Mts G.cM s.heap ts vs) (h64:ts.length<64)
  (h:∀ h' vs' k,At a s.heap h'→IsL h' a vs'.toArray k→Mts G.cM s.heap (ts.mergeSort leT) vs'→P (.done (.ret .none)) { s with heap:=h' }):wpAny G.M A (Builtin.«list.sort» ⟨[.ref a],[]⟩) P E s:=by
 obtain⟨N,mN,nm,q,k0,k2,k3,hC,hN,hi,hlt,_⟩:=K.here
 have hlen:=m.length
 have ha:a<s.heap.objs.size:=et ho
 have s1:=td s.heap a (Obj.mapSeq fun _=>(#[]:Array Value))
 have ho':s.heap.get? a=some (seqObj "list" vs.toArray n):=ho
 obtain⟨e1,ho1⟩:∃ e1,(s.heap.update a (Obj.mapSeq fun _=>(#[]:Array Value))).get? a=some (seqObj "list" #[] e1):=⟨_,get?_update_seq ho' fun _=>#[]⟩
 rw [list_sort_plain]
 refine ab (listItems_at ho' rfl ?_)
 refine ab (listUpdate_at ho' rfl ?_ (by rw [bh,sizeLine_eq];(exact dq (.k .A .a9) .e .aD .bD h64 hlen)) (br _))
 refine ab (seqEpoch_at ho1 rfl ?_)
 refine ab (wpAny_newTuple ?_ (by show vs.length≤_;rw [sizeLine_eq];(exact dq (.k .A .a9) .e .aD .bD h64 hlen)))
 refine ab (wpAny_newList ?_ (br _))
 refine bu ?_
 show wpAny G.M A _ P E { s with heap:=((s.heap.update a (Obj.mapSeq fun _=>(#[]:Array Value))).push (seqObj "tuple" vs.toArray 0)).push (seqObj "list" #[] 0) }
 dsimp only
 have other:∀ b o,b≠a→s.heap.get? b=some o→(((s.heap.update a (Obj.mapSeq fun _=>(#[]:Array Value))).push (seqObj "tuple" vs.toArray 0)).push (seqObj "list" #[] 0)).get? b=some o:=fun b o hb e =>
  aj _ (aj _ (by rw [s1.2 b hb];exact e))
 have ho3:(((s.heap.update a (Obj.mapSeq fun _=>(#[]:Array Value))).push (seqObj "tuple" vs.toArray 0)).push (seqObj "list" #[] 0)).get? a=some (seqObj "list" #[] e1):=aj _ (aj _ ho1)
 generalize hH:((s.heap.update a (Obj.mapSeq fun _=>(#[]:Array Value))).push (seqObj "tuple" vs.toArray 0)).push (seqObj "list" #[] 0)=H at *
 have frz:gp s.heap H:=fun b o e f=>other b o (fun q=>by subst q;rw [show s.heap.get? b=_ from ho] at e;cases e;exact uk rfl rfl f) e
 have mH:=m.mono frz
 have hC':H.get? G.cM=some (zr G.cM N nm q k0 k2 k3):=other _ _ (fun q=>by subst q;rw [hab] at hC;cases hC) (hbase _ _ hC)
 have hN':H.Ns N mN:=by
  obtain⟨o,es,ep,hoN,r⟩:=hN
  exact⟨o,es,ep,other _ _ (fun q=>by subst q;rw [hab] at hoN;cases hoN) (hbase _ _ hoN),r⟩
 have fin:∀ (out:List Value) (hz:out.length<64),Mts G.cM s.heap (ts.mergeSort leT) out→P (.done (.ret .none)) { s with heap:=H.update a (Obj.mapSeq fun _=>out.toArray) }:=fun out hz mo=>by
  obtain⟨c2,hc2⟩:∃ c2,(H.update a (Obj.mapSeq fun _=>out.toArray)).get? a=some (seqObj "list" out.toArray c2):=⟨_,get?_update_seq ho3 fun _=>out.toArray⟩
  have s2:=td H a (Obj.mapSeq fun _=>out.toArray)
  exact h _ out c2 ⟨fun b o hb e=>by rw [s2.2 b hb];exact other b o hb e,⟨_,hc2⟩,fun o e=>by obtain rfl:=af (e.symm.trans ho);exact uk rfl rfl⟩ hc2 mo
 by_cases h2:vs.toArray.size<2
 ·rw [bp h2,bp h2]
  refine ab (ae ?_)
  rw [StateT.run_pure]
  refine ab (ae ?_)
  dsimp only
  have e:(arrOf (SortSt.mk' general' (vs.toArray.zip vs.toArray) #[] 7 none)).map (·.2)=vs.toArray:=by
   show(vs.toArray.zip vs.toArray).map (·.2)=vs.toArray
   have e0:vs.toArray.zip vs.toArray=(vs.zip vs).toArray:=by simp
   rw [e0,List.map_toArray,List.map_snd_zip (ah _)]
  rw [e]
  refine ab (seqEpoch_at ho3 rfl ?_)
  refine ab (listUpdate_at ho3 rfl ?_ (br _) (by rw [bh,sizeLine_eq];(exact dq (.k .A (.a .a9 .U)) .e .aD .bD h64 hlen)))
  simp only [d8,cw,iq]
  refine ae (fin vs (by exact dq .bI .e .aD .bD h64 hlen) ?_)
  have:ts.mergeSort leT=ts:=by
   simp only [bh] at h2
   match ts,hlen with
   | [],_=>simp
   | [t],_=>simp
   | _::_::_,hlen=>simp at hlen;(exact False.elim (dq .ff .c (.l .A .W) (.e (.a .L .U) .A) h2 hlen))
  rw [this];exact m
 ·rw [aw h2,aw h2]
  simp only [bh] at h2
  refine ab (kas_kind (T:=.ref G.cM) (by exact dh (.k .W .A) .a (.g .A .W) h2) (fun v hv=>?_) (by rfl) (by simp) ?_)
  ·obtain⟨i,hi,rfl⟩:=jE.mp hv
   obtain⟨x,dd,ws,k,e,g,_⟩:=mH.at i (by exact eh .B .s (.e .B .C) .S hlen hi)
   have e':vs[i]=.ref x:=by rw [← e];simp [List.getD,hi]
   rw [e']
   intro A Q E s' hk hq
   unfold typeOf
   refine ab (eY (hk _ _ g) ?_)
   exact ae hq
  have run:=tO (n:=ts.length) (lt:=iH ts) (cmp:=kas_ask G.prog G.w A oneType' vs) (s:={ s with heap:=H }) (Q:=fun p s'=>s'={ s with heap:=H }∧rt ts.length p∧dN (iH ts) p ts.length) (t:=kas_sort vs.length) (fun i j C hi hj hc=>by
   obtain⟨x,dd,ws,k,e,g,hx⟩:=mH.at i hi
   obtain⟨y,de,us,k',e',g',hy⟩:=mH.at j hj
   unfold kas_ask
   rw [e,e']
   exact BY hu hC' hN' hlt g g' hx hy rfl hc) (by rw [← hlen];exact ja (fun q hq=>⟨rfl,hq.1,hq.2⟩) (uC (C2 ts) (by exact dq .O .s .C (.g .B .W) hlen h2)))
  refine ab (ba (kat_run (ks:=vs) (vs:=vs) (Q:=fun st' s'=>s'={ s with heap:=H }∧∃ p:Array Nat,arrOf st'=p.map (kas_item (vs.toArray.zip vs.toArray))∧failedOf st'=none∧rt ts.length p∧dN (iH ts) p ts.length)
   rfl (by exact dh (.k .W .A) .a (.g .A .W) h2) (by exact dq .bI .e .aD .bD h64 hlen) (fun p st' s' a1 a2 a3 a4=>⟨a4.1,p,a2,a3,a4.2.1,a4.2.2⟩) run) ?_ fun _ _ e=>e)
  rintro ⟨⟨⟩,st'⟩ s' ⟨rfl,p,har,hf,hsh,hup⟩
  dsimp only
  have hout:=kat_snds rfl har
  rw [hout]
  have hps:=hsh.size
  have hol:(p.toList.map fun i=>vs.getD i Value.none).length<64:=by rw [az,Array.length_toList];(exact dq .bI .b .aD .C h64 hps)
  refine ab (seqEpoch_at ho3 rfl ?_)
  refine ab (listUpdate_at ho3 rfl ?_ (br _) (by rw [bh,sizeLine_eq];(exact dh (.k .A (.a .a9 .U)) .a .bI hol)))
  rw [hf]
  simp only [d8,cw,iq]
  refine ae (fin _ hol ?_)
  rw [← nQ hsh hup]
  refine m.pick p.toList fun i hi=>?_
  have:=(yw.mp hsh.perm).mem_iff.mp hi
  simpa using this
theorem wM {C:Cal} {sc:Scope} {d:Nat} {a:Ex} {o:Expr} {apos pos:Pos} (K:pe G) (ha:cz G C sc d a o) (hb:pf o=true) (hline:(apos.endLine==pos.line)=true) :
  cz G C sc d (.bm .sort a .nil) (.Call (.Attribute o "sort" apos) [] [] pos):=fun A E env ρ σ Q s ao ess eo F R h =>
 pa hb rfl (by decide) hline (mr (ha A E env ρ σ _ s ao ess eo F R h) fun v σ₁ h₁ tk w q vr r x pl =>
  kD (k:=.sort) (s:={ s with heap:=h₁,toks:=tk }) r vr q.1 (oz (s:={ s with heap:=h₁,toks:=tk }) rfl jo ao ess eo (F.evo x) r q.2 fun vs σ₂ h₂ tk₂ ws q₂ vrs r₂ x₂=>by
   have vr₂:=vr.mono x₂.frz
   obtain⟨b,rfl,q₃⟩:=rg (v:=v) q₂
   obtain⟨rfl,ts,e,h64,q₃⟩:=sY (vs:=vs) q₃
   obtain rfl:=vrs
   obtain rfl:=vr₂
   obtain⟨us,n,hl,hv⟩:=r₂.L _ _ e
   have hnb:=r₂.new b (.inl (by rw [e];rfl))
   refine jm PySem.F.slot_list_sort ⟨_,hl,rfl⟩ PyProof.Rows.entry_list_sort (o9 (s:={ s with heap:=h₂,toks:=tk₂ }) K (by have:=ao.units;show A.units+1<_;(exact cv (.l .M .B) .a .bH this)) r₂.base hnb hl (Mts.of hv) h64 fun h' vs' k at' hl' m'=>⟨_,rfl,?_⟩) (PyProof.Rows.args_list_sort _)
   have hz:((ts.mergeSort leT).map mtV).length≤ax:=by
    have:=(List.mergeSort_perm ts leT).length_eq
    rw [az,this];unfold ax;(exact dh .bX .a .bI h64)
   have R':=r₂.putL at' (fun q=>by rw [e] at q;cases q) hl' m'.vr hz
   have x':Evo [] σ₂ h₂ (σ₂.ct b ((ts.mergeSort leT).map mtV)) h':=Evo.putL at' (fun q=>by rw [e] at q;cases q) _
   exact⟨.none,_,h',tk₂,rfl,q₃,.none,R',x.trans (x₂.trans x')⟩))
end
end MP
end
section
namespace MP
open PySem PyProof.Rows PySem.W
structure mi (G:Stc) (fN fM:Addr):Prop where
 made:Looks G.M G.hb (Bind.madeBy (.ref G.cM)) none
 here:Looks G.M G.hb (Bind.madeHere "tuple.__new__" (.ref G.cM)) ()
 chk:∀ x,Looks G.M G.hb (checkBuiltinCall "tuple.__new__" ⟨[.ref G.cM,x],[]⟩) ()
 mro:Looks G.M G.hb (mroOf (.ref G.cM)) [.ref G.cM,.type "tuple",.type "object"]
 self:Looks G.M G.hb (isSubtype (.ref G.cM) (.ref G.cM)) true
 tup:Looks G.M G.hb (isSubtype (.ref G.cM) (.type "tuple")) true
 init:Looks G.M G.hb (typeLookup (.ref G.cM) "__init__") (some (.builtin "object.__init__"))
 call:Looks G.M G.hb (specialOf (.ref G.cM) "__call__") (some (.builtin "type.__call__"))
 typ:Looks G.M G.hb (isInstance (.ref G.cM) (.type "type")) true
 isT:Looks G.M G.hb (isType (.ref G.cM)) true
 del:Looks G.M G.hb (classHasDel G.cM) false
 new:∀ (A:Around) (E:Value→Shared→Prop) (s:Shared) (Q:Value→Shared→Prop),(∀ b o,G.hb.get? b=some o→s.heap.get? b=some o)→Q (.ref fN) { s with toks:=s.toks+1 }→wpAny G.M A (getAttr (.ref G.cM) "__new__") Q E s
 make:∀ (A:Around) (E:Value→Shared→Prop) (s:Shared) (expr:Bool) (Q:Value→Shared→Prop),(∀ b o,G.hb.get? b=some o→s.heap.get? b=some o)→Q (.ref s.heap.objs.size) { s with heap:=s.heap.push { cls:=.type "method",data:=.fields #[.ref fM,.ref G.cM] },toks:=s.toks+1 }→wpAny G.M A (getAttr (.ref G.cM) "_make" expr) Q E s
 typNew:∀ (A:Around) (E:Value→Shared→Prop) (s:Shared) (expr:Bool) (Q:Value→Shared→Prop),Q (.builtin "tuple.__new__") { s with toks:=s.toks+1 }→wpAny G.M A (getAttr (.type "tuple") "__new__" expr) Q E s
theorem qG:plainId "tuple.__new__"=true:=by decide +kernel
theorem rG:entryFor table "tuple.__new__"=some Builtin.«tuple.__new__»:=xq (by kernel_rfl)
section
variable {G:Stc} {A:Around} {E:Value→Shared→Prop} {s:Shared} {fN fM:Addr}
noncomputable abbrev wq (G:Stc) (h:Heap):Prop:=∀ b o,G.hb.get? b=some o→h.get? b=some o
theorem uA (K:mi G fN fM) {x:Addr} {ws:List Value} {n:Nat} {Q:Value→Shared→Prop} (hb:wq G s.heap) (hx:IsT s.heap x ws.toArray n) (hz:ws.length≤ax)
  (h:∀ h' y dd,(∀ b o,s.heap.get? b=some o→h'.get? b=some o)→s.heap.get? y=none→h'.get? y=some (vl G.cM dd ws 0)→Q (.ref y) { s with heap:=h' }) :
  wpAny G.M A (call (.builtin "tuple.__new__") [.ref G.cM,.ref x]) Q E s:=by
 refine rx (codeAny_call_builtin qG rG ((K.chk (.ref x)) _ _ _ _ hb ?_))
 unfold Builtin.«tuple.__new__»
 dsimp only
 refine ab (K.isT _ _ _ _ hb ?_)
 simp only [vj,cw,iq]
 refine ab (K.tup _ _ _ _ hb ?_)
 simp only [vj,cw,iq]
 refine ab (K.here _ _ _ _ hb ?_)
 refine ab (K.init _ _ _ _ hb ?_)
 rw [bp (by decide)]
 have hz':ws.toArray.size≤sizeLine:=by rw [bh];exact lq hz
 refine ab (di (a:=()) rfl ?_)
 refine ab (di (a:=()) rfl ?_)
 refine ab ?_
 refine wpAny_collect_seq x (.inr rfl) hx rfl rfl (fun h₁ hk₁=>ab (ae ?_)) hz'
 refine ab (wpAny_alloc ?_)
 unfold newObj newObjAsIs
 dsimp only
 rw [aw (by simp only [bh] at hz' ⊢;(exact av .aM .a .a4 hz'))]
 refine ab (ab (wpAny_alloc ?_))
 have hk:∀ b o,s.heap.get? b=some o→((h₁.push { cls:=.type "dict",data:=.dict #[] }).push (vl G.cM (some h₁.objs.size) ws 0)).get? b=some o:=fun b o e=>aj _ (aj _ (hk₁ b o e))
 have e:ws.toArray.toList.toArray=ws.toArray:=by simp
 refine ab (K.del _ _ _ _ (fun b o e=>hk b o (hb b o e)) ?_)
 simp only [cw,iq]
 refine ae (ae ?_)
 have e2:(h₁.push { cls:=.type "dict",data:=.dict #[] }).objs.size=h₁.objs.size+1:=ez ..
 show Q (.ref (h₁.push { cls:=.type "dict",data:=.dict #[] }).objs.size) _
 refine h _ _ (some h₁.objs.size) hk ?_ (cm _ rfl)
 rw [e2]
 cases hq:s.heap.get? (h₁.objs.size+1) with
 | none=>rfl
 | some o=>exact absurd (et (hk₁ _ _ hq)) (qi.mpr (Nat.le_succ _))
noncomputable def mC (p0 p1 p2 p3 p4 p5 p6 p7 p8 p9 p10:Pos) (doc:Str) (c0 c1:Nat):List Stmt :=
 [.Expr (.Constant (.str doc) c0 p0) p1,.Return (some (.Call (.Attribute (.Name "tuple" p2) "__new__" p3) [.Name "_cls" p4,.Tuple [.Name "a" p5,.Name "b" p6,.Name "size" p7] c1 p8] [] p9)) p10]
noncomputable def tw (more:List (Str × Const)):Scope :=
 { kind:=.function,names:=[("_cls",.local),("a",.local),("b",.local),("size",.local),("tuple",.globalImplicit)],isGenerator:=false,isCoroutine:=false,more:=more }
theorem lP {C:Cal} {sc:Scope} {d:Nat} {x:Str} {k:Nat} {p pos:Pos}:vg G C sc d .pass (.Expr (.Constant (.str x) k p) pos):=fun A E env ρ σ K s ao es eo F R h =>
 wpAny_Expr (by
  show wpAny _ _ (mkText x) _ _ s
  refine wpAny_mkText ?_
  exact my.here .next h F R) (by unfold interactive;rw [eo.kind];rfl) (yb rfl _ _ _)
theorem vE (K:mi G fN fM) {pl:Sem Bool} {Q:Value × List Value→Shared→Prop} (h:Q (.builtin "tuple.__new__",[]) { s with toks:=s.toks+1 }):wpAny G.M A (getMethod (.type "tuple") "__new__" pl) Q E s:=by
 unfold getMethod specialOf
 have ht:typeOf (.type "tuple")=pure (.type "type"):=by first | rfl | kernel_rfl
 refine ab (ab (di ht (di KF.slot_tga.lookup ?_)))
 dsimp only
 rw [bp canon_tga]
 exact ab (K.typNew _ _ _ _ _ (ae h))
variable {σ:St}
theorem kP {C:Cal} {sc:Scope} {d:Nat} {env:Env} {ρ:Fr} {c e:Ex} {xc xe:Expr} {p apos pos:Pos} {vs:List V} {τ:St→Prop} {Q:Value→Shared→Prop} (Kg:GOk G) (K:mi G fN fM) (hc:cz G C sc d c xc) (he:cz G C sc d e xe) (hst:noStar [xc,xe]=true) (hline:(apos.endLine==pos.line)=true)
  (hx:sc.names.lookup ("tuple":Str)=some .globalImplicit) (hg:G.gl "tuple"=some (.type "tuple")) (ao:AOk A d) (es:env.scope=sc) (eo:jl env) (F:FR G σ env ρ s.heap) (R:Rel G σ s.heap)
  (hw:wpE C c ρ σ fun v σ'=>wpE C e ρ σ' fun u σ''=>v=.obj G.cM∧u=.tup vs∧vs.length≤ax∧τ σ'')
  (k:∀ σ₁ h₁ tk y,τ σ₁→VR G h₁ (.mt vs) (.ref y)→Rel G σ₁ h₁→Evo [] σ s.heap σ₁ h₁→Q (.ref y) { s with heap:=h₁,toks:=tk }) :
  wpAny G.M A (eval (.Call (.Attribute (.Name "tuple" p) "__new__" apos) [xc,xe] [] pos) env) Q E s:=by
 refine pa rfl hst (by simp) hline (jh Kg eo R (by rw [es];exact hx) (by decide) hg fun pl=>?_)
 refine vE K ?_
 have hes:ke G C sc d (.cons c (.cons e .nil)) [xc,xe]:=ek hc (ek he jo (cu (cu hst).2).1) (cu hst).1
 refine oz (s:={ s with toks:=s.toks+1 }) (P:=fun us σ=>on2 us fun v u=>v=.obj G.cM∧u=.tup vs∧vs.length≤ax∧τ σ) hst hes ao es eo F R hw fun us σ₁ h₁ tk ws q vr r x₁=>?_
 obtain⟨v,u,rfl,rfl,rfl,hz,q⟩:=gJ (vs:=us) q
 obtain⟨w1,w2,rfl,rfl,a,us,n,rfl,g,rr⟩:=vr.two
 refine uA (s:={ s with heap:=h₁,toks:=tk }) K r.base g (by rw [← rr.length];exact hz) fun h' y dd hk hy hm=>?_
 exact k σ₁ h' tk y q (.mt hm (rr.mono fun b o e _=>hk b o e)) (r.keeps hk) (x₁.trans (Evo.keeps hk))
theorem vn {n:Nat} {dflt:List V} {b:ky} {vs:List V} {i:Nat} {v:V} (h:vs[i]?=some v):frameOf ⟨n,dflt,b⟩ vs i=some v:=by
 unfold frameOf yj
 rw [qt (ay.mp h).1]
 exact h
theorem jQ {d:Nat} {p0 p1 p2 p3 p4 p5 p6 p7 p8 p9 p10:Pos} {doc:Str} {c0 c1:Nat} {more:List (Str × Const)} {x y z:V} {wx wy wz:Value} {Q:V→St→Prop} (Kg:GOk G) (K:mi G fN fM) (Kf:FnAt G fN 4 [] (tw more) (mC p0 p1 p2 p3 p4 p5 p6 p7 p8 p9 p10 doc c0 c1)) (hline:(p3.endLine==p9.line)=true) (hg:G.gl "tuple"=some (.type "tuple"))
  (ao:AOk A (d+1)) (R:Rel G σ s.heap) (vx:VR G s.heap x wx) (vy:VR G s.heap y wy) (vz:VR G s.heap z wz) (h:Q (.mt [x,y,z]) σ):wpAny G.M A (call (.ref fN) [.ref G.cM,wx,wy,wz]) (fx G [] σ s Q) E s:=by
 refine kY (b:=.nil) (vs:=[.obj G.cM,x,y,z]) (d:=d) Kf (fun A' E' env s' ao' es eo F' R'=>?_) ao R (.cons (.obj _) (.cons vx (.cons vy (.cons vz .nil)))) (by simp) (by simp)
 have C0:Cal:=fun _ _ _ _=>False
 have l:∀ (i:Nat) (nm:Str) (p:Pos),(tw more).names[i]?=some (nm,.local)→fy nm=true→cz G C0 (tw more) d (.loc i) (.Name nm p):=fun i nm p hi hn=>h9 hi rfl hn
 refine ou (ba (lP (G:=G) (C:=C0) (sc:=tw more) (d:=d) A' E' env _ σ (fun fl ρ' σ'=>fl=.next∧ρ'=frameOf ⟨4,[],.nil⟩ [.obj G.cM,x,y,z]∧σ'=σ) s' ao' es eo F' R' ⟨rfl,rfl,rfl⟩) (fun f s'' lf=>?_) fun _ _ x=>x)
 obtain⟨fl,ρ',σ',h',tk,rfl,fr,⟨rfl,rfl,hσ⟩,F2,R2,x2⟩:=lf
 rw [hσ] at F2 R2 x2
 cases fr
 refine ou (wpAny_Return_some ?_)
 have ht:cz G C0 (tw more) d (.tup (.cons (.loc 1) (.cons (.loc 2) (.cons (.loc 3) .nil)))) (.Tuple [.Name "a" p5,.Name "b" p6,.Name "size" p7] c1 p8) :=
  sO (ek (l 1 _ _ rfl (by decide)) (ek (l 2 _ _ rfl (by decide)) (ek (l 3 _ _ rfl (by decide)) jo fun _=>rfl) fun _=>rfl) fun _=>rfl)
 refine kP (s:={ s' with heap:=h',toks:=tk }) (vs:=[x,y,z]) (τ:=fun σ'=>σ'=σ) Kg K (l 0 _ _ rfl (by decide)) ht rfl hline rfl hg ao' es eo F2 R2 ?_ fun σ₁ h₁ tk₁ yy q vr r x₁=>?_
 ·refine⟨.obj G.cM,vn rfl,x,vn rfl,y,vn rfl,z,vn rfl,by simp [ax],rfl,rfl,by simp [ax],rfl⟩
 ·rw [q] at r x₁
  exact⟨.ret (.mt [x,y,z]),_,σ,h₁,tk₁,rfl,.ret vr,h,F2.evo x₁,r,x2.trans (x₁.wide env)⟩
end
end MP
end
section
namespace MP
open PySem PyProof.Rows PySem.W
theorem iD:Slot "object" "__init__" "object.__init__" :=
 Slot.of (owner:="object") (n:="__init__") (by rw [fq,dw];kernel_rfl) (by decide +kernel) (by decide +kernel) (by decide +kernel) (.inl (by decide +kernel)) (by rw [jv];kernel_rfl)
theorem nY:entryFor table "object.__init__"=some Builtin.«object.__init__»:=xq (by kernel_rfl)
theorem qJ:builtinKind "object.__init__"=some .slot:=by kernel_rfl
theorem nX:splitId "object.__init__"=some ("object","__init__"):=by kernel_rfl
theorem qK (a:Value) (rest:List Value):argsOk "object.__init__" ⟨a::rest,[]⟩:=by unfold argsOk;kernel_rfl
section
variable {G:Stc} {A:Around} {E:Value→Shared→Prop} {s:Shared} {fN fM:Addr} {σ:St}
theorem iJ (K:mi G fN fM) {h:Heap} {y:Addr} {dd:Option Addr} {ws:List Value} {n:Nat} {base:Value} {r:Bool} (hb:wq G h) (hy:h.get? y=some (vl G.cM dd ws n)) (hs:Looks G.M G.hb (isSubtype (.ref G.cM) base) r):Looks G.M h (isInstance (.ref y) base) r:=fun A Q E s hk hq=>by
 unfold isInstance typeOf
 refine ab (ab (eY (hk _ _ hy) (ae ?_)))
 exact hs _ _ _ _ (fun b o e=>hk _ _ (hb _ _ e)) hq
theorem vC (K:mi G fN fM) {y:Addr} {dd:Option Addr} {ws:List Value} {n:Nat} {rest:List Value} {P:Fin→Shared→Prop} (hb:wq G s.heap) (hy:s.heap.get? y=some (vl G.cM dd ws n)) (hq:P (.done (.ret .none)) s) :
  wpAny G.M A (Builtin.«object.__init__» ⟨.ref y::rest,[]⟩) P E s:=by
 have hty:∀ {R:Value→Shared→Prop},R (.ref G.cM) s→wpAny G.M A (typeOf (.ref y)) R E s:=fun {R} hr=>by
  unfold typeOf
  exact ab (eY hy (ae hr))
 unfold Builtin.«object.__init__»
 dsimp only
 by_cases hr:(!rest.isEmpty||!([]:List (Str × Value)).isEmpty)=true
 ·rw [bp hr]
  refine ab (hty (ab (K.init _ _ _ _ hb (ab (K.made _ _ _ _ hb ?_)))))
  have e1:(some (Value.builtin "object.__init__") != some (Value.builtin "object.__init__"))=false:=d8 _
  have e2:((none:Option String) != some "object.__new__")=true:=rfl
  rw [e1,e2]
  exact ae hq
 ·rw [aw hr]
  exact ae hq
theorem vD (K:mi G fN fM) (hobj:Looks G.M G.hb (isSubtype (.ref G.cM) (.type "object")) true) {y:Addr} {dd:Option Addr} {ws:List Value} {n:Nat} {rest:List Value} {Q:Value→Shared→Prop} (hb:wq G s.heap) (hy:s.heap.get? y=some (vl G.cM dd ws n)) (hq:Q .none s) :
  wpAny G.M A (call (.builtin "object.__init__") (.ref y::rest)) Q E s:=by
 have ck:∀ (A:Around) (E:Value→Shared→Prop) (R:Unit→Shared→Prop),R () s→wpAny G.M A (checkBuiltinCall "object.__init__" ⟨.ref y::rest,[]⟩) R E s:=fun A E R hr =>
  check_slot (M:=G.M) (i:="object.__init__") (owner:="object") (n:="__init__") (self:=.ref y) (rest:=rest) (kw:=[]) qJ nX (iJ K hb hy hobj) (qK (.ref y) rest) hr
 refine rx ?_
 refine codeAny_call_builtin (id:="object.__init__") (b:=Builtin.«object.__init__») iD.plain nY ?_
 refine ck _ _ _ ?_
 exact vC K hb hy hq
theorem lM (K:mi G fN fM) (hobj:Looks G.M G.hb (isSubtype (.ref G.cM) (.type "object")) true) {y:Addr} {dd:Option Addr} {ws:List Value} {n:Nat} {rest:List Value} {Q:Option Value→Shared→Prop} (hb:wq G s.heap) (hy:s.heap.get? y=some (vl G.cM dd ws n)) (hq:Q (some .none) s) :
  wpAny G.M A (callSpecial? (.ref y) "__init__" rest []) Q E s:=by
 have hty:∀ {R:Value→Shared→Prop},R (.ref G.cM) s→wpAny G.M A (typeOf (.ref y)) R E s:=fun {R} hr=>by
  unfold typeOf
  exact ab (eY hy (ae hr))
 have hsp:∀ {R:Option Value→Shared→Prop},R (some (.builtin "object.__init__")) s→wpAny G.M A (specialOf (.ref y) "__init__") R E s:=fun {R} hr=>by
  unfold specialOf
  exact ab (hty (K.init _ _ _ _ hb hr))
 unfold callSpecial?
 refine ab (hsp ?_)
 dsimp only
 refine bu ?_
 refine ab (di (iD.bind (.ref y)) ?_)
 refine ab ?_
 exact vD K hobj hb hy (ae hq)
structure lC (G:Stc) (fN:Addr):Prop where
 fn:∃ p0 p1 p2 p3 p4 p5 p6 p7 p8 p9 p10 doc c0 c1 more,FnAt G fN 4 [] (tw more) (mC p0 p1 p2 p3 p4 p5 p6 p7 p8 p9 p10 doc c0 c1)∧(p3.endLine==p9.line)=true
 tup:G.gl "tuple"=some (.type "tuple")
 obj:Looks G.M G.hb (isSubtype (.ref G.cM) (.type "object")) true
theorem hZ {d:Nat} {x y z:V} {wx wy wz:Value} {Q:V→St→Prop} {P:Fin→Shared→Prop} (Kg:GOk G) (K:mi G fN fM) (Kn:lC G fN) (ao:AOk A (d+1)) (R:Rel G σ s.heap) (vx:VR G s.heap x wx) (vy:VR G s.heap y wy) (vz:VR G s.heap z wz) (h:Q (.mt [x,y,z]) σ)
  (hP:∀ w s',fx G [] σ s Q w s'→P (.done (.ret w)) s'):wpAny G.M A (Builtin.«type.__call__» ⟨[.ref G.cM,wx,wy,wz],[]⟩) P E s:=by
 obtain⟨p0,p1,p2,p3,p4,p5,p6,p7,p8,p9,p10,doc,c0,c1,more,Kf,hline⟩:=Kn.fn
 have hb:wq G s.heap:=R.base
 unfold Builtin.«type.__call__»
 dsimp only
 rw [aw (show ¬ ((Value.ref G.cM==Value.type "type")=true) from og)]
 refine ab (K.mro _ _ _ _ hb ?_)
 rw [aw (by simp)]
 refine ab (K.made _ _ _ _ hb ?_)
 dsimp only
 refine ab (K.new _ _ _ _ hb ?_)
 refine ab (bu ?_)
 refine ba (jQ (s:={ s with toks:=s.toks+1 }) (Q:=fun v σ'=>v=.mt [x,y,z]∧σ'=σ) Kg K Kf hline Kn.tup ao R vx vy vz ⟨rfl,rfl⟩) (fun w s' l=>?_) fun _ _ e=>e
 obtain⟨v,σ',h',tk,rfl,⟨rfl,hσ⟩,vr,r,x'⟩:=l
 rw [hσ] at r x'
 obtain⟨yy,ws,n,dd,rfl,g,rr⟩:=vr
 have hb':wq G h':=r.base
 refine ab ((iJ K hb' g K.self) _ _ _ { s with heap:=h',toks:=tk } (fun _ _ e=>e) ?_)
 simp only [vj,cw,iq]
 refine ab (bu (lM (s:={ s with heap:=h',toks:=tk }) K Kn.obj hb' g ?_))
 simp only [d8,cw,iq]
 exact ae (hP _ _ ⟨_,σ,h',tk,rfl,h,.mt g rr,r,x'⟩)
theorem rT {d:Nat} {x y z:V} {wx wy wz:Value} {Q:V→St→Prop} (Kg:GOk G) (K:mi G fN fM) (Kn:lC G fN) (Km:pe G) (ao:AOk A (d+2)) (R:Rel G σ s.heap) (vx:VR G s.heap x wx) (vy:VR G s.heap y wy) (vz:VR G s.heap z wz) (h:Q (.mt [x,y,z]) σ) :
  wpAny G.M A (call (.ref G.cM) [wx,wy,wz]) (fx G [] σ s Q) E s:=by
 obtain⟨N,mN,nm,q,k0,k2,k3,hC,hN,_⟩:=Km.here
 have hC':=R.base _ _ hC
 refine rx (zw ?_)
 show wpAny _ A.in1 (callAny (.ref G.cM) ⟨[wx,wy,wz],[]⟩) _ _ s
 unfold callAny
 refine ab (uj hC' ?_)
 show wpAny _ _ (callAny.viaDunder (.ref G.cM) ⟨[wx,wy,wz],[]⟩) _ _ s
 unfold callAny.viaDunder
 refine ab (K.call _ _ _ _ R.base ?_)
 dsimp only
 refine ab (di (tc_bind (.ref G.cM)) ?_)
 dsimp only
 refine ab (di (a:=true) (by rfl) ?_)
 rw [bp rfl]
 refine ae ⟨rfl,?_⟩
 refine codeAny_call_builtin_at (Code.quiet_builtin _ (by decide +kernel)) entry_typeCall ?_
 refine check_slot (M:=G.M) (i:="type.__call__") (owner:="type") (n:="__call__") tc_kind tc_split (K.typ.keeps R.base) (tc_args _ _ _) ?_
 refine hZ (d:=d) Kg K Kn (ao.make _ _) R vx vy vz h fun w s' l=>?_
 exact l
end
end MP
end
section
namespace MP
open PySem PyProof.Rows PySem.W
section
variable {G:Stc} {A:Around} {E:Value→Shared→Prop} {s:Shared} {fN fM:Addr} {σ:St}
theorem j7 (K:mi G fN fM) (Km:pe G) {pos:Pos} {args:List (Bool × Sem Value)} {Q:Value→Shared→Prop} (hplain:args.any (·.1)=false)
  (h:wpAny G.M A (evalArgs (.ref G.cM) true args []) (fun x s₁=>wq G s₁.heap∧wpAny G.M A (call (.ref G.cM) x.pos x.kw) Q E s₁) E s):wpAny G.M A (callWith pos (.ref G.cM) [] args []) Q E s:=by
 obtain⟨N,mN,nm,q,k0,k2,k3,hC,hN,_⟩:=Km.here
 unfold callWith
 refine ab (bu (ba h (fun x s₁ h₁=>ab (fg ?_)) fun _ _ x=>x))
 obtain⟨hb,hcall⟩:=h₁
 simp only [hplain,List.any_nil,dU]
 refine ab (m:=keeperOf (.ref G.cM)) ?_
 unfold keeperOf
 refine ab (uj (hb _ _ hC) ?_)
 refine ab (K.call _ _ _ _ hb ?_)
 rw [bp (by decide)]
 refine ae ?_
 exact ab (ba hcall (fun r s₂ hr=>ab (bu (wpAny_point (ae hr)))) fun _ _ x=>x)
theorem lN {C:Cal} {sc:Scope} {d:Nat} {a b c:Ex} {x:Str} {xa xb xc:Expr} {p pos:Pos} (Kg:GOk G) (K:mi G fN fM) (Kn:lC G fN) (Km:pe G) (hd:2≤d) (ha:cz G C sc d a xa) (hb:cz G C sc d b xb) (hc:cz G C sc d c xc) (hst:noStar [xa,xb,xc]=true)
  (hx:sc.names.lookup x=some .globalImplicit) (hn:fy x=true) (hv:G.gl x=some (.ref G.cM)):cz G C sc d (.newMatch a b c) (.Call (.Name x p) [xa,xb,xc] [] pos):=fun A E env ρ σ Q s ao es eo F R h=>by
 have hes:ke G C sc d (.cons a (.cons b (.cons c .nil))) [xa,xb,xc]:=ek ha (ek hb (ek hc jo (cu (cu (cu hst).2).2).1) (cu (cu hst).2).1) (cu hst).1
 have ao':AOk A (d-2+2):=by rw [aa hd];exact ao
 refine Call_ (jh Kg eo R (by rw [es];exact hx) hn hv (j7 K Km (gi hst pos env) (ki (gi hst pos env) (jJ (P:=fun vs σ=>on3 vs fun x y z=>Q (.mt [x,y,z]) σ) (hes A E env ρ σ _ s pos ao es eo F R h) fun vs σ₁ h₁ tk ws q vr r x₁=>⟨r.base,?_⟩))))
 obtain⟨u1,u2,u3,rfl,q⟩:=DL q
 obtain⟨w1,w2,w3,rfl,va,vb,vc⟩:=vr.three
 exact ba (rT (s:={ s with heap:=h₁,toks:=tk }) Kg K Kn Km ao' r va vb vc q) (fun _ _ l=>fx.back x₁ l) fun _ _ x=>x
theorem pS:splitId "tuple.__len__"=some ("tuple","__len__"):=by kernel_rfl
theorem v8:builtinKind "tuple.__len__"=some .slot:=by kernel_rfl
end
section
variable {prog:Program} {w:World} {A:Around} {E:Value→Shared→Prop} {h:Heap} {g:Array GenState} {d:Drawn} {t:Nat} {os:OsState} {C N:Addr} {nm q:Str} {k0 k2 k3:Option Value} {mN:Str→Option Value} {dd:Option Addr}
theorem H8 {x:Addr} {ws:List Value} {n:Nat} {Q:Value→Shared→Prop} (hC:h.get? C=some (zr C N nm q k0 k2 k3)) (hn:h.Ns N mN) (hl:mN "__len__"=none) (hx:h.get? x=some (vl C dd ws n)) (hz:ws.length≤ax)
  (hQ:∀ u tk,Q (.int ws.length u) ⟨h,g,d,tk,os⟩):wpAny (model prog w) A (call (.builtin "len") [.ref x]) Q E ⟨h,g,d,t,os⟩:=by
 refine Calls.call_function_entry kind_len plain_len entry_len (args_len1 _) ?_
 unfold Builtin.«len»
 have hlk:=PySem.F.slot_tuple_len.lookup
 have hx2:h.get? x=some { cls:=.ref C,dict:=dd,data:=.seq ws.toArray n,slots:=#[] }:=hx
 unfold ax at hz
 repeat (first | (with_reducible refine nc hx2 ?_) | (with_reducible refine sv hC hn hlk ?_;rw [hl]) | wp_step)
 refine di (PySem.F.slot_tuple_len.bind (.ref x)) ?_
 dsimp only
 refine ab (qR hC hx pS (.inl v8) PySem.F.slot_tuple_len.plain PySem.F.entry_tuple_len (PySem.F.args_tuple_len_1 _) ?_)
 unfold Builtin.«tuple.__len__»
 refine ab (di (a:=(.ref x,[])) (by rfl) ?_)
 dsimp only
 refine ab (m:=Builtin.Tuple.tupleItemsOf (.ref x)) (ab (ju hx2 rfl (ae ?_)))
 refine ab (wpAny_mkInt (ae ⟨_,rfl,ae ?_⟩))
 dsimp only
 refine ab (bu ?_)
 refine di (a:=((ws.toArray.size:Nat):Int)) (by rfl) ?_
 refine ab (yq ?_)
 rw [aw (by simp),aw (by simp only [bh];(exact dh (.ij .M .L) .a .bX hz))]
 refine ab (wpAny_mkInt (ae ⟨_,rfl,?_⟩))
 simpa using hQ _ _
end
section
variable {G:Stc} {A:Around} {E:Value→Shared→Prop} {s:Shared} {fN fM:Addr} {σ:St}
noncomputable def iF (p:Fin 20→Pos) (doc:Str) (c0 c1:Nat) (rest:List Stmt):List Stmt :=
 [.Expr (.Constant (.str doc) c0 (p 0)) (p 1),.Assign [.Name "result" (p 2)] (.Call (.Attribute (.Name "tuple" (p 3)) "__new__" (p 4)) [.Name "cls" (p 5),.Name "iterable" (p 6)] [] (p 7)) (p 8),
  .If (.Compare (.Call (.Name "len" (p 9)) [.Name "result" (p 10)] [] (p 11)) [.NotEq] [.Constant (.int 3) c1 (p 12)] (p 13)) rest [] (p 14),.Return (some (.Name "result" (p 15))) (p 16)]
noncomputable def ku (ns:List (Str × NameKind)) (more:List (Str × Const)):Scope :=
 { kind:=.function,names:=("cls",.local)::("iterable",.local)::("result",.local)::ns,isGenerator:=false,isCoroutine:=false,more:=more }
theorem vN {d:Nat} {p:Fin 20→Pos} {doc:Str} {c0 c1:Nat} {rest:List Stmt} {ns:List (Str × NameKind)} {more:List (Str × Const)} {x y z:V} {w:Value} {Q:V→St→Prop} (Kg:GOk G) (K:mi G fN fM) (Km:pe G) (Kf:FnAt G fM 2 [] (ku ns more) (iF p doc c0 c1 rest)) (hline:((p 4).endLine==(p 7).line)=true) (hg:G.gl "tuple"=some (.type "tuple")) (hlen:G.gl "len"=some (.builtin "len"))
  (ht:(ku ns more).names.lookup ("tuple":Str)=some .globalImplicit) (hl:(ku ns more).names.lookup ("len":Str)=some .globalImplicit)
  (ao:AOk A (d+1)) (R:Rel G σ s.heap) (vx:VR G s.heap (.tup [x,y,z]) w) (h:Q (.mt [x,y,z]) σ):codeAny G.M A (.call (.ref fM) ⟨[.ref G.cM,w],[]⟩) (wants (fx G [] σ s Q) E) s:=by
 obtain⟨N,mN,nm,q,k0,k2,k3,hC,hN,_,_,hln,_⟩:=Km.here
 refine kW (b:=.nil) (vs:=[.obj G.cM,.tup [x,y,z]]) (d:=d) Kf (fun A' E' env s' ao' es eo F' R'=>?_) ao R (.cons (.obj _) (.cons vx .nil)) (by simp) (by simp)
 have C0:Cal:=fun _ _ _ _=>False
 have l:∀ (i:Nat) (nm:Str) (p:Pos),(ku ns more).names[i]?=some (nm,.local)→fy nm=true→cz G C0 (ku ns more) d (.loc i) (.Name nm p):=fun i nm p hi hn=>h9 hi rfl hn
 refine ou (ba (lP (G:=G) (C:=C0) (sc:=ku ns more) (d:=d) A' E' env _ σ (fun fl ρ' σ'=>fl=.next∧ρ'=frameOf ⟨2,[],.nil⟩ [.obj G.cM,.tup [x,y,z]]∧σ'=σ) s' ao' es eo F' R' ⟨rfl,rfl,rfl⟩) (fun f s'' lf=>?_) fun _ _ x=>x)
 obtain⟨fl,ρ',σ',h',tk,rfl,fr,⟨rfl,rfl,hσ⟩,F2,R2,x2⟩:=lf
 rw [hσ] at F2 R2 x2
 cases fr
 refine ou ?_
 rw [exec_Assign]
 refine ab (fg ?_)
 rw [sd rfl]
 refine ab (ae ?_)
 rw [aw (by decide)]
 refine ab (kP (s:={ s' with heap:=h',toks:=tk }) (vs:=[x,y,z]) (τ:=fun σ'=>σ'=σ) Kg K (l 0 _ _ rfl (by decide)) (l 1 _ _ rfl (by decide)) rfl hline ht hg ao' es eo F2 R2 ⟨.obj G.cM,vn rfl,.tup [x,y,z],vn rfl,rfl,rfl,by simp [ax],rfl⟩ fun σ₁ h₁ tk₁ yy q₁ vr r x₁=>?_)
 rw [q₁] at r x₁
 rw [lL (sc:=ku ns more) (r:=none) rfl es (by unfold Env.blockKind;rw [eo.kind];rfl)]
 refine ab (ae ?_)
 show wpAny G.M A' (do assignAll (.ref yy) [assign (.Name "result" (p 2)) env];pure Flow.next) _ _ _
 refine ab ?_
 show wpAny G.M A' (assign (.Name "result" (p 2)) env (.ref yy)) _ _ _
 refine assign_Name (tf (s:={ s' with heap:=h₁,toks:=tk₁ }) (i:=2) (k:=.local) eo (F2.evo x₁) r (by rw [es];rfl) rfl vr fun h₃ tk₃ F3 R3 x3=>ae ?_)
 dsimp only
 obtain⟨_,ws,n,dd,ey,g,rr⟩:=vr.mono x3.frz
 cases ey
 have hwl:=rr.length
 have hres:upd (frameOf ⟨2,[],.nil⟩ [.obj G.cM,.tup [x,y,z]]) 2 (V.mt [x,y,z]) 2=some (.mt [x,y,z]):=bc _ _ _
 refine ou (wpAny_If ?_)
 refine xf ?_ rfl
 have hb3:wq G h₃:=R3.base
 have hld:∀ (E:Value→Shared→Prop) (Q:Value→Shared→Prop) (tk:Nat) (pp:Pos),(∀ w,VR G h₃ (.mt [x,y,z]) w→Q w { s' with heap:=h₃,toks:=tk })→wpAny G.M A' (eval (.Name "result" pp) env) Q E { s' with heap:=h₃,toks:=tk }:=fun E Q tk pp hq =>
  wpAny_Name (eA (s:={ s' with heap:=h₃,toks:=tk }) (i:=2) (k:=.local) eo F3 (by rw [es];rfl) rfl (by decide) hres hq) (by decide)
 refine Call_ (jh (s:={ s' with heap:=h₃,toks:=tk₃ }) Kg eo R3 (by rw [es];exact hl) (by decide) hlen ?_)
 refine Calls.callWith_builtin rfl (Calls.evalArgs_plain (Calls.spliced_cons (hld _ _ _ _ fun w vrw=>wd ?_)))
 obtain⟨yy',ws',n',dd',rfl,g',rr'⟩:=vrw
 have hwl':=rr'.length
 refine H8 (g:=s'.gens) (d:=s'.drawn) (t:=tk₃) (os:=s'.os) (hb3 _ _ hC) (hN.keeps hb3) hln g' (by rw [← hwl'];simp [ax]) fun u tk4=>?_
 refine wpAny_Constant_int ?_
 rw [← hwl']
 refine ne_int (mz ?_)
 have e:((([x,y,z]:List V).length:Int) != 3)=false:=rfl
 rw [e]
 refine wpAny_execs_nil ?_
 dsimp only
 refine ou (wpAny_Return_some (hld _ _ _ _ fun w2 vr2=>?_))
 exact⟨.ret (.mt [x,y,z]),_,σ,h₃,_,rfl,.ret vr2,h,F3,R3,x2.trans ((x₁.wide env).trans x3)⟩
end
end MP
end
section
namespace MP
open PySem PyProof.Rows PySem.W
theorem kI:Manifest.owners.lookup (String.ofList ['p','a','m'].reverse)=some Manifest.sig_map:=by kernel_rfl
theorem uw:Slot "map" "__next__" "map.__next__" :=
 .of (owner:="map") (n:="__next__") (by rw [fq,dw];kernel_rfl) (by decide +kernel) (by decide +kernel) (by decide +kernel)
  (by first | exact .inl (by decide +kernel) | exact .inr (by decide +kernel)) (by rw [jv];kernel_rfl)
theorem cO:Slot "map" "__iter__" "map.__iter__" :=
 .of (owner:="map") (n:="__iter__") (by rw [fq,dw];kernel_rfl) (by decide +kernel) (by decide +kernel) (by decide +kernel)
  (by first | exact .inl (by decide +kernel) | exact .inr (by decide +kernel)) (by rw [jv];kernel_rfl)
theorem jI:Slot "map" "__init__" "object.__init__" :=
 .of (owner:="object") (n:="__init__") (by rw [fq,dw];kernel_rfl) (by decide +kernel) (by decide +kernel) (by decide +kernel)
  (by first | exact .inl (by decide +kernel) | exact .inr (by decide +kernel)) (by rw [jv];kernel_rfl)
theorem iW:entryFor table "map.__next__"=some Builtin.«map.__next__»:=xq (by kernel_rfl)
theorem jM:entryFor table "map.__new__"=some Builtin.«map.__new__»:=xq (by kernel_rfl)
theorem iX:entryFor table "map.__iter__"=some Builtin.«dict_keyiterator.__iter__» :=
 entryFor_alias (id':="dict_keyiterator.__iter__") (by kernel_rfl) (by first | rfl | decide +kernel | (unfold String.splitOn;simp +decide [String.splitOnAux])) (by decide +kernel) (by kernel_rfl)
theorem jS (a:Value):argsOk "map.__next__" ⟨[a],[]⟩:=by
 unfold argsOk;rw [gX (id:="map.__next__") (n:=['_','_','t','x','e','n','_','_']) (o:=['p','a','m']) (by kernel_rfl) kI];kernel_rfl
theorem jT (a:Value):argsOk "map.__iter__" ⟨[a],[]⟩:=by
 unfold argsOk;rw [gX (id:="map.__iter__") (n:=['_','_','r','e','t','i','_','_']) (o:=['p','a','m']) (by kernel_rfl) kI];kernel_rfl
theorem pE (a b c:Value):argsOk "object.__init__" ⟨[a,b,c],[]⟩:=by
 unfold argsOk;rw [gX (id:="object.__init__") (n:=['_','_','t','i','n','i','_','_']) (o:=['t','c','e','j','b','o']) (by kernel_rfl) F.owner_object];kernel_rfl
theorem sZ:mroOf (.type "map")=pure [.type "map",.type "object"]:=by rw [mroOf_type];kernel_rfl
theorem iI:typeLookup (.type "map") "__new__"=pure (some (.builtin "map.__new__")):=by rw [fq,dw];kernel_rfl
theorem rR:TypeCalled "map" "map.__new__" "object.__init__" :=
 ⟨by decide +kernel,by decide +kernel,⟨_,_,sZ⟩,madeBy_type sZ iI (by decide +kernel),by decide +kernel,by rw [jv];kernel_rfl,jI⟩
theorem lH (a b:Value):checkTypeCall "map" ⟨[a,b],[]⟩=pure ():=by kernel_rfl
theorem o6 (a b:Value):checkBuiltinCall "map.__new__" ⟨[.type "map",a,b],[]⟩=pure ():=by kernel_rfl
theorem qN:typeLookup (.type "map") "__len__"=pure none:=by rw [fq,dw];kernel_rfl
theorem o8:typeLookup (.type "map") "__length_hint__"=pure none:=by rw [fq,dw];kernel_rfl
theorem AM:isSubtype (.type "map") (.type "map")=pure true:=by rw [jv];kernel_rfl
end MP
end
section
namespace MP
open PySem PyProof.Rows PySem.W
noncomputable abbrev gQ (h:Heap) (m t it:Addr) (f:Value):Prop:=h.get? m=some { cls:=.type "map",data:=.fields #[.ref t,f] }∧h.get? t=some { cls:=.type "tuple",data:=.seq #[.ref it] }
section
variable {prog:Program} {w:World} {A:Around} {E:Value→Shared→Prop} {s:Shared}
theorem BW (f:Value) (l:Addr) (items:Array Value) :
  Meets (Builtin.«map.__new__» ⟨[.type "map",f,.ref l],[]⟩) (fun _ R s=>s.heap.IsList l items ∧
   R (.ok (.ret (.ref (s.heap.objs.size+2)))) { s with heap:=((s.heap.push { cls:=.type "list_iterator",data:=.fields #[.ref l,.int 0 0] }).push { cls:=.type "tuple",data:=.seq #[.ref s.heap.objs.size] }).push { cls:=.type "map",data:=.fields #[.ref (s.heap.objs.size+1),f] } }) :=
 .of_wp fun prog w A R s h=>by
  obtain⟨hL,h⟩:=h
  have e1:(s.heap.push { cls:=.type "list_iterator",data:=.fields #[.ref l,.int 0 0] }).objs.size=s.heap.objs.size+1:=ez ..
  unfold Builtin.«map.__new__» Builtin.SmallTypes.newClass
  refine ab ?_
  dsimp only
  refine ab (di (a:=true) (by rfl) ?_)
  rw [aw (by decide)]
  refine ab (di (a:=true) AM ?_)
  rw [aw (by decide)]
  refine ae ?_
  dsimp only
  refine ab (di (a:=()) (by rfl) ?_)
  rw [aw (by simp)]
  unfold Builtin.SmallTypes.iterAll
  refine ab ?_
  simp only [List.drop_succ_cons,List.drop_zero,lp,jy]
  refine ab (ab (ab (bu (wpAny_pyIter_list hL (ae ?_)))))
  dsimp only
  refine ae (ae ?_)
  show wpAny _ _ (newTuple [Value.ref s.heap.objs.size]>>=_) _ _ _
  refine ab (m:=newTuple _) (gy ?_ (by first | size_fits | rfl))
  refine ab ?_
  show wpAny _ _ (newObj (.type "map") (.fields [_,_].toArray)) _ _ _
  refine gy ?_ (by first | size_fits | rfl)
  refine ae ⟨_,rfl,?_⟩
  have e2:((s.heap.push { cls:=.type "list_iterator",data:=.fields #[.ref l,.int 0 0] }).push { cls:=.type "tuple",data:=.seq #[.ref s.heap.objs.size] }).objs.size=s.heap.objs.size+2:=by rw [ez,e1]
  simp only [Array.toList_push,List.nil_append,e1,e2,List.headD]
  exact h
theorem zJ {f:Value} {l:Addr} {items:Array Value} {Q:Value→Shared→Prop} (hL:s.heap.IsList l items)
  (h:∀ h',gQ h' (s.heap.objs.size+2) (s.heap.objs.size+1) s.heap.objs.size f→h'.IsListIter s.heap.objs.size l 0→h'.objs.size=s.heap.objs.size+3→(∀ b o,s.heap.get? b=some o→h'.get? b=some o)→Q (.ref (s.heap.objs.size+2)) { s with heap:=h' }) :
  wpAny (model prog w) A (call (.type "map") [f,.ref l]) Q E s:=by
 refine callType_new rR (by decide) (lH _ _) (o6 _ _) (fun obj=>pE obj _ _) jM (BW f l items) ⟨hL,?_⟩
 have e1:(s.heap.push { cls:=.type "list_iterator",data:=.fields #[.ref l,.int 0 0] }).objs.size=s.heap.objs.size+1:=ez ..
 have e2:((s.heap.push { cls:=.type "list_iterator",data:=.fields #[.ref l,.int 0 0] }).push { cls:=.type "tuple",data:=.seq #[.ref s.heap.objs.size] }).objs.size=s.heap.objs.size+2:=by rw [ez,e1]
 have hm:=cm ((s.heap.push { cls:=.type "list_iterator",data:=.fields #[.ref l,.int 0 0] }).push { cls:=.type "tuple",data:=.seq #[.ref s.heap.objs.size] }) (o:={ cls:=.type "map",data:=.fields #[.ref (s.heap.objs.size+1),f] }) rfl
 have ht:=cm (s.heap.push { cls:=.type "list_iterator",data:=.fields #[.ref l,.int 0 0] }) (o:={ cls:=.type "tuple",data:=.seq #[.ref s.heap.objs.size] }) rfl
 rw [e2] at hm
 rw [e1] at ht
 exact⟨⟨_,hm,rfl⟩,h _ ⟨hm,aj _ ht⟩ ⟨_,aj _ (aj _ (cm _ rfl)),rfl,rfl⟩ (by rw [ez,e2]) fun b o x=>aj _ (aj _ (aj _ x))⟩
theorem oX {me f:Addr} {v:Value} {args:List Value} {R:Result→Shared→Prop} (ho:s.heap.get? me=some { cls:=.type "method",data:=.fields #[.ref f,v] }) (h:codeAny (model prog w) A (.call (.ref f) ⟨v::args,[]⟩) R s):codeAny (model prog w) A (.call (.ref me) ⟨args,[]⟩) R s:=by
 refine zw ?_
 show wpAny _ _ (callAny (.ref me) ⟨args,[]⟩) _ _ _
 unfold callAny
 refine ab (uj ho ?_)
 dsimp only
 rw [bp (by decide)]
 exact ae ⟨rfl,h⟩
theorem qF {m t it:Addr} {f:Value} {Q:Value→Shared→Prop} (hm:gQ s.heap m t it f) (h:Q (.ref m) s):wpAny (model prog w) A (pyIter (.ref m)) Q E s:=by
 have hT:s.TypeIs (.ref m) "map":=⟨_,hm.1,rfl⟩
 refine wpAny_pyIter_slot hT cO (jm cO hT iX ?_ (jT _))
 show wpAny _ _ (ret (.ref m)) _ _ s
 exact ae ⟨_,rfl,"map",_,hT,uw.lookup,h⟩
theorem iA {m t it:Addr} {f:Value} {Q:Option Value→Shared→Prop} (hm:gQ s.heap m t it f)
  (h:wpAny (model prog w) A.in1 (Builtin.SmallTypes.nextOf (.ref it)) (fun x s₁=>gQ s₁.heap m t it f∧wpAny (model prog w) A.in1 (call f [x]) (fun v s'=>Q (some v) s') (fun _ _=>False) s₁) (fun e s'=>s'.TypeIs e "StopIteration"∧Q none s') s):wpAny (model prog w) A (pyNext (.ref m)) Q E s:=by
 have hT:s.TypeIs (.ref m) "map":=⟨_,hm.1,rfl⟩
 unfold pyNext
 refine ab (wpAny_attempt (ur (name:=Str.ofString "__next__") hT uw (jm uw hT iW ?_ (jS _))))
 show wpAny _ _ (field (.ref m) 0>>=_) _ _ s
 refine ab (gS hm.1 rfl (x:=.ref t) rfl ?_)
 refine ab (ju hm.2 rfl ?_)
 dsimp only
 refine ab ?_
 simp only [List.forIn_toArray,lp,jy]
 refine ab (ab (bu (ba h (fun x s₁ h₁=>ae ?_) fun e s₁ h₁=>?_)))
 ·dsimp only
  refine ae ?_
  obtain⟨hm₁,h₁⟩:=h₁
  refine ab (gS hm₁.1 rfl (x:=f) rfl ?_)
  refine ab (bu (ba h₁ (fun v s₂ h₂=>?_) fun _ _ x=>x.elim))
  exact ab (yq (ae ⟨_,rfl,ae h₂⟩))
 ·exact ab (wpAny_isInstance (T:="StopIteration") (b:=true) h₁.1 isSubtype_stop (ae h₁.2))
end
end MP
end
section
namespace MP
open PySem PyProof.Rows PySem.W
structure jA (G:Stc) (fM:Addr):Prop where
 here:∃ (p:Fin 20→Pos) (doc:Str) (c0 c1:Nat) (rest:List Stmt) (ns:List (Str × NameKind)) (more:List (Str × Const)),FnAt G fM 2 [] (ku ns more) (iF p doc c0 c1 rest)∧((p 4).endLine==(p 7).line)=true ∧
  (ku ns more).names.lookup ("tuple":Str)=some .globalImplicit∧(ku ns more).names.lookup ("len":Str)=some .globalImplicit
 tup:G.gl "tuple"=some (.type "tuple")
 len:G.gl "len"=some (.builtin "len")
theorem ze (σ:St) (a:Addr) (xs ys:List V):(σ.ct a xs).ct a ys=σ.ct a ys:=by
 unfold St.ct
 congr 1
 funext j
 simp only [upd]
 split<;>rfl
theorem AOk.ins {A:Around} {d k:Nat} (h:AOk A (d+1)) (hk:k≤30):AOk { A with units:=A.units+k } d:=⟨h.handled,by have:=h.depth;dsimp only;(exact cv (.l (.a (.a .A (.m 3 .B)) (.n 20)) .C) .a .bQ this),by have:=h.units;dsimp only;(exact dn (.l (.a (.a .P (.m 30 .C)) (.n 300)) .D) .b (.k .B (.n 30)) (.l (.a (.a .A (.m 30 .R)) (.n 300)) .D) hk this)⟩
theorem sV {G:Stc} {σ:St} {h h':Heap} {it:Addr} (R:Rel G σ h) (hd:¬ σ.dom it) (hb:G.hb.get? it=none) (hnf:∀ o,h.get? it=some o→¬ Frz o) (hk:∀ b o,b≠it→h.get? b=some o→h'.get? b=some o):Rel G σ h' :=
 R.same (fun b o e dm=>hk b o (fun q=>hd (q▸dm)) e) (fun b o e f=>hk b o (fun q=>hnf o (q▸e) f) e) fun b o e=>hk b o (fun q=>by rw [q,hb] at e;cases e) (R.base b o e)
section
variable {G:Stc} {A:Around} {E:Value→Shared→Prop} {s:Shared} {fN fM:Addr} {σ₀ σ:St}
theorem uU {d:Nat} {l S it m t q:Addr} {ts:List (List V)} {res:Value} {R:Result→Shared→Prop} (Kg:GOk G) (K:mi G fN fM) (Km:pe G) (Mk:jA G fM) (ao:AOk A (d+2)) (hts:∀ t∈ts,t.length=3) (hlS:l≠S) (hσ:σ.L l=some (ts.map V.tup)) (hz:ts.length≤ax)
  (own:∀ b∈[it,m,t,q],s.heap.get? b=none∧¬ σ.dom b∧b≠S∧G.hb.get? b=none) (hmi:m≠it) (hti:t≠it) (hqi:q≠it)
  (hR:∀ h tk,Rel G (σ.ct S (ts.map V.mt)) h→Evo [] σ₀ s.heap (σ.ct S (ts.map V.mt)) h→R (.ok (.ret res)) { s with heap:=h,toks:=tk }) :
  ∀ (k i:Nat) (h:Heap) (tk:Nat),ts.length-i=k→i≤ts.length→Rel G (σ.ct S ((ts.take i).map V.mt)) h→Evo [] σ₀ s.heap (σ.ct S ((ts.take i).map V.mt)) h→gQ h m t it (.ref q)→h.get? q=some { cls:=.type "method",data:=.fields #[.ref fM,.ref G.cM] }→h.IsListIter it l i →
   codeAny G.M A (.builtin "list.extend.loop" ⟨[.ref S,.ref m,res],[]⟩) R { s with heap:=h,toks:=tk }:=by
 obtain⟨p,doc,c0,c1,rest,ns,more,Kf,hline,hlt',hll⟩:=Mk.here
 have nd:∀ (xs:List V),∀ b∈[it,m,t,q],¬ (σ.ct S xs).dom b:=fun xs b hb dm=>(vp dm).elim (own b hb).2.1 (own b hb).2.2.1
 have itm:it∈[it,m,t,q]:=.head _
 have mm:m∈[it,m,t,q]:=.tail _ (.head _)
 have tm:t∈[it,m,t,q]:=.tail _ (.tail _ (.head _))
 have qm:q∈[it,m,t,q]:=.tail _ (.tail _ (.tail _ (.head _)))
 have nf:∀ {h:Heap} {i:Nat},h.IsListIter it l i→∀ o,h.get? it=some o→¬ Frz o:=fun {h i} zz1 o e=>by
  obtain⟨o',ho',hc',hd'⟩:=zz1
  obtain rfl:=af (ho'.symm.trans e)
  exact gx hc' hd' (by decide) (by decide)
 have hL:∀ (xs:List V),(σ.ct S xs).L l=some (ts.map V.tup):=fun xs=>by simp only [St.ct,cj hlS];exact hσ
 have hn1:∀ b∈[it],s.heap.get? b=none:=fun b hb=>by obtain rfl:=au.mp hb;exact(own _ itm).1
 intro k
 induction k with
 | zero =>
  intro i h tk hk hi Rr x hm hq hit
  have hin:i=ts.length:=by(exact eh .C [[1,1,-1],[1,0,1]] .b3 (.e .a8 .B) hk (aa (av .A .a .A hi)))
  subst hin
  refine qg F.entry_extend_loop ?_
  rw [nj F.plain_extend_loop _]
  show wpAny _ A.in1 (pyNext (.ref m)>>=_) _ _ _
  obtain⟨ws,n,hl,hvs⟩:=Rr.L l _ (hL _)
  have hlen:=hvs.length
  refine ab (iA (s:={ s with heap:=h,toks:=tk }) hm (wpAny_nextOf_list_end (s:={ s with heap:=h,toks:=tk }) (A:=A.in1.in1) ao.handled hit hl.isList (by rw [List.getElem?_toArray,← aE.symm];simp at hlen;(exact av .A .A .bD hlen)) fun h' e he hx'=>⟨hx',?_⟩))
  have he':∀ b o,b≠it→h.get? b=some o→h'.get? b=some o:=he
  have R':=sV Rr (nd _ _ itm) (own _ itm).2.2.2 (nf hit) he'
  have x':=x.but (own:=[it]) (fun b o hb e=>he' b o (fun q=>hb (q▸.head _)) e) hn1
  rw [fC] at R' x'
  exact ae (hR h' tk R' x')
 | succ k ih =>
  intro i h tk hk hi Rr x hm hq hit
  have hlt:i<ts.length:=by(exact dn .B .s (.e .C .V) (.e .a8 .B) hk (aa (av .A .a .A hi)))
  refine qg F.entry_extend_loop ?_
  rw [nj F.plain_extend_loop _]
  show wpAny _ A.in1 (pyNext (.ref m)>>=_) _ _ _
  obtain⟨ws,n,hl,hvs⟩:=Rr.L l _ (hL _)
  obtain⟨w,hw,vr⟩:=hvs.get (i:=i) (v:=.tup ts[i]) (by simp [hlt])
  refine ab (iA (s:={ s with heap:=h,toks:=tk }) hm (wpAny_nextOf_list_item (s:={ s with heap:=h,toks:=tk }) hit hl.isList (by simpa using hw) fun h₁ hit₁ hs₁=>?_))
  have he':∀ b o,b≠it→h.get? b=some o→h₁.get? b=some o:=fun b o hb e=>by rw [hs₁.2 b hb];exact e
  have R₁:=sV Rr (nd _ _ itm) (own _ itm).2.2.2 (nf hit) he'
  have x₁:=x.but (own:=[it]) (fun b o hb e=>he' b o (fun q=>hb (q▸.head _)) e) hn1
  have hm₁:gQ h₁ m t it (.ref q):=⟨he' _ _ hmi hm.1,he' _ _ hti hm.2⟩
  have hq₁:=he' _ _ hqi hq
  refine⟨hm₁,rx (oX (s:={ s with heap:=h₁,toks:=tk }) hq₁ ?_)⟩
  have hf:gp h h₁:=fun b o e f=>he' b o (fun q=>nf hit o (q▸e) f) e
  have h3:=hts ts[i] (qo hlt)
  obtain⟨a,b,c,habc⟩:∃ a b c,ts[i]=[a,b,c]:=by
   match hq:ts[i],h3 with
   | [a,b,c],_=>exact⟨a,b,c,rfl⟩
  rw [habc] at vr
  refine codeAny_mono (vN (s:={ s with heap:=h₁,toks:=tk }) (A:=A.in1.in1) (d:=d) (Q:=fun v σ'=>v=.mt [a,b,c]∧σ'=σ.ct S ((ts.take i).map V.mt)) (E:=fun _ _=>False) Kg K Km Kf hline Mk.tup Mk.len hlt' hll (ao.ins (k:=2) (by exact zv (.k .W (.n 30)) .j)) R₁ (vr.mono hf) ⟨rfl,rfl⟩) fun r s₂ hr=>?_
  match r,hr with
  | .error e,hr=>exact hr.elim
  | .ok (.ret w'),hr =>
   obtain⟨v,σ',h₂,tk₂,rfl,⟨rfl,rfl⟩,vr₂,R₂,x₂⟩:=hr
   have own₂:∀ b∈[it,m,t,q],∀ o,h₁.get? b=some o→h₂.get? b=some o:=fun b hb o e=>x₂.keep b o e (nd _ b hb) (fun h=>nomatch h)
   have hS:(σ.ct S ((ts.take i).map V.mt)).L S=some ((ts.take i).map V.mt):=bc _ _ _
   obtain⟨us,n',hl₂,hv₂⟩:=R₂.L S _ hS
   have hlen₂:=hv₂.length
   have hi':us.length=i:=by rw [← hlen₂];simp;(exact(Ar.fm _ _).2.2.elim (fun q1=>(dq .C .i .A .a4 (Ar.fm _ _).1 q1)) fun q1=>(kc .C .l .bJ .A .aR hi (Ar.fm _ _).1 q1))
   have htk:(ts.take (i+1)).map V.mt=(ts.take i).map V.mt++[.mt [a,b,c]]:=by rw [lz hlt,habc];simp
   have hsz:us.length+1≤sizeLine:=by rw [hi'];exact lq (by exact eh .F .b .N .S hz hlt)
   obtain⟨R₃,x₃⟩:=pP (f:=fun x=>x.push w') R₂ hS hl₂ (hv₂.append (.cons vr₂ .nil)) (by simp;(exact jj .F .d .N .aN .aS hz hlt (Ar.fm _ _).1)) (by simp)
   rw [ze,← htk] at R₃ x₃
   show wpAny _ A.in1 (updateSeq S (·.push w')>>=_) _ _ _
   have ne:∀ z∈[it,m,t,q],S≠z:=fun z hz e=>(own z hz).2.2.1 e.symm
   have own₃:∀ z∈[it,m,t,q],∀ o,h₂.get? z=some o→(h₂.update S (Obj.mapSeq (·.push w'))).get? z=some o:=fun z hz o e=>(iy _ _ (ne z hz)).trans e
   refine ab (qf (s:={ s with heap:=h₂,toks:=tk₂ }) hl₂ rfl (ae ⟨xw F.plain_extend_loop _,?_⟩) (by simp only [bh];(exact av .A .a .F hsz)) (by simp only [Array.size_push,bh];(exact av .aI .a .F hsz)))
   obtain⟨o1,ho1,r1⟩:=hit₁
   exact ih (i+1) _ tk₂ (by exact jt .C .p (.e .C .L) (.e .Y .F) .c3 hk (aa (av .A .a .A hi)) (aa (av .F .a .B hlt))) (by exact av .F .a .B hlt) R₃ ((x₁.trans x₂).trans x₃) ⟨own₃ _ mm _ (own₂ _ mm _ hm₁.1),own₃ _ tm _ (own₂ _ tm _ hm₁.2)⟩ (own₃ _ qm _ (own₂ _ qm _ hq₁)) ⟨o1,own₃ _ itm _ (own₂ _ itm _ ho1),r1⟩
end
section
variable {prog:Program} {w:World} {A:Around} {E:Value→Shared→Prop} {s:Shared}
theorem jR {m t it:Addr} {f:Value} {Q:Value→Shared→Prop} (hm:gQ s.heap m t it f)
  (h:∀ h' n',(∀ b o,s.heap.get? b=some o→h'.get? b=some o)→IsL h' s.heap.objs.size #[] n'→codeAny (model prog w) A.in1 (.builtin "list.extend.loop" ⟨[.ref s.heap.objs.size,.ref m,.none],[]⟩) (wants (fun r s₂=>r=.none∧Q (.ref s.heap.objs.size) s₂) E) { s with heap:=h' }) :
  wpAny (model prog w) A (call (.type "list") [.ref m]) Q E s:=by
 refine callType_codes (Q₁:=fun obj s₁=>obj=.ref s.heap.objs.size∧s₁={ s with heap:=s.heap.push { cls:=.type "list",data:=.seq #[] } }) F.called_list (F.typeCall_list_1 _) F.entry_list_init
  (code_list_new _ ⟨rfl,rfl⟩) fun obj s₁ h₁=>?_
 obtain⟨rfl,rfl⟩:=h₁
 have hS:(s.heap.push { cls:=.type "list",data:=.seq #[] }).get? s.heap.objs.size=some { cls:=.type "list",data:=.seq #[] }:=cm _ rfl
 refine⟨⟨_,hS,rfl⟩,F.args_list_init_2 _ _,?_⟩
 generalize hSz:s.heap.objs.size=S at hS h
 have lt:∀ {b:Addr} {o:Obj},s.heap.get? b=some o→S≠b:=fun {b o} e q=>by have:=et e;rw [hSz,q] at this;exact gm _ this
 have hne:S≠m:=lt hm.1
 show wpAny _ _ (do let old←Builtin.List.listItems (.ref S);Builtin.List.listUpdate (.ref S) (fun _=>#[]);letGo old.toList.reverse;Builtin.List.listExtendWith (.ref S) (.ref m) .none) _ _ _
 refine ab ?_
 unfold Builtin.List.listItems
 refine ab (ju hS rfl (ae ?_))
 show wpAny _ _ (updateSeq S (fun _=>#[])>>=fun _=>letGo (#[]:Array Value).toList.reverse>>=fun _=>Builtin.List.listExtendWith (.ref S) (.ref m) .none) _ _ _
 refine ab (qf hS rfl ?_)
 have hS₂:=mh (Obj.mapSeq (fun _=>(#[]:Array Value))) hS rfl
 refine ab (yq ?_)
 have oth:∀ b o,s.heap.get? b=some o→((s.heap.push { cls:=.type "list",data:=.seq #[] }).update S (Obj.mapSeq (fun _=>(#[]:Array Value)))).get? b=some o :=
  fun b o e=>(iy _ _ (lt e)).trans (aj _ e)
 have hm₂:gQ ((s.heap.push { cls:=.type "list",data:=.seq #[] }).update S (Obj.mapSeq (fun _=>(#[]:Array Value)))) m t it f:=⟨oth _ _ hm.1,oth _ _ hm.2⟩
 unfold Builtin.List.listExtendWith
 refine ab (dQ (T:="map") ⟨_,hm₂.1,rfl⟩ ?_)
 have h1:Builtin.List.listSameRef (.ref S) (.ref m)=false:=by simp [Builtin.List.listSameRef,hne]
 have h2:(Value.type "map" == Value.type "list")=false:=by decide
 have h3:(Value.type "map" == Value.type "tuple")=false:=by decide
 simp only [h1,h2,h3,dU,cw,iq]
 refine ab (qF hm₂ ?_)
 refine ab (bu ?_)
 unfold Builtin.List.listLengthHint
 refine ab (wpAny_specialOf (T:="map") ⟨_,hm₂.1,rfl⟩ qN ?_)
 show wpAny _ _ (specialOf (Value.ref m) (Str.ofString "__length_hint__")>>=_) _ _ _
 refine ab (wpAny_specialOf (T:="map") ⟨_,hm₂.1,rfl⟩ o8 ?_)
 refine ae ?_
 show wpAny _ _ (rule "list.extend.makes-room" >>= fun _=>Builtin.List.listTouch (.ref S)>>=fun _=>again (.builtin "list.extend.loop" ⟨[.ref S,.ref m,.none],[]⟩)) _ _ _
 refine ab (wpAny_rule ?_)
 refine ab ?_
 show wpAny _ _ (updateSeq S (·.push .none)>>=fun _=>updateSeq S (·.pop)) _ _ _
 refine ab (qf hS₂ rfl ?_)
 have hS₃:=mh (Obj.mapSeq (·.push Value.none)) hS₂ rfl
 refine qf (hz:=by seq_fits) hS₃ rfl ?_
 have hS₄:=mh (Obj.mapSeq (·.pop)) hS₃ rfl
 refine ae ⟨xw F.plain_extend_loop _,h _ _ (fun b o e=>?_) hS₄⟩
 have hb:S≠b:=lt e
 exact(iy _ _ hb).trans ((iy _ _ hb).trans (oth b o e))
end
end MP
end
section
namespace MP
open PySem PyProof.Rows PySem.W
section
variable {G:Stc} {fN fM:Addr} {C:Cal} {sc:Scope} {d:Nat}
theorem jH {e:Ex} {xl xm xM:Str} {y:Expr} {p p' p'' ap pos pos':Pos} (Kg:GOk G) (K:mi G fN fM) (Km:pe G) (Mk:jA G fM) (hd:3≤d) (he:cz G C sc d e y) (hst:noStar [y]=true)
  (hl:sc.names.lookup xl=some .globalImplicit) (hln:fy xl=true) (hlv:G.gl xl=some (.type "list"))
  (hm:sc.names.lookup xm=some .globalImplicit) (hmn:fy xm=true) (hmv:G.gl xm=some (.type "map"))
  (hM:sc.names.lookup xM=some .globalImplicit) (hMn:fy xM=true) (hMv:G.gl xM=some (.ref G.cM)) :
  cz G C sc d (.mkMatches e) (.Call (.Name xl p) [.Call (.Name xm p') [.Attribute (.Name xM p'') "_make" ap,y] [] pos'] [] pos):=fun A E env ρ σ Q s ao es eo F R h=>by
 have hst2:noStar [.Attribute (.Name xM p'') "_make" ap,y]=true:=by
  exact hst
 refine Call_ (jh Kg eo R (by rw [es];exact hl) hln hlv (qh (gi (args:=[.Call (.Name xm p') [.Attribute (.Name xM p'') "_make" ap,y] [] pos']) rfl pos env) (ki (gi (args:=[.Call (.Name xm p') [.Attribute (.Name xM p'') "_make" ap,y] [] pos']) rfl pos env) (spliced_more ?_ rfl))))
 refine Call_ (jh Kg eo R (by rw [es];exact hm) hmn hmv (qh (gi hst2 pos' env) (ki (gi hst2 pos' env) (spliced_more ?_ rfl))))
 refine Attribute_name (jh Kg eo R (by rw [es];exact hM) hMn hMv (K.make _ _ _ _ _ R.base ?_))
 have R0:=R.push { cls:=.type "method",data:=.fields #[.ref fM,.ref G.cM] }
 have x0:Evo [] σ s.heap σ (s.heap.push { cls:=.type "method",data:=.fields #[.ref fM,.ref G.cM] }):=Evo.push _ _ _ _
 refine spliced_more (mr (he A E env ρ σ _ { s with heap:=s.heap.push { cls:=.type "method",data:=.fields #[.ref fM,.ref G.cM] },toks:=s.toks+1 } ao es eo (F.evo x0) R0 h) fun v σ₁ h₁ tk w q vr r x₁=>?_) ((cu hst).1 env)
 obtain⟨l,ts,rfl,hσ,h3,q⟩:=q
 obtain rfl:=vr
 refine wd ?_
 obtain⟨us,n,hL,hvs⟩:=r.L _ _ hσ
 have hz:=r.Ll _ _ hσ
 simp only [az] at hz
 have hqsz:s.heap.get? s.heap.objs.size=none:=none_at_size _
 have hqd:¬ σ.dom s.heap.objs.size:=fun dm=>by obtain⟨o,e⟩:=R.nt dm;rw [hqsz] at e;cases e
 have hq0:(s.heap.push { cls:=.type "method",data:=.fields #[.ref fM,.ref G.cM] }).get? s.heap.objs.size=some { cls:=.type "method",data:=.fields #[.ref fM,.ref G.cM] }:=cm _ rfl
 have hq1:=x₁.keep _ _ hq0 hqd (fun h=>nomatch h)
 have hqd1:¬ σ₁.dom s.heap.objs.size:=fun dm=>(x₁.dom _ dm).elim hqd fun e=>by rw [hq0] at e;cases e
 refine zJ (s:={ s with heap:=h₁,toks:=tk }) hL.isList fun h₂ hmap hit hsz hk=>?_
 dsimp only at hmap hit hsz hk
 have r₂:=r.keeps hk
 have x₂:Evo [] σ s.heap σ₁ h₂:=(x0.trans x₁).trans (Evo.keeps hk)
 refine wd ?_
 refine jR (s:={ s with heap:=h₂,toks:=tk }) hmap fun h₃ n' hk₃ hl₃=>?_
 dsimp only at hk₃ hl₃
 have hS:h₂.get? h₂.objs.size=none:=none_at_size _
 have at':At h₂.objs.size h₂ h₃:=At.grow hS hk₃ hl₃
 have hSL:σ₁.L h₂.objs.size=none:=by
  cases hq:σ₁.L h₂.objs.size with
  | none=>rfl
  | some ys=>obtain⟨o,ho,_⟩:=r₂.mW hq;rw [hS] at ho;cases ho
 have R₃:=r₂.putL (ws:=[]) (xs:=[]) at' (fun _=>hS) hl₃ .nil (by simp [ax])
 have x₃:Evo [] σ₁ h₂ (σ₁.ct h₂.objs.size []) h₃:=Evo.putL at' (fun _=>hS) []
 have old:∀ b,h₁.objs.size≤b→s.heap.get? b=none∧¬ σ₁.dom b∧G.hb.get? b=none:=fun b hb=>by
  have e1:h₁.get? b=none:=yv hb
  refine⟨?_,fun dm=>?_,?_⟩
  ·cases hq:s.heap.get? b with
   | none=>rfl
   | some o=>obtain⟨o',e'⟩:=(x0.trans x₁).there _ _ hq;rw [e1] at e';cases e'
  ·obtain⟨o,e⟩:=r.nt dm;rw [e1] at e;cases e
  ·cases hq:G.hb.get? b with
   | none=>rfl
   | some o=>have:=r.base _ _ hq;rw [e1] at this;cases this
 have hqlt:s.heap.objs.size<h₁.objs.size:=et hq1
 have own:∀ b∈[h₁.objs.size,h₁.objs.size+2,h₁.objs.size+1,s.heap.objs.size],s.heap.get? b=none∧¬ σ₁.dom b∧b≠h₂.objs.size∧G.hb.get? b=none:=fun b hb=>by
  have hlt:b<h₂.objs.size:=by
   simp only [cf,vh,or_false] at hb
   rcases hb with rfl | rfl | rfl | rfl<;>(first | exact av .B .A .aZ hsz Ar.y | exact av (.l .a5 .B) .A .aZ hsz Ar.y | exact av (.l .M .B) .A .aZ hsz Ar.y | exact eh .B .s (.e .B (.a .C (.n 3))) .S hsz hqlt Ar.y | omega)
  by_cases hb':h₁.objs.size≤b
  ·obtain⟨o1,o2,o3⟩:=old b hb'
   exact⟨o1,o2,jn hlt,o3⟩
  ·simp only [cf,vh,or_false] at hb
   rcases hb with rfl | rfl | rfl | rfl
   ·(exact⟨(False.elim (dh .ff .o (.j .A .A) hb')),⟨(fun q1=>(dh .ff .o (.j .A .A) hb')),⟨(av .cG [[-1,-1]] .aZ hsz),(False.elim (dh .ff .o (.j .A .A) hb'))⟩⟩⟩)
   ·(exact⟨(False.elim (dh .ff .o (.j .A .a5) hb')),⟨(fun q1=>(dh .ff .o (.j .A .a5) hb')),⟨(av (.u .a5 .B) [[-1,-1]] .aZ hsz),(False.elim (dh .ff .o (.j .A .a5) hb'))⟩⟩⟩)
   ·(exact⟨(False.elim (dh .ff .o (.j .A .M) hb')),⟨(fun q1=>(dh .ff .o (.j .A .M) hb')),⟨(av (.u .M .B) [[-1,-1]] .aZ hsz),(False.elim (dh .ff .o (.j .A .M) hb'))⟩⟩⟩)
   ·refine⟨hqsz,hqd1,jn hlt,?_⟩
    cases hq:G.hb.get? s.heap.objs.size with
    | none=>rfl
    | some o=>have:=R.base _ _ hq;rw [hqsz] at this;cases this
 have hlS:l≠h₂.objs.size:=fun e=>by rw [e,hSL] at hσ;cases hσ
 obtain⟨oi,hoi,ri⟩:=hit
 have ne1:(h₁.objs.size+2:Nat)≠h₁.objs.size:=by(exact fo (.u .a5 .A) .j)
 have ne2:(h₁.objs.size+1:Nat)≠h₁.objs.size:=by(exact fo (.u .M .A) .j)
 have ne3:(s.heap.objs.size:Nat)≠h₁.objs.size:=by(exact av .cG .x .B hqlt)
 refine uU (it:=h₁.objs.size) (m:=h₁.objs.size+2) (t:=h₁.objs.size+1) (q:=s.heap.objs.size) (S:=h₂.objs.size) (l:=l) (σ₀:=σ) (σ:=σ₁) (s:=s) (d:=d-3) (A:=A.in1) Kg K Km Mk ((AOk.less ao (d':=d-3+2+1) (by exact av (.k (.a .a5 .U) .B) .a (.e (.a .A (.n 3)) .B) (aa (dh (.k (.n 3) .A) .a (.k (.n 3) .A) hd)))).ins (k:=1) (by exact zv (.k .U (.n 30)) .j)) h3 hlS hσ hz own ne1 ne2 ne3
  (fun h' tk' R' x'=>⟨rfl,_,_,h',tk',rfl,q _ hSL,.lst _,R',x'⟩) ts.length 0 h₃ tk rfl (br _) (by simpa using R₃) (by simpa using x₂.trans x₃) ⟨hk₃ _ _ hmap.1,hk₃ _ _ hmap.2⟩ (hk₃ _ _ (hk _ _ hq1)) ⟨oi,hk₃ _ _ hoi,ri⟩
end
end MP
end
section
namespace MP
open PySem PyProof.Rows PySem.W
section
variable {G:Stc} {C:Cal} {sc:Scope} {d:Nat}
theorem xA {pos:Pos}:cz G C sc d .dct0 (.Dict [] [] pos):=fun A E env ρ σ Q s ao es eo F R h =>
 wpAny_Dict_empty ⟨.dct s.heap.objs.size,_,_,_,rfl,h _ R.freshD,.dct _,R.putD (At.push _) (fun _=>none_at_size _) (fun b f e=>R.yE (none_at_size _) e rfl) (Heap.DictOf.new _) .nil (by simp [ax]),Evo.putD (At.push _) (fun _=>none_at_size _) _⟩
theorem AQ {op:BoolOp} {b:Ex} {y:Expr} {pos:Pos} (h:cz G C sc d b y):cz G C sc d b (.BoolOp op [y] pos):=fun A E env ρ σ Q s ao es eo F R q=>BoolOp_one (h A E env ρ σ Q s ao es eo F R q)
theorem uK {b:Ex} {y:Expr} {pos:Pos} (h:pq G C sc d b y):pq G C sc d b (.BoolOp .And [y] pos):=fun A E env ρ σ Q s ao es eo F R q =>
 isTrue_and (jK (h A E env ρ σ _ s ao es eo F R q) fun t σ₁ h₁ tk q r x=>by
  cases t with
  | true=>exact isTrue_and_nil (jk.back (tk:=tk) x (jk.here q r))
  | false=>exact jk.back (tk:=tk) x (jk.here q r))
theorem uJ {b:Ex} {y:Expr} {pos:Pos} (h:pq G C sc d b y):pq G C sc d b (.BoolOp .Or [y] pos):=fun A E env ρ σ Q s ao es eo F R q =>
 isTrue_or (jK (h A E env ρ σ _ s ao es eo F R q) fun t σ₁ h₁ tk q r x=>by
  cases t with
  | false=>exact isTrue_or_nil (jk.back (tk:=tk) x (jk.here q r))
  | true=>exact jk.back (tk:=tk) x (jk.here q r))
end
structure Tab where
 gl:List (Str × Value)
 attrs:List Str
 meths:List (Nat × Str)
 fns:List (Nat × Addr)
 cM:Addr
 cS:Addr
structure TabOk (G:Stc) (T:Tab) (C:Cal) (d:Nat):Prop where
 g:GOk G
 gl:∀ x v,T.gl.lookup x=some v→G.gl x=some v
 attrs:G.attrs=T.attrs
 cal:eW G (fun k=>T.fns.lookup k) C (d-1)
 meth:∀ k name,T.meths.lookup k=some name→∃ f,T.fns.lookup k=some f∧MethAt G name f
 init:∃ f,T.fns.lookup 0=some f∧n8 G f
 cM:G.cM=T.cM
 cS:G.cS=T.cS
 mt:∃ fN fM,mi G fN fM∧lC G fN∧jA G fM
 ma:pe G
 unp:vS G
 d3:3≤d
noncomputable def zi (i:Nat) (x:Expr):Option Expr:=match i with | 0=>(vw x).b.1 | _=>(vw x).b.2
noncomputable def iw (x:Expr):List Comprehension × Scope:=(vw x).g
noncomputable def hdG:List Comprehension→Expr × Expr × List Expr
 | g::_=>(g.target,g.iter,g.ifs)
 | []=>(default,default,[])
noncomputable def FT (x:Expr):Bool:=eK 0 x&&!(kids x).isEmpty
noncomputable def cV (x:Expr):BoolOp × List Expr × Pos:=((vw x).op,kids x,x.pos)
theorem HY {x:Expr} (h:FT x=true):∃ z r,(cV x).2.1=z::r∧x=.BoolOp (cV x).1 (z::r) (cV x).2.2:=by
 cases x
 case BoolOp =>
  cases values with
  | nil=>cases h
  | cons z r=>exact⟨z,r,rfl,rfl⟩
 all_goals exact Bool.noConfusion (show false=true from h)
noncomputable def many (x:Expr):Bool:=!(kids x).tail.tail.isEmpty
noncomputable def bo (op:BoolOp) (a b:Expr) (p:Pos) (m:Bool):Expr:=.BoolOp op (a::bif m then (cV b).2.1 else [b]) p
noncomputable def yB (op:BoolOp) (b:Expr) (p:Pos) (m:Bool):Bool:=!m||(FT b&&(decide ((cV b).1=op)&&decide ((cV b).2.2=p)))
noncomputable def hint (op:BoolOp) (x:Expr):Expr:=bif many x then .BoolOp op (kids x).tail x.pos else kid 1 x
theorem pA {op:BoolOp} {b:Expr} {p:Pos}:(m:Bool)→yB op b p m=true→m=false∨∃ z r,b=.BoolOp op (z::r) p∧∀ a,bo op a b p m=.BoolOp op (a::z::r) p
 | false,_=>.inl rfl
 | true,h=>by
  obtain⟨h0,h1⟩:=band (show(FT b&&(decide ((cV b).1=op)&&decide ((cV b).2.2=p)))=true from h)
  obtain⟨h1,h2⟩:=band h1
  obtain rfl:=bb h1
  obtain rfl:=bb h2
  obtain⟨z,r,e,e'⟩:=HY h0
  exact .inr ⟨z,r,e',fun a=>bx (fun l=>Expr.BoolOp (cV b).1 (a::l) (cV b).2.2) e⟩
noncomputable def glob (T:Tab) (sc:Scope) (x:Str) (v:Value):Bool:=decide (sc.names.lookup x=some .globalImplicit)&&(fy x&&decide (T.gl.lookup x=some v))
noncomputable def mA (x:Expr):Bool:=!(eK 7 x)
noncomputable def lQ (sc:Scope):Tg→Expr→Expr
 | .var i=>fun x=>.Name (zp sc i) x.pos
 | .tup is=>fun x=>.Tuple (pb sc is (kids x)) (exK x) x.pos
noncomputable def yA (sc:Scope):Tg→Expr→Bool
 | .var i=>fun _=>kindAt uo sc i
 | .tup is=>fun x=>lV sc is
noncomputable def Exs.isNil:Exs→Bool
 | .nil=>true
 | _=>false
noncomputable def rW:BF→Nat
 | .len=>1
 | .min=>2
 | .max=>2
 | .divmod=>2
 | .min3=>3
 | .set=>0
 | .lrange=>1
noncomputable def Exs.len:Exs→Nat
 | .nil=>0
 | .cons _ es=>es.len+1
noncomputable def pC:BF→Value
 | .len=>.builtin "len"
 | .min=>.builtin "min"
 | .max=>.builtin "max"
 | .divmod=>.builtin "divmod"
 | .min3=>.builtin "min"
 | .set=>.type "set"
 | _=>.type "list"
noncomputable def qb:BF→Bool
 | .lrange=>true
 | _=>false
noncomputable def isSort:BM→Bool
 | .sort=>true
 | _=>false
noncomputable def nm (x:Expr):Expr:=.Name (ji x) x.pos
noncomputable def Ex.isNone (x:Ex):Bool:=Nat.beq x.ctorIdx 0
mutual
noncomputable def reE (T:Tab):Ex→Scope→Expr→Expr
 | .none=>fun _ x=>.Constant .none (exK x) x.pos
 | .bool b=>fun _ x=>.Constant (.bool b) (exK x) x.pos
 | .int i=>fun _ x=>.Constant (.int i) (exK x) x.pos
 | .str t=>fun _ x=>.Constant (.str t) (exK x) x.pos
 | .loc i=>fun sc x=>.Name (zp sc i) x.pos
 | .bin op a b=>fun sc x=>.BinOp (reE T a sc (kid 0 x)) (binOp op) (reE T b sc (kid 1 x)) x.pos
 | .neg a=>fun sc x=>.UnaryOp .USub (reE T a sc (kid 0 x)) x.pos
 | .not a=>fun sc x=>.UnaryOp .Not (reE T a sc (kid 0 x)) x.pos
 | .and a b=>fun sc x=>bo .And (reE T a sc (kid 0 x)) (reE T b sc (hint .And x)) x.pos (many x)
 | .or a b=>fun sc x=>bo .Or (reE T a sc (kid 0 x)) (reE T b sc (hint .Or x)) x.pos (many x)
 | .cmp op a b=>fun sc x=>.Compare (reE T a sc (kid 0 x)) [gP op] [reE T b sc (kid 1 x)] x.pos
 | .ite c a b=>fun sc x=>.IfExp (reE T c sc (kid 0 x)) (reE T a sc (kid 1 x)) (reE T b sc (kid 2 x)) x.pos
 | .lst es=>fun sc x=>.List (pz T es sc (kids x)) x.pos
 | .tup es=>fun sc x=>.Tuple (pz T es sc (kids x)) (exK x) x.pos
 | .dct0=>fun _ x=>.Dict [] [] x.pos
 | .call _ es=>fun sc x=>.Call (nm (kid 0 x)) (pz T es sc (kids x).tail) [] x.pos
 | .meth e m es=>fun sc x=>.Call (.Attribute (reE T e sc (kid 0 (kid 0 x))) ((T.meths.lookup m).getD "") (kid 0 x).pos) (pz T es sc (kids x).tail) [] x.pos
 | .attr e i=>fun sc x=>.Attribute (reE T e sc (kid 0 x)) ((T.attrs[i]?).getD "") x.pos
 | .dgetOf e=>fun sc x=>.Attribute (reE T e sc (kid 0 x)) "get" x.pos
 | .shasOf e=>fun sc x=>.Attribute (reE T e sc (kid 0 x)) "__contains__" x.pos
 | .bm k e es=>fun sc x=>.Call (.Attribute (reE T e sc (kid 0 (kid 0 x))) (n0 k) (kid 0 x).pos) (pz T es sc (kids x).tail) [] x.pos
 | .bf k es=>fun sc x=>bif qb k then .Call (nm (kid 0 x)) [.Call (nm (kid 0 (kid 1 x))) (pz T es sc (kids (kid 1 x)).tail) [] (kid 1 x).pos] [] x.pos
  else .Call (nm (kid 0 x)) (pz T es sc (kids x).tail) [] x.pos
 | .callv f es=>fun sc x=>.Call (.Name (zp sc f) (kid 0 x).pos) (pz T es sc (kids x).tail) [] x.pos
 | .sub e i=>fun sc x=>.Subscript (reE T e sc (kid 0 x)) (reE T i sc (kid 1 x)) x.pos
 | .slc e lo hi=>fun sc x=>.Subscript (reE T e sc (kid 0 x)) (.Slice ((zi 0 (kid 1 x)).map (reE T lo sc)) ((zi 1 (kid 1 x)).map (reE T hi sc)) none (kid 1 x).pos) x.pos
 | .comp _ it t cs more=>fun sc x=>.ListComp (xW T more (oj (iw x).2 sc) (kid 0 x))
   (⟨lQ (oj (iw x).2 sc) t (hdG (iw x).1).1,nU T it sc (hdG (iw x).1).2.1,pz T cs (oj (iw x).2 sc) (hdG (iw x).1).2.2,0⟩::xU T more (oj (iw x).2 sc) (iw x).1.tail) (iw x).2 x.pos
 | .newM es=>fun sc x=>.Call (nm (kid 0 x)) (pz T es sc (kids x).tail) [] x.pos
 | .newMatch a b c=>fun sc x=>.Call (nm (kid 0 x)) [reE T a sc (kid 1 x),reE T b sc (kid 2 x),reE T c sc (kid 3 x)] [] x.pos
 | .mkMatches e=>fun sc x=>.Call (nm (kid 0 x)) [.Call (nm (kid 0 (kid 1 x))) [.Attribute (nm (kid 0 (kid 1 (kid 1 x)))) "_make" (kid 1 (kid 1 x)).pos,reE T e sc (kid 2 (kid 1 x))] [] (kid 1 x).pos] [] x.pos
 | .dead=>fun _ x=>x
noncomputable def pz (T:Tab):Exs→Scope→List Expr→List Expr
 | .nil=>fun _ _=>[]
 | .cons e es=>fun sc l=>reE T e sc (l.headD default)::pz T es sc l.tail
noncomputable def nU (T:Tab):It→Scope→Expr→Expr
 | .rng1 e=>fun sc x=>.Call (nm (kid 0 x)) [reE T e sc (kid 1 x)] [] x.pos
 | .rng2 e f=>fun sc x=>.Call (nm (kid 0 x)) [reE T e sc (kid 1 x),reE T f sc (kid 2 x)] [] x.pos
 | .rng3 e f g=>fun sc x=>.Call (nm (kid 0 x)) [reE T e sc (kid 1 x),reE T f sc (kid 2 x),reE T g sc (kid 3 x)] [] x.pos
 | .enum e=>fun sc x=>.Call (nm (kid 0 x)) [reE T e sc (kid 1 x)] [] x.pos
 | .seq e=>fun sc x=>reE T e sc x
noncomputable def xU (T:Tab):Gens→Scope→List Comprehension→List Comprehension
 | .elt _=>fun _ _=>[]
 | .cons it t cs more=>fun sc l=>⟨lQ sc t (hdG l).1,nU T it sc (hdG l).2.1,pz T cs sc (hdG l).2.2,0⟩::xU T more sc l.tail
noncomputable def xW (T:Tab):Gens→Scope→Expr→Expr
 | .elt e=>fun sc x=>reE T e sc x
 | .cons _ _ _ more=>fun sc x=>xW T more sc x
end
noncomputable def tOk:Ex→Bool
 | .not a=>tOk a
 | .and a b=>tOk a&&tOk b
 | .or a b=>tOk a&&tOk b
 | .ite _ a b=>tOk a&&tOk b
 | .cmp _ _ _=>true
 | .loc _=>true
 | .attr _ _=>true
 | .callv _ _=>true
 | .sub _ _=>true
 | .bin _ _ _=>true
 | .dead=>true
 | _=>false
mutual
noncomputable def okE (T:Tab):Ex→Scope→Expr→Bool
 | .none=>fun _ _=>true
 | .bool _=>fun _ _=>true
 | .int _=>fun _ _=>true
 | .str _=>fun _ _=>true
 | .loc i=>fun sc _=>kindAt isVar sc i
 | .bin _ a b=>fun sc x=>okE T a sc (kid 0 x)&&okE T b sc (kid 1 x)
 | .neg a=>fun sc x=>okE T a sc (kid 0 x)
 | .not a=>fun sc x=>okE T a sc (kid 0 x)
 | .and a b=>fun sc x=>okE T a sc (kid 0 x)&&(okE T b sc (hint .And x)&&yB .And (reE T b sc (hint .And x)) x.pos (many x))
 | .or a b=>fun sc x=>okE T a sc (kid 0 x)&&(okE T b sc (hint .Or x)&&yB .Or (reE T b sc (hint .Or x)) x.pos (many x))
 | .cmp op a b=>fun sc x=>okE T a sc (kid 0 x)&&(okE T b sc (kid 1 x)&&!(behindInMarks (gP op) (reE T b sc (kid 1 x))))
 | .ite c a b=>fun sc x=>tOk c&&(okE T c sc (kid 0 x)&&(okE T a sc (kid 1 x)&&okE T b sc (kid 2 x)))
 | .lst es=>fun sc x=>noStar (pz T es sc (kids x))&&iC T es sc (kids x)
 | .tup es=>fun sc x=>noStar (pz T es sc (kids x))&&iC T es sc (kids x)
 | .dct0=>fun _ _=>true
 | .call f es=>fun sc x=>(T.fns.lookup f).any (fun a=>glob T sc (ji (kid 0 x)) (.ref a))&&(noStar (pz T es sc (kids x).tail)&&iC T es sc (kids x).tail)
 | .meth e m es=>fun sc x=>(T.meths.lookup m).isSome&&(okE T e sc (kid 0 (kid 0 x))&&(pf (reE T e sc (kid 0 (kid 0 x)))&&(((kid 0 x).pos.endLine==x.pos.line)&&(decide ((pz T es sc (kids x).tail).length<30) &&
   (noStar (pz T es sc (kids x).tail)&&iC T es sc (kids x).tail)))))
 | .attr e i=>fun sc x=>(T.attrs[i]?).isSome&&(pf (reE T e sc (kid 0 x))&&okE T e sc (kid 0 x))
 | .dgetOf e=>fun sc x=>pf (reE T e sc (kid 0 x))&&okE T e sc (kid 0 x)
 | .shasOf e=>fun sc x=>pf (reE T e sc (kid 0 x))&&okE T e sc (kid 0 x)
 | .bm k e es=>fun sc x=>(!isSort k||es.isNil)&&(okE T e sc (kid 0 (kid 0 x))&&(pf (reE T e sc (kid 0 (kid 0 x)))&&(((kid 0 x).pos.endLine==x.pos.line)&&(decide ((pz T es sc (kids x).tail).length<30) &&
   (noStar (pz T es sc (kids x).tail)&&iC T es sc (kids x).tail)))))
 | .bf k es=>fun sc x=>Nat.beq es.len (rW k)&&(glob T sc (ji (kid 0 x)) (pC k)&&bif qb k then glob T sc (ji (kid 0 (kid 1 x))) (.type "range")&&(noStar (pz T es sc (kids (kid 1 x)).tail)&&iC T es sc (kids (kid 1 x)).tail)
   else noStar (pz T es sc (kids x).tail)&&iC T es sc (kids x).tail)
 | .callv f es=>fun sc x=>kindAt isVar sc f&&(noStar (pz T es sc (kids x).tail)&&iC T es sc (kids x).tail)
 | .sub e i=>fun sc x=>!(isSlice (reE T i sc (kid 1 x)))&&(okE T e sc (kid 0 x)&&okE T i sc (kid 1 x))
 | .slc e lo hi=>fun sc x=>okE T e sc (kid 0 x)&&((match zi 0 (kid 1 x) with | none=>lo.isNone | some l=>okE T lo sc l)&&(match zi 1 (kid 1 x) with | none=>hi.isNone | some l=>okE T hi sc l))
 | .comp fv it t cs more=>fun sc x=>BN T it sc (isTup (lQ (oj (iw x).2 sc) t (hdG (iw x).1).1)) (hdG (iw x).1).2.1&&(yA (oj (iw x).2 sc) t (hdG (iw x).1).1&&(BO T cs (oj (iw x).2 sc) (hdG (iw x).1).2.2 &&
   (F8 T more (oj (iw x).2 sc) (iw x).1.tail (kid 0 x)&&(mA (nU T it sc (hdG (iw x).1).2.1)&&(decide ((iw x).2.kind=.function)&&(decide (((iw x).2.names.map (·.1)).Nodup) &&
   (lZ sc fv 0 (iw x).2.names&&lW (iw x).2 (⟨lQ (oj (iw x).2 sc) t (hdG (iw x).1).1,nU T it sc (hdG (iw x).1).2.1,pz T cs (oj (iw x).2 sc) (hdG (iw x).1).2.2,0⟩::xU T more (oj (iw x).2 sc) (iw x).1.tail))))))))
 | .newM es=>fun sc x=>!es.isNil&&(glob T sc (ji (kid 0 x)) (.ref T.cS)&&(noStar (pz T es sc (kids x).tail)&&iC T es sc (kids x).tail))
 | .newMatch a b c=>fun sc x=>glob T sc (ji (kid 0 x)) (.ref T.cM)&&(noStar [reE T a sc (kid 1 x),reE T b sc (kid 2 x),reE T c sc (kid 3 x)]&&(okE T a sc (kid 1 x)&&(okE T b sc (kid 2 x)&&okE T c sc (kid 3 x))))
 | .mkMatches e=>fun sc x=>glob T sc (ji (kid 0 x)) (.type "list")&&(glob T sc (ji (kid 0 (kid 1 x))) (.type "map")&&(glob T sc (ji (kid 0 (kid 1 (kid 1 x)))) (.ref T.cM)&&(noStar [reE T e sc (kid 2 (kid 1 x))]&&okE T e sc (kid 2 (kid 1 x)))))
 | .dead=>fun _ _=>true
noncomputable def iC (T:Tab):Exs→Scope→List Expr→Bool
 | .nil=>fun _ _=>true
 | .cons e es=>fun sc l=>okE T e sc (l.headD default)&&iC T es sc l.tail
noncomputable def BO (T:Tab):Exs→Scope→List Expr→Bool
 | .nil=>fun _ _=>true
 | .cons e es=>fun sc l=>tOk e&&(okE T e sc (l.headD default)&&BO T es sc l.tail)
noncomputable def BN (T:Tab):It→Scope→Bool→Expr→Bool
 | .rng1 e=>fun sc _ x=>glob T sc (ji (kid 0 x)) (.type "range")&&(noStar [reE T e sc (kid 1 x)]&&okE T e sc (kid 1 x))
 | .rng2 e f=>fun sc _ x=>glob T sc (ji (kid 0 x)) (.type "range")&&(noStar [reE T e sc (kid 1 x),reE T f sc (kid 2 x)]&&(okE T e sc (kid 1 x)&&okE T f sc (kid 2 x)))
 | .rng3 e f g=>fun sc _ x=>glob T sc (ji (kid 0 x)) (.type "range")&&(noStar [reE T e sc (kid 1 x),reE T f sc (kid 2 x),reE T g sc (kid 3 x)]&&(okE T e sc (kid 1 x)&&(okE T f sc (kid 2 x)&&okE T g sc (kid 3 x))))
 | .enum e=>fun sc tp x=>tp&&(glob T sc (ji (kid 0 x)) (.type "enumerate")&&(noStar [reE T e sc (kid 1 x)]&&okE T e sc (kid 1 x)))
 | .seq e=>fun sc _ x=>okE T e sc x
noncomputable def F8 (T:Tab):Gens→Scope→List Comprehension→Expr→Bool
 | .elt e=>fun sc _ x=>okE T e sc x
 | .cons it t cs more=>fun sc l x=>BN T it sc (isTup (lQ sc t (hdG l).1)) (hdG l).2.1&&(yA sc t (hdG l).1&&(BO T cs sc (hdG l).2.2&&(F8 T more sc l.tail x&&mA (nU T it sc (hdG l).2.1))))
end
noncomputable def sW (T:Tab) (sc:Scope):Tgt→Expr→Expr
 | .var i=>fun x=>.Name (zp sc i) x.pos
 | .attr o i=>fun x=>.Attribute (reE T o sc (kid 0 x)) ((T.attrs[i]?).getD "") x.pos
 | .sub o i=>fun x=>.Subscript (reE T o sc (kid 0 x)) (reE T i sc (kid 1 x)) x.pos
 | .tup is=>fun x=>.Tuple (pb sc is (kids x)) (exK x) x.pos
noncomputable def DN (T:Tab) (sc:Scope):Tgt→Expr→Bool
 | .var i=>fun _=>kindAt uo sc i
 | .attr o i=>fun x=>okE T o sc (kid 0 x)&&(T.attrs[i]?).isSome
 | .sub o i=>fun x=>okE T o sc (kid 0 x)&&okE T i sc (kid 1 x)
 | .tup is=>fun x=>lV sc is
noncomputable def ux (T:Tab) (sc:Scope):List Tgt→List Expr→List Expr
 | []=>fun _=>[]
 | t::ts=>fun l=>sW T sc t (l.headD default)::ux T sc ts l.tail
noncomputable def iB (T:Tab) (sc:Scope):List Tgt→List Expr→Bool
 | []=>fun _=>true
 | t::ts=>fun l=>DN T sc t (l.headD default)&&iB T sc ts l.tail
noncomputable def stB (x:Stmt):List Stmt × List Stmt:=((sw x).b,(sw x).c)
noncomputable def qX:List Tgt→Bool
 | [.var _]=>true
 | _=>false
noncomputable def qY (x:Ex):Bool:=Nat.beq x.ctorIdx (Ex.comp [] (.seq .none) (.var 0) .nil (.elt .none)).ctorIdx
noncomputable def yR:List Tgt→Option (List Nat)
 | [.tup is]=>some is
 | _=>none
noncomputable def DO (T:Tab) (sc:Scope) (ts:List Tgt) (e:Ex) (xs hs:List Expr) (y:Expr):Option (Option (List Str))→Bool
 | none=>false
 | some none=>iB T sc ts hs&&(we y||(qX ts&&qY e))
 | some (some names)=>(yR ts).any fun is=>we y&&(GX sc is names&&decide is.Nodup)
mutual
noncomputable def reS (T:Tab) (sc:Scope):Stm→Stmt→Stmt
 | .assign ts e=>fun x=>.Assign (ux T sc ts (xn x).tail) (reE T e sc (st0 x)) x.pos
 | .aug i op e=>fun x=>.AugAssign (.Name (zp sc i) ((xn x).getD 1 default).pos) (binOp op) (reE T e sc (st0 x)) x.pos
 | .expr e=>fun x=>.Expr (reE T e sc (st0 x)) x.pos
 | .cond c t e=>fun x=>.If (reE T c sc (st0 x)) (lR T sc t (stB x).1) (lR T sc e (stB x).2) x.pos
 | .loop c b=>fun x=>.While (reE T c sc (st0 x)) (lR T sc b (stB x).1) [] x.pos
 | .each t it b=>fun x=>.For (lQ sc t ((xn x).getD 1 default)) (nU T it sc (st0 x)) (lR T sc b (stB x).1) [] x.pos
 | .ret e=>fun x=>.Return ((xn x).head?.map (reE T e sc)) x.pos
 | .brk=>fun x=>.Break x.pos
 | .cont=>fun x=>.Continue x.pos
 | .pass=>fun x=>bif (xn x).isEmpty then .Pass x.pos else .Expr (.Constant (.str (z8 (st0 x))) (exK (st0 x)) (st0 x).pos) x.pos
 | .dead=>fun x=>x
noncomputable def lR (T:Tab) (sc:Scope):ky→List Stmt→List Stmt
 | .nil=>fun _=>[]
 | .cons s ss=>fun l=>reS T sc s (l.headD default)::lR T sc ss l.tail
end
mutual
noncomputable def okS (T:Tab) (sc:Scope):Stm→Stmt→Bool
 | .assign ts e=>fun x=>okE T e sc (st0 x)&&DO T sc ts e (ux T sc ts (xn x).tail) (xn x).tail (reE T e sc (st0 x)) (swp sc (ux T sc ts (xn x).tail) (reE T e sc (st0 x)))
 | .aug i op e=>fun x=>(decide (op=.add)||decide (op=.sub))&&(kindAt uo sc i&&okE T e sc (st0 x))
 | .expr e=>fun x=>we (reE T e sc (st0 x))&&okE T e sc (st0 x)
 | .cond c t e=>fun x=>tOk c&&(okE T c sc (st0 x)&&(jL T sc t (stB x).1&&jL T sc e (stB x).2))
 | .loop c b=>fun x=>tOk c&&(okE T c sc (st0 x)&&jL T sc b (stB x).1)
 | .each t it b=>fun x=>yA sc t ((xn x).getD 1 default)&&(BN T it sc (isTup (lQ sc t ((xn x).getD 1 default))) (st0 x)&&(jL T sc b (stB x).1&&mA (nU T it sc (st0 x))))
 | .ret e=>fun x=>match (xn x).head? with
  | some y=>okE T e sc y
  | none=>e.isNone
 | .brk=>fun _=>true
 | .cont=>fun _=>true
 | .pass=>fun _=>true
 | .dead=>fun _=>true
noncomputable def jL (T:Tab) (sc:Scope):ky→List Stmt→Bool
 | .nil=>fun _=>true
 | .cons s ss=>fun l=>okS T sc s (l.headD default)&&jL T sc ss l.tail
end
end MP
end
section
namespace MP
open PySem PyProof.Rows
section
variable {prog:Program} {w:World} {A:Around} {E:Value→Shared→Prop}
theorem mI {s:Shared} {y:Value} (hT:s.TypeIs y "tuple") {M:Model} {R:Bool→Shared→Prop} (hr:R true s):wpAny M A (isInstance y (.type "tuple")) R E s :=
 wpAny_isInstance (T:="tuple") (b:=true) hT (by kernel_rfl) hr
noncomputable def yl (h:Heap) (v:Value) (ns:List Int):Prop:=∃ a ws n,v=.ref a∧IsT h a ws.toArray n∧IntsAre ws ns
theorem EK {s:Shared} {x y:Value} {ns ms:List Int} {Q:Value→Shared→Prop} (hu:A.units<cLine) (hx:yl s.heap x ns) (hy:yl s.heap y ms) (hl:ns.length=ms.length) (hq:Q (.bool (gv ns ms)) s):wpAny (model prog w) A (richCompare .Lt x y) Q E s:=by
 obtain⟨a,ws,n,rfl,ta,ia⟩:=hx
 obtain⟨b,us,m,rfl,tb,ib⟩:=hy
 have ha:s.TypeIs (.ref a) "tuple":=⟨_,ta,rfl⟩
 have hb:s.TypeIs (.ref b) "tuple":=⟨_,tb,rfl⟩
 refine wpAny_richCompare_same_room ha hb PySem.F.slot_tuple_lt (jm PySem.F.slot_tuple_lt ha PySem.F.entry_tuple_lt ?_ (PySem.F.args_tuple_lt_2 _ _)) hu
 exact t7 (h:=s.heap) ta rfl tb rfl ia ib hl (fun R hr=>mI hb hr) ⟨_,rfl,fun e=>(nomatch e),hq⟩
structure IE (prog:Program) (w:World) (A:Around) (S:Addr) (wr:List Addr) (P:Nat→Value→Prop) (bt:Nat→Nat→Bool) (Good:Heap→Prop):Prop where
 keep:∀ h h',Good h→(∀ b o,b∉wr→b≠S→h.get? b=some o→h'.get? b=some o)→Good h'
 cmp:∀ (i j:Nat) (v u:Value) (s:Shared) (Q E:Value→Shared→Prop),Good s.heap→P i v→P j u→Q (.bool (bt i j)) s→wpAny (model prog w) A (richCompare .Lt v u) Q E s
noncomputable abbrev But (S:Addr) (wr:List Addr) (h h':Heap):Prop:=∀ b o,b∉wr→b≠S→h.get? b=some o→h'.get? b=some o
noncomputable abbrev I4 (v:Value) (c:Nat):Obj:={ cls:=.type "list",dict:=none,data:=.seq #[v,v] c,slots:=#[] }
section
variable {R:Result→Shared→Prop} {I S:Addr} {fp wr:List Addr} {n:Nat} {P:Nat→Value→Prop} {St:Nat→Heap→Prop} {bt:Nat→Nat→Bool} {Good:Heap→Prop}
theorem eH:(toString "min" ++ toString ".loop":String)="min.loop":=by decide
theorem yG (W:Walks prog w A.in1 I fp wr n P St) (T:IE prog w A.in1 S wr P bt Good) (hSf:S∉fp):∀ (k j:Nat) (s:Shared) (v:Value) (c:Nat),n-(j+1)=k→j+1≤n→St (j+1) s.heap→Good s.heap→P (argBest bt j) v→s.heap.get? S=some (I4 v c) →
  (∀ u h' tk,P (argBest bt (n-1)) u→But S wr s.heap h'→R (.ok (.ret u)) { s with heap:=h',toks:=tk })→codeAny (model prog w) A (.builtin "min.loop" ⟨[.ref I,.none,.ref S],[]⟩) R s:=by
 have hSw:S∉wr:=fun h=>hSf (W.sub _ h)
 intro k
 induction k with
 | zero =>
  intro j s v c hk hj hst hg hP hS hR
  obtain rfl:n=j+1:=by(exact eh .a9 [[1,0,1],[1,1,-1]] .b3 (.e (.a .C .L) .A) hk (aa (av .F .a .F hj)))
  refine qg F.entry_min_loop ?_
  rw [nj F.plain_min_loop _]
  show wpAny _ A.in1 (seqItems? (.ref S)>>=_) _ _ s
  refine ab (ju hS rfl ?_)
  show wpAny _ A.in1 (tryCatch (pyNext (.ref I)) _>>=_) _ _ s
  refine ab (rv (W.done s _ _ hst fun h' tk hk'=>?_))
  show wpAny _ A.in1 (updateSeq S (fun _=>#[])>>=_) _ _ _
  refine ab (qf (hk' S _ hSw hS) rfl (ab (yq (ae ?_))))
  exact hR v _ tk hP fun b o hb hbS e=>(iy _ _ (pn hbS)).trans (hk' b o hb e)
 | succ k ih =>
  intro j s v c hk hj hst hg hP hS hR
  refine qg F.entry_min_loop ?_
  rw [nj F.plain_min_loop _]
  show wpAny _ A.in1 (seqItems? (.ref S)>>=_) _ _ s
  refine ab (ju hS rfl ?_)
  show wpAny _ A.in1 (tryCatch (pyNext (.ref I)) _>>=_) _ _ s
  refine ab (rv (W.item (j+1) s _ _ (by exact dn (.l .M .B) .s (.e .C .V) .c4 hk (aa (av .F .a .F hj))) hst fun u h' tk hu hst' hk'=>?_))
  have hS':=hk' S _ hSw hS
  have g1:Good h':=T.keep _ _ hg fun b o hb _ e=>hk' b o hb e
  show wpAny _ A.in1 (tryCatch (holding [u,u] (richCompare .Lt u v>>=_)) _>>=_) _ _ _
  refine ab (rv (bu (ab (T.cmp (j+1) (argBest bt j) u v { s with heap:=h',toks:=tk } _ _ g1 hu hP ?_))))
  refine ab (bu (mz ?_))
  refine ab (yq (ae ?_))
  have e0:argBest bt (j+1)=if bt (j+1) (argBest bt j) then j+1 else argBest bt j:=rfl
  cases hb:bt (j+1) (argBest bt j) with
  | true =>
   rw [hb] at e0
   simp only [uf]
   refine ab (qf hS' rfl (ab (yq ?_)))
   rw [eH]
   have but:∀ b,b≠S→∀ o,h'.get? b=some o→(h'.update S (Obj.mapSeq fun _=>#[u,u])).get? b=some o:=fun b hbS o e=>(iy _ _ (pn hbS)).trans e
   refine ae ⟨xw F.plain_min_loop _,ih (j+1) _ u _ (by exact jt .C .p (.e .C .L) (.e (.a .C .V) .F) (.e (.a .A (.a .V .U)) .F) hk (aa (av .F .a .F hj)) (aa (dn (.k .aF .B) .s (.e .C .V) .c4 hk (aa (av .F .a .F hj))))) (by exact dn (.k .aF .B) .s (.e .C .V) .c4 hk (aa (av .F .a .F hj))) (W.frame _ _ _ hst' fun b hbf o e=>but b (fun q=>hSf (q▸hbf)) o e) (T.keep _ _ g1 fun b o _ hbS e=>but b hbS o e) (by rw [e0];exact hu) (mh _ hS' rfl) fun z h2 tk2 hz hk2=>?_⟩
   exact hR z h2 tk2 hz fun b o hbw hbS e=>hk2 b o hbw hbS (but b hbS o (hk' b o hbw e))
  | false =>
   rw [hb] at e0
   simp only [cw,iq]
   refine ab (yq ?_)
   rw [eH]
   refine ae ⟨xw F.plain_min_loop _,ih (j+1) _ v c (by exact jt .C .p (.e .C .L) (.e (.a .C .V) .F) (.e (.a .A (.a .V .U)) .F) hk (aa (av .F .a .F hj)) (aa (dn (.k .aF .B) .s (.e .C .V) .c4 hk (aa (av .F .a .F hj))))) (by exact dn (.k .aF .B) .s (.e .C .V) .c4 hk (aa (av .F .a .F hj))) hst' g1 (by rw [e0];exact hP) hS' fun z h2 tk2 hz hk2=>?_⟩
   exact hR z h2 tk2 hz fun b o hbw hbS e=>hk2 b o hbw hbS (hk' b o hbw e)
theorem uT (W:Walks prog w A.in1 I fp wr n P St) (T:IE prog w A.in1 S wr P bt Good) (hSf:S∉fp) (hn:0<n) {s:Shared} {c:Nat} (hst:St 0 s.heap) (hg:Good s.heap) (hS:s.heap.get? S=some { cls:=.type "list",dict:=none,data:=.seq #[] c,slots:=#[] })
  (hR:∀ u h' tk,P (argBest bt (n-1)) u→But S wr s.heap h'→R (.ok (.ret u)) { s with heap:=h',toks:=tk }):codeAny (model prog w) A (.builtin "min.loop" ⟨[.ref I,.none,.ref S],[]⟩) R s:=by
 have hSw:S∉wr:=fun h=>hSf (W.sub _ h)
 refine qg F.entry_min_loop ?_
 rw [nj F.plain_min_loop _]
 show wpAny _ A.in1 (seqItems? (.ref S)>>=_) _ _ s
 refine ab (ju hS rfl ?_)
 show wpAny _ A.in1 (tryCatch (pyNext (.ref I)) _>>=_) _ _ s
 refine ab (rv (W.item 0 s _ _ hn hst fun v h' tk hP hst' hk'=>?_))
 have hS':=hk' S _ hSw hS
 show wpAny _ A.in1 (updateSeq S (fun _=>#[v,v])>>=_) _ _ _
 refine ab (qf hS' rfl ?_)
 rw [eH]
 have but:∀ b,b≠S→∀ o,h'.get? b=some o→(h'.update S (Obj.mapSeq fun _=>#[v,v])).get? b=some o:=fun b hbS o e=>(iy _ _ (pn hbS)).trans e
 refine ae ⟨xw F.plain_min_loop _,yG W T hSf _ 0 _ v _ rfl hn (W.frame _ _ _ hst' fun b hbf o e=>but b (fun q=>hSf (q▸hbf)) o e) (T.keep _ _ hg fun b o hbw hbS e=>but b hbS o (hk' b o hbw e)) hP (mh _ hS' rfl) fun z h2 tk2 hz hk2=>?_⟩
 exact hR z h2 tk2 hz fun b o hbw hbS e=>hk2 b o hbw hbS (but b hbS o (hk' b o hbw e))
end
theorem yl.keep {h h':Heap} {v:Value} {ns:List Int} (x:yl h v ns) (k:∀ a o,v=.ref a→h.get? a=some o→h'.get? a=some o):yl h' v ns:=by
 obtain⟨a,ws,n,e,t,i⟩:=x
 exact⟨a,ws,n,e,k a _ e t,i⟩
noncomputable abbrev lsT (t:Int × Int × Int):List Int:=[t.1,t.2.1,t.2.2]
noncomputable def pick (x y z:Int × Int × Int):Nat→Int × Int × Int
 | 0=>x
 | 1=>y
 | _=>z
theorem vO {s:Shared} (hh:A.handled=none) (hu:A.in1.units<cLine) {a b c:Value} {x y z:Int × Int × Int} {Q:Value→Shared→Prop} (ha:yl s.heap a (lsT x)) (hb:yl s.heap b (lsT y)) (hc:yl s.heap c (lsT z))
  (h:∀ v h' tk,yl s.heap v (lsT (zq (zq x y) z))→(∀ d o,s.heap.get? d=some o→h'.get? d=some o)→Q v { s with heap:=h',toks:=tk }) :
  wpAny (model prog w) A (call (.builtin "min") [a,b,c]) Q E s:=by
 refine call_function_tree F.kind_min F.plain_min F.entry_min (F.args_min3 _ _ _) ?_
 show wpAny _ A.in1 (Builtin.Builtins.bindParams "min" ["key","default"] 0 ⟨[],[]⟩>>=_) _ _ s
 refine ab (di (show Builtin.Builtins.bindParams "min" ["key","default"] 0 ⟨[],[]⟩=pure [none,none] from rfl) ?_)
 show wpAny _ A.in1 (newTuple [a,b,c]>>=_) _ _ s
 refine ab (gy ?_)
 have hT:(s.heap.push { cls:=.type "tuple",data:=.seq #[a,b,c] }).IsTuple s.heap.objs.size #[a,b,c]:=⟨_,cm _ rfl,rfl,0,rfl⟩
 refine ab (wpAny_pyIter_tuple hT ?_)
 refine ab (gy ?_)
 rw [eH]
 have z1:(s.heap.push { cls:=.type "tuple",data:=.seq #[a,b,c] }).objs.size=s.heap.objs.size+1:=ez ..
 have z2:((s.heap.push { cls:=.type "tuple",data:=.seq #[a,b,c] }).push { cls:=.type "tuple_iterator",data:=.fields #[.ref s.heap.objs.size,.int 0 0] }).objs.size=s.heap.objs.size+2:=by rw [ez,z1]
 have tup:∀ (i:Nat) (v:Value),#[a,b,c][i]?=some v→yl s.heap v (lsT (pick x y z i)):=fun i v e=>by
  match i with
  | 0=>cases e;exact ha
  | 1=>cases e;exact hb
  | 2=>cases e;exact hc
  | n+3=>cases e
 have same:∀ t u:Int × Int × Int,(lsT t).length=(lsT u).length:=fun _ _=>rfl
 refine ae ⟨xw F.plain_min_loop _,uT (bt:=fun i j=>gv (lsT (pick x y z i)) (lsT (pick x y z j))) (Good:=fun h'=>∀ d o,s.heap.get? d=some o→h'.get? d=some o)
  (Walks.tuple (prog:=prog) (w:=w) (A:=A.in1) hh _ s.heap.objs.size (by rw [z1];exact jn (fB _)) #[a,b,c]) ⟨fun h h' g k d o e=>k d o (fun hm=>?_) (fun hs=>?_) (g d o e),fun i j v u s' Q E' g hv hu' q=>?_⟩ (fun hm=>?_) (Nat.zero_lt_succ 2) ⟨⟨_,aj _ (cm _ rfl),rfl,rfl⟩,(hT.push _).push _⟩ (fun d o e=>aj _ (aj _ (aj _ e))) (cm _ rfl) fun v h' tk hP hk=>?_⟩
 ·have:=et e
  have hm:=au.mp hm
  rw [z1] at hm;(exact dq .ff [[0,1,-1]] .B .a9 this hm)
 ·have:=et e
  have hs:d=((s.heap.push { cls:=.type "tuple",data:=.seq #[a,b,c] }).push { cls:=.type "tuple_iterator",data:=.fields #[.ref s.heap.objs.size,.int 0 0] }).objs.size:=hs
  rw [z2] at hs;(rename_i z1;exact kc .ff [[0,-1,-1,1]] (.e .A (.a .B .W)) .c7 .U z2 z1 this)
 ·exact EK hu ((tup i v hv).keep fun _ o _ e=>g _ o e) ((tup j u hu').keep fun _ o _ e=>g _ o e) (same _ _) q
 ·have hm:((s.heap.push { cls:=.type "tuple",data:=.seq #[a,b,c] }).push { cls:=.type "tuple_iterator",data:=.fields #[.ref s.heap.objs.size,.int 0 0] }).objs.size∈[(s.heap.push { cls:=.type "tuple",data:=.seq #[a,b,c] }).objs.size,s.heap.objs.size]:=hm
  rw [z1,z2] at hm
  rcases cf.mp hm with e | hm
  ·(exact dh .ff .o (.e .a5 .M) e)
  ·have:=au.mp hm;(exact dh .ff .o (.e .a5 .A) this)
 ·refine h v h' tk ?_ fun d o e=>hk d o (fun hm=>?_) (fun hs=>?_) (aj _ (aj _ (aj _ e)))
  ·have:=tup _ v hP
   have e:pick x y z (argBest (fun i j=>gv (lsT (pick x y z i)) (lsT (pick x y z j))) 2)=zq (zq x y) z:=by
    have e1:argBest (fun i j=>gv (lsT (pick x y z i)) (lsT (pick x y z j))) 1=if gv (lsT y) (lsT x)=true then 1 else 0:=rfl
    have e2:argBest (fun i j=>gv (lsT (pick x y z i)) (lsT (pick x y z j))) 2=if gv (lsT z) (lsT (pick x y z (argBest (fun i j=>gv (lsT (pick x y z i)) (lsT (pick x y z j))) 1)))=true then 2 else argBest (fun i j=>gv (lsT (pick x y z i)) (lsT (pick x y z j))) 1:=rfl
    rw [e2,e1]
    show pick x y z (if gv (lsT z) (lsT (pick x y z (if gv (lsT y) (lsT x)=true then 1 else 0)))=true then 2 else if gv (lsT y) (lsT x)=true then 1 else 0)=if gv (lsT z) (lsT (if gv (lsT y) (lsT x)=true then y else x))=true then z else (if gv (lsT y) (lsT x)=true then y else x)
    have p1:pick x y z (if gv (lsT y) (lsT x)=true then 1 else 0)=if gv (lsT y) (lsT x)=true then y else x:=by
     by_cases c1:gv (lsT y) (lsT x)=true
     ·exact(bx (pick x y z) (bp c1)).trans (bp c1).symm
     ·exact(bx (pick x y z) (aw c1)).trans (aw c1).symm
    rw [← p1]
    generalize (if gv (lsT y) (lsT x)=true then 1 else 0)=k
    by_cases c2:gv (lsT z) (lsT (pick x y z k))=true
    ·exact(bx (pick x y z) (bp c2)).trans (bp c2).symm
    ·exact(bx (pick x y z) (aw c2)).trans (aw c2).symm
   rw [← e];exact this
  ·have:=et e
   have hm:=au.mp hm
   rw [z1] at hm;(exact dq .ff [[0,1,-1]] .B .a9 this hm)
  ·have:=et e
   have hs:d=((s.heap.push { cls:=.type "tuple",data:=.seq #[a,b,c] }).push { cls:=.type "tuple_iterator",data:=.fields #[.ref s.heap.objs.size,.int 0 0] }).objs.size:=hs
   rw [z2] at hs;(rename_i z1;exact kc .ff [[0,-1,-1,1]] (.e .A (.a .B .W)) .c7 .U z2 z1 this)
end
section
variable {G:Stc} {C:Cal} {sc:Scope} {d:Nat}
theorem yl.vr {h:Heap} {v:Value} {t:Int × Int × Int} (x:yl h v (lsT t)):VR G h (tI t) v:=by
 obtain⟨a,ws,n,rfl,g,i⟩:=x
 exact .tup g (VRs.ints i)
theorem yl.of {h:Heap} {v:Value} {t:Int × Int × Int} (x:VR G h (tI t) v):yl h v (lsT t):=by
 obtain⟨a,ws,n,rfl,g,r⟩:=x
 exact⟨a,ws,n,rfl,g,rq (ns:=lsT t) r⟩
theorem wW {e f g:Ex} {x:Str} {y z u:Expr} {p pos:Pos} (K:GOk G) (he:cz G C sc d e y) (hf:cz G C sc d f z) (hg:cz G C sc d g u) (hst:noStar [y,z,u]=true) (hx:sc.names.lookup x=some .globalImplicit) (hn:fy x=true) (hv:G.gl x=some (.builtin "min")) :
  cz G C sc d (.bf .min3 (.cons e (.cons f (.cons g .nil)))) (.Call (.Name x p) [y,z,u] [] pos):=fun A E env ρ σ Q s ao es eo F R h=>by
 have h1:=cu hst
 have h2:=cu h1.2
 have hes:ke G C sc d (.cons e (.cons f (.cons g .nil))) [y,z,u]:=ek he (ek hf (ek hg jo (cu h2.2).1) h2.1) h1.1
 refine dC (P:=fun vs σ=>pO .min3 vs σ Q) K hst hes hx hn hv ao es eo F R h fun vs σ₁ h₁ tk ws q vr r x₁=>?_
 obtain⟨t1,t2,t3,rfl,q⟩:=q
 obtain⟨a,us,rfl,va,w1⟩:=vr
 obtain⟨b,us',rfl,vb,w2⟩:=w1
 obtain⟨c,us'',rfl,vc,w3⟩:=w2
 obtain rfl:=w3
 have hu:A.in1.units<cLine:=by
  have:=ao.units
  show A.units+1<cLine
  (exact cv (.l .M .B) .a .bH this)
 refine vO (s:={ s with heap:=h₁,toks:=tk }) ao.handled hu (yl.of va) (yl.of vb) (yl.of vc) fun v h' tk' hv hk=>?_
 exact⟨_,σ₁,h',tk',rfl,q,(hv.keep fun a o _ e=>hk a o e).vr,r.keeps hk,x₁.trans (Evo.keeps hk)⟩
end
end MP
end
section
namespace MP
open PySem PyProof.Rows PySem.W
section
variable {G:Stc} {T:Tab} {C:Cal} {d:Nat}
theorem jz (K:TabOk G T C d) {sc:Scope} {x:Str} {v:Value} (h:glob T sc x v=true):sc.names.lookup x=some .globalImplicit∧fy x=true∧G.gl x=some v :=
 ⟨bb (band h).1,(band (band h).2).1,K.gl _ _ (bb (band (band h).2).2)⟩
theorem zg {x:Expr} (h:mA x=true):∀ env v,foldedSetIterable x env v=pure v:=by
 intro env v
 cases x<;>first | rfl | exact Bool.noConfusion (show false=true from h)
theorem lJ (K:TabOk G T C d) {sc:Scope}:(t:Tg)→(x:Expr)→yA sc t x=true→ue G C sc d t (lQ sc t x)
 | .var i,x,h=>by obtain⟨k,h1,h2,h3⟩:=rj h;exact AF h1 h2
 | .tup is,x,h=>AG K.unp h
theorem iP {α:Type} {a:Option α} {d:α} (h:a.isSome=true):a=some (a.getD d):=by
 cases a with
 | none=>cases h
 | some x=>rfl
theorem n2 (K:TabOk G T C d) {i:Nat} (h:(T.attrs[i]?).isSome=true):G.attrs[i]?=some ((T.attrs[i]?).getD ""):=by
 rw [K.attrs];exact iP h
theorem I1 {sc:Scope} {op:BoolOp} {e a b:Ex} {x y:Expr} {p:Pos} {m:Bool} (H:∀ z r,cz G C sc d a x→cz G C sc d b (.BoolOp op (z::r) p)→cz G C sc d e (.BoolOp op (x::z::r) p)) (ha:cz G C sc d a x) (hb:cz G C sc d b y) (h:yB op y p m=true) :
  cz G C sc d e (bo op x y p m):=by
 rcases pA m h with rfl | ⟨z,r,rfl,e1⟩
 ·exact H y [] ha (AQ hb)
 ·rw [e1];exact H z r ha hb
theorem HZ {sc:Scope} {op:BoolOp} {e a b:Ex} {x y:Expr} {p:Pos} {m:Bool} (H:∀ z r,pq G C sc d a x→pq G C sc d b (.BoolOp op (z::r) p)→pq G C sc d e (.BoolOp op (x::z::r) p)) (ha:pq G C sc d a x) (hb:pq G C sc d b y) (h:yB op y p m=true) :
  pq G C sc d e (bo op x y p m):=by
 rcases pA m h with rfl | ⟨z,r,rfl,e1⟩
 ·exact H y [] ha (by cases op;exact uK hb;exact uJ hb)
 ·rw [e1];exact H z r ha hb
theorem uI (K:TabOk G T C d) {sc:Scope} {f:Nat} {es:Exs} {x:Expr} {args:List Expr} {pos:Pos} (h:((T.fns.lookup f).any fun a=>glob T sc (ji x) (.ref a))=true) (hes:ke G C sc d es args) (hs:noStar args=true):cz G C sc d (.call f es) (.Call (nm x) args [] pos):=by
 obtain⟨a,e,h⟩:=any_some h
 obtain⟨g1,g2,g3⟩:=jz K h
 exact xD K.g (K.cal.more (Nat.sub_le _ _)) e hes hs g1 g2 g3
theorem uF (K:TabOk G T C d) {sc:Scope} {e:Ex} {m:Nat} {es:Exs} {o:Expr} {args:List Expr} {ap pos:Pos} (h:(T.meths.lookup m).isSome=true) (he:cz G C sc d e o) (h2:pf o=true) (h3:(ap.endLine==pos.line)=true) (h4:decide (args.length<30)=true) (hs:noStar args=true) (hes:ke G C sc d es args) :
  cz G C sc d (.meth e m es) (.Call (.Attribute o ((T.meths.lookup m).getD "") ap) args [] pos):=by
 obtain⟨f,hf,M⟩:=K.meth _ _ (iP h)
 exact wY (K.cal.more (Nat.sub_le _ _)) hf M he hes h2 hs (bb h4) h3
theorem B4 (K:TabOk G T C d) {sc:Scope} {k:BM} {e:Ex} {es:Exs} {o:Expr} {args:List Expr} {ap pos:Pos} (h:(!isSort k||es.isNil)=true) (ha:es.isNil=true→args=[]) (he:cz G C sc d e o) (h2:pf o=true) (h3:(ap.endLine==pos.line)=true) (h4:decide (args.length<30)=true) (hs:noStar args=true) (hes:ke G C sc d es args) :
  cz G C sc d (.bm k e es) (.Call (.Attribute o (n0 k) ap) args [] pos):=by
 by_cases hk:k=.sort
 ·subst hk
  obtain rfl:=ha h
  cases es with
  | nil=>exact wM K.ma he h2 h3
  | cons _ _=>cases h
 ·exact ET K.g hk he hes h2 hs (bb h4) h3
theorem xV {sc:Scope} {l:List Expr}:(es:Exs)→es.isNil=true→pz T es sc l=[]
 | .nil,_=>rfl
theorem BH {sc:Scope} {l:List Expr}:(es:Exs)→(!es.isNil)=true→pz T es sc l≠[]
 | .cons _ _,_=>List.cons_ne_nil _ _
theorem uE (K:TabOk G T C d) {sc:Scope} {es:Exs} {x:Expr} {args:List Expr} {pos:Pos} (hne:args≠[]) (h:glob T sc (ji x) (.ref T.cS)=true) (hs:noStar args=true) (hes:ke G C sc d es args):cz G C sc d (.newM es) (.Call (nm x) args [] pos):=by
 obtain⟨g1,g2,g3⟩:=jz K h
 obtain⟨f,hf,M⟩:=K.init
 exact wV K.g K.cal (jd (by decide) K.d3) hf M hes hs hne g1 g2 (K.cS▸g3)
theorem jG (K:TabOk G T C d) {sc:Scope} {a b c:Ex} {x u v w:Expr} {pos:Pos} (h:glob T sc (ji x) (.ref T.cM)=true) (hs:noStar [u,v,w]=true) (ha:cz G C sc d a u) (hb:cz G C sc d b v) (hc:cz G C sc d c w):cz G C sc d (.newMatch a b c) (.Call (nm x) [u,v,w] [] pos):=by
 obtain⟨g1,g2,g3⟩:=jz K h
 obtain⟨fN,fM,Mk,Mn,Mm⟩:=K.mt
 exact lN K.g Mk Mn K.ma (jd (by decide) K.d3) ha hb hc hs g1 g2 (K.cM▸g3)
theorem i3 (K:TabOk G T C d) {sc:Scope} {e:Ex} {x y z u:Expr} {p q pos:Pos} (h1:glob T sc (ji x) (.type "list")=true) (h2:glob T sc (ji y) (.type "map")=true) (h3:glob T sc (ji z) (.ref T.cM)=true) (hs:noStar [u]=true) (he:cz G C sc d e u) :
  cz G C sc d (.mkMatches e) (.Call (nm x) [.Call (nm y) [.Attribute (nm z) "_make" q,u] [] p] [] pos):=by
 obtain⟨g1,g2,g3⟩:=jz K h1
 obtain⟨k1,k2,k3⟩:=jz K h2
 obtain⟨m1,m2,m3⟩:=jz K h3
 obtain⟨fN,fM,Mk,Mn,Mm⟩:=K.mt
 exact jH K.g Mk K.ma Mm K.d3 he hs g1 g2 g3 k1 k2 k3 m1 m2 (K.cM▸m3)
theorem fR {e:Ex} (h:e.isNone=true):e=.none:=by
 cases e<;>first | rfl | exact Bool.noConfusion h
theorem CM {α:Type} {l m:List α} {a:α} {n:Nat} (h:l.drop n=a::m):l[n]?=some a:=by
 have:=bx (fun l=>l[0]?) h
 simpa using this
theorem CL {α:Type} {l m:List α} {a:α} {n:Nat} (h:l.drop n=a::m):l.drop (n+1)=m:=by
 have:=bx (fun l=>l.drop 1) h
 simpa using this
theorem yf {sc:Scope}:(gs:Gens)→(l:List Comprehension)→∀ g∈xU T gs sc l,g.is_async=0
 | .elt _,_,_,h=>nomatch h
 | .cons _ _ _ more,l,g,h=>(cf.mp h).elim (fun e=>e▸rfl) (yf more l.tail g)
theorem ft {p:Prop} (h:false=true):p:=Bool.noConfusion h
theorem B7 (K:TabOk G T C d) {sc:Scope} {e:Ex} {x u:Expr} {pos:Pos}:(k:BF)→Nat.beq 1 (rW k)=true→qb k=false→glob T sc (ji x) (pC k)=true→noStar [u]=true→cz G C sc d e u→cz G C sc d (.bf k (.cons e .nil)) (.Call (nm x) [u] [] pos)
 | .len=>fun _ _ h hs he=>by obtain⟨g1,g2,g3⟩:=jz K h;exact AV K.g he hs g1 g2 g3
 | .min=>fun h=>ft h
 | .max=>fun h=>ft h
 | .divmod=>fun h=>ft h
 | .set=>fun h=>ft h
 | .lrange=>fun _ h=>ft h.symm
 | .min3=>fun h=>ft h
theorem B5 (K:TabOk G T C d) {sc:Scope} {e:Ex} {x y u:Expr} {p pos:Pos}:(k:BF)→qb k=true→glob T sc (ji x) (pC k)=true→glob T sc (ji y) (.type "range")=true→noStar [u]=true→cz G C sc d e u→cz G C sc d (.bf k (.cons e .nil)) (.Call (nm x) [.Call (nm y) [u] [] p] [] pos)
 | .lrange=>fun _ h h' hs he=>by obtain⟨g1,g2,g3⟩:=jz K h;exact by obtain⟨k1,k2,k3⟩:=jz K h';exact pU K.g he hs g1 g2 g3 k1 k2 k3
 | .len=>fun h=>ft h
 | .min=>fun h=>ft h
 | .max=>fun h=>ft h
 | .divmod=>fun h=>ft h
 | .set=>fun h=>ft h
 | .min3=>fun h=>ft h
theorem B6 (K:TabOk G T C d) {sc:Scope} {e f:Ex} {x u v:Expr} {pos:Pos}:(k:BF)→Nat.beq 2 (rW k)=true→glob T sc (ji x) (pC k)=true→noStar [u,v]=true→cz G C sc d e u→cz G C sc d f v→cz G C sc d (.bf k (.cons e (.cons f .nil))) (.Call (nm x) [u,v] [] pos)
 | .min=>fun _ h hs he hf=>by obtain⟨g1,g2,g3⟩:=jz K h;exact wX K.g he hf hs g1 g2 g3
 | .max=>fun _ h hs he hf=>by obtain⟨g1,g2,g3⟩:=jz K h;exact wZ K.g he hf hs g1 g2 g3
 | .divmod=>fun _ h hs he hf=>by obtain⟨g1,g2,g3⟩:=jz K h;exact pW K.g he hf hs g1 g2 g3
 | .len=>fun h=>ft h
 | .set=>fun h=>ft h
 | .lrange=>fun h=>ft h
 | .min3=>fun h=>ft h
theorem B8 (K:TabOk G T C d) {sc:Scope} {x:Expr} {pos:Pos}:(k:BF)→Nat.beq 0 (rW k)=true→glob T sc (ji x) (pC k)=true→cz G C sc d (.bf k .nil) (.Call (nm x) [] [] pos)
 | .set=>fun _ h=>by obtain⟨g1,g2,g3⟩:=jz K h;exact wO K.g g1 g2 g3
 | .len=>fun h=>ft h
 | .min=>fun h=>ft h
 | .max=>fun h=>ft h
 | .divmod=>fun h=>ft h
 | .lrange=>fun h=>ft h
 | .min3=>fun h=>ft h
theorem sX:(k:BF)→qb k=true→rW k=1
 | .lrange=>fun _=>rfl
 | .len=>fun h=>ft h
 | .min=>fun h=>ft h
 | .max=>fun h=>ft h
 | .divmod=>fun h=>ft h
 | .set=>fun h=>ft h
 | .min3=>fun h=>ft h
theorem bf4 {n:Nat}:(k:BF)→Nat.beq (n+4) (rW k)=true→False
 | .set=>fun h=>nomatch (show(Nat.beq (n+4) 0)=true from h)
 | .len=>fun h=>nomatch (show(Nat.beq (n+3) 0)=true from h)
 | .min=>fun h=>nomatch (show(Nat.beq (n+2) 0)=true from h)
 | .max=>fun h=>nomatch (show(Nat.beq (n+2) 0)=true from h)
 | .divmod=>fun h=>nomatch (show(Nat.beq (n+2) 0)=true from h)
 | .lrange=>fun h=>nomatch (show(Nat.beq (n+3) 0)=true from h)
 | .min3=>fun h=>nomatch (show(Nat.beq (n+1) 0)=true from h)
theorem bf3:(k:BF)→Nat.beq 3 (rW k)=true→k=.min3
 | .min3=>fun _=>rfl
 | .set=>fun h=>ft h
 | .len=>fun h=>ft h
 | .min=>fun h=>ft h
 | .max=>fun h=>ft h
 | .divmod=>fun h=>ft h
 | .lrange=>fun h=>ft h
mutual
theorem jc (K:TabOk G T C d):(e:Ex)→(sc:Scope)→(x:Expr)→okE T e sc x=true→cz G C sc d e (reE T e sc x)
 | .none=>fun sc x h=>wU
 | .bool b=>fun sc x h=>xE
 | .int i=>fun sc x h=>AX
 | .str t=>fun sc x h=>AN
 | .loc i=>fun sc x h=>by obtain⟨k,h1,h2,h3⟩:=rj h;exact h9 h1 h2 h3
 | .bin op a b=>fun sc x h=>sQ (jc K a sc _ (band h).1) (jc K b sc _ (band h).2)
 | .neg a=>fun sc x h=>AS (jc K a sc _ h)
 | .not a=>fun sc x h=>AR (jc K a sc _ h)
 | .and a b=>fun sc x h=>let h2:=band (band h).2;I1 (fun _ _=>snd_and) (jc K a sc _ (band h).1) (jc K b sc _ h2.1) h2.2
 | .or a b=>fun sc x h=>let h2:=band (band h).2;I1 (fun _ _=>EO) (jc K a sc _ (band h).1) (jc K b sc _ h2.1) h2.2
 | .cmp op a b=>fun sc x h=>let h2:=band (band h).2;AY (jc K a sc _ (band h).1) (jc K b sc _ h2.1) ((fh _).mp h2.2)
 | .ite c a b=>fun sc x h=>let h2:=band (band h).2;let h3:=band h2.2;AW (gU K c sc _ (band h).1 h2.1) (jc K a sc _ h3.1) (jc K b sc _ h3.2)
 | .lst es=>fun sc x h=>AU (eB K es sc _ (band h).1 (band h).2)
 | .tup es=>fun sc x h=>sO (eB K es sc _ (band h).1 (band h).2)
 | .dct0=>fun sc x h=>xA
 | .call f es=>fun sc x h=>let h2:=band (band h).2;uI K (band h).1 (eB K es sc _ h2.1 h2.2) h2.1
 | .meth e m es=>fun sc x h=>let h2:=band (band h).2;let h3:=band h2.2;let h4:=band h3.2;let h5:=band h4.2;let h6:=band h5.2
  uF K (band h).1 (jc K e sc _ h2.1) h3.1 h4.1 h5.1 h6.1 (eB K es sc _ h6.1 h6.2)
 | .attr e i=>fun sc x h=>let h2:=band (band h).2;nM K.g (jc K e sc _ h2.2) h2.1 (n2 K (band h).1)
 | .dgetOf e=>fun sc x h=>pX (jc K e sc _ (band h).2) (band h).1
 | .shasOf e=>fun sc x h=>pT (jc K e sc _ (band h).2) (band h).1
 | .bm k e es=>fun sc x h=>let h2:=band (band h).2;let h3:=band h2.2;let h4:=band h3.2;let h5:=band h4.2;let h6:=band h5.2
  B4 K (band h).1 (xV es) (jc K e sc _ h2.1) h3.1 h4.1 h5.1 h6.1 (eB K es sc _ h6.1 h6.2)
 | .bf k .nil=>fun sc x h=>by
  obtain⟨h1,h2⟩:=band h
  have h3:=h1
  cases hr:qb k
  ·show cz G C sc d _ (bif qb k then _ else _)
   rw [hr]
   exact B8 K k h3 (band h2).1
  ·rw [sX k hr] at h3
   exact Bool.noConfusion (show false=true from h3)
 | .bf k (.cons e .nil)=>fun sc x h=>by
  obtain⟨h1,h2⟩:=band h
  obtain⟨h2,h4⟩:=band h2
  have h3:=h1
  show cz G C sc d _ (bif qb k then _ else _)
  cases hr:qb k
  ·rw [hr] at h4
   exact B7 K k h3 hr h2 (band h4).1 (jc K e sc _ (band (band h4).2).1)
  ·rw [hr] at h4
   have h5:=band (band h4).2
   exact B5 K k hr h2 (band h4).1 h5.1 (jc K e sc _ (band h5.2).1)
 | .bf k (.cons e (.cons f .nil))=>fun sc x h=>by
  obtain⟨h1,h2⟩:=band h
  obtain⟨h2,h4⟩:=band h2
  have h3:=h1
  cases hr:qb k
  ·rw [hr] at h4
   show cz G C sc d _ (bif qb k then _ else _)
   rw [hr]
   have h5:=band (band h4).2
   exact B6 K k h3 h2 (band h4).1 (jc K e sc _ h5.1) (jc K f sc _ (band h5.2).1)
  ·rw [sX k hr] at h3
   exact Bool.noConfusion (show false=true from h3)
 | .bf k (.cons e (.cons f (.cons g .nil)))=>fun sc x h=>by
  obtain⟨h1,h2⟩:=band h
  obtain⟨h2,h4⟩:=band h2
  obtain rfl:=bf3 k h1
  have h5:=band (band h4).2
  have h6:=band h5.2
  obtain⟨g1,g2,g3⟩:=jz K h2
  exact wW K.g (jc K e sc _ h5.1) (jc K f sc _ h6.1) (jc K g sc _ (band h6.2).1) (band h4).1 g1 g2 g3
 | .bf k (.cons e (.cons f (.cons g (.cons i r))))=>fun sc x h=>(bf4 k (band h).1).elim
 | .callv f es=>fun sc x h=>let h2:=band (band h).2;by obtain⟨k,e1,e2,e3⟩:=rj (band h).1;exact kE K.g e1 e2 e3 (eB K es sc _ h2.1 h2.2) h2.1
 | .sub e i=>fun sc x h=>let h2:=band (band h).2;sP (jc K e sc _ h2.1) (jc K i sc _ h2.2) ((fh _).mp (band h).1)
 | .slc e lo hi=>fun sc x h=>let h2:=band (band h).2;AO (jc K e sc _ (band h).1)
   (by
    cases e0:zi 0 (kid 1 x) with
    | none=>exact .inl ⟨fR (by have:=h2.1;rw [e0] at this;exact this),rfl⟩
    | some y=>exact .inr ⟨_,rfl,jc K lo sc y (by have:=h2.1;rw [e0] at this;exact this)⟩)
   (by
    cases e0:zi 1 (kid 1 x) with
    | none=>exact .inl ⟨fR (by have:=h2.2;rw [e0] at this;exact this),rfl⟩
    | some y=>exact .inr ⟨_,rfl,jc K hi sc y (by have:=h2.2;rw [e0] at this;exact this)⟩)
 | .comp fv it t cs more=>fun sc x h=>let h2:=band (band h).2;let h3:=band h2.2;let h4:=band h3.2;let h5:=band h4.2;let h6:=band h5.2;let h7:=band h6.2;let h8:=band h7.2
  nL (sT K it sc _ _ (band h).1) (lJ K t _ h2.1) (sU K cs _ _ h3.1) (xN K more _ _ _ _ _ _ 0 rfl (fun g hg=>(cf.mp hg).elim (fun e=>e▸rfl) (yf more _ g)) h4.1) (zg h5.1) (bb h6.1) (bb h7.1) h8.1 h8.2 (yf more _)
 | .newM es=>fun sc x h=>let h2:=band (band h).2;let h3:=band h2.2;uE K (BH es (band h).1) h2.1 h3.1 (eB K es sc _ h3.1 h3.2)
 | .newMatch a b c=>fun sc x h=>let h2:=band (band h).2;let h3:=band h2.2;let h4:=band h3.2;jG K (band h).1 h2.1 (jc K a sc _ h3.1) (jc K b sc _ h4.1) (jc K c sc _ h4.2)
 | .mkMatches e=>fun sc x h=>let h2:=band (band h).2;let h3:=band h2.2;let h4:=band h3.2;i3 K (band h).1 h2.1 h3.1 h4.1 (jc K e sc _ h4.2)
 | .dead=>fun sc x h=>uH
theorem gU (K:TabOk G T C d):(e:Ex)→(sc:Scope)→(x:Expr)→tOk e=true→okE T e sc x=true→pq G C sc d e (reE T e sc x)
 | .not a=>fun sc x t h=>xH (gU K a sc _ t h)
 | .and a b=>fun sc x t h=>let h2:=band (band h).2;HZ (fun _ _=>xK) (gU K a sc _ (band t).1 (band h).1) (gU K b sc _ (band t).2 h2.1) h2.2
 | .or a b=>fun sc x t h=>let h2:=band (band h).2;HZ (fun _ _=>BA) (gU K a sc _ (band t).1 (band h).1) (gU K b sc _ (band t).2 h2.1) h2.2
 | .cmp op a b=>fun sc x t h=>let h2:=band (band h).2;xJ (jc K a sc _ (band h).1) (jc K b sc _ h2.1) ((fh _).mp h2.2)
 | .ite c a b=>fun sc x t h=>let h2:=band (band h).2;let h3:=band h2.2;xI (gU K c sc _ (band h).1 h2.1) (gU K a sc _ (band t).1 h3.1) (gU K b sc _ (band t).2 h3.2)
 | .loc i=>fun sc x t h=>by obtain⟨k,h1,h2,h3⟩:=rj h;exact tu (h9 h1 h2 h3) (fun _ _=>rfl) fun ρ σ Q q=>q
 | .attr e i=>fun sc x t h=>let h2:=band (band h).2;tu (nM K.g (jc K e sc _ h2.2) h2.1 (n2 K (band h).1)) (fun _ _=>rfl) fun ρ σ Q q=>q
 | .callv f es=>fun sc x t h=>let h2:=band (band h).2;by obtain⟨k,e1,e2,e3⟩:=rj (band h).1;exact tu (kE K.g e1 e2 e3 (eB K es sc _ h2.1 h2.2) h2.1) (fun _ _=>rfl) fun ρ σ Q q=>q
 | .sub e i=>fun sc x t h=>let h2:=band (band h).2;tu (sP (jc K e sc _ h2.1) (jc K i sc _ h2.2) ((fh _).mp (band h).1)) (fun _ _=>rfl) fun ρ σ Q q=>q
 | .bin op a b=>fun sc x t h=>tu (sQ (jc K a sc _ (band h).1) (jc K b sc _ (band h).2)) (fun _ _=>rfl) fun ρ σ Q q=>q
 | .dead=>fun sc x t h=>uG
 | .none=>fun _ _ t _=>ft t
 | .bool _=>fun _ _ t _=>ft t
 | .int _=>fun _ _ t _=>ft t
 | .str _=>fun _ _ t _=>ft t
 | .neg _=>fun _ _ t _=>ft t
 | .lst _=>fun _ _ t _=>ft t
 | .tup _=>fun _ _ t _=>ft t
 | .dct0=>fun _ _ t _=>ft t
 | .call _ _=>fun _ _ t _=>ft t
 | .meth _ _ _=>fun _ _ t _=>ft t
 | .dgetOf _=>fun _ _ t _=>ft t
 | .shasOf _=>fun _ _ t _=>ft t
 | .bm _ _ _=>fun _ _ t _=>ft t
 | .bf _ _=>fun _ _ t _=>ft t
 | .slc _ _ _=>fun _ _ t _=>ft t
 | .comp _ _ _ _ _=>fun _ _ t _=>ft t
 | .newM _=>fun _ _ t _=>ft t
 | .newMatch _ _ _=>fun _ _ t _=>ft t
 | .mkMatches _=>fun _ _ t _=>ft t
theorem eB (K:TabOk G T C d):(es:Exs)→(sc:Scope)→(l:List Expr)→noStar (pz T es sc l)=true→iC T es sc l=true→ke G C sc d es (pz T es sc l)
 | .nil=>fun sc l hs h=>jo
 | .cons e es=>fun sc l hs h=>ek (jc K e sc _ (band h).1) (eB K es sc _ (cu hs).2 (band h).2) (cu hs).1
theorem sU (K:TabOk G T C d):(es:Exs)→(sc:Scope)→(l:List Expr)→BO T es sc l=true→oq G C sc d es (pz T es sc l)
 | .nil=>fun sc l h=>vL
 | .cons e es=>fun sc l h=>let h2:=band (band h).2;rN (gU K e sc _ (band h).1 h2.1) (sU K es sc _ h2.2)
theorem sT (K:TabOk G T C d):(it:It)→(sc:Scope)→(tp:Bool)→(x:Expr)→BN T it sc tp x=true→yn G C sc d tp it (nU T it sc x)
 | .rng1 e,sc,tp,x,h=>let h2:=band (band h).2;by obtain⟨g1,g2,g3⟩:=jz K (band h).1;exact C8 K.g (jc K e sc _ h2.2) h2.1 g1 g2 g3
 | .rng2 e f,sc,tp,x,h=>let h2:=band (band h).2;let h3:=band h2.2;by obtain⟨g1,g2,g3⟩:=jz K (band h).1;exact C7 K.g (jc K e sc _ h3.1) (jc K f sc _ h3.2) h2.1 g1 g2 g3
 | .rng3 e f g,sc,tp,x,h=>let h2:=band (band h).2;let h3:=band h2.2;let h4:=band h3.2;by obtain⟨g1,g2,g3⟩:=jz K (band h).1;exact C6 K.g (jc K e sc _ h3.1) (jc K f sc _ h4.1) (jc K g sc _ h4.2) h2.1 g1 g2 g3
 | .enum e,sc,true,x,h=>let h2:=band h;let h3:=band h2.2;by obtain⟨g1,g2,g3⟩:=jz K h2.1;exact C9 K.g (jc K e sc _ h3.2) h3.1 g1 g2 g3
 | .enum e,sc,false,x,h=>nomatch h
 | .seq e,sc,tp,x,h=>FQ (jc K e sc _ h)
theorem xN (K:TabOk G T C d):(gs:Gens)→(sc:Scope)→(x:Expr)→(l:List Comprehension)→(gens:List Comprehension)→(scope:Scope)→(pos:Pos)→(depth:Nat)→gens.drop (depth+1)=xU T gs sc l→(∀ g∈gens,g.is_async=0)→F8 T gs sc l x=true→qe G C sc d gs (xW T gs sc x) gens scope pos depth
 | .elt e=>fun sc x l gens scope pos depth hd ha h=>vR (jc K e sc _ h) (aE.mpr (List.drop_eq_nil_iff.mp hd))
 | .cons it t cs more=>fun sc x l gens scope pos depth hd ha h =>
  let h2:=band (band h).2;let h3:=band h2.2;let h4:=band h3.2
  rZ (sT K it sc _ _ (band h).1) (lJ K t _ h2.1) (sU K cs _ _ h3.1) (xN K more sc x _ gens scope pos (depth+1) (CL hd) ha h4.1) (CM hd) (fun g' hg=>ha g' (ew hg)) (zg h4.2)
end
end
end MP
end
section
namespace MP
open PySem PyProof.Rows PySem.W
section
variable {G:Stc} {T:Tab} {C:Cal} {d:Nat} {sc:Scope}
theorem EU (K:TabOk G T C d):(t:Tgt)→(x:Expr)→DN T sc t x=true→fY G C sc d t (sW T sc t x)
 | .var i,x,h=>by obtain⟨k,h1,h2,h3⟩:=rj h;exact sJ h1 h2
 | .attr o i,x,h=>wD K.g (jc K o sc _ (band h).1) (n2 K (band h).2)
 | .sub o i,x,h=>AE (jc K o sc _ (band h).1) (jc K i sc _ (band h).2)
 | .tup is,x,h=>AD K.unp h
theorem zD (t:Tgt) (x:Expr) (xs:List Expr) (env:Env):assignEach (sW T sc t x::xs) env=(false,assign (sW T sc t x) env)::assignEach xs env:=by
 cases t<;>rfl
theorem sS (K:TabOk G T C d):(ts:List Tgt)→(l:List Expr)→iB T sc ts l=true→zo G C sc d ts (ux T sc ts l)
 | [],_,_=>.nil
 | t::ts,l,h=>.cons (EU K t _ (band h).1) (zD t _ _) (sS K ts _ (band h).2)
theorem wC:(ts:List Tgt)→(l:List Expr)→qX ts=true→iB T sc ts l=true→∃ i x p,ts=[.var i]∧ux T sc ts l=[.Name x p]∧x=zp sc i∧kindAt uo sc i=true
 | []=>fun l q h=>ft q
 | t::r=>fun l q h=>by
  cases t<;>cases r<;>first | exact⟨_,_,_,rfl,rfl,rfl,(band h).1⟩ | exact ft q
theorem IK:(ts:List Tgt)→(is:List Nat)→yR ts=some is→ts=[.tup is]
 | []=>fun is h=>fu h
 | t::r=>fun is h=>by
  cases t<;>cases r<;>first | exact fu h | (obtain rfl:=af h;rfl)
theorem GO (K:TabOk G T C d) (t:Tg) (x:Expr) (h:yA sc t x=true):tY G C sc d t (lQ sc t x):=(lJ K t x h).plain
theorem CV {e:Ex} (h:qY e=true):∃ fv it t cs more,e=.comp fv it t cs more:=by
 cases e<;>first | exact⟨_,_,_,_,_,rfl⟩ | exact Bool.noConfusion h
theorem BB (K:TabOk G T C d) {ts:List Tgt} {pos:Pos} {l:List Expr} {y:Expr} {e:Ex} (hc:qY e=true) (hv:qX ts=true) (ht:iB T sc ts l=true) (h:okE T e sc y=true):vg G C sc d (.assign ts e) (.Assign (ux T sc ts l) (reE T e sc y) pos):=by
  obtain⟨fv,it,t,cs,more,rfl⟩:=CV hc
  obtain⟨i,x',p',rfl,e2,rfl,hk⟩:=wC ts l hv ht
  obtain⟨kd,o1,o2,o3⟩:=rj hk
  rw [e2]
  have h2:=band (band h).2
  have h3:=band h2.2
  have h4:=band h3.2
  have h5:=band h4.2
  have h6:=band h5.2
  have h7:=band h6.2
  have h8:=band h7.2
  exact i6 o1 o2 (sT K it sc _ _ (band h).1) (lJ K t _ h2.1) (sU K cs _ _ h3.1) (xN K more _ _ _ _ _ _ 0 rfl (fun g hg=>(cf.mp hg).elim (fun e=>e▸rfl) (yf more _ g)) h4.1) (zg h5.1) (bb h6.1) (bb h7.1) h8.1 h8.2 (yf more _)
theorem uM (K:TabOk G T C d) {ts:List Tgt} {e:Ex} {pos:Pos} {l:List Expr} {y:Expr} (h:okE T e sc y=true):(o:Option (Option (List Str)))→swp sc (ux T sc ts l) (reE T e sc y)=o→DO T sc ts e (ux T sc ts l) l (reE T e sc y) o=true→vg G C sc d (.assign ts e) (.Assign (ux T sc ts l) (reE T e sc y) pos)
 | none,_,h2=>nomatch h2
 | some none,hw,h2=>(Classical.em (we (reE T e sc y)=true)).elim (fun hc=>pZ (sS K ts l (band h2).1) (jc K e sc y h) hc hw) fun hc =>
  ((ry ..).mp (band h2).2).elim (fun h3=>absurd h3 hc) fun h3=>BB K (band h3).2 (band h3).1 (band h2).1 h
 | some (some names),hw,h2=>by
  obtain⟨is,e1,h3⟩:=any_some h2
  obtain rfl:=IK ts is e1
  exact snd_swap K.unp (jc K e sc y h) (band h3).1 hw (band (band h3).2).1 (bb (band (band h3).2).2)
mutual
theorem IM (K:TabOk G T C d):(s:Stm)→(x:Stmt)→okS T sc s x=true→vg G C sc d s (reS T sc s x)
 | .assign ts e=>fun x h=>uM K (band h).1 _ rfl (band h).2
 | .aug i op e=>fun x h=>by
  obtain⟨k,o1,o2,o3⟩:=rj (band (band h).2).1
  exact B9 (((ry ..).mp (band h).1).imp bb bb) (jc K e sc _ (band (band h).2).2) o1 o2 o3
 | .expr e=>fun x h=>x7 (jc K e sc _ (band h).2) (band h).1
 | .cond c t e=>fun x h=>let h2:=band (band h).2;let h3:=band h2.2;xC (gU K c sc _ (band h).1 h2.1) (kF K t _ h3.1) (kF K e _ h3.2)
 | .loop c b=>fun x h=>let h2:=band (band h).2;x6 (gU K c sc _ (band h).1 h2.1) (kF K b _ h2.2)
 | .each t it b=>fun x h=>let h2:=band (band h).2;let h3:=band h2.2;x8 (GO K t _ (band h).1) (sT K it sc _ _ h2.1) (kF K b _ h3.1) (zg h3.2)
 | .ret e=>fun x h=>by
  show vg G C sc d _ (.Return ((xn x).head?.map (reE T e sc)) x.pos)
  have h:(match (xn x).head? with | some y=>okE T e sc y | none=>e.isNone)=true:=h
  cases q:(xn x).head? with
  | some y=>rw [q] at h;exact AP (jc K e sc y h)
  | none=>rw [q] at h;obtain rfl:=fR h;exact wQ
 | .brk=>fun x h=>AZ
 | .cont=>fun x h=>xB
 | .pass=>fun x h=>by
  show vg G C sc d _ (bif (xn x).isEmpty then _ else _)
  cases (xn x).isEmpty
  ·exact lP
  ·exact wR
 | .dead=>fun x h=>x9
theorem kF (K:TabOk G T C d):(b:ky)→(l:List Stmt)→jL T sc b l=true→d4 G C sc d b (lR T sc b l)
 | .nil=>fun l h=>uL
 | .cons s ss=>fun l h=>qA (IM K s _ (band h).1) (kF K ss _ (band h).2)
end
end
end MP
end
section
namespace MP
open PySem PyProof.Rows PySem.W
structure n9 (G:Stc) (T:Tab):Prop where
 g:GOk G
 gl:∀ x v,T.gl.lookup x=some v→G.gl x=some v
 attrs:G.attrs=T.attrs
 meth:∀ k name,T.meths.lookup k=some name→∃ f,T.fns.lookup k=some f∧MethAt G name f
 init:∃ f,T.fns.lookup 0=some f∧n8 G f
 cM:G.cM=T.cM
 cS:G.cS=T.cS
 mt:∃ fN fM,mi G fN fM∧lC G fN∧jA G fM
 ma:pe G
structure zV (G:Stc) (T:Tab) (P:Nat→Option Fn):Prop where
 base:n9 G T
 fn:∀ k a,T.fns.lookup k=some a→∃ fn sc body,P k=some fn∧FnAt G a fn.n fn.dflt sc body∧jL T sc fn.body body=true∧lR T sc fn.body body=body
section
variable {G:Stc} {T:Tab} {P:Nat→Option Fn}
theorem n9.tab (B:n9 G T) {C:Cal} {d:Nat} (hc:eW G (fun k=>T.fns.lookup k) C (d-1)) (hd:3≤d):TabOk G T C d :=
 ⟨B.g,B.gl,B.attrs,hc,B.meth,B.init,B.cM,B.cS,B.mt,B.ma,IJ B.ma,hd⟩
theorem zL (K:zV G T P):∀ n,eW G (fun k=>T.fns.lookup k) (gu P n) (2*n+2)
 | 0=>fun k a hk=>by
  obtain⟨fn,sc,body,hp,hf,hc⟩:=K.fn k a hk
  obtain⟨o,fd,h1,h2,_⟩:=hf.here
  exact⟨⟨o,fd,h1,h2⟩,fun A E vs ws σ Q s ao R vr h=>h.elim⟩
 | n+1=>fun k a hk=>by
  obtain⟨fn,sc,body,hp,hf,hc⟩:=K.fn k a hk
  obtain⟨o,fd,h1,h2,_⟩:=hf.here
  refine⟨⟨o,fd,h1,h2⟩,fun A E vs ws σ Q s ao R vr h=>?_⟩
  obtain⟨fn',hp',l1,l2,h⟩:=h
  obtain rfl:=af (hp.symm.trans hp')
  have tb:TabOk G T (gu P n) (2*n+3):=K.base.tab (zL K n) (by exact fo (.k (.n 3) (.a (.m 2 .A) (.n 3))) .j)
  exact D3 (b:=fn.body) (d:=2*n+3) hf (hc.2▸kF tb fn.body body hc.1) ao R vr l1 l2 h
end
end MP
end
section
namespace MP
open PySem PyProof.Rows PySem.W
noncomputable def EG:Value→Tok
 | .int _ t=>t
 | .str _ t=>t
 | _=>0
noncomputable def sH:Value→Addr
 | .ref a=>a
 | _=>0
noncomputable def rM:V→Value→Bool
 | .none=>fun w=>decide (w=.none)
 | .bool a=>fun w=>decide (w=.bool a)
 | .int a=>fun w=>decide (w=.int a (EG w))
 | .str a=>fun w=>decide (w=.str a (EG w))
 | _=>fun _=>false
noncomputable def hU:List V→List Value→Bool
 | []=>fun ws=>ws.isEmpty
 | v::vs=>fun ws=>!ws.isEmpty&&(rM v (ws.headD .none)&&hU vs ws.tail)
theorem vK {G:Stc} {h:Heap} {v:V} {w:Value} (e:rM v w=true):VR G h v w:=by
 cases v<;>first | exact bb e▸.none | exact bb e▸.bool _ | exact bb e▸.int _ _ | exact bb e▸.str _ _ | exact Bool.noConfusion e
theorem j4 {G:Stc} {h:Heap}:(vs:List V)→(ws:List Value)→hU vs ws=true→VRs G h vs ws
 | []=>fun ws e=>by
  cases ws with
  | nil=>exact .nil
  | cons w ws=>exact Bool.noConfusion (show false=true from e)
 | v::vs=>fun ws e=>by
  cases ws with
  | nil=>exact Bool.noConfusion (show false=true from e)
  | cons w ws =>
   have e:=band (show(rM v w&&hU vs ws)=true from e)
   exact .cons (vK e.1) (j4 vs ws e.2)
noncomputable def rK:Data→Option FuncData
 | .func f=>some f
 | _=>none
noncomputable def iY:Data→Option (Array Value)
 | .fields vs=>some vs
 | _=>none
noncomputable def tQ:Data→Option (Array Value × Nat)
 | .seq vs n=>some (vs,n)
 | _=>none
theorem vI {d:Data} {f:FuncData} (h:rK d=some f):d=.func f:=by
 cases d<;>first | exact bx _ (af h) | exact fu h
theorem jN {d:Data} {f:Array Value} (h:iY d=some f):d=.fields f:=by
 cases d<;>first | exact bx _ (af h) | exact fu h
theorem rJ {d:Data} {f:Array Value × Nat} (h:tQ d=some f):d=.seq f.1 f.2:=by
 cases d<;>first | exact af h▸rfl | exact fu h
noncomputable def zO:FuncBody→Option (List Stmt)
 | .stmts b=>some b
 | .expr _=>none
theorem zN {d:FuncBody} {f:List Stmt} (h:zO d=some f):d=.stmts f:=by
 cases d
 ·exact bx _ (af h)
 ·exact fu h
noncomputable def told {α:Type} (f:Data→Option α) (h:Heap) (a:Addr):Option α:=(h.get? a).bind fun o=>f o.data
theorem lI {α:Type} {f:Data→Option α} {h:Heap} {a:Addr} {x:α} (e:told f h a=some x):∃ o,h.get? a=some o∧f o.data=some x:=dg.mp e
noncomputable def tU (h:Heap) (cd:Value) (q:Str):Bool:=decide (cd=.ref (sH cd))&&(told iY h (sH cd)).any fun vs=>(vs[1]?:Option Value).any fun w=>decide (w=.str q (EG w))
noncomputable def CQ (h:Heap) (dflt:List V) (v:Value):Bool:=(decide (v=.none)&&dflt.isEmpty)||(decide (v=.ref (sH v))&&(told tQ h (sH v)).any fun ds=>hU dflt ds.1.toList)
noncomputable def HG (T:Tab) (h:Heap) (fn:Fn) (fd:FuncData) (body:List Stmt):Bool :=
 decide (fd.scope.kind=.function)&&(!fd.scope.isCoroutine&&(!fd.scope.isGenerator&&(decide ((fd.scope.names.map (·.1)).Nodup)&&(fd.scope.names.all (fun p=>p.2 != .free)&&(fd.closure.isEmpty&&(decide (fd.globals=mainGlobals)&&(decide (fd.builtins=builtinsNs) &&
 (tU h fd.code fd.qualname&&(zf fd.params&&(om (fd.params.args.map (·.arg)) fd.scope.names&&(decide (fd.params.args.length=fn.n)&&(CQ h fn.dflt fd.defaults&&(decide (fn.dflt.length≤fn.n)&&jL T fd.scope fn.body body)))))))))))))
noncomputable def FY (fd:FuncData):Option (Scope × List Stmt):=(zO fd.body).map fun b=>(fd.scope,b)
noncomputable def bodyOf (h:Heap) (a:Addr):Option (Scope × List Stmt):=(told rK h a).bind FY
noncomputable def kO (T:Tab) (h:Heap) (fn:Fn) (a:Addr):Bool:=(told rK h a).any fun fd=>(zO fd.body).any fun b=>HG T h fn fd b
theorem rQ {h:Heap} {cd:Value} {q:Str} (e:tU h cd q=true):h.CodeRec cd q:=by
 obtain⟨vs,hv,e2⟩:=any_some (band e).2
 obtain⟨o,ho,hd⟩:=lI hv
 obtain⟨w,hw,e3⟩:=any_some e2
 exact⟨_,o,vs,_,bb (band e).1,ho,jN hd,hw.trans (bx some (bb e3))⟩
theorem mB {l:List (Str × NameKind)} (h:l.all (fun p=>p.2 != .free)=true) (i:Nat) (x:Str):l[i]?≠some (x,.free):=fun e =>
 absurd (jg.mp h _ (ew e)) (by simp)
theorem DV {G:Stc} {T:Tab} {fn:Fn} {a:Addr} {h₀:Heap} (hk:∀ b o,h₀.get? b=some o→G.hb.get? b=some o) (lim:G.hb.NoLimit) (e:kO T h₀ fn a=true):∃ x,bodyOf h₀ a=some x∧FnAt G a fn.n fn.dflt x.1 x.2∧jL T x.1 fn.body x.2=true:=by
 obtain⟨fd,h1,e⟩:=any_some e
 obtain⟨b,h2,e⟩:=any_some e
 obtain⟨o,ho,hd⟩:=lI h1
 have g1:=band e
 have g2:=band g1.2
 have g3:=band g2.2
 have g4:=band g3.2
 have g5:=band g4.2
 have g6:=band g5.2
 have g7:=band g6.2
 have g8:=band g7.2
 have g9:=band g8.2
 have g10:=band g9.2
 have g11:=band g10.2
 have g12:=band g11.2
 have g13:=band g12.2
 have g14:=band g13.2
 refine⟨(fd.scope,b),(dg.mpr ⟨fd,h1,bx (Option.map fun b=>(fd.scope,b)) h2⟩),⟨lim,bb g1.1,(fh _).mp g2.1,(fh _).mp g3.1,bb g4.1,mB g5.1,o,fd,hk _ _ ho,vI hd,rfl,zN h2,List.isEmpty_iff.mp g6.1,bb g7.1,bb g8.1,(rQ g9.1).keeps hk,g10.1,g11.1,bb g12.1,?_,bb g14.1⟩,g14.2⟩
 refine((ry ..).mp g13.1).imp (fun q=>⟨bb (band q).1,List.isEmpty_iff.mp (band q).2⟩) fun q=>?_
 obtain⟨ds,h3,q2⟩:=any_some (band q).2
 obtain⟨ot,hot,hds⟩:=lI h3
 exact⟨_,ot,ds.1.toList,ds.2,bb (band q).1,hk _ _ hot,rJ hds,j4 _ _ q2⟩
noncomputable def EY (T:Tab) (fn:Fn) (x:Scope × List Stmt):Scope × List Stmt:=(x.1,lR T x.1 fn.body x.2)
theorem HE {G:Stc} {T:Tab} {fn:Fn} {a:Addr} {h₀:Heap} (hk:∀ b o,h₀.get? b=some o→G.hb.get? b=some o) (lim:G.hb.NoLimit) (e:kO T h₀ fn a=true) (e':bodyOf h₀ a=(bodyOf h₀ a).map (EY T fn)) :
  ∃ sc body,FnAt G a fn.n fn.dflt sc body∧jL T sc fn.body body=true∧lR T sc fn.body body=body:=by
 obtain⟨x,hx,h1,h2⟩:=DV hk lim e
 rw [hx] at e'
 exact⟨x.1,x.2,h1,h2,(bx Prod.snd (af e')).symm⟩
theorem tJ {G:Stc} {T:Tab} {fn:Fn} {a:Addr} {h₀:Heap} (hk:∀ b o,h₀.get? b=some o→G.hb.get? b=some o) (lim:G.hb.NoLimit) (e:kO T h₀ fn a=true) {f:Scope × List Stmt→Scope × List Stmt} (e':bodyOf h₀ a=(bodyOf h₀ a).map f):∃ x,bodyOf h₀ a=some x∧FnAt G a fn.n fn.dflt (f x).1 (f x).2:=by
 obtain⟨x,hx,h1,_⟩:=DV hk lim e
 rw [hx] at e'
 exact⟨x,hx,af e'▸h1⟩
end MP
end
section
namespace MP
namespace SM
noncomputable def fn0:Fn:=⟨5,[.none,.str "",.str "",.bool true],(.cons .pass
 (.cons (.assign [(.attr (.loc 0) 0)] (.loc 1))
 (.cons (.assign [(.attr (.loc 0) 1),(.attr (.loc 0) 2)] .none)
 (.cons (.assign [(.attr (.loc 0) 3)] (.loc 4))
 (.cons (.expr (.meth (.loc 0) 1 (.cons (.loc 2) (.cons (.loc 3) .nil))))
 .nil)))))⟩
noncomputable def fn1:Fn:=⟨3,[],(.cons .pass
 (.cons (.expr (.meth (.loc 0) 2 (.cons (.loc 1) .nil)))
 (.cons (.expr (.meth (.loc 0) 3 (.cons (.loc 2) .nil)))
 .nil)))⟩
noncomputable def fn2:Fn:=⟨2,[],(.cons .pass
 (.cons (.cond (.cmp .is (.loc 1) (.attr (.loc 0) 1)) (.cons (.ret .none)
 .nil) .nil)
 (.cons (.assign [(.attr (.loc 0) 1)] (.loc 1))
 (.cons (.assign [(.attr (.loc 0) 4),(.attr (.loc 0) 5)] .none)
 .nil))))⟩
noncomputable def fn3:Fn:=⟨2,[],(.cons .pass
 (.cons (.cond (.cmp .is (.loc 1) (.attr (.loc 0) 2)) (.cons (.ret .none)
 .nil) .nil)
 (.cons (.assign [(.attr (.loc 0) 2)] (.loc 1))
 (.cons (.assign [(.attr (.loc 0) 4),(.attr (.loc 0) 5)] .none)
 (.cons (.assign [(.attr (.loc 0) 6)] .none)
 (.cons (.expr (.meth (.loc 0) 4 .nil))
 .nil))))))⟩
noncomputable def fn4:Fn:=⟨1,[],(.cons (.assign [(.var 1)] (.attr (.loc 0) 2))
 (.cons (.assign [(.attr (.loc 0) 7),(.var 2)] .dct0)
 (.cons (.each (.tup [3,4]) (.enum (.loc 1)) (.cons (.assign [(.var 5)] (.bm .setdefault (.loc 2) (.cons (.loc 4) (.cons (.lst .nil) .nil))))
 (.cons (.expr (.bm .append (.loc 5) (.cons (.loc 3) .nil)))
 .nil)))
 (.cons (.assign [(.attr (.loc 0) 8),(.var 6)] (.bf .set .nil))
 (.cons (.assign [(.var 7)] (.attr (.loc 0) 0))
 (.cons (.cond (.loc 7) (.cons .dead
 (.cons (.each (.var 4) (.seq (.loc 6)) (.cons .dead
 .nil))
 .nil)) .nil)
 (.cons (.assign [(.attr (.loc 0) 9),(.var 8)] (.bf .set .nil))
 (.cons (.assign [(.var 9)] (.bf .len (.cons (.loc 1) .nil)))
 (.cons (.cond (.and (.attr (.loc 0) 3) (.cmp .ge (.loc 9) (.int 200))) (.cons (.assign [(.var 10)] (.bin .add (.bin .fdiv (.loc 9) (.int 100)) (.int 1)))
 (.cons .dead
 (.cons (.each (.var 4) (.seq (.loc 8)) (.cons .dead
 .nil))
 .nil))) .nil)
 .nil)))))))))⟩
noncomputable def fn5:Fn:=⟨5,[.int 0,.none,.int 0,.none],(.cons .pass
 (.cons (.assign [(.tup [5,6,7,8])] (.tup (.cons (.attr (.loc 0) 1) (.cons (.attr (.loc 0) 2) (.cons (.attr (.loc 0) 7) (.cons (.shasOf (.attr (.loc 0) 8)) .nil))))))
 (.cons (.cond (.cmp .is (.loc 2) .none) (.cons (.assign [(.var 2)] (.bf .len (.cons (.loc 5) .nil)))
 .nil) .nil)
 (.cons (.cond (.cmp .is (.loc 4) .none) (.cons (.assign [(.var 4)] (.bf .len (.cons (.loc 6) .nil)))
 .nil) .nil)
 (.cons (.assign [.tup [9,10,11]] (.tup (.cons (.loc 1) (.cons (.loc 3) (.cons (.int 0) .nil)))))
 (.cons (.assign [(.var 12)] .dct0)
 (.cons (.assign [(.var 13)] (.lst .nil))
 (.cons (.each (.var 14) (.rng2 (.loc 1) (.loc 2)) (.cons (.assign [(.var 15)] (.dgetOf (.loc 12)))
 (.cons (.assign [(.var 16)] .dct0)
 (.cons (.each (.var 17) (.seq (.bm .get (.loc 7) (.cons (.sub (.loc 5) (.loc 14)) (.cons (.loc 13) .nil)))) (.cons (.cond (.cmp .lt (.loc 17) (.loc 3)) (.cons .cont
 .nil) .nil)
 (.cons (.cond (.cmp .ge (.loc 17) (.loc 4)) (.cons .brk
 .nil) .nil)
 (.cons (.assign [(.var 18),(.sub (.loc 16) (.loc 17))] (.bin .add (.callv 15 (.cons (.bin .sub (.loc 17) (.int 1)) (.cons (.int 0) .nil))) (.int 1)))
 (.cons (.cond (.cmp .gt (.loc 18) (.loc 11)) (.cons (.assign [.tup [9,10,11]] (.tup (.cons (.bin .add (.bin .sub (.loc 14) (.loc 18)) (.int 1)) (.cons (.bin .add (.bin .sub (.loc 17) (.loc 18)) (.int 1)) (.cons (.loc 18) .nil)))))
 .nil) .nil)
 .nil)))))
 (.cons (.assign [(.var 12)] (.loc 16))
 .nil)))))
 (.cons (.loop (.and (.cmp .gt (.loc 9) (.loc 1)) (.and (.cmp .gt (.loc 10) (.loc 3)) (.and (.not (.callv 8 (.cons (.sub (.loc 6) (.bin .sub (.loc 10) (.int 1))) .nil))) (.cmp .eq (.sub (.loc 5) (.bin .sub (.loc 9) (.int 1))) (.sub (.loc 6) (.bin .sub (.loc 10) (.int 1))))))) (.cons (.assign [.tup [9,10,11]] (.tup (.cons (.bin .sub (.loc 9) (.int 1)) (.cons (.bin .sub (.loc 10) (.int 1)) (.cons (.bin .add (.loc 11) (.int 1)) .nil)))))
 .nil))
 (.cons (.loop (.and (.cmp .lt (.bin .add (.loc 9) (.loc 11)) (.loc 2)) (.and (.cmp .lt (.bin .add (.loc 10) (.loc 11)) (.loc 4)) (.and (.not (.callv 8 (.cons (.sub (.loc 6) (.bin .add (.loc 10) (.loc 11))) .nil))) (.cmp .eq (.sub (.loc 5) (.bin .add (.loc 9) (.loc 11))) (.sub (.loc 6) (.bin .add (.loc 10) (.loc 11))))))) (.cons (.aug 11 .add (.int 1))
 .nil))
 (.cons (.loop (.and (.cmp .gt (.loc 9) (.loc 1)) (.and (.cmp .gt (.loc 10) (.loc 3)) (.and (.callv 8 (.cons (.sub (.loc 6) (.bin .sub (.loc 10) (.int 1))) .nil)) (.cmp .eq (.sub (.loc 5) (.bin .sub (.loc 9) (.int 1))) (.sub (.loc 6) (.bin .sub (.loc 10) (.int 1))))))) (.cons (.assign [.tup [9,10,11]] (.tup (.cons (.bin .sub (.loc 9) (.int 1)) (.cons (.bin .sub (.loc 10) (.int 1)) (.cons (.bin .add (.loc 11) (.int 1)) .nil)))))
 .nil))
 (.cons (.loop (.and (.cmp .lt (.bin .add (.loc 9) (.loc 11)) (.loc 2)) (.and (.cmp .lt (.bin .add (.loc 10) (.loc 11)) (.loc 4)) (.and (.callv 8 (.cons (.sub (.loc 6) (.bin .add (.loc 10) (.loc 11))) .nil)) (.cmp .eq (.sub (.loc 5) (.bin .add (.loc 9) (.loc 11))) (.sub (.loc 6) (.bin .add (.loc 10) (.loc 11))))))) (.cons (.assign [(.var 11)] (.bin .add (.loc 11) (.int 1)))
 .nil))
 (.cons (.ret (.newMatch (.loc 9) (.loc 10) (.loc 11)))
 .nil)))))))))))))⟩
noncomputable def fn6:Fn:=⟨1,[],(.cons .pass
 (.cons (.cond (.cmp .isNot (.attr (.loc 0) 4) .none) (.cons (.ret (.attr (.loc 0) 4))
 .nil) .nil)
 (.cons (.assign [.tup [1,2]] (.tup (.cons (.bf .len (.cons (.attr (.loc 0) 1) .nil)) (.cons (.bf .len (.cons (.attr (.loc 0) 2) .nil)) .nil))))
 (.cons (.assign [(.var 3)] (.lst (.cons (.tup (.cons (.int 0) (.cons (.loc 1) (.cons (.int 0) (.cons (.loc 2) .nil))))) .nil)))
 (.cons (.assign [(.var 4)] (.lst .nil))
 (.cons (.loop (.loc 3) (.cons (.assign [(.tup [5,6,7,8])] (.bm .pop (.loc 3) .nil))
 (.cons (.assign [(.tup [9,10,11]),(.var 12)] (.meth (.loc 0) 5 (.cons (.loc 5) (.cons (.loc 6) (.cons (.loc 7) (.cons (.loc 8) .nil))))))
 (.cons (.cond (.loc 11) (.cons (.expr (.bm .append (.loc 4) (.cons (.loc 12) .nil)))
 (.cons (.cond (.and (.cmp .lt (.loc 5) (.loc 9)) (.cmp .lt (.loc 7) (.loc 10))) (.cons (.expr (.bm .append (.loc 3) (.cons (.tup (.cons (.loc 5) (.cons (.loc 9) (.cons (.loc 7) (.cons (.loc 10) .nil))))) .nil)))
 .nil) .nil)
 (.cons (.cond (.and (.cmp .lt (.bin .add (.loc 9) (.loc 11)) (.loc 6)) (.cmp .lt (.bin .add (.loc 10) (.loc 11)) (.loc 8))) (.cons (.expr (.bm .append (.loc 3) (.cons (.tup (.cons (.bin .add (.loc 9) (.loc 11)) (.cons (.loc 6) (.cons (.bin .add (.loc 10) (.loc 11)) (.cons (.loc 8) .nil))))) .nil)))
 .nil) .nil)
 .nil))) .nil)
 .nil))))
 (.cons (.expr (.bm .sort (.loc 4) .nil))
 (.cons (.assign [(.var 13),(.var 14),(.var 15)] (.int 0))
 (.cons (.assign [(.var 16)] (.lst .nil))
 (.cons (.each (.tup [17,18,19]) (.seq (.loc 4)) (.cons (.cond (.and (.cmp .eq (.bin .add (.loc 13) (.loc 15)) (.loc 17)) (.cmp .eq (.bin .add (.loc 14) (.loc 15)) (.loc 18))) (.cons (.aug 15 .add (.loc 19))
 .nil) (.cons (.cond (.loc 15) (.cons (.expr (.bm .append (.loc 16) (.cons (.tup (.cons (.loc 13) (.cons (.loc 14) (.cons (.loc 15) .nil)))) .nil)))
 .nil) .nil)
 (.cons (.assign [.tup [13,14,15]] (.tup (.cons (.loc 17) (.cons (.loc 18) (.cons (.loc 19) .nil)))))
 .nil)))
 .nil))
 (.cons (.cond (.loc 15) (.cons (.expr (.bm .append (.loc 16) (.cons (.tup (.cons (.loc 13) (.cons (.loc 14) (.cons (.loc 15) .nil)))) .nil)))
 .nil) .nil)
 (.cons (.expr (.bm .append (.loc 16) (.cons (.tup (.cons (.loc 1) (.cons (.loc 2) (.cons (.int 0) .nil)))) .nil)))
 (.cons (.assign [(.attr (.loc 0) 4)] (.mkMatches (.loc 16)))
 (.cons (.ret (.attr (.loc 0) 4))
 .nil))))))))))))))⟩
end SM
end MP
end
section
namespace MP
namespace SM
noncomputable def fn7:Fn:=⟨1,[],(.cons .pass
 (.cons (.cond (.cmp .isNot (.attr (.loc 0) 5) .none) (.cons (.ret (.attr (.loc 0) 5))
 .nil) .nil)
 (.cons (.assign [(.var 1),(.var 2)] (.int 0))
 (.cons (.assign [(.attr (.loc 0) 5),(.var 3)] (.lst .nil))
 (.cons (.each (.tup [4,5,6]) (.seq (.meth (.loc 0) 6 .nil)) (.cons (.assign [(.var 7)] (.str ""))
 (.cons (.cond (.and (.cmp .lt (.loc 1) (.loc 4)) (.cmp .lt (.loc 2) (.loc 5))) (.cons (.assign [(.var 7)] (.str "replace"))
 .nil) (.cons (.cond (.cmp .lt (.loc 1) (.loc 4)) (.cons (.assign [(.var 7)] (.str "delete"))
 .nil) (.cons (.cond (.cmp .lt (.loc 2) (.loc 5)) (.cons (.assign [(.var 7)] (.str "insert"))
 .nil) .nil)
 .nil))
 .nil))
 (.cons (.cond (.loc 7) (.cons (.expr (.bm .append (.loc 3) (.cons (.tup (.cons (.loc 7) (.cons (.loc 1) (.cons (.loc 4) (.cons (.loc 2) (.cons (.loc 5) .nil)))))) .nil)))
 .nil) .nil)
 (.cons (.assign [.tup [1,2]] (.tup (.cons (.bin .add (.loc 4) (.loc 6)) (.cons (.bin .add (.loc 5) (.loc 6)) .nil))))
 (.cons (.cond (.loc 6) (.cons (.expr (.bm .append (.loc 3) (.cons (.tup (.cons (.str "equal") (.cons (.loc 4) (.cons (.loc 1) (.cons (.loc 5) (.cons (.loc 2) .nil)))))) .nil)))
 .nil) .nil)
 .nil))))))
 (.cons (.ret (.loc 3))
 .nil))))))⟩
end SM
end MP
end
section
namespace MP
namespace R6
open SM
noncomputable def HF:Fn:=⟨3,[],(.cons (.assign [(.var 3)] (.lst .nil))
 (.cons (.each (.var 4) (.rng2 (.loc 1) (.loc 2)) (.cons (.cond (.and (.cmp .ne (.loc 3) (.lst .nil)) (.cmp .eq (.sub (.loc 0) (.loc 4)) (.sub (.loc 0) (.bin .sub (.loc 4) (.int 1))))) (.cons (.assign [(.sub (.loc 3) (.neg (.int 1)))] (.tup (.cons (.sub (.sub (.loc 3) (.neg (.int 1))) (.int 0)) (.cons (.bin .add (.sub (.sub (.loc 3) (.neg (.int 1))) (.int 1)) (.int 1)) .nil))))
 .nil) (.cons (.expr (.bm .append (.loc 3) (.cons (.tup (.cons (.loc 4) (.cons (.int 1) .nil))) .nil)))
 .nil))
 .nil))
 (.cons (.ret (.loc 3))
 .nil)))⟩
noncomputable def FX:Fn:=⟨4,[],(.cons (.assign [(.var 4)] (.tup (.cons (.int 0) (.cons (.int 0) (.cons (.int 0) .nil)))))
 (.cons (.each (.var 5) (.rng1 (.bf .len (.cons (.loc 2) .nil))) (.cons (.each (.var 6) (.rng1 (.bf .len (.cons (.loc 3) .nil))) (.cons (.assign [(.tup [7,8])] (.sub (.loc 2) (.loc 5)))
 (.cons (.assign [(.tup [9,10])] (.sub (.loc 3) (.loc 6)))
 (.cons (.cond (.cmp .eq (.sub (.loc 0) (.loc 7)) (.sub (.loc 1) (.loc 9))) (.cons (.assign [(.var 11)] (.bf .min (.cons (.loc 8) (.cons (.loc 10) .nil))))
 (.cons (.assign [.tup [12,13]] (.tup (.cons (.loc 11) (.cons (.int 1) .nil))))
 (.cons (.loop (.and (.cmp .lt (.bin .add (.loc 5) (.loc 13)) (.bf .len (.cons (.loc 2) .nil))) (.and (.cmp .lt (.bin .add (.loc 6) (.loc 13)) (.bf .len (.cons (.loc 3) .nil))) (.cmp .eq (.sub (.loc 0) (.sub (.sub (.loc 2) (.bin .add (.loc 5) (.loc 13))) (.int 0))) (.sub (.loc 1) (.sub (.sub (.loc 3) (.bin .add (.loc 6) (.loc 13))) (.int 0)))))) (.cons (.aug 12 .add (.bf .min (.cons (.sub (.sub (.loc 2) (.bin .add (.loc 5) (.loc 13))) (.int 1)) (.cons (.sub (.sub (.loc 3) (.bin .add (.loc 6) (.loc 13))) (.int 1)) .nil))))
 (.cons (.cond (.cmp .ne (.sub (.sub (.loc 2) (.bin .add (.loc 5) (.loc 13))) (.int 1)) (.sub (.sub (.loc 3) (.bin .add (.loc 6) (.loc 13))) (.int 1))) (.cons .brk
 .nil) .nil)
 (.cons (.aug 13 .add (.int 1))
 .nil))))
 (.cons (.assign [(.var 4)] (.bf .min3 (.cons (.loc 4) (.cons (.tup (.cons (.neg (.loc 11)) (.cons (.loc 7) (.cons (.loc 9) .nil)))) (.cons (.tup (.cons (.neg (.loc 12)) (.cons (.bin .sub (.bin .add (.loc 7) (.loc 8)) (.loc 11)) (.cons (.bin .sub (.bin .add (.loc 9) (.loc 10)) (.loc 11)) .nil)))) .nil)))))
 .nil)))) .nil)
 .nil))))
 .nil))
 (.cons (.ret (.loc 4))
 .nil)))⟩
noncomputable def CE:Fn:=⟨2,[],(.cons (.assign [.tup [2,3]] (.tup (.cons (.lst (.cons (.tup (.cons (.int 0) (.cons (.int 0) (.cons (.int 0) .nil)))) (.cons (.tup (.cons (.bf .len (.cons (.loc 0) .nil)) (.cons (.bf .len (.cons (.loc 1) .nil)) (.cons (.int 0) .nil)))) .nil))) (.cons (.int 1) .nil))))
 (.cons (.loop (.cmp .lt (.loc 3) (.bf .len (.cons (.loc 2) .nil))) (.cons (.assign [(.tup [4,5,6])] (.sub (.loc 2) (.bin .sub (.loc 3) (.int 1))))
 (.cons (.assign [(.var 7)] (.call 10 (.cons (.loc 0) (.cons (.bin .add (.loc 4) (.loc 6)) (.cons (.sub (.sub (.loc 2) (.loc 3)) (.int 0)) .nil)))))
 (.cons (.assign [(.var 8)] (.call 10 (.cons (.loc 1) (.cons (.bin .add (.loc 5) (.loc 6)) (.cons (.sub (.sub (.loc 2) (.loc 3)) (.int 1)) .nil)))))
 (.cons (.assign [(.tup [9,4,5])] (.call 11 (.cons (.loc 0) (.cons (.loc 1) (.cons (.loc 7) (.cons (.loc 8) .nil))))))
 (.cons (.cond (.cmp .lt (.loc 9) (.int 0)) (.cons (.expr (.bm .insert (.loc 2) (.cons (.loc 3) (.cons (.tup (.cons (.loc 4) (.cons (.loc 5) (.cons (.neg (.loc 9)) .nil)))) .nil))))
 .nil) (.cons (.aug 3 .add (.int 1))
 .nil))
 .nil))))))
 (.cons (.ret (.slc (.loc 2) (.int 1) (.neg (.int 1))))
 .nil)))⟩
noncomputable def IX:Fn:=⟨3,[],(.cons (.assign [(.var 3)] (.lst (.cons (.tup (.cons (.int 0) (.cons (.int 0) .nil))) .nil)))
 (.cons (.each (.tup [4,5,6]) (.seq (.loc 0)) (.cons (.expr (.bm .extend (.loc 3) (.cons (.lst (.cons (.tup (.cons (.loc 4) (.cons (.loc 5) .nil))) (.cons (.tup (.cons (.bin .add (.loc 4) (.loc 6)) (.cons (.bin .add (.loc 5) (.loc 6)) .nil))) .nil))) .nil)))
 .nil))
 (.cons (.expr (.bm .append (.loc 3) (.cons (.tup (.cons (.loc 1) (.cons (.loc 2) .nil))) .nil)))
 (.cons (.assign [(.var 7)] (.lst .nil))
 (.cons (.each (.var 8) (.rng2 (.int 1) (.bf .len (.cons (.loc 3) .nil))) (.cons (.assign [(.tup [9,10])] (.sub (.loc 3) (.bin .sub (.loc 8) (.int 1))))
 (.cons (.assign [(.tup [11,12])] (.sub (.loc 3) (.loc 8)))
 (.cons (.assign [(.var 13)] (.ite (.cmp .eq (.bin .mod (.loc 8) (.int 2)) (.int 0)) (.str "equal") (.ite (.cmp .eq (.loc 9) (.loc 11)) (.str "insert") (.ite (.cmp .eq (.loc 10) (.loc 12)) (.str "delete") (.str "replace")))))
 (.cons (.cond (.cmp .ne (.tup (.cons (.loc 9) (.cons (.loc 10) .nil))) (.tup (.cons (.loc 11) (.cons (.loc 12) .nil)))) (.cons (.expr (.bm .append (.loc 7) (.cons (.tup (.cons (.loc 13) (.cons (.loc 9) (.cons (.loc 11) (.cons (.loc 10) (.cons (.loc 12) .nil)))))) .nil)))
 .nil) .nil)
 .nil)))))
 (.cons (.ret (.loc 7))
 .nil))))))⟩
noncomputable def CD:Fn:=⟨1,[],(.cons (.assign [(.var 1)] (.ite (.loc 0) (.sub (.loc 0) (.int 0)) (.int 0)))
 (.cons (.assign [.tup [2,3]] (.tup (.cons (.lst .nil) (.cons (.lst .nil) .nil))))
 (.cons (.each (.var 4) (.seq (.ite (.cmp .gt (.bf .len (.cons (.loc 0) .nil)) (.int 1)) (.slc (.loc 0) (.int 1) (.int 63)) (.lst (.cons (.int 0) (.cons (.int 2) .nil))))) (.cons (.assign [(.tup [5,6])] (.bf .divmod (.cons (.loc 4) (.cons (.int 3) .nil))))
 (.cons (.assign [(.tup [5,7])] (.bf .divmod (.cons (.loc 5) (.cons (.int 12) .nil))))
 (.cons (.assign [(.var 8)] (.bin .mul (.lst (.cons (.ite (.cmp .gt (.bin .mod (.loc 1) (.int 4)) (.int 0)) (.bin .mod (.loc 5) (.bin .add (.bin .mod (.loc 1) (.int 4)) (.int 1))) (.loc 5)) .nil)) (.bin .add (.loc 7) (.int 1))))
 (.cons (.cond (.cmp .ne (.loc 6) (.int 2)) (.cons (.expr (.bm .extend (.loc 2) (.cons (.loc 8) .nil)))
 .nil) .nil)
 (.cons (.cond (.cmp .ne (.loc 6) (.int 1)) (.cons (.expr (.bm .insert (.loc 3) (.cons (.bin .mod (.bin .fdiv (.loc 5) (.int 4)) (.bin .add (.bf .len (.cons (.loc 3) .nil)) (.int 1))) (.cons (.loc 8) .nil))))
 .nil) .nil)
 .nil))))))
 (.cons (.assign [(.var 9)] (.comp [] (.seq (.loc 3)) (.var 1) .nil (.cons (.seq (.loc 1)) (.var 2) .nil (.elt (.loc 2)))))
 (.cons (.assign [(.var 10)] (.newM (.cons .none (.cons (.loc 2) (.cons (.loc 9) (.cons (.bool false) .nil))))))
 (.cons (.cond (.cmp .ne (.meth (.loc 10) 7 .nil) (.call 13 (.cons (.call 12 (.cons (.loc 2) (.cons (.loc 9) .nil))) (.cons (.bf .len (.cons (.loc 2) .nil)) (.cons (.bf .len (.cons (.loc 9) .nil)) .nil))))) (.cons (.ret (.bool false))
 .nil) .nil)
 (.cons (.expr (.meth (.loc 10) 2 (.cons (.loc 9) .nil)))
 (.cons (.cond (.cmp .ne (.meth (.loc 10) 7 .nil) (.ite (.cmp .ne (.loc 9) (.lst .nil)) (.lst (.cons (.tup (.cons (.str "equal") (.cons (.int 0) (.cons (.bf .len (.cons (.loc 9) .nil)) (.cons (.int 0) (.cons (.bf .len (.cons (.loc 9) .nil)) .nil)))))) .nil)) (.lst .nil))) (.cons (.ret (.bool false))
 .nil) .nil)
 (.cons (.expr (.meth (.loc 10) 3 (.cons (.loc 2) .nil)))
 (.cons (.ret (.cmp .eq (.meth (.loc 10) 7 .nil) (.call 13 (.cons (.call 12 (.cons (.loc 9) (.cons (.loc 2) .nil))) (.cons (.bf .len (.cons (.loc 9) .nil)) (.cons (.bf .len (.cons (.loc 2) .nil)) .nil))))))
 .nil))))))))))⟩
noncomputable def P (k:Nat):Option Fn:=match k with
 | 0=>some fn0 | 1=>some fn1 | 2=>some fn2 | 3=>some fn3 | 4=>some fn4 | 5=>some fn5 | 6=>some fn6 | 7=>some fn7 | 10=>some HF | 11=>some FX | 12=>some CE | 13=>some IX | 14=>some CD | _=>none
noncomputable def tab:Tab where
 gl:=[("len",.builtin "len"),("min",.builtin "min"),("max",.builtin "max"),("divmod",.builtin "divmod"),("set",.type "set"),("list",.type "list"),("range",.type "range"),("map",.type "map"),("enumerate",.type "enumerate"),("tuple",.type "tuple"),("Match",.ref 135),("SequenceMatcher",.ref 242),("_law_stretches",.ref 253),("_law_longest",.ref 260),("_law_kept",.ref 267),("_law_codes",.ref 274),("law",.ref 279)]
 attrs:=["isjunk","a","b","autojunk","matching_blocks","opcodes","fullbcount","b2j","bjunk","bpopular"]
 meths:=[(0,"__init__"),(1,"set_seqs"),(2,"set_seq1"),(3,"set_seq2"),(4,"_SequenceMatcher__chain_b"),(5,"find_longest_match"),(6,"get_matching_blocks"),(7,"get_opcodes")]
 fns:=[(0,160),(1,167),(2,174),(3,181),(4,188),(5,196),(6,203),(7,210),(10,253),(11,260),(12,267),(13,274),(14,279)]
 cM:=135
 cS:=242
end R6
end MP
end
section
namespace MP
open PySem PyProof.Rows PySem.W
noncomputable def newOf (b:List Stmt):List Stmt :=
 let s0:=b.getD 0 default;let s1:=b.getD 1 default;let d:=st0 s0;let c:=st0 s1;let f:=kid 0 c;let t:=kid 2 c
 mC d.pos s0.pos (kid 0 f).pos f.pos (kid 1 c).pos (kid 0 t).pos (kid 1 t).pos (kid 2 t).pos t.pos c.pos s1.pos (z8 d) (exK d) (exK t)
noncomputable def BQ (b:List Stmt):Bool:=(kid 0 (st0 (b.getD 1 default))).pos.endLine==(st0 (b.getD 1 default)).pos.line
noncomputable def mF (b:List Stmt):List Pos :=
 let s0:=b.getD 0 default;let s1:=b.getD 1 default;let s2:=b.getD 2 default;let s3:=b.getD 3 default;let c:=st0 s1;let q:=st0 s2;let l:=kid 0 q
 [(st0 s0).pos,s0.pos,((xn s1).getD 1 default).pos,(kid 0 (kid 0 c)).pos,(kid 0 c).pos,(kid 1 c).pos,(kid 2 c).pos,c.pos,s1.pos,(kid 0 l).pos,(kid 1 l).pos,l.pos,(kid 1 q).pos,q.pos,s2.pos,(st0 s3).pos,s3.pos]
noncomputable def y6 (l:List Pos):Fin 20→Pos:=fun i=>l.getD i.1 ⟨0,0,0,0⟩
noncomputable def FL (b:List Stmt):List Stmt:=iF (y6 (mF b)) (z8 (st0 (b.getD 0 default))) (exK (st0 (b.getD 0 default))) (exK (kid 1 (st0 (b.getD 2 default)))) (sw (b.getD 2 default)).b
noncomputable def yK (b:List Stmt):Bool:=(y6 (mF b) 4).endLine==(y6 (mF b) 7).line
end MP
end
section
open PySem PySem.W PyProof.Rows
set_option maxHeartbeats 0
namespace Mine
open MP
noncomputable def tB (w:World) (os:OsState):Thread:=⟨FD (yj (tA w os)),(tA w os).code,(tA w os).pos,(tA w os).stack⟩
noncomputable def XB (w:World) (os:OsState):Option (Flow × SharedT × Code × Pos):=GS TB pw w 11 an 1 400 (sA w os) (tB w os)
noncomputable def s3 (w:World) (os:OsState):SharedT:=(XB w os).elim (S4 w os) (·.2.1)
noncomputable def F (w:World) (os:OsState):Shared:=(s3 w os).abs
noncomputable def viewOf (p:Program):Program:={ p with main:={ p.main with body:=[0,2,3,4,5,7,8,9,10,11].filterMap fun i=>p.main.body[i]? } }
noncomputable def qv:Program:=viewOf pw
noncomputable abbrev loose:List Str:=[Str.ofString "_tuplegetter",Str.ofString "Match",Str.ofString "SequenceMatcher"]
abbrev rw6:=PySem.Challenge.rw_dm0056_06
noncomputable abbrev Xt:Shared→Bool:=fun s=>xlAt qv [] s&&recOk (RowW.records rw6.row.toRowW) s
noncomputable def t9 (w:World) (s:Shared):Bool:=staticsOk (importedModules pw.main.body) (boot_heap w.params) s.heap&&namesBound pw s.heap&&gensDone s&&laidKept (boot_heap w.params) s.heap
noncomputable def CC (h:Heap) (x:Str):Option Value:=(h.nsMap mainGlobals x).or (h.nsMap builtinsNs x)
noncomputable def fK (h:Heap) (a:Addr) (xs:List Str):Bool:=xs.all fun x=>(h.nsMap a x).isNone
noncomputable def isFn (h:Heap) (a:Addr):Bool:=match h.get? a with
 | some o=>decide (o.cls=.type "function")&&(match o.data with | .func _=>true | _=>false)
 | none=>false
noncomputable def fragOf (h:Heap) (as:List Addr):Frag:=as.filterMap fun a=>(h.get? a).map fun o=>(a,o)
noncomputable abbrev K8 (h:Heap):Frag:=fragOf h [135,134,136,91,2,82,89]
noncomputable def HW:ky:=.cons .dead (.cons .dead .nil)
noncomputable def HV:ky:=.cons .dead (.cons .dead (.cons .dead (.cons .dead .nil)))
noncomputable def yJ:List (Str × NameKind):=[("tuple",.globalImplicit),("len",.globalImplicit),("TypeError",.globalImplicit)]
noncomputable def yC (h:Heap):Bool:=h.isNs mainGlobals&&h.isNs builtinsNs&&h.isNs 241&&h.isNs 134&&h.isNs cStatics&&(h.nsMap cStatics "sys.recursionlimit").isNone&&(h.get? sysModules).isSome
noncomputable def yY (h:Heap):Bool:=R6.tab.gl.all fun p=>decide (CC h p.1=some p.2)
noncomputable def mE (h:Heap):Bool:=R6.tab.meths.all fun p=>decide ((h.nsMap 241 p.2)=(R6.tab.fns.lookup p.1).map Value.ref)
noncomputable def tH (h:Heap):Bool:=R6.tab.fns.all fun p=>isFn h p.2&&match R6.P p.1 with | some fn=>kO R6.tab h fn p.2 | none=>false
noncomputable def newOk (h:Heap):Bool:=kO R6.tab h ⟨4,[],HW⟩ 82&&(bodyOf h 82).any fun x=>BQ x.2
noncomputable def qP (h:Heap):Bool:=kO R6.tab h ⟨2,[],HV⟩ 89&&(bodyOf h 89).any fun x=>yK x.2
noncomputable def GY (x:Scope × List Stmt):Scope × List Stmt:=(tw [],newOf x.2)
noncomputable def DQ (x:Scope × List Stmt):Scope × List Stmt:=(ku yJ [],FL x.2)
noncomputable def EX (k:Nat) (x:Scope × List Stmt):Scope × List Stmt:=match R6.P k with
 | some fn=>EY R6.tab fn x
 | none=>x
noncomputable def mZ (h:Heap):List (Option (Scope × List Stmt)):=R6.tab.fns.map fun p=>bodyOf h p.2
noncomputable def tX (h:Heap):List (Option (Scope × List Stmt)):=R6.tab.fns.map fun p=>(bodyOf h p.2).map (EX p.1)
structure Obs (P:Params) (h:Heap):Prop where
 nss:yC h=true
 no241:fK h 241 ("__getattribute__" :: "__getattr__" :: "__setattr__" :: R6.tab.attrs)=true
 no134:fK h 134 ["__iter__","__lt__","__len__","__init__"]=true
 gls:yY h=true
 meths:mE h=true
 fns:tH h=true
 new:newOk h=true
 make:qP h=true
 mZ:mZ h=tX h
 newB:bodyOf h 82=(bodyOf h 82).map GY
 makeB:bodyOf h 89=(bodyOf h 89).map DQ
 g242:h.get? 242=some (excClassObj "SequenceMatcher" "SequenceMatcher" 242 241 [.type "object"] [.type "object"] true [] [] false none none none none (some (.str "SequenceMatcher" 389)) (some (.str "SequenceMatcher" 397)) (some (.bool true)) "object.__new__")
 g135:h.get? 135=some (zr 135 134 "Match" "Match" (some (.ref 65)) (some (.str "Match" 253)) (some (.str "Match" 261)))
 l1:peek (K8 h) ⟨pw,P⟩ (mroOf (.ref 135))=some [.ref 135,.type "tuple",.type "object"]
 l2:peek (K8 h) ⟨pw,P⟩ (isType (.ref 135))=some true
 l3:peek (K8 h) ⟨pw,P⟩ (isSubtype (.ref 135) (.ref 135))=some true
 l4:peek (K8 h) ⟨pw,P⟩ (isSubtype (.ref 135) (.type "tuple"))=some true
 l5:peek (K8 h) ⟨pw,P⟩ (isSubtype (.ref 135) (.type "object"))=some true
 l6:peek (K8 h) ⟨pw,P⟩ (classHasDel 135)=some false
 l7:peek (K8 h) ⟨pw,P⟩ (typeLookup (.ref 135) "__init__")=some (some (.builtin "object.__init__"))
 l8:peek (K8 h) ⟨pw,P⟩ (specialOf (.ref 135) "__call__")=some (some (.builtin "type.__call__"))
 l9:peek (K8 h) ⟨pw,P⟩ (isInstance (.ref 135) (.type "type"))=some true
 l10:peek (K8 h) ⟨pw,P⟩ (Bind.madeBy (.ref 135))=some none
 l11:peek (K8 h) ⟨pw,P⟩ (Bind.madeHere "tuple.__new__" (.ref 135))=some ()
 l12:(fun x:Value=>peek (K8 h) ⟨pw,P⟩ (checkBuiltinCall "tuple.__new__" ⟨[.ref 135,x],[]⟩))=fun x=>some ()
 m1:readsIn (K8 h) 135 (.type "type")=true
 m2:findCls (K8 h) (.ref 135) (.type "type") "__new__"=some (.get (.builtin "staticmethod.__get__") (.ref 136) .none (.ref 135))
 m3:findCls (K8 h) (.ref 135) (.type "type") "_make"=some (.get (.builtin "classmethod.__get__") (.ref 91) .none (.ref 135))
 m4:recIn (K8 h) 136 "staticmethod"=some [.ref 82]
 m5:recIn (K8 h) 91 "classmethod"=some [.ref 89,.bool false]
noncomputable def asked (w:World) (s:Shared) (h:Heap) (P:Params) :=
 ((t9 w s,openSeen qv loose (importedModules pw.main.body) Xt true s),
  (yC h&&fK h 241 ("__getattribute__" :: "__getattr__" :: "__setattr__" :: R6.tab.attrs)&&fK h 134 ["__iter__","__lt__","__len__","__init__"]&&yY h&&mE h&&tH h&&newOk h&&qP h),
  (mZ h,bodyOf h 82,bodyOf h 89,h.get? 242,h.get? 135),
  (peek (K8 h) ⟨pw,P⟩ (mroOf (.ref 135)),peek (K8 h) ⟨pw,P⟩ (isType (.ref 135)),peek (K8 h) ⟨pw,P⟩ (isSubtype (.ref 135) (.ref 135)),peek (K8 h) ⟨pw,P⟩ (isSubtype (.ref 135) (.type "tuple")),peek (K8 h) ⟨pw,P⟩ (isSubtype (.ref 135) (.type "object")),
  peek (K8 h) ⟨pw,P⟩ (classHasDel 135),peek (K8 h) ⟨pw,P⟩ (typeLookup (.ref 135) "__init__"),peek (K8 h) ⟨pw,P⟩ (specialOf (.ref 135) "__call__"),peek (K8 h) ⟨pw,P⟩ (isInstance (.ref 135) (.type "type")),peek (K8 h) ⟨pw,P⟩ (Bind.madeBy (.ref 135)),
  peek (K8 h) ⟨pw,P⟩ (Bind.madeHere "tuple.__new__" (.ref 135)),fun x:Value=>peek (K8 h) ⟨pw,P⟩ (checkBuiltinCall "tuple.__new__" ⟨[.ref 135,x],[]⟩)),
  (readsIn (K8 h) 135 (.type "type"),findCls (K8 h) (.ref 135) (.type "type") "__new__",findCls (K8 h) (.ref 135) (.type "type") "_make",recIn (K8 h) 136 "staticmethod",recIn (K8 h) 91 "classmethod"))
theorem atB:(fun w os=>((XB w os).map fun r=>(r.1,r.2.2.1),asked w (F w os) (F w os).heap w.params))=fun w os=>(some (.next,cE),((true,openGood qv loose),true,
  (tX (F w os).heap,(bodyOf (F w os).heap 82).map GY,(bodyOf (F w os).heap 89).map DQ,some (excClassObj "SequenceMatcher" "SequenceMatcher" 242 241 [.type "object"] [.type "object"] true [] [] false none none none none (some (.str "SequenceMatcher" 389)) (some (.str "SequenceMatcher" 397)) (some (.bool true)) "object.__new__"),
   some (zr 135 134 "Match" "Match" (some (.ref 65)) (some (.str "Match" 253)) (some (.str "Match" 261)))),
  (some [.ref 135,.type "tuple",.type "object"],some true,some true,some true,some true,some false,some (some (.builtin "object.__init__")),some (some (.builtin "type.__call__")),some true,some none,some (),fun _=>some ()),
  (true,some (.get (.builtin "staticmethod.__get__") (.ref 136) .none (.ref 135)),some (.get (.builtin "classmethod.__get__") (.ref 91) .none (.ref 135)),some [.ref 82],some [.ref 89,.bool false]))):=by
 delta F s3 XB tB FD PySem.W.Fast.tw4202317264376624991
 rw [rC]
 kernel_rfl
end Mine
end
section
open PySem PySem.W PyProof.Rows
set_option maxHeartbeats 0
namespace Mine
open MP
theorem v5 {p q:Program} {loose:List Str} {Xt:Shared→Bool} {N:Nat} {g0:Bool} {H₀:Params→Heap} {gs₀:Array GenState} {d₀:Drawn} {k₀ m₀:Nat} {ann:Option Value} {M:Nat} {F:World→OsState→Shared}
  (open_:∀ w:World,(fencedOpening treeTable p w N).map (fun s=>(s.heap,s.gens,s.drawn,s.toks))=some (H₀ w.params,gs₀,d₀,k₀))
  (size:∀ w:World,((H₀ w.params).isNs mainGlobals&&gs₀.size==0,(H₀ w.params).objs.size,(H₀ w.params).nsMap mainGlobals "__annotations__")=(true,m₀,ann))
  (run:∀ (w:World) (os:OsState),topRun treeTable p w m₀ ann M ⟨H₀ w.params,gs₀,d₀,k₀,os⟩ (topStub p)=some (F w os)) (le:Nat.ble M N=true)
  (t9:∀ (w:World) (os:OsState),(staticsOk (importedModules p.main.body) (H₀ w.params) (F w os).heap&&namesBound p (F w os).heap&&gensDone (F w os)&&laidKept (H₀ w.params) (F w os).heap)=true)
  (seen:∀ (w:World) (os:OsState),openSeen q loose (importedModules p.main.body) Xt g0 (F w os)=openGood q loose) :
  LeftO p q loose Xt (fun s=>s.heap) (fun w=>(F w ((fencedOpening treeTable p w N).elim {} (·.os))).heap) N g0:=fun w=>by
 obtain⟨⟨h,gs,d,k,os⟩,e,e'⟩:=gc.mp (open_ w)
 obtain⟨rfl,rfl,rfl,rfl⟩:h=H₀ w.params∧gs=gs₀∧d=d₀∧k=k₀:=by simpa using e'
 obtain⟨z1,z2,z3⟩:_∧_∧_:=by simpa only [mj] using size w
 have r:=topRun_mono (N-M) _ _ _ _ (run w os)
 rw [show M+(N-M)=N by have:=cp le;(exact cv .aQ .g (.e .aD .C) (aa (av .A .a .A this)))] at r
 have t:topFrom treeTable p w N ⟨H₀ w.params,gs,d,k,os⟩=some (F w os):=by
  unfold topFrom
  dsimp only
  rw [z1,z2,z3,r]
  show(match staticsOk (importedModules p.main.body) (H₀ w.params) (F w os).heap&&namesBound p (F w os).heap&&gensDone (F w os)&&laidKept (H₀ w.params) (F w os).heap with | true=>_ | false=>_)=_
  rw [t9 w os]
 unfold openEnds
 rw [e]
 show(topFrom treeTable p w N _).map _=_
 rw [t]
 refine bx some (Prod.ext (seen w os) ?_)
 show(F w os).heap=_
 dsimp only
 rw [e];rfl
theorem je {α β:Type} {a c:α} {b d:β} (h:(a,b)=(c,d)):a=c:=bx (·.1) h
theorem fk {α β:Type} {a c:α} {b d:β} (h:(a,b)=(c,d)):b=d:=bx (·.2) h
theorem HA {w:World} {os:OsState}:t9 w (F w os)=true:=je (je (fk (iz (iz atB w) os)))
theorem obs (w:World) (os:OsState):Obs w.params (F w os).heap:=by
 have v:=fk (fk (iz (iz atB w) os))
 generalize (F w os).heap=h at v ⊢
 generalize w.params=P at v ⊢
 have e1:=je v
 have e2:=je (fk v)
 have e3:=je (fk (fk v))
 have e4:=fk (fk (fk v))
 simp only [cq] at e1
 obtain⟨⟨⟨⟨⟨⟨⟨a1,a2⟩,a3⟩,a4⟩,a5⟩,a6⟩,a7⟩,a8⟩:=e1
 have b:=fk e3
 have c:=fk b
 have d:=fk c
 have e:=fk d
 have f:=fk e
 have g:=fk f
 have i:=fk g
 have j:=fk i
 have k:=fk j
 have l:=fk k
 have m:=fk e4
 have n:=fk m
 have o:=fk n
 exact⟨a1,a2,a3,a4,a5,a6,a7,a8,je e2,je (fk e2),je (fk (fk e2)),je (fk (fk (fk e2))),fk (fk (fk (fk e2))),je e3,je b,je c,je d,je e,je f,je g,je i,je j,je k,je l,fk l,je e4,je m,je n,je o,fk o⟩
theorem EW (w:World) (os:OsState):topRun treeTable pw w 11 an 2381 (S0 w os) (topStub pw)=some (F w os):=by
 have hp:=iz (iz pre w) os
 have hb:=iz (iz blk w) os
 have hA:=iz (iz atA w) os
 have hv:=je (iz (iz atB w) os)
 have hf:=fun c q s=>iz (iz (iz (iz fin w) c) q) s
 obtain⟨⟨fl,s3',c3,q3⟩,hx,e⟩:=gc.mp hv
 have hfl:fl=.next:=je e
 have hc3:c3=cE:=fk e
 subst hfl
 subst hc3
 have hF:F w os=s3'.abs:=by
  unfold F s3
  rw [hx];rfl
 have hgo:XA w os=some (sA w os,tA w os):=by
  have hA1:=je hA
  unfold sA tA
  cases q:XA w os with
  | none=>rw [q] at hA1;cases hA1
  | some x=>rfl
 have htB:tB w os=tA w os:=by
  unfold tB
  rw [← fk hA]
 unfold XB at hx
 rw [htB] at hx
 rw [hF]
 generalize sA w os=sa at hgo hx
 generalize tA w os=ta at hgo hx
 unfold XA at hgo
 unfold th0 at hgo
 rw [I6] at hgo
 have e3:TB=treeTable:=PySem.W.Fast.te14364793385576792824.symm
 have e1:goT=@segGoT:=PySem.W.Fast.te10295753902157049106.symm
 have e2:GS=@segRunT:=PySem.W.Fast.te10110043849684766642.symm
 rw [e1,e3] at hgo
 rw [e2,e3] at hx
 rw [e3] at hp hb hf
 have hs:=seg_go (n:=1966) (N:=400) (segGo_of hgo) (segRun_of hx)
 refine go_top (n:=12) (N:=2369) hp (piece_block (n:=1) (N:=2368) hb ?_)
 have:=piece_app (n:=2366) (N:=2) (l:=bE) (rest:=[]) (env:=CK) hs (piece_nil (hf _ _ _))
 rw [dp] at this
 exact this
end Mine
end
section
open PySem PySem.W PyProof.Rows
set_option maxHeartbeats 0
namespace Mine
open MP
theorem H9:∀ w:World,((boot_heap w.params).isNs mainGlobals&&(⟨[]⟩:Array GenState).size==0,(boot_heap w.params).objs.size,(boot_heap w.params).nsMap mainGlobals "__annotations__")=(true,11,an):=by
 have h:(fun w:World=>((boot_heap w.params).isNs mainGlobals&&(⟨[]⟩:Array GenState).size==0,(boot_heap w.params).objs.size,(boot_heap w.params).nsMap mainGlobals "__annotations__"))=fun w=>(true,11,an):=by kernel_rfl
 exact fun w=>iz h w
noncomputable def H1 (w:World):Heap:=(F w ((fencedOpening treeTable pw w 4418).elim {} (·.os))).heap
noncomputable def hook:Hook where
 α:=Heap
 obs:=fun s=>s.heap
 val:=H1
 says:=fun w h=>∀ a o,(H1 w).get? a=some o→h.get? a=some o
 of:=fun w s e a o h=>by rw [e];exact h
 keeps:=fun w h h' x k a o e=>k a o (x a o e)
theorem left:LeftO pw qv loose Xt (fun s=>s.heap) H1 4418 true:=v5 (boot_open (by kernel_rfl) (by decide +kernel) (fun s=>by kernel_rfl)) H9 EW (by decide +kernel) (fun w os=>HA) fun w os=>fk (je (fk (iz (iz atB w) os)))
theorem head (hc:∀ (d:DefRec) (kwd:List (Str × Expr)),defOf qv rw6.row.name=some (d,kwd)→WalkO qv loose (XL qv []) hook.says rw6.row.toRowW d kwd fun f vs=>PySem.call f vs):rw6.Holds:=by
 w_on
 refine holds_law (by decide +kernel) fun said=>?_
 refine holds_open (q:=qv) (loose:=loose) (Xt:=Xt) (XP:=XL qv []) (Yf:=hook.obs) (Ya:=hook.val) (YP:=hook.says) (N:=4418) left hook.of hook.keeps (fun s e=>xl_of s (Bool.and_eq_true_iff.mp e).1) XL.keeps (by rfl) (by rfl) (by rfl) (fun s e=>recFacts_of (Bool.and_eq_true_iff.mp e).2) (by first | rfl | fail "no head") (by first | assumption | decide +kernel) (by decide +kernel) ⟨rfl,rfl,rfl,rfl,rfl,by decide +kernel⟩ ?hw ?hc
 case hw=>w_witness2
 case hc=>exact hc _ _ (by rfl)
theorem F9 (w:World):Obs w.params (H1 w):=obs w _
end Mine
end
section
set_option tactic.hygienic true
open PySem PySem.W PyProof.Rows
set_option maxHeartbeats 0
namespace Mine
open MP
theorem wB (x:Str) (hx:x∈R6.tab.attrs):typeLookup (.type "object") x=pure none:=by
 simp only [R6.tab,cf,vh,or_false] at hx
 rcases hx with rfl | rfl | rfl | rfl | rfl | rfl | rfl | rfl | rfl | rfl<;>(rw [fq,dw];kernel_rfl)
noncomputable def G8 (w:World) (h0 hb:Heap):Stc:={ prog:=pw,w:=w,hb:=hb,cM:=135,cS:=242,attrs:=R6.tab.attrs,gl:=CC h0 }
section
variable {w:World} {h0 hb:Heap} (ob:Obs w.params h0)
include ob
theorem nZ:h0.isNs mainGlobals=true∧h0.isNs builtinsNs=true∧h0.isNs 241=true∧h0.isNs 134=true∧h0.isNs cStatics=true∧h0.nsMap cStatics "sys.recursionlimit"=none∧∃ o,h0.get? sysModules=some o:=by
 have h:=ob.nss
 unfold yC at h
 simp only [cq,qr] at h
 obtain⟨⟨⟨⟨⟨⟨h1,h2⟩,h3⟩,h4⟩,h5⟩,h6⟩,h7⟩:=h
 exact⟨h1,h2,h3,h4,h5,h6,cc.mp h7⟩
omit ob in
theorem mf {h:Heap} {a:Addr} {xs:List Str} (e:fK h a xs=true) {x:Str} (hx:x∈xs):h.nsMap a x=none:=by
 unfold fK at e
 rw [jg] at e
 exact qr.mp (e x hx)
variable (hk:∀ a o,h0.get? a=some o→hb.get? a=some o)
include hk
theorem FO:hb.NoLimit:=by
 obtain⟨h1,h2,h3,h4,h5,h6,h7⟩:=nZ ob
 exact⟨_,(ui h5).keeps hk,h6⟩
theorem HX:ClsAt hb 242 241 (h0.nsMap 241):=by
 obtain⟨h1,h2,h3,h4,h5,h6,h7⟩:=nZ ob
 exact⟨⟨_,_,_,_,_,_,_,_,_,_,_,_,hk _ _ (ob.g242)⟩,(ui h3).keeps hk⟩
theorem IW:GOk (G8 w h0 hb):=by
 obtain⟨h1,h2,h3,h4,h5,h6,o,h7⟩:=nZ ob
 have no:=ob.no241
 refine⟨⟨241,_,HX ob hk,mf no (.head _),mf no (.tail _ (.head _)),mf no (.tail _ (.tail _ (.head _))),fun x hx=>⟨mf no (.tail _ (.tail _ (.tail _ hx))),wB x hx⟩⟩,by show R6.tab.attrs.length≤100;decide,by show R6.tab.attrs.Nodup;decide +kernel,⟨o,hk _ _ h7⟩,⟨_,_,(ui h1).keeps hk,(ui h2).keeps hk,fun x=>rfl⟩⟩
omit hk in
theorem gl8 (x:Str) (v:Value) (e:R6.tab.gl.lookup x=some v):CC h0 x=some v:=by
 have h:=ob.gls
 unfold yY at h
 rw [jg] at h
 exact bb (h (x,v) (MP.mem_of_lookup e))
theorem FW {k:Nat} {a:Addr} (e:R6.tab.fns.lookup k=some a):∃ o fd,hb.get? a=some o∧o.cls=.type "function"∧o.data=.func fd:=by
 have h:=ob.fns
 unfold tH at h
 rw [jg] at h
 have:=h (k,a) (MP.mem_of_lookup e)
 rw [cq] at this
 have:=this.1
 unfold isFn at this
 split at this
 ·rename_i o ho
  rw [cq] at this
  obtain⟨h1,h2⟩:=this
  split at h2
  ·rename_i fd hd
   exact⟨o,fd,hk _ _ ho,bb h1,hd⟩
  ·cases h2
 ·cases this
omit hk in
theorem FJ {k:Nat} {name:Str} (e:R6.tab.meths.lookup k=some name):h0.nsMap 241 name=(R6.tab.fns.lookup k).map Value.ref:=by
 have h:=ob.meths
 unfold mE at h
 rw [jg] at h
 exact bb (h (k,name) (MP.mem_of_lookup e))
theorem DP (k:Nat) (name:Str) (e:R6.tab.meths.lookup k=some name):∃ f,R6.tab.fns.lookup k=some f∧MethAt (G8 w h0 hb) name f:=by
 have no:=ob.no241
 have hin:∃ f,R6.tab.fns.lookup k=some f:=by
  have h:R6.tab.meths.all (fun p=>(R6.tab.fns.lookup p.1).isSome)=true:=by decide +kernel
  exact cc.mp (jg.mp h _ (MP.mem_of_lookup e))
 have hout:name∉R6.tab.attrs:=by
  have h:R6.tab.meths.all (fun p=>decide (p.2∉R6.tab.attrs))=true:=by decide +kernel
  exact bb (jg.mp h _ (MP.mem_of_lookup e))
 obtain⟨f,hf⟩:=hin
 obtain⟨o,fd,ho,hc,hd⟩:=FW ob hk hf
 refine⟨f,hf,⟨⟨241,_,o,fd,HX ob hk,mf no (.head _),mf no (.tail _ (.head _)),?_,ho,hc,hd⟩,hout,⟨_,fq _ _⟩⟩⟩
 have:=FJ ob e
 rw [hf] at this
 exact this
theorem HD:∃ f,R6.tab.fns.lookup 0=some f∧n8 (G8 w h0 hb) f:=by
 obtain⟨f,hf,M⟩:=DP ob hk 0 "__init__" rfl
 obtain⟨N,mN,of,fd,h1,h2,h3,h4,h5,h6,h7⟩:=M.here
 exact⟨f,hf,⟨N,mN,of,h1,h4,h5,h6⟩⟩
theorem FK:pe (G8 w h0 hb):=by
 obtain⟨h1,h2,h3,h4,h5,h6,h7⟩:=nZ ob
 have no:=ob.no134
 exact⟨⟨134,_,_,_,_,_,_,hk _ _ (ob.g135),(ui h4).keeps hk,mf no (.head _),mf no (.tail _ (.head _)),mf no (.tail _ (.tail _ (.head _))),mf no (.tail _ (.tail _ (.tail _ (.head _))))⟩⟩
omit ob hk in
theorem mM (h:Heap):∀ l:List Addr,Frag.In (fragOf h l) h
 | [],a,o,e=>by cases e
 | b::l,a,o,e=>by
  unfold fragOf at e
  simp only [List.filterMap_cons] at e
  cases hq:h.get? b with
  | none=>rw [hq] at e;exact mM h l a o e
  | some ob =>
   rw [hq] at e
   simp only [wt,List.lookup] at e
   split at e
   ·rename_i q;cases e;rw [sg.mp q];exact hq
   ·exact mM h l a o e
omit ob hk in
theorem m6:findCls [] (.type "tuple") (.type "type") "__new__"=some (.val (.builtin "tuple.__new__")):=by kernel_rfl
omit ob hk in
theorem m7:findIn [] (.type "type") "__getattribute__"=some (some (.builtin "type.__getattribute__")):=by kernel_rfl
omit ob hk in
theorem m8:subIn [] (.type "type") (.type "type")=some true:=by kernel_rfl
omit ob hk in
theorem m9:opaqueClassAbove (.type "tuple")=pure none:=by kernel_rfl
omit ob hk in
theorem m10:hookBefore (.type "type")=pure none:=by kernel_rfl
omit ob hk in
theorem m11:typeOf (.type "tuple")=pure (.type "type"):=by kernel_rfl
theorem yP:(K8 h0).In hb:=(mM h0 _).keeps hk
theorem xd {α:Type} {t:Sem α} {r:α} (e:peek (K8 h0) ⟨pw,w.params⟩ t=some r):Looks (G8 w h0 hb).M (G8 w h0 hb).hb t r:=Looks.of_peek (K:=K8 h0) (yP ob hk) e
theorem BV:mi (G8 w h0 hb) 82 89 where
 made:=xd ob hk (ob.l10)
 here:=xd ob hk (ob.l11)
 chk:=fun x=>xd ob hk (iz ob.l12 x)
 mro:=xd ob hk (ob.l1)
 self:=xd ob hk (ob.l3)
 tup:=xd ob hk (ob.l4)
 init:=xd ob hk (ob.l7)
 call:=xd ob hk (ob.l8)
 typ:=xd ob hk (ob.l9)
 isT:=xd ob hk (ob.l2)
 del:=xd ob hk (ob.l6)
 new:=fun A E s Q k h=>cls_bind (K:=K8 h0) (mc:=.type "type") ((yP ob hk).keeps k) (ob.m1) (ob.m2) (rx (sm_get (s:={ s with toks:=s.toks+1 }) (K:=K8 h0) ((yP ob hk).keeps k) (ob.m4) (handed_on rfl h)))
 make:=fun A E s expr Q k h=>cls_bind (K:=K8 h0) (mc:=.type "type") ((yP ob hk).keeps k) (ob.m1) (ob.m3) (rx (cm_get (s:={ s with toks:=s.toks+1 }) (K:=K8 h0) ((yP ob hk).keeps k) (ob.m5) (handed_on rfl h)))
 typNew:=fun A E s expr Q h=>cls_open (K:=[]) (fun _ _ e=>nomatch e) (Looks.of_pure m9) (Looks.of_pure m11) m7 (Looks.of_pure m10) m8 m6 (ae (handed_on rfl h))
theorem IT:lC (G8 w h0 hb) 82:=by
 refine⟨?_,gl8 ob "tuple" _ (by decide +kernel),xd ob hk ob.l5⟩
 have h:=ob.new
 unfold newOk at h
 rw [cq] at h
 obtain⟨x,hx,hf⟩:=tJ (G:=G8 w h0 hb) hk (FO ob hk) h.1 ob.newB
 have hl:=h.2
 rw [hx] at hl
 exact⟨_,_,_,_,_,_,_,_,_,_,_,_,_,_,[],hf,hl⟩
theorem H7:jA (G8 w h0 hb) 89:=by
 refine⟨?_,gl8 ob "tuple" _ (by decide +kernel),gl8 ob "len" _ (by decide +kernel)⟩
 have h:=ob.make
 unfold qP at h
 rw [cq] at h
 obtain⟨x,hx,hf⟩:=tJ (G:=G8 w h0 hb) hk (FO ob hk) h.1 ob.makeB
 have hl:=h.2
 rw [hx] at hl
 exact⟨_,_,_,_,_,yJ,[],hf,hl,by decide +kernel,by decide +kernel⟩
theorem I5:n9 (G8 w h0 hb) R6.tab :=
 ⟨IW ob hk,gl8 ob,rfl,DP ob hk,HD ob hk,rfl,rfl,⟨82,89,BV ob hk,IT ob hk,H7 ob hk⟩,FK ob hk⟩
theorem GU:zV (G8 w h0 hb) R6.tab R6.P:=by
 refine⟨I5 ob hk,fun k a e=>?_⟩
 have h:=ob.fns
 unfold tH at h
 rw [jg] at h
 have:=h (k,a) (MP.mem_of_lookup e)
 rw [cq] at this
 have h2:=this.2
 split at h2
 ·rename_i fn hf
  obtain⟨sc,body,x,y⟩:=HE (G:=G8 w h0 hb) hk (FO ob hk) h2 (by
   have h3:=List.map_inj_left.mp ob.mZ (k,a) (MP.mem_of_lookup e)
   have h4:EX k=EY R6.tab fn:=by funext x;unfold EX;rw [hf]
   rw [← h4];exact h3)
  exact⟨fn,sc,body,hf,x,y⟩
 ·cases h2
end
end Mine
end
section
open PySem PySem.W PyProof.Rows
set_option maxHeartbeats 0
namespace Mine
open MP
noncomputable def st0:MP.St:=⟨fun _=>none,fun _=>none,fun _=>none,fun _=>none,fun _=>none⟩
theorem IP (G:Stc):Rel G st0 G.hb:=by
 refine⟨fun _ _ e=>?_,fun _ _ e=>?_,fun _ _ e=>?_,fun _ _ _ e=>?_,fun _=>rfl,fun _ _ e=>?_,fun _ _ e=>?_,fun _ _ _ _ _ e=>?_,fun _ _ _ e=>?_,fun _ _ _ _ _ _ e=>?_,fun b d=>?_,fun _ _ e=>e⟩
 all_goals first | cases e | skip
 unfold MP.St.dom at d
 simp [st0] at d
theorem ao0:AOk callerA 16:=⟨rfl,by decide,by decide⟩
theorem ints_of {P:Params} {h:Heap}:∀ {vs:List Value} {xs:List WData},WellAll P h vs xs→WShape.hasItems [] xs .int=true→∃ ns:List Int,xs=ns.map WData.int∧IntsAre vs ns
 | _,_,.nil,_=>⟨[],rfl,.nil⟩
 | _,_,.cons W Ws,hs=>by
  obtain⟨h1,h2⟩:=MP.band (show(WShape.has [] _ .int&&WShape.hasItems [] _ .int)=true from hs)
  obtain⟨ns,e,I⟩:=ints_of Ws h2
  cases W with
  | int i t=>exact⟨i::ns,by rw [e];rfl,.cons i t I⟩
  | _=>exact Bool.noConfusion (show false=true from h1)
theorem D4 {P:Params} {h:Heap} {args:List WData} {vals:List Value} (W:WellAll P h vals args) (hs:WShape.hasAll [] args [.list .int]=true):∃ (l:Addr) (vs:List Value) (ns:List Int),vals=[.ref l]∧args=[.list (ns.map WData.int)]∧h.get? l=some { cls:=.type "list",data:=.seq vs.toArray }∧IntsAre vs ns:=by
 cases W with
 | nil=>cases hs
 | cons W Ws =>
  cases Ws with
  | cons _ _=>exact Bool.noConfusion (show false=true from(MP.band (show(WShape.has [] _ (.list .int)&&WShape.hasAll [] _ [])=true from hs)).2)
  | nil =>
   have h1:=(MP.band (show(WShape.has [] _ (.list .int)&&WShape.hasAll [] _ [])=true from hs)).1
   cases W with
   | @list a vs xs e Wi =>
    obtain⟨ns,rfl,I⟩:=ints_of Wi ((dU _).symm.trans (show(WShape.hasItems [] xs .int||false)=true from h1))
    exact⟨_,_,ns,rfl,rfl,e,I⟩
   | _=>exact Bool.noConfusion (show false=true from h1)
theorem GV (xs:List WData) (h:rw6.pre.holds [] { args:=[.list xs] }=true):xs.length≤63:=by
 have e:rw6.pre=.and (.not (.lt (.lit (.int 63)) (.len (.arg 0)))) (.lit (.bool true)):=by rfl
 rw [e] at h
 have hl:WTm.value [] (.lt (.lit (.int 63)) (.len (.arg 0))) { args:=[.list xs] }=(less? (.int 63) (.int xs.length)).map WData.bool:=by rfl
 have h3:less? (.int 63) (.int xs.length)=some (decide ((63:Int)<xs.length)):=by first | rfl | simp [less?]
 rw [h3] at hl
 by_cases hx:(63:Int)<xs.length
 ·have hn:WTm.value [] (.not (.lt (.lit (.int 63)) (.len (.arg 0)))) { args:=[.list xs] }=some (.bool false):=by
   show(match WTm.value [] (.lt (.lit (.int 63)) (.len (.arg 0))) { args:=[.list xs] } with | some (.bool b)=>some (WData.bool (!b)) | _=>none)=_
   rw [hl];simp [hx]
  have ha:WTm.value [] (.and (.not (.lt (.lit (.int 63)) (.len (.arg 0)))) (.lit (.bool true))) { args:=[.list xs] }=some (.bool false):=by
   show(match WTm.value [] (.not (.lt (.lit (.int 63)) (.len (.arg 0)))) { args:=[.list xs] } with
    | some (.bool false)=>some (WData.bool false)
    | some (.bool true)=>some (.bool true)
    | _=>none)=_
   rw [hn]
  unfold WTm.holds at h
  rw [ha] at h
  cases h
 ·(exact dh (.k .A (.n 63)) .a (.ig (.n 63) .L) hx)
theorem F7:(fun(x y:List WData)=>rw6.row.claim.post x (WData.bool true) y)=fun x y=>true:=by kernel_rfl
theorem J0 (hlaw:∀ ns:List Int,ns.length≤63→gu R6.P 7 14 [.ro ns] st0 fun v σ=>v=.bool true):rw6.Holds:=by
 refine head fun d kwd hd w s₀ s₁ mg mb Gr says a o pm cd doc dV kV ho hdat hcd hdf hmg hgens args vals as hpre hlay hreads hwell hsys=>?_
 have hk:∀ b o,(H1 w).get? b=some o→s₁.heap.get? b=some o:=says
 have hpre':(WShape.hasAll [] args [.list .int]&&rw6.pre.holds [] { args:=args })=true:=hpre
 rw [cq] at hpre'
 obtain⟨l,vs,ns,rfl,rfl,hl,I⟩:=D4 hwell hpre'.1
 have hlen:ns.length≤63:=by
  simpa using GV _ hpre'.2
 have ha:a=279:=by
  have e1:=Gr.T.g.eq_nsMap
  have e0:=(nZ (F9 w)).1
  have e4:=gl8 (F9 w) "law" (.ref 279) (by decide +kernel)
  generalize H1 w=h0 at e0 e4 hk
  have e2:=((ui e0).keeps hk).eq_nsMap
  have e3:d.name=("law":Str):=by
   have:(defOf qv rw6.row.name).map (fun p=>p.1.name)=some ("law":Str):=by kernel_rfl
   rw [hd] at this
   exact af this
  rw [e1,← e2,e3] at hmg
  unfold CC at e4
  rw [hmg] at e4
  cases e4
  rfl
 subst ha
 have hc:=(zL (GU (F9 w) hk) 7 14 279 (by decide +kernel)).2 callerA (fun e s'=>GoodWG rw6.row.claim (classAt s₀.heap) (ExcName.means s₀.heap) [.list (ns.map WData.int)] s₁ (.error e) s') [.ro ns] [.ref l] st0 (fun v σ=>v=.bool true) s₁ ao0 (IP (G8 w (H1 w) s₁.heap)) (.cons (.ro hl I) .nil) (hlaw ns hlen)
 refine ba hc (fun v s' lf=>?_) fun _ _ x=>x
 obtain⟨u,σ',h',tk,rfl,rfl,vr,R',x'⟩:=lf
 obtain rfl:=vr
 refine⟨.inl ⟨.bool true,.bool true,[],rfl,fun cls=>rfl,.bool true,?_,fun _=>⟨List.nodup_nil,fun a h=>nomatch h⟩⟩,.of_keep fun b o e=>R'.base b o e,rfl,.of_eq hgens⟩
 exact iz (iz F7 _) _
end Mine
end
section
namespace MP
open PySem
theorem gw {σ:St} {a d:Addr} {f:Nat→Option V}:(σ.fj a d f).I a=some (d,f):=bc _ _ _
theorem qu {σ:St} {a d d':Addr} {f g:Nat→Option V}:(σ.fj a d f).fj a d' g=σ.fj a d' g:=by
 unfold St.fj
 congr 1
 funext j
 simp only [upd]
 split<;>rfl
section
variable {C:Cal} {ρ:Fr} {σ:St} {e a b:Ex} {es:Exs}
theorem dW {Q:V→St→Prop}:wpE C (.lst es) ρ σ Q=rz C es ρ σ fun vs σ=>vs.length≤ax∧∀ c,σ.L c=Option.none→Q (.lst c) (σ.ct c vs):=rfl
theorem sD {Q:V→St→Prop}:wpE C (.tup es) ρ σ Q=rz C es ρ σ fun vs σ=>vs.length≤ax∧Q (.tup vs) σ:=rfl
theorem A4 {op:Bop} {Q:V→St→Prop}:wpE C (.bin op a b) ρ σ Q=wpE C a ρ σ fun va σ=>wpE C b ρ σ fun vb σ=>dX op va vb σ Q:=rfl
theorem vZ {Q:V→St→Prop}:wpE C (.newM es) ρ σ Q=rz C es ρ σ fun vs σ=>∀ a d,σ.I a=Option.none→C 0 (.obj a::vs) (σ.fj a d fun _=>Option.none) fun v σ=>v=.none∧Q (.obj a) σ:=rfl
theorem w4 {m:Nat} {Q:V→St→Prop}:wpE C (.meth e m es) ρ σ Q=wpE C e ρ σ fun v σ=>∃ a,v=.obj a∧(σ.I a).isSome∧rz C es ρ σ fun vs σ=>C m (v::vs) σ Q:=rfl
theorem w7 {fv:List (Nat × Nat)} {it:It} {t:Tg} {cs:Exs} {more:Gens} {Q:V→St→Prop}:wpE C (.comp fv it t cs more) ρ σ Q=u6 C it ρ σ fun vs G σ =>
   mO vs G (fun v ρ' acc σ K=>qd t v σ ρ' fun ρ'=>yx C cs ρ' σ fun ok σ=>if ok then hV C more ρ' acc σ K else K ρ' acc σ) (j3 fv ρ) [] σ
    fun _ acc σ=>∀ c,σ.L c=Option.none→Q (.lst c) (σ.ct c acc):=rfl
theorem vW {K:List V→(St→Prop)→St→Prop}:u6 C (.seq e) ρ σ K=wpE C e ρ σ fun v σ=>DC v σ K:=rfl
theorem te {Q:List V→St→Prop}:rz C (.cons e es) ρ σ Q=wpE C e ρ σ fun v σ=>rz C es ρ σ fun vs σ=>Q (v::vs) σ:=rfl
theorem ll {ts:List Tgt} {ss:ky} {K:Fl→Fr→St→Prop}:eg C (.cons (.assign ts e) ss) ρ σ K=wpE C e ρ σ fun v σ=>fF C ts v ρ σ fun ρ σ=>eg C ss ρ σ K:=rfl
end
theorem uy {p q:Prop} (h:q):if false=true then p else q:=h
theorem zu {p q:Prop} (h:p):if true=true then p else q:=h
theorem tD (k:Key):k.v.mG=some k:=by cases k<;>rfl
theorem oo {vs:List V} {G:St→Prop} {T:V→Fr→St→(Fr→St→Prop)→Prop} {K:Fr→St→Prop} (Inv:Nat→Fr→St→Prop)
  (step:∀ i v ρ σ,vs[i]?=some v→Inv i ρ σ→G σ∧∀ k:Fr→St→Prop,(∀ ρ' σ',Inv (i+1) ρ' σ'→k ρ' σ')→T v ρ σ k) (fin:∀ ρ σ,Inv vs.length ρ σ→G σ∧K ρ σ) {ρ:Fr} {σ:St} (h0:Inv 0 ρ σ):oE vs G T ρ σ K:=by
 have go:∀ (ws:List V) (i:Nat) (ρ:Fr) (σ:St),vs.drop i=ws→Inv i ρ σ→i≤vs.length→oE ws G T ρ σ K:=by
  intro ws
  induction ws with
  | nil =>
   intro i ρ σ e h hi
   have:i=vs.length:=by have:=List.drop_eq_nil_iff.mp e;(exact dq .C .i .A .a4 hi this)
   subst this
   exact fin ρ σ h
  | cons v ws ih =>
   intro i ρ σ e h hi
   have e1:vs[i]?=some v:=by
    have:=bx (fun l=>l[0]?) e
    simpa using this
   have e2:vs.drop (i+1)=ws:=by
    have:=bx (fun l=>l.drop 1) e
    simpa using this
   have hlt:=(ay.mp e1).1
   obtain⟨g,t⟩:=step i v ρ σ e1 h
   exact⟨g,t _ fun ρ' σ' h'=>ih (i+1) ρ' σ' e2 h' hlt⟩
 exact go vs 0 ρ σ rfl h0 (br _)
theorem ti {T:(Fr→St→Prop)→Fr→St→Prop} (Inv:Nat→Fr→St→Prop) (step:∀ n ρ σ,Inv n ρ σ→∀ again:Fr→St→Prop,(∀ m ρ' σ',m<n→Inv m ρ' σ'→again ρ' σ')→T again ρ σ) :
  ∀ (N n:Nat) {ρ:Fr} {σ:St},n<N→Inv n ρ σ→t8 T N ρ σ
 | 0,n,ρ,σ,h,_=>absurd h (kg _)
 | N+1,n,ρ,σ,h,hi=>step n ρ σ hi _ fun m ρ' σ' hm h'=>ti Inv step N m (by exact eh .B .b .bL .S h hm) h'
noncomputable def posOf (k:Key) (bs:List Key):List Nat:=(List.range bs.length).filter fun j=>decide (bs[j]?=some k)
theorem dE (k:Key) (bs:List Key) (b:Key):posOf k (bs++[b])=posOf k bs++if b=k then [bs.length] else []:=by
 unfold posOf
 rw [bg,du,List.range_succ,List.filter_append]
 congr 1
 ·refine List.filter_congr fun j hj=>?_
  rw [qt (List.mem_range.mp hj)]
 ·simp [List.filter_cons]
structure B2J (σ₀ σ:St) (db:Addr) (bs:List Key):Prop where
 tab:∃ es,σ.D db=some es∧es.length≤bs.length∧(∀ k,es.lookup k=none→posOf k bs=[]) ∧
  (∀ k w,es.lookup k=some w→∃ c,w=.lst c∧σ.L c=some ((posOf k bs).map fun j:Nat=>V.int j)∧σ₀.L c=none) ∧
  ∀ k k' c,es.lookup k=some (.lst c)→es.lookup k'=some (.lst c)→k=k'
 old:∀ a xs,σ₀.L a=some xs→σ.L a=some xs
 I:σ.I=σ₀.I
 S:σ.S=σ₀.S
 Z:σ.Z=σ₀.Z
 D:∀ a,a≠db→σ.D a=σ₀.D a
theorem B2J.start {σ₀:St} {db:Addr}:B2J σ₀ (σ₀.oh db []) db [] :=
 ⟨⟨[],bc _ _ _,ah _,fun k _=>rfl,fun k w e=>(by cases e),fun k k' c e=>(by cases e)⟩,fun a xs e=>e,rfl,rfl,rfl,fun a h=>cj h⟩
theorem um {es:List (Key × V)} {k k':Key} {v:V}:(es++[(k,v)]).lookup k'=(es.lookup k').or (if k'=k then some v else none):=by
 induction es with
 | nil=>simp [List.lookup];split<;>simp_all
 | cons e r ih =>
  obtain⟨a,b⟩:=e
  simp only [fE,List.lookup]
  split
  ·rfl
  ·exact ih
noncomputable abbrev fJ (k:Key) (bs:List Key):List V:=(posOf k bs).map fun j:Nat=>V.int j
theorem fI (k:Key) (bs:List Key) (b:Key):fJ k (bs++[b])=fJ k bs++if b=k then [.int bs.length] else []:=by
 unfold fJ
 rw [dE,fb]
 congr 1
 split<;>rfl
theorem B2J.step {σ₀ σ:St} {db c:Addr} {bs:List Key} (h:B2J σ₀ σ db bs) (hc:σ.L c=none) (b:Key):∃ es,σ.D db=some es∧es.length≤bs.length ∧
  ∃ c',(es.lookup b).getD (.lst c)=.lst c'∧((σ.ct c []).oh db (if (es.lookup b).isSome then es else es++[(b,.lst c)])).L c'=some (fJ b bs) ∧
   B2J σ₀ (((σ.ct c []).oh db (if (es.lookup b).isSome then es else es++[(b,.lst c)])).ct c' (fJ b bs++[.int bs.length])) db (bs++[b]):=by
 obtain⟨es,hD,hlen,hno,hyes,hinj⟩:=h.tab
 refine⟨es,hD,hlen,?_⟩
 have hc0:σ₀.L c=none:=by
  cases hq:σ₀.L c with
  | none=>rfl
  | some xs=>rw [h.old c xs hq] at hc;cases hc
 cases hb:es.lookup b with
 | some w =>
  obtain⟨c1,rfl,hL1,h01⟩:=hyes b w hb
  have hne:c1≠c:=fun e=>by rw [e,hc] at hL1;cases hL1
  refine⟨c1,rfl,?_,?_⟩
  ·show upd σ.L c [] c1=_
   rw [cj hne];exact hL1
  ·simp only [Option.isSome_some,uf]
   refine⟨⟨es,bc _ _ _,by simp;(exact av .X .a .A hlen),fun k e=>?_,fun k w e=>?_,hinj⟩,fun a xs e=>?_,h.I,h.S,h.Z,fun a ha=>?_⟩
   ·have hk:b≠k:=fun q=>by rw [← q,hb] at e;cases e
    rw [dE,hno k e,aw hk];rfl
   ·obtain⟨c2,rfl,hL2,h02⟩:=hyes k w e
    refine⟨c2,rfl,?_,h02⟩
    show upd (upd σ.L c []) c1 _ c2=some (fJ k (bs++[b]))
    rw [fI]
    by_cases hk:b=k
    ·subst hk
     rw [hb] at e
     cases e
     rw [bc,bp rfl]
    ·have h12:c2≠c1:=fun q=>hk (hinj b k c1 hb (q▸e))
     have h2c:c2≠c:=fun q=>by rw [q,hc] at hL2;cases hL2
     rw [cj h12,cj h2c,aw hk,dp];exact hL2
   ·show upd (upd σ.L c []) c1 _ a=some xs
    have h1:a≠c1:=fun q=>by rw [q,h01] at e;cases e
    have h2:a≠c:=fun q=>by rw [q,hc0] at e;cases e
    rw [cj h1,cj h2];exact h.old a xs e
   ·show upd σ.D db es a=_
    rw [cj ha];exact h.D a ha
 | none =>
  have hp:posOf b bs=[]:=hno b hb
  have hpv:fJ b bs=[]:=by unfold fJ;rw [hp];rfl
  refine⟨c,rfl,?_,?_⟩
  ·show upd σ.L c [] c=_
   rw [bc,hpv]
  ·simp only [sh,cw,iq]
   refine⟨⟨es++[(b,V.lst c)],(show upd σ.D db (es++[(b,V.lst c)]) db=_ from bc _ _ _),by simp;(exact av .A .a .A hlen),fun k e=>?_,fun k w e=>?_,fun k k' c2 e e'=>?_⟩,fun a xs e=>?_,h.I,h.S,h.Z,fun a ha=>?_⟩
   ·rw [um] at e
    cases hk:es.lookup k with
    | some w=>rw [hk] at e;cases e
    | none =>
     rw [hk,yt] at e
     have hbk:b≠k:=fun q=>by rw [bp q.symm] at e;cases e
     rw [dE,hno k hk,aw hbk];rfl
   ·rw [um] at e
    cases hk:es.lookup k with
    | some w' =>
     rw [hk,Option.some_or] at e
     cases e
     obtain⟨c2,rfl,hL2,h02⟩:=hyes k _ hk
     refine⟨c2,rfl,?_,h02⟩
     show upd (upd σ.L c []) c _ c2=some (fJ k (bs++[b]))
     have h2c:c2≠c:=fun q=>by rw [q,hc] at hL2;cases hL2
     have hbk:b≠k:=fun q=>by rw [← q,hb] at hk;cases hk
     rw [cj h2c,cj h2c,fI,aw hbk,dp];exact hL2
    | none =>
     rw [hk,yt] at e
     split at e
     ·rename_i q
      cases e
      subst q
      refine⟨c,rfl,?_,hc0⟩
      show upd (upd σ.L c []) c _ c=some (fJ k (bs++[k]))
      rw [bc,fI,bp rfl]
     ·cases e
   ·rw [um] at e e'
    have fresh:∀ k2,es.lookup k2≠some (.lst c):=fun k2 e2=>by
     obtain⟨c3,e3,hL3,_⟩:=hyes k2 _ e2
     cases e3
     rw [hc] at hL3;cases hL3
    cases hk:es.lookup k with
    | some w =>
     rw [hk,Option.some_or] at e
     cases e
     cases hk':es.lookup k' with
     | some w'=>rw [hk',Option.some_or] at e';cases e';exact hinj k k' c2 hk hk'
     | none =>
      rw [hk',yt] at e'
      split at e'
      ·cases e';exact absurd hk (fresh k)
      ·cases e'
    | none =>
     rw [hk,yt] at e
     split at e
     ·rename_i q
      cases e
      cases hk':es.lookup k' with
      | some w'=>rw [hk',Option.some_or] at e';cases e';exact absurd hk' (fresh k')
      | none =>
       rw [hk',yt] at e'
       split at e'
       ·rename_i q';rw [q,q']
       ·cases e'
     ·cases e
   ·show upd (upd σ.L c []) c _ a=some xs
    have h2:a≠c:=fun q=>by rw [q,hc0] at e;cases e
    rw [cj h2,cj h2];exact h.old a xs e
   ·show upd σ.D db _ a=_
    rw [cj ha];exact h.D a ha
end MP
end
section
set_option tactic.hygienic true
namespace MP
noncomputable def hit (as bs:List Key) (rm:Key→Bool) (i j:Nat):Bool:=match as[i]?,bs[j]? with
 | some a,some b=>decide (a=b)&&!rm a
 | _,_=>false
theorem sx {as bs:List Key} {rm:Key→Bool} {i j:Nat}:hit as bs rm i j=true↔∃ c,as[i]?=some c∧bs[j]?=some c∧rm c=false:=by
 cases ha:as[i]? with
 | none=>rw [show hit as bs rm i j=false by unfold hit;rw [ha]];exact⟨(fun h=>nomatch h),fun h=>by obtain⟨c,h1,_⟩:=h;cases h1⟩
 | some a =>
  cases hb:bs[j]? with
  | none=>rw [show hit as bs rm i j=false by unfold hit;rw [ha,hb]];exact⟨(fun h=>nomatch h),fun h=>by obtain⟨c,_,h1,_⟩:=h;cases h1⟩
  | some b =>
   rw [show hit as bs rm i j=(decide (a=b)&&!rm a) by unfold hit;rw [ha,hb],cq,d7,fh]
   refine⟨fun h=>?_,fun h=>?_⟩
   ·obtain⟨rfl,h⟩:=h;exact⟨_,rfl,rfl,h⟩
   ·obtain⟨c,h1,h2,h⟩:=h
    obtain rfl:=af h1
    obtain rfl:=af h2
    exact⟨rfl,h⟩
structure Run (as bs:List Key) (rm:Key→Bool) (alo ahi blo bhi i j k:Nat):Prop where
 ai:alo≤i
 ia:i+k≤ahi
 bj:blo≤j
 jb:j+k≤bhi
 eq:∀ t,t<k→hit as bs rm (i+t) (j+t)=true
structure s7 (as bs:List Key) (rm:Key→Bool) (alo ahi blo bhi i j k:Nat):Prop where
 run:Run as bs rm alo ahi blo bhi i j k
 zero:k=0→i=alo∧j=blo
 max:∀ i' j' k',0<k'→Run as bs rm alo ahi blo bhi i' j' k'→k'<k∨(k'=k∧(i<i'∨(i=i'∧j≤j')))
noncomputable def el (as bs:List Key) (rm:Key→Bool) (alo blo:Nat):Nat→Nat→Nat
 | i+1,j+1=>if alo≤i∧blo≤j∧hit as bs rm i j=true then el as bs rm alo blo i j+1 else 0
 | _,_=>0
section
variable {as bs:List Key} {rm:Key→Bool} {alo ahi blo bhi:Nat}
theorem mT {i j:Nat}:el as bs rm alo blo (i+1) (j+1)=if alo≤i∧blo≤j∧hit as bs rm i j=true then el as bs rm alo blo i j+1 else 0:=rfl
theorem zB {j:Nat}:el as bs rm alo blo alo j=0:=by
 cases alo with
 | zero=>cases j<;>rfl
 | succ n =>
  cases j with
  | zero=>rfl
  | succ j =>
   rw [mT]
   rw [aw]
   (exact fun q1=>(dh .ff .o (.k .M .A) q1.1))
theorem mU:∀ {i j:Nat},el as bs rm alo blo i j≤i∧el as bs rm alo blo i j≤j∧(0<el as bs rm alo blo i j→Run as bs rm alo i blo j (i-el as bs rm alo blo i j) (j-el as bs rm alo blo i j) (el as bs rm alo blo i j))
 | 0,j=>⟨br _,br _,fun h=>absurd h (gm 0)⟩
 | i+1,0=>⟨br _,br _,fun h=>absurd h (gm 0)⟩
 | i+1,j+1=>by
  rw [mT]
  split
  ·rename_i c
   obtain⟨h1,h2,R⟩:=mU (i:=i) (j:=j)
   refine⟨by exact av .aI .a .A h1,by exact av .aI .a .A h2,fun _=>?_⟩
   by_cases h0:0<el as bs rm alo blo i j
   ·have R:=R h0
    generalize el as bs rm alo blo i j=m at *
    refine⟨?_,by exact cv (.k .a2 .R) .a (.e .a2 .R) (aa (av .aI .a .A h1)),?_,by exact cv (.k .a2 .R) .a (.e .a2 .R) (aa (av .aI .a .A h2)),fun t ht=>?_⟩
    ·have:=R.ai;(exact jt .A .q .I (.e .Y .F) (.e (.a .B .V) .X) this (aa (av .A .a .A h1)) (aa (av .aI .a .A h1)))
    ·have:=R.bj;(exact jt .A .q .I (.e .Y .F) (.e (.a .B .V) .X) this (aa (av .A .a .A h2)) (aa (av .aI .a .A h2)))
    ·by_cases hm:t<m
     ·have:=R.eq t hm
      have e1:i+1-(m+1)+t=i-m+t:=by(exact tc (.e .P .a0) .n (.e (.a .A .V) .X) (.e .Y .F) (aa (av .aI .a .A h1)) (aa (av .A .a .A h1)))
      have e2:j+1-(m+1)+t=j-m+t:=by(exact tc (.e .P .a0) .n (.e (.a .A .V) .X) (.e .Y .F) (aa (av .aI .a .A h2)) (aa (av .A .a .A h2)))
      rw [e1,e2];exact this
     ·have e1:i+1-(m+1)+t=i:=by(exact jj .aQ [[1,0,1,-1],[1,1,0,1]] (.l .B .V) (.g .B .D) (.e (.a .A .V) .R) ht hm (aa (av .aI .a .A h1)))
      have e2:j+1-(m+1)+t=j:=by(exact pF .aQ .p (.e .aB .F) (.e (.a .D .aG) .X) (.e (.a .A .aG) .R) e1 (aa (av .aI .a .A h1)) (aa (av .aI .a .A h2)))
      rw [e1,e2];exact c.2.2
   ·have h0':el as bs rm alo blo i j=0:=by(exact dh .M .B (.g .O .A) h0)
    rw [h0']
    refine⟨by exact eh .A .e .I (.e (.a .B .aP) .R) c.1 (aa (fo .Z .j)),by exact av (.k (.a .A .aP) .L) .a (.e (.a .A .aP) .L) (aa (fo .Z .j)),by exact eh .A .e .I (.e (.a .B .aP) .R) c.2.1 (aa (fo .Z .j)),by exact av (.k (.a .A .aP) .L) .a (.e (.a .A .aP) .L) (aa (fo .Z .j)),fun t ht=>?_⟩
    have:t=0:=by(exact dh .M .B (.l .A .aP) ht)
    subst this
    exact c.2.2
  ·exact⟨br _,br _,fun h=>absurd h (gm 0)⟩
theorem zC:∀ {i j i' j' k':Nat},i'+k'=i→j'+k'=j→Run as bs rm alo ahi blo bhi i' j' k'→k'≤el as bs rm alo blo i j
 | i,j,i',j',0,_,_,_=>br _
 | i,j,i',j',k'+1,e1,e2,R=>by
  subst e1;subst e2
  show _≤el as bs rm alo blo (i'+k'+1) (j'+k'+1)
  have:=R.ai;have:=R.bj
  rw [mT]
  rw [bp ⟨by(rename_i z1;exact cv .V .a .A z1),by exact cv .V .a .A this,R.eq k' (by exact fo (.l .A .M) .j)⟩]
  have:=zC (i:=i'+k') (j:=j'+k') (i':=i') (j':=j') (k':=k') rfl rfl ⟨R.ai,by have:=R.ia;(exact cv .G .a .H this),R.bj,by have:=R.jb;(exact cv .G .a .H this),fun t ht=>R.eq t (by exact av .Q .a .B ht)⟩
  (exact av .aI .a .A this)
structure Scan (as bs:List Key) (rm:Key→Bool) (alo ahi blo bhi:Nat) (seen:Nat→Nat→Prop) (i j k:Nat):Prop where
 run:Run as bs rm alo ahi blo bhi i j k
 zero:k=0→i=alo∧j=blo
 at_:0<k→seen (i+k-1) (j+k-1)
 max:∀ i' j',seen i' j'→0<el as bs rm alo blo (i'+1) (j'+1)→el as bs rm alo blo (i'+1) (j'+1)<k∨(el as bs rm alo blo (i'+1) (j'+1)=k∧(i<i'+1-k∨(i=i'+1-k∧j≤j'+1-k)))
theorem Scan.start (ha:alo≤ahi) (hb:blo≤bhi):Scan as bs rm alo ahi blo bhi (fun _ _=>False) alo blo 0 :=
 ⟨⟨ah _,ha,ah _,hb,fun t ht=>absurd ht (kg _)⟩,fun _=>⟨rfl,rfl⟩,fun h=>absurd h (gm 0),fun _ _ h=>h.elim⟩
theorem Scan.skip {seen seen':Nat→Nat→Prop} {i j k:Nat} (h:Scan as bs rm alo ahi blo bhi seen i j k) (hm:∀ i' j',seen i' j'→seen' i' j') (hs:∀ i' j',seen' i' j'→seen i' j'∨el as bs rm alo blo (i'+1) (j'+1)=0∨el as bs rm alo blo (i'+1) (j'+1)<k∨(el as bs rm alo blo (i'+1) (j'+1)=k∧(i<i'+1-k∨(i=i'+1-k∧j≤j'+1-k)))):Scan as bs rm alo ahi blo bhi seen' i j k :=
 ⟨h.run,h.zero,fun h0=>hm _ _ (h.at_ h0),fun i' j' hs' h0=>by
  rcases hs i' j' hs' with q | q | q | q
  ·exact h.max i' j' q h0
  ·(exact .inl (dq .B .c .O .M h0 q))
  ·exact .inl q
  ·exact .inr q⟩
theorem Scan.take {seen seen':Nat→Nat→Prop} {i j k i0 j0:Nat} (h:Scan as bs rm alo ahi blo bhi seen i j k) (hi:i0<ahi) (hj:j0<bhi) (hk:k<el as bs rm alo blo (i0+1) (j0+1)) (h0:seen' i0 j0)
  (hs:∀ i' j',seen' i' j'→seen i' j'∨(i'=i0∧j'=j0)∨el as bs rm alo blo (i'+1) (j'+1)=0):Scan as bs rm alo ahi blo bhi seen' (i0+1-el as bs rm alo blo (i0+1) (j0+1)) (j0+1-el as bs rm alo blo (i0+1) (j0+1)) (el as bs rm alo blo (i0+1) (j0+1)):=by
 obtain⟨h1,h2,R⟩:=mU (as:=as) (bs:=bs) (rm:=rm) (alo:=alo) (blo:=blo) (i:=i0+1) (j:=j0+1)
 have R:=R (by exact av .O .a .J hk)
 refine⟨⟨R.ai,by exact dn .G .b .aN (.e .P .V) hi (aa (av .X .a .X h1)),R.bj,by exact dn .G .b .aN (.e .P .V) hj (aa (av .X .a .X h2)),R.eq⟩,fun h0=>by exact⟨(dn .C .f .L .bN hk h0),(dn .C .f .L .bN hk h0)⟩,fun _=>?_,fun i' j' hs' h0=>?_⟩
 ·have e1:i0+1-el as bs rm alo blo (i0+1) (j0+1)+el as bs rm alo blo (i0+1) (j0+1)-1=i0:=by(rename_i z1;exact Ar.sub _ _ (fun q1 p1=>(dn .C [[1,-1,-1],[1,1,1]] (.e .M .Y) (.e .Y .L) (aa (av .bP .a .T z1)) p1)) fun q1 p1=>(eT .C [[1,0,-1,1,0],[1,1,1,0,1]] .bV (.e .M .aA) (.k .L .C) .bN h1 (aa (av .bP .a .T z1)) q1 p1))
  have e2:j0+1-el as bs rm alo blo (i0+1) (j0+1)+el as bs rm alo blo (i0+1) (j0+1)-1=j0:=by(rename_i z1;exact Ar.sub _ _ (fun q1 p1=>(dn .C [[1,-1,-1],[1,1,1]] (.e .M .Y) (.e .Y .L) (aa (av .bP .a .T z1)) p1)) fun q1 p1=>(eT .C [[1,0,-1,1,0],[1,1,1,0,1]] .bV (.e .M .aA) (.k .L .C) .bN h2 (aa (av .bP .a .T z1)) q1 p1))
  rw [e1,e2];exact h0
 ·rcases hs i' j' hs' with q | ⟨rfl,rfl⟩ | q
  ·have:=h.max i' j' q h0
   (rename_i z1;exact .inl ((Ar.imp z1).elim (fun q1=>(eh .B .c .U (.g .O .B) hk q1)) fun q1=>(this.elim (fun q2=>(eh .B .b .U .S hk q2)) fun q2=>(eh .B .b .U (.e .A .C) hk q2.1))))
  ·exact .inr ⟨rfl,.inr ⟨rfl,ah _⟩⟩
  ·(exact .inl (dq .B .c .O .M h0 q))
theorem Scan.best {seen:Nat→Nat→Prop} {i j k:Nat} (h:Scan as bs rm alo ahi blo bhi seen i j k) (hs:∀ i' j',alo≤i'→i'<ahi→blo≤j'→j'<bhi→0<el as bs rm alo blo (i'+1) (j'+1)→seen i' j'):s7 as bs rm alo ahi blo bhi i j k:=by
 refine⟨h.run,h.zero,fun i' j' k' h0 R=>?_⟩
 have hm:=zC (i:=i'+k'-1+1) (j:=j'+k'-1+1) (by exact cv (.e .P .R) .h (.e .R .P) (aa (av .bP .a .T h0))) (by exact cv (.e .P .R) .h (.e .R .P) (aa (av .bP .a .T h0))) R
 have:=h.max (i'+k'-1) (j'+k'-1) (hs _ _ (by have:=R.ai;(exact jj .A .q .a5 .aS (.e .L .aA) h0 this (aa (av .bP .a .T h0)))) (by have:=R.ia;(exact dn .B .b .bY (.e .M .Y) this (aa (av .bP .a .T h0)))) (by have:=R.bj;(exact jj .A .q .a5 .aS (.e .L .aA) h0 this (aa (av .bP .a .T h0)))) (by have:=R.jb;(exact dn .B .b .bY (.e .M .Y) this (aa (av .bP .a .T h0)))) (by exact dq .O .b .T .a4 h0 hm)) (by exact dq .O .b .T .a4 h0 hm)
 generalize el as bs rm alo blo (i'+k'-1+1) (j'+k'-1+1)=e at *
 rcases ic k' k with c | c
 ·exact .inl c
 ·rcases this with q | ⟨q,q'⟩
  ·exact absurd (kz q c) (qi.mpr hm)
  ·have e2:k'=k:=Nat.le_antisymm (q▸hm) c
   have s1:i'+k'-1+1-k=i':=by(exact Ar.sub _ _ (fun q1 p1=>(Ar.sub _ _ (fun q2 p2=>(jt .C [[1,-1,-1,-1],[1,1,1,1]] .b0 (.e .T .X) (.e .X .Q) e2 p1 p2)) fun q2 p2=>(G4 .C [[1,0,-1,-1,1,0],[1,1,1,1,0,1]] .a5 .b0 (.e .T .X) (.k .Q .U) .b7 h0 e2 p1 q2 p2))) fun q1 p1=>(Ar.sub _ _ (fun q2 p2=>(jU .C [[1,-1,1,0,-1],[1,0,0,1,0]] .b0 (.k .X .D) .M (.e .X .Q) e2 q1 p1 p2)) fun q2 p2=>(kc .C .l .a5 .M (.k .Q .U) h0 p1 q2)))
   have s2:j'+k'-1+1-k=j':=by(exact Ar.sub _ _ (fun q1 p1=>(Ar.sub _ _ (fun q2 p2=>(jt .C [[1,-1,-1,-1],[1,1,1,1]] .b0 (.e .T .X) (.e .X .Q) e2 p1 p2)) fun q2 p2=>(G4 .C [[1,0,-1,-1,1,0],[1,1,1,1,0,1]] .a5 .b0 (.e .T .X) (.k .Q .U) .b7 h0 e2 p1 q2 p2))) fun q1 p1=>(Ar.sub _ _ (fun q2 p2=>(jU .C [[1,-1,1,0,-1],[1,0,0,1,0]] .b0 (.k .X .D) .M (.e .X .Q) e2 q1 p1 p2)) fun q2 p2=>(kc .C .l .a5 .M (.k .Q .U) h0 p1 q2)))
   rw [s1,s2] at q'
   exact .inr ⟨e2,q'⟩
noncomputable def vo (as bs:List Key) (ok:Key→Bool) (alo blo:Nat):Nat→Nat→Nat→Nat × Nat × Nat
 | i+1,j+1,k=>if alo<i+1∧blo<j+1∧hit as bs (fun c=>!ok c) i j=true then vo as bs ok alo blo i j (k+1) else (i+1,j+1,k)
 | i,j,k=>(i,j,k)
noncomputable def dJ (as bs:List Key) (ok:Key→Bool) (ahi bhi:Nat):Nat→Nat→Nat→Nat→Nat
 | 0,_,_,k=>k
 | n+1,i,j,k=>if i+k<ahi∧j+k<bhi∧hit as bs (fun c=>!ok c) (i+k) (j+k)=true then dJ as bs ok ahi bhi n i j (k+1) else k
theorem yg {ok:Key→Bool} {i j k:Nat}:vo as bs ok alo blo (i+1) (j+1) k=if alo<i+1∧blo<j+1∧hit as bs (fun c=>!ok c) i j=true then vo as bs ok alo blo i j (k+1) else (i+1,j+1,k):=rfl
theorem uz {ok:Key→Bool} {n i j k:Nat}:dJ as bs ok ahi bhi (n+1) i j k=if i+k<ahi∧j+k<bhi∧hit as bs (fun c=>!ok c) (i+k) (j+k)=true then dJ as bs ok ahi bhi n i j (k+1) else k:=rfl
noncomputable def grow (as bs:List Key) (js:Key→Bool) (alo ahi blo bhi i j k:Nat):Nat × Nat × Nat :=
 let p:=vo as bs (fun c=>!js c) alo blo i j k
 let q:=dJ as bs (fun c=>!js c) ahi bhi (ahi-p.1) p.1 p.2.1 p.2.2
 let r:=vo as bs js alo blo p.1 p.2.1 q
 (r.1,r.2.1,dJ as bs js ahi bhi (ahi-r.1) r.1 r.2.1 r.2.2)
end
end MP
end
section
namespace MP
open PySem
structure Kp (σ σ':St):Prop where
 L:∀ a xs,σ.L a=some xs→σ'.L a=some xs
 D:∀ a es,σ.D a=some es→σ'.D a=some es
 S:σ'.S=σ.S
 I:σ'.I=σ.I
 Z:σ'.Z=σ.Z
theorem Kp.refl (σ:St):Kp σ σ:=⟨fun _ _ e=>e,fun _ _ e=>e,rfl,rfl,rfl⟩
theorem Kp.trans {σ σ₁ σ₂:St} (h:Kp σ σ₁) (h':Kp σ₁ σ₂):Kp σ σ₂:=⟨fun a xs e=>h'.L a xs (h.L a xs e),fun a xs e=>h'.D a xs (h.D a xs e),h'.S.trans h.S,h'.I.trans h.I,h'.Z.trans h.Z⟩
theorem Kp.noL {σ σ₁:St} (h:Kp σ σ₁) {c:Addr} (hc:σ₁.L c=none):σ.L c=none:=by
 cases q:σ.L c with
 | none=>rfl
 | some xs=>rw [h.L _ _ q] at hc;cases hc
theorem Kp.noD {σ σ₁:St} (h:Kp σ σ₁) {c:Addr} (hc:σ₁.D c=none):σ.D c=none:=by
 cases q:σ.D c with
 | none=>rfl
 | some xs=>rw [h.D _ _ q] at hc;cases hc
theorem Kp.ct {σ σ₁:St} (h:Kp σ σ₁) {c:Addr} {xs:List V} (hc:σ.L c=none):Kp σ (σ₁.ct c xs):=⟨fun a ys e=>by
 have:a≠c:=fun q=>by rw [q,hc] at e;cases e
 show upd σ₁.L c xs a=_
 rw [cj this];exact h.L a ys e,h.D,h.S,h.I,h.Z⟩
theorem Kp.oh {σ σ₁:St} (h:Kp σ σ₁) {c:Addr} {xs:List (Key × V)} (hc:σ.D c=none):Kp σ (σ₁.oh c xs):=⟨h.L,fun a ys e=>by
 have:a≠c:=fun q=>by rw [q,hc] at e;cases e
 show upd σ₁.D c xs a=_
 rw [cj this];exact h.D a ys e,h.S,h.I,h.Z⟩
noncomputable def ru:Key→Prop
 | .int _=>True
 | .str s=>PyData.strOk s=true
theorem vX {k k':Key} {σ:St} {K:Bool→Prop} (h:ru k) (h':ru k') (q:K (decide (k=k'))):nC k.v k'.v σ K:=by
 cases k with
 | int a =>
  cases k' with
  | int b =>
   show K (a==b)
   have:(a==b)=decide (Key.int a=Key.int b):=by
    by_cases e:a=b
    ·simp [e]
    ·simp [e]
   rw [this];exact q
  | str b =>
   refine⟨.int a,.str b,rfl,?_,?_⟩
   ·show(if PyData.strOk b then some (PyData.str b) else none)=_
    rw [bp (show PyData.strOk b=true from h')]
   ·have:PyData.eqv (.int a) (.str b)=decide (Key.int a=Key.str b):=by simp [PyData.eqv]
    rw [this];exact q
 | str a =>
  cases k' with
  | int b =>
   refine⟨.str a,.int b,?_,rfl,?_⟩
   ·show(if PyData.strOk a then some (PyData.str a) else none)=_
    rw [bp (show PyData.strOk a=true from h)]
   ·have:PyData.eqv (.str a) (.int b)=decide (Key.str a=Key.int b):=by simp [PyData.eqv]
    rw [this];exact q
  | str b =>
   show K (a==b)
   have:(a==b)=decide (Key.str a=Key.str b):=by
    by_cases e:a=b
    ·simp [e]
    ·simp [e]
   rw [this];exact q
theorem jX {k k':Key} {σ:St} {K:Bool→Prop} (h:ru k) (h':ru k') (q:K (decide (k=k'))):wu .eq k.v k'.v σ K:=vX h h' q
theorem uQ {k:Key} {bs:List Key} {j:Nat}:j∈posOf k bs↔bs[j]?=some k:=by
 unfold posOf
 rw [List.mem_filter,List.mem_range,d7]
 refine⟨fun h=>h.2,fun h=>⟨(ay.mp h).1,h⟩⟩
theorem y5 {k:Key} {bs:List Key}:(posOf k bs).Pairwise (·<·):=List.Pairwise.filter _ List.pairwise_lt_range
theorem uR {k:Key} {bs:List Key}:(posOf k bs).length≤bs.length:=by
 have:=List.length_filter_le (fun j=>decide (bs[j]?=some k)) (List.range bs.length)
 rwa [List.length_range] at this
noncomputable def TabAt (σ:St) (db:Addr) (bs:List Key) (rm:Key→Bool):Prop:=∃ es,σ.D db=some es ∧
 (∀ k,rm k=true→es.lookup k=none)∧∀ k,rm k=false→(es.lookup k=none∧posOf k bs=[])∨∃ c,es.lookup k=some (.lst c)∧σ.L c=some (fJ k bs)
theorem TabAt.keep {σ σ':St} {db:Addr} {bs:List Key} {rm:Key→Bool} (h:TabAt σ db bs rm) (k:Kp σ σ'):TabAt σ' db bs rm:=by
 obtain⟨es,h1,h2,h3⟩:=h
 exact⟨es,k.D _ _ h1,h2,fun q hq=>(h3 q hq).imp_right fun zz0=>by obtain⟨c,e1,e2⟩:=zz0;exact⟨c,e1,k.L _ _ e2⟩⟩
theorem TabAt.get {σ:St} {db nl:Addr} {bs:List Key} {rm:Key→Bool} (h:TabAt σ db bs rm) (hn:σ.L nl=some []) (k:Key) :
  ∃ es c,σ.D db=some es∧(es.lookup k).getD (.lst nl)=.lst c∧σ.L c=some ((if rm k then [] else posOf k bs).map fun j:Nat=>V.int j):=by
 obtain⟨es,h1,h2,h3⟩:=h
 cases hr:rm k with
 | true=>exact⟨es,nl,h1,by rw [h2 k hr];rfl,hn⟩
 | false =>
  rcases h3 k hr with ⟨e1,e2⟩ | ⟨c,e1,e2⟩
  ·exact⟨es,nl,h1,by rw [e1];rfl,by rw [e2];exact hn⟩
  ·exact⟨es,c,h1,by rw [e1];rfl,e2⟩
theorem B2J.tabAt {σ₀ σ:St} {db:Addr} {bs:List Key} (h:B2J σ₀ σ db bs):TabAt σ db bs fun _=>false:=by
 obtain⟨es,h1,_,h2,h3,_⟩:=h.tab
 refine⟨es,h1,fun k e=>Bool.noConfusion e,fun k _=>?_⟩
 cases hk:es.lookup k with
 | none=>exact .inl ⟨rfl,h2 k hk⟩
 | some w =>
  obtain⟨c,rfl,e,_⟩:=h3 k w hk
  exact .inr ⟨c,rfl,e⟩
theorem j9 {es:List (Key × V)} {k:Key}:es.any (fun e=>e.1==k)=(es.lookup k).isSome:=by
 induction es with
 | nil=>rfl
 | cons e r ih =>
  obtain⟨a,b⟩:=e
  simp only [List.any_cons,List.lookup,ih]
  by_cases h:k=a
  ·subst h;simp
  ·rw [ow (pn h),ow h];rfl
theorem y0 {es:List (Key × V)} {k:Key} {v:V}:(putD es k v).length≤es.length+1:=by
 unfold putD
 split<;>simp
theorem qS {es:List (Key × V)} {k k':Key} {v:V}:(putD es k v).lookup k'=if k'=k then some v else es.lookup k':=by
 unfold putD
 split
 ·rename_i h
  rw [j9] at h
  induction es with
  | nil=>cases h
  | cons e r ih =>
   obtain⟨a,b⟩:=e
   simp only [mq,List.lookup] at h ⊢
   by_cases hk:a=k
   ·subst hk
    rw [bp rfl]
    by_cases h2:k'=a
    ·subst h2;simp
    ·rw [aw h2]
     have e1:(k'==a)=false:=ow h2
     simp only [List.lookup,e1]
     clear ih h
     induction r with
     | nil=>rfl
     | cons e r ih =>
      obtain⟨a',b'⟩:=e
      simp only [mq,List.lookup]
      by_cases h3:a'=a
      ·subst h3
       rw [bp rfl]
       simp only [List.lookup,e1]
       exact ih
      ·rw [aw h3]
       simp only [List.lookup]
       cases k'==a' with
       | true=>rfl
       | false=>exact ih
   ·rw [aw hk]
    have e0:(k==a)=false:=ow (pn hk)
    rw [e0] at h
    simp only [List.lookup]
    by_cases h2:k'=a
    ·subst h2
     rw [aw hk];simp
    ·rw [ow h2]
     exact ih h
 ·rename_i h
  rw [j9] at h
  rw [um]
  by_cases h2:k'=k
  ·subst h2
   cases q:es.lookup k' with
   | none=>simp
   | some w=>rw [q] at h;exact absurd rfl h
  ·simp [h2]
end MP
end
section
namespace MP
namespace SM
open PySem
structure MAt (σ:St) (x:Addr) (la lb db sj:Addr) (as bs:List Key) (rm:Key→Bool) (js:List Key):Prop where
 I:∃ d f,σ.I x=some (d,f)∧f 1=some (.lst la)∧f 2=some (.lst lb)∧f 7=some (.dct db)∧f 8=some (.set sj)
 La:σ.L la=some (as.map Key.v)
 Lb:σ.L lb=some (bs.map Key.v)
 D:TabAt σ db bs rm
 S:σ.S sj=some js
theorem MAt.keep {σ σ':St} {x la lb db sj:Addr} {as bs:List Key} {rm:Key→Bool} {js:List Key} (h:MAt σ x la lb db sj as bs rm js) (k:Kp σ σ'):MAt σ' x la lb db sj as bs rm js :=
 ⟨by rw [k.I];exact h.I,k.L _ _ h.La,k.L _ _ h.Lb,h.D.keep k,by rw [k.S];exact h.S⟩
noncomputable def Row (as bs:List Key) (rm:Key→Bool) (alo blo bhi i:Nat) (es:List (Key × V)):Prop:=∀ j:Nat,j<bhi→(es.lookup (.int ((j:Int)-1))).getD (.int 0)=.int (el as bs rm alo blo i j:Nat)
structure FF (ρ:Fr) (la lb db sj:Addr) (alo ahi blo bhi:Nat):Prop where
 r1:ρ 1=some (.int alo)
 r2:ρ 2=some (.int ahi)
 r3:ρ 3=some (.int blo)
 r4:ρ 4=some (.int bhi)
 r5:ρ 5=some (.lst la)
 r6:ρ 6=some (.lst lb)
 r7:ρ 7=some (.dct db)
 r8:ρ 8=some (.eC sj)
theorem FF.up {ρ:Fr} {la lb db sj:Addr} {alo ahi blo bhi n:Nat} {v:V} (h:FF ρ la lb db sj alo ahi blo bhi) (hn:9≤n):FF (upd ρ n v) la lb db sj alo ahi blo bhi :=
 have k:∀ m,Nat.blt m 9=true→upd ρ n v m=ρ m:=fun m hm=>cj (jn (kz (cp hm) hn))
 ⟨(k 1 rfl).trans h.r1,(k 2 rfl).trans h.r2,(k 3 rfl).trans h.r3,(k 4 rfl).trans h.r4,(k 5 rfl).trans h.r5,(k 6 rfl).trans h.r6,(k 7 rfl).trans h.r7,(k 8 rfl).trans h.r8⟩
structure FB (ρ:Fr) (i j k:Nat):Prop where
 r9:ρ 9=some (.int i)
 r10:ρ 10=some (.int j)
 r11:ρ 11=some (.int k)
theorem FB.up {ρ:Fr} {i j k n:Nat} {v:V} (h:FB ρ i j k) (hn:12≤n):FB (upd ρ n v) i j k :=
 have k:∀ m,Nat.blt m 12=true→upd ρ n v m=ρ m:=fun m hm=>cj (jn (kz (cp hm) hn))
 ⟨(k 9 rfl).trans h.r9,(k 10 rfl).trans h.r10,(k 11 rfl).trans h.r11⟩
theorem zh {a b:Nat} {i:Nat} {v:V} (h:(qc a b)[i]?=some v):a+i<b∧v=.int ((a+i:Nat):Int):=by
 unfold qc at h
 rw [bw] at h
 by_cases hi:i<((b:Int)-a).toNat
 ·rw [List.getElem?_range hi] at h
  simp at h
  exact⟨by exact(Ar.ton _).elim (fun q1=>(dn .aC .b .cA (.ie (.t .D) (.s .S .L)) hi q1.2)) fun q1=>(dn .aC .c .cA .bN hi q1.2),by rw [← h];rfl⟩
 ·rw [List.getElem?_eq_none (by simpa using hi)] at h
  cases h
theorem wh {a b:Nat}:(qc a b).length=b-a:=by simp [qc]
theorem kh {n i:Nat}:gf n (i:Int)=i:=by unfold gf;rw [aw (by exact fo (.ig .L .O) .j)]
theorem DU {C:Cal} {σ:St} {la lb db sj:Addr} {as bs js:List Key} {alo ahi blo bhi:Nat} {K:Fl→Fr→St→Prop} {c:Ex} {ok:Key→Bool}
  (hLa:σ.L la=some (as.map Key.v)) (hLb:σ.L lb=some (bs.map Key.v)) (ha:∀ k∈as,ru k) (hb:∀ k∈bs,ru k) (hal:as.length<2^40) (hbl:bs.length<2^40)
  (hc:∀ (ρ:Fr) (j:Nat) (b:Key) (Q:Bool→St→Prop),FF ρ la lb db sj alo ahi blo bhi→ρ 10=some (.int ((j+1:Nat):Int))→bs[j]?=some b→Q (ok b) σ→wpT C c ρ σ Q)
  {i j k:Nat} (hi:i≤as.length) (hj:j≤bs.length)
  (h:∀ ρ,FF ρ la lb db sj alo ahi blo bhi→FB ρ (vo as bs ok alo blo i j k).1 (vo as bs ok alo blo i j k).2.1 (vo as bs ok alo blo i j k).2.2→K .next ρ σ) {ρ:Fr} (F:FF ρ la lb db sj alo ahi blo bhi) (B:FB ρ i j k) :
  wpS C (.loop (.and (.cmp .gt (.loc 9) (.loc 1)) (.and (.cmp .gt (.loc 10) (.loc 3)) (.and c (.cmp .eq (.sub (.loc 5) (.bin .sub (.loc 9) (.int 1))) (.sub (.loc 6) (.bin .sub (.loc 10) (.int 1))))))) (.cons (.assign [.tup [9,10,11]] (.tup (.cons (.bin .sub (.loc 9) (.int 1)) (.cons (.bin .sub (.loc 10) (.int 1)) (.cons (.bin .add (.loc 11) (.int 1)) .nil))))) .nil)) ρ σ K:=by
 refine⟨i+1,ti (fun n ρ' σ'=>σ'=σ∧FF ρ' la lb db sj alo ahi blo bhi∧∃ i' j' k',n=i'∧FB ρ' i' j' k'∧i'≤as.length∧j'≤bs.length∧vo as bs ok alo blo i' j' k'=vo as bs ok alo blo i j k) ?_ (i+1) i (by exact fo (.l .A .M) .j) ⟨rfl,F,i,j,k,rfl,B,hi,hj,rfl⟩⟩
 rintro n ρ' σ' ⟨rfl,F',i',j',k',rfl,B',hi',hj',e⟩ again hag
 refine⟨_,B'.r9,_,F'.r1,?_⟩
 show(if decide ((alo:Int)<n)=true then _ else _)
 by_cases c1:alo<n
 ·rw [bp (by simpa using c1)]
  refine⟨_,B'.r10,_,F'.r3,?_⟩
  show(if decide ((blo:Int)<j')=true then _ else _)
  by_cases c2:blo<j'
  ·rw [bp (by simpa using c2)]
   obtain⟨i0,rfl⟩:∃ i0,n=i0+1:=⟨n-1,by exact av .a9 .h .cD (aa (av .D .a .J c1))⟩
   obtain⟨j0,rfl⟩:∃ j0,j'=j0+1:=⟨j'-1,by exact av .a9 .h .cD (aa (av .D .a .J c2))⟩
   have ea:as[i0]?=some as[i0]:=bq (by exact av .B .a .F hi')
   have eb:bs[j0]?=some bs[j0]:=bq (by exact av .B .a .F hj')
   refine hc _ j0 bs[j0] _ F' B'.r10 eb ?_
   cases hok:ok bs[j0] with
   | false =>
    show K .next ρ' σ'
    have:vo as bs ok alo blo (i0+1) (j0+1) k'=(i0+1,j0+1,k'):=by
     rw [yg]
     rw [aw]
     rintro ⟨_,_,h3⟩
     obtain⟨c,_,h4,h5⟩:=sx.mp h3
     rw [eb] at h4
     cases h4
     rw [hok] at h5;cases h5
    rw [this] at e
    exact h _ F' (by rw [← e];exact B')
   | true =>
    rw [bp rfl]
    refine⟨_,F'.r5,_,B'.r9,as.map Key.v,as[i0].v,hLa,?_,?_,_,F'.r6,_,B'.r10,bs.map Key.v,bs[j0].v,hLb,?_,?_,?_⟩
    ·have e1:((i0+1:Nat):Int)-1=(i0:Int):=by(exact fo .a8 .m)
     rw [e1,kh];(exact fo .c5 .j)
    ·have e1:((i0+1:Nat):Int)-1=(i0:Int):=by(exact fo .a8 .m)
     rw [e1,kh,ef,bw,ea];rfl
    ·have e1:((j0+1:Nat):Int)-1=(j0:Int):=by(exact fo .a8 .m)
     rw [e1,kh];(exact fo .c5 .j)
    ·have e1:((j0+1:Nat):Int)-1=(j0:Int):=by(exact fo .a8 .m)
     rw [e1,kh,ef,bw,eb];rfl
    refine jX (ha _ (qo _)) (hb _ (qo _)) ?_
    by_cases q:as[i0]=bs[j0]
    ·rw [fc q]
     refine zu ?_
     refine⟨_,B'.r9,_,B'.r10,_,B'.r11,by simp [ax],_,rfl,rfl,?_⟩
     refine hag i0 _ _ (by exact fo (.l .A .M) .j) ⟨rfl,?_,i0,j0,k'+1,rfl,?_,by exact av .A .a .F hi',by exact av .A .a .F hj',?_⟩
     ·exact((F'.up (by exact zv (.k (.n 9) (.n 9)) .j)).up (by exact zv (.k (.n 9) (.n 10)) .j)).up (by exact zv (.k (.n 9) (.n 11)) .j)
     ·refine⟨?_,?_,?_⟩
      ·show some (V.int (((i0+1:Nat):Int)-1))=_
       congr 2;(exact fo .a8 .m)
      ·show some (V.int (((j0+1:Nat):Int)-1))=_
       congr 2;(exact fo .a8 .m)
      ·rfl
     ·rw [← e]
      conv=>rhs;rw [yg]
      rw [bp ⟨c1,c2,sx.mpr ⟨as[i0],ea,by rw [q];exact eb,by rw [q];simp [hok]⟩⟩]
    ·rw [fe q]
     show K .next ρ' σ'
     have:vo as bs ok alo blo (i0+1) (j0+1) k'=(i0+1,j0+1,k'):=by
      rw [yg]
      rw [aw]
      rintro ⟨_,_,h3⟩
      obtain⟨c,h4,h5,_⟩:=sx.mp h3
      rw [ea] at h4;rw [eb] at h5
      cases h4
      exact q (af h5).symm
     rw [this] at e
     exact h _ F' (by rw [← e];exact B')
  ·rw [aw (by simpa using c2)]
   show K .next ρ' σ'
   have:vo as bs ok alo blo n j' k'=(n,j',k'):=by
    cases n with
    | zero=>rfl
    | succ n =>
     cases j' with
     | zero=>rfl
     | succ j'=>rw [yg];rw [aw (fun h=>c2 h.2.1)]
   rw [this] at e
   exact h _ F' (by rw [← e];exact B')
 ·rw [aw (by simpa using c1)]
  show K .next ρ' σ'
  have:vo as bs ok alo blo n j' k'=(n,j',k'):=by
   cases n with
   | zero=>rfl
   | succ n =>
    cases j' with
    | zero=>rfl
    | succ j'=>rw [yg];rw [aw (fun h=>c1 h.1)]
  rw [this] at e
  exact h _ F' (by rw [← e];exact B')
theorem DT {C:Cal} {σ:St} {la lb db sj:Addr} {as bs js:List Key} {alo ahi blo bhi:Nat} {K:Fl→Fr→St→Prop} {c:Ex} {ok:Key→Bool} {body:Stm}
  (hbody:body=.aug 11 .add (.int 1)∨body=.assign [(.var 11)] (.bin .add (.loc 11) (.int 1)))
  (hLa:σ.L la=some (as.map Key.v)) (hLb:σ.L lb=some (bs.map Key.v)) (ha:∀ k∈as,ru k) (hb:∀ k∈bs,ru k) (hal:ahi≤as.length) (hbl:bhi≤bs.length)
  (hc:∀ (ρ:Fr) (j k:Nat) (b:Key) (Q:Bool→St→Prop),FF ρ la lb db sj alo ahi blo bhi→ρ 10=some (.int j)→ρ 11=some (.int k)→bs[j+k]?=some b→Q (ok b) σ→wpT C c ρ σ Q)
  {i j k:Nat}
  (h:∀ ρ,FF ρ la lb db sj alo ahi blo bhi→FB ρ i j (dJ as bs ok ahi bhi (ahi-i) i j k)→K .next ρ σ) {ρ:Fr} (F:FF ρ la lb db sj alo ahi blo bhi) (B:FB ρ i j k) :
  wpS C (.loop (.and (.cmp .lt (.bin .add (.loc 9) (.loc 11)) (.loc 2)) (.and (.cmp .lt (.bin .add (.loc 10) (.loc 11)) (.loc 4)) (.and c (.cmp .eq (.sub (.loc 5) (.bin .add (.loc 9) (.loc 11))) (.sub (.loc 6) (.bin .add (.loc 10) (.loc 11))))))) (.cons body .nil)) ρ σ K:=by
 have more:∀ n m k,ahi-(i+k)≤n→n≤m→dJ as bs ok ahi bhi n i j k=dJ as bs ok ahi bhi m i j k:=by
  intro n
  induction n with
  | zero =>
   intro m k h1 h2
   cases m with
   | zero=>rfl
   | succ m =>
    show k=_
    rw [uz]
    rw [aw (by exact fun q1=>(jj .ff [[0,1,1,-1]] (.k .A .O) (.l .Q .D) (.e (.a .A .Q) .D) h1 q1.1 (aa (cv .G .a .aC q1.1))))]
  | succ n ih =>
   intro m k h1 h2
   obtain⟨m,rfl⟩:∃ m',m=m'+1:=⟨m-1,by exact av .a9 .h .cD (aa (av .D .a (.k .L .A) h2))⟩
   rw [uz,uz]
   split
   ·exact ih _ _ (by(rename_i z1;exact pF .A .r .bV (.e (.a .C .a1) .G) (.e (.a .A (.a .D .X)) .G) h1 (aa (cv .G .a .aC z1.1)) (aa (cv .H .a .aC z1.1)))) (by exact av .A .a .aI h2)
   ·rfl
 refine⟨ahi+1,ti (fun n ρ' σ'=>σ'=σ∧FF ρ' la lb db sj alo ahi blo bhi∧∃ k',n=ahi-(i+k')∧FB ρ' i j k'∧dJ as bs ok ahi bhi (ahi-i) i j k'=dJ as bs ok ahi bhi (ahi-i) i j k) ?_ (ahi+1) (ahi-(i+k)) (by exact av .Q .a .A (Nat.sub_le _ _)) ⟨rfl,F,k,rfl,B,rfl⟩⟩
 rintro n ρ' σ' ⟨rfl,F',k',rfl,B',e⟩ again hag
 have stop:dJ as bs ok ahi bhi (ahi-i) i j k'=k'→K .next ρ' σ':=fun q=>by
  rw [q] at e
  exact h _ F' (by rw [← e];exact B')
 refine⟨_,B'.r9,_,B'.r11,_,F'.r2,?_⟩
 show(if decide (((i:Int)+k')<ahi)=true then _ else _)
 by_cases c1:i+k'<ahi
 ·rw [bp (by simp;(exact cv (.il (.a .L .P) .S) .a .aC c1))]
  refine⟨_,B'.r10,_,B'.r11,_,F'.r4,?_⟩
  show(if decide (((j:Int)+k')<bhi)=true then _ else _)
  by_cases c2:j+k'<bhi
  ·rw [bp (by simp;(exact cv (.il (.a .L .P) .S) .a .aC c2))]
   have ea:as[i+k']?=some as[i+k']:=bq (by exact dn .aC .b .b8 (.l .P .D) hal c1)
   have eb:bs[j+k']?=some bs[j+k']:=bq (by exact dn .aC .b .b8 (.l .P .D) hbl c2)
   refine hc _ j k' bs[j+k'] _ F' B'.r10 B'.r11 eb ?_
   cases hok:ok bs[j+k'] with
   | false =>
    refine stop ?_
    obtain⟨m,hm⟩:∃ m,ahi-i=m+1:=⟨ahi-i-1,by exact av .a9 .h .cD (aa (dn .D .e (.l .Q .D) (.e .P .D) c1 (aa (cv .A .a (.l .Z .B) c1))))⟩
    rw [hm]
    rw [uz]
    rw [aw]
    rintro ⟨_,_,h3⟩
    obtain⟨c,_,h4,h5⟩:=sx.mp h3
    rw [eb] at h4
    cases h4
    rw [hok] at h5;cases h5
   | true =>
    rw [bp rfl]
    refine⟨_,F'.r5,_,B'.r9,_,B'.r11,as.map Key.v,as[i+k'].v,hLa,?_,?_,_,F'.r6,_,B'.r10,_,B'.r11,bs.map Key.v,bs[j+k'].v,hLb,?_,?_,?_⟩
    ·have e1:(i:Int)+k'=((i+k':Nat):Int):=by(exact vv .bW .m)
     rw [e1,kh];(exact vv (.ik .O (.t .P)) .j)
    ·have e1:(i:Int)+k'=((i+k':Nat):Int):=by(exact vv .bW .m)
     rw [e1,kh,ef,bw,ea];rfl
    ·have e1:(j:Int)+k'=((j+k':Nat):Int):=by(exact vv .bW .m)
     rw [e1,kh];(exact vv (.ik .O (.t .P)) .j)
    ·have e1:(j:Int)+k'=((j+k':Nat):Int):=by(exact vv .bW .m)
     rw [e1,kh,ef,bw,eb];rfl
    refine jX (ha _ (qo _)) (hb _ (qo _)) ?_
    by_cases q:as[i+k']=bs[j+k']
    ·rw [fc q]
     refine zu ?_
     have go:again (upd ρ' 11 (.int ((k':Int)+1))) σ':=by
      refine hag (ahi-(i+(k'+1))) _ _ (by exact tc .B .e (.e (.a .A (.a .C .V)) .F) (.e (.a .B .Y) .F) (aa (cv .H .a .aC c1)) (aa (cv .G .a .aC c1))) ⟨rfl,F'.up (by exact zv (.k (.n 9) (.n 11)) .j),k'+1,rfl,⟨B'.r9,B'.r10,rfl⟩,?_⟩
      rw [← e]
      obtain⟨m,hm⟩:∃ m,ahi-i=m+1:=⟨ahi-i-1,by exact av .a9 .h .cD (aa (dn .D .e (.l .Q .D) (.e .P .D) c1 (aa (cv .A .a (.l .Z .B) c1))))⟩
      rw [hm]
      conv=>rhs;rw [uz]
      rw [bp ⟨c1,c2,sx.mpr ⟨as[i+k'],ea,by rw [q];exact eb,by rw [q];simp [hok]⟩⟩]
      exact(more _ _ _ (by exact pF .A .r (.e .C .L) (.e .Y .F) (.e (.a .A (.a .D .aG)) .F) hm (aa (cv .A .a (.l .Z .B) c1)) (aa (cv .H .a .aC c1))) (by exact fo (.k .A .M) .j)).symm
     rcases hbody with rfl | rfl
     ·exact⟨_,B'.r11,go⟩
     ·exact⟨_,B'.r11,go⟩
    ·rw [fe q]
     refine stop ?_
     obtain⟨m,hm⟩:∃ m,ahi-i=m+1:=⟨ahi-i-1,by exact av .a9 .h .cD (aa (dn .D .e (.l .Q .D) (.e .P .D) c1 (aa (cv .A .a (.l .Z .B) c1))))⟩
     rw [hm]
     rw [uz]
     rw [aw]
     rintro ⟨_,_,h3⟩
     obtain⟨c,h4,h5,_⟩:=sx.mp h3
     rw [ea] at h4;rw [eb] at h5
     cases h4
     exact q (af h5).symm
  ·rw [aw (by simp;(exact cv (.ik .L (.a .P .S)) .a (.g .Q .A) c2))]
   refine stop ?_
   cases ahi-i with
   | zero=>rfl
   | succ n=>rw [uz];rw [aw (fun h=>c2 h.2.1)]
 ·rw [aw (by simp;(exact cv (.ik .L (.a .P .S)) .a (.g .Q .A) c1))]
  refine stop ?_
  cases ahi-i with
  | zero=>rfl
  | succ n=>rw [uz];rw [aw (fun h=>c1 h.1)]
end SM
end MP
end
section
namespace MP
namespace SM
set_option genInjectivity false
set_option genSizeOf false
open PySem
noncomputable def d6 (as bs:List Key) (rm:Key→Bool) (alo blo bhi i:Nat) (ps:List Nat) (es:List (Key × V)):Prop:=∀ j:Nat,j<bhi→(es.lookup (.int ((j:Int)-1))).getD (.int 0)=.int (if 0<j∧j-1∈ps then el as bs rm alo blo (i+1) j else 0:Nat)
theorem d6.row {as bs:List Key} {rm:Key→Bool} {alo blo bhi i:Nat} {ps:List Nat} {es:List (Key × V)} (h:d6 as bs rm alo blo bhi i ps es) (hp:∀ j,j<bhi→hit as bs rm i j=true→j∈ps):Row as bs rm alo blo bhi (i+1) es:=by
 intro j hj
 rw [h j hj]
 split
 ·rfl
 ·rename_i c
  congr 2
  cases j with
  | zero=>rfl
  | succ j =>
   rw [mT]
   rw [aw]
   rintro ⟨_,_,q⟩
   exact c ⟨by exact fo (.l .O .M) .j,hp j (by exact av .B .a (.l .M .B) hj) q⟩
theorem d6.put {as bs:List Key} {rm:Key→Bool} {alo blo bhi i:Nat} {ps:List Nat} {es:List (Key × V)} (h:d6 as bs rm alo blo bhi i ps es) (j:Nat):d6 as bs rm alo blo bhi i (ps++[j]) (putD es (.int j) (.int (el as bs rm alo blo (i+1) (j+1):Nat))):=by
 intro j' hj'
 rw [qS]
 by_cases c:j'=j+1
 ·subst c
  rw [bp (by congr 1;(exact fo .a8 .m)),bp ⟨by exact fo (.l .O .M) .j,by simp⟩]
  rfl
 ·rw [aw (fun q=>c (by injection q;(exact av .a9 .g (.ie (.s .L .U) .P) i_eq))),h j' hj']
  congr 2
  by_cases c1:0<j'∧j'-1∈ps
  ·rw [bp c1,bp ⟨c1.1,gz _ c1.2⟩]
  ·rw [aw c1,aw]
   rintro ⟨c2,c3⟩
   rcases dz.mp c3 with c3 | c3
   ·exact c1 ⟨c2,c3⟩
   ·simp at c3;(exact(aq c).elim (fun q1=>(kc .ff [[0,-1,1,1]] .C .bK .bL c3 (aa (dh .D .a .O c2)) q1)) fun q1=>(kc .ff [[0,1,-1,1]] .C .bK (.l .L .C) c3 (aa (dh .D .a .O c2)) q1))
theorem d6.skip {as bs:List Key} {rm:Key→Bool} {alo blo bhi i:Nat} {ps:List Nat} {es:List (Key × V)} (h:d6 as bs rm alo blo bhi i ps es) (j:Nat) (hj:j<blo):d6 as bs rm alo blo bhi i (ps++[j]) es:=by
 intro j' hj'
 rw [h j' hj']
 congr 2
 by_cases c1:0<j'∧j'-1∈ps
 ·rw [bp c1,bp ⟨c1.1,gz _ c1.2⟩]
 ·rw [aw c1]
  by_cases c2:0<j'∧j'-1∈ps++[j]
  ·rw [bp c2]
   obtain⟨c3,c4⟩:=c2
   rcases dz.mp c4 with c4 | c4
   ·exact absurd ⟨c3,c4⟩ c1
   ·obtain⟨j1,rfl⟩:∃ j1,j'=j1+1:=⟨j'-1,by exact av .a9 .h .cD (aa (dh .D .a .O c3))⟩
    simp at c4
    rw [mT]
    rw [aw (by exact fun q1=>(kc .ff .k .B .c7 .bJ hj c4 q1.2.1))]
  ·rw [aw c2]
noncomputable def kN:ky:=(.cons (.cond (.cmp .lt (.loc 17) (.loc 3)) (.cons .cont
 .nil) .nil)
 (.cons (.cond (.cmp .ge (.loc 17) (.loc 4)) (.cons .brk
 .nil) .nil)
 (.cons (.assign [(.var 18),(.sub (.loc 16) (.loc 17))] (.bin .add (.callv 15 (.cons (.bin .sub (.loc 17) (.int 1)) (.cons (.int 0) .nil))) (.int 1)))
 (.cons (.cond (.cmp .gt (.loc 18) (.loc 11)) (.cons (.assign [.tup [9,10,11]] (.tup (.cons (.bin .add (.bin .sub (.loc 14) (.loc 18)) (.int 1)) (.cons (.bin .add (.bin .sub (.loc 17) (.loc 18)) (.int 1)) (.cons (.loc 18) .nil)))))
 .nil) .nil)
 .nil))))
noncomputable def kH:Stm:=.each (.var 17) (.seq (.bm .get (.loc 7) (.cons (.sub (.loc 5) (.loc 14)) (.cons (.loc 13) .nil)))) kN
structure Fc where
 σ₀:St
 la:Addr
 lb:Addr
 db:Addr
 sj:Addr
 nl:Addr
 as:List Key
 bs:List Key
 rm:Key→Bool
 alo:Nat
 ahi:Nat
 blo:Nat
 bhi:Nat
noncomputable abbrev Fc.F (c:Fc) (ρ:Fr):Prop:=FF ρ c.la c.lb c.db c.sj c.alo c.ahi c.blo c.bhi
noncomputable abbrev Fc.S (c:Fc) (seen:Nat→Nat→Prop) (i j k:Nat):Prop:=Scan c.as c.bs c.rm c.alo c.ahi c.blo c.bhi seen i j k
noncomputable abbrev Fc.e (c:Fc) (i j:Nat):Nat:=el c.as c.bs c.rm c.alo c.blo i j
noncomputable abbrev Fc.R (c:Fc) (i:Nat) (es:List (Key × V)):Prop:=Row c.as c.bs c.rm c.alo c.blo c.bhi i es
noncomputable abbrev Fc.h (c:Fc) (i j:Nat):Bool:=hit c.as c.bs c.rm i j
structure Fk (c:Fc):Prop where
 La:c.σ₀.L c.la=some (c.as.map Key.v)
 T:TabAt c.σ₀ c.db c.bs c.rm
 n:c.σ₀.L c.nl=some []
 s:c.bs.length<ax
 bl:c.bhi≤c.bs.length
 al:c.ahi≤c.as.length
structure Sc where
 c:Fc
 i:Nat
 cd:Addr
 nd:Addr
 es:List (Key × V)
 ps:List Nat
structure Sk (s:Sc):Prop where
 ai:s.c.alo≤s.i
 ia:s.i<s.c.ahi
 row:s.c.R s.i s.es
 ne:s.cd≠s.nd
 no:s.c.σ₀.D s.nd=none
 mem:∀ j,j∈s.ps↔s.c.h s.i j=true
 lt:s.ps.Pairwise (·<·)
 pl:s.ps.length≤s.c.bs.length
noncomputable def Sc.seen (s:Sc) (t:Nat):Nat→Nat→Prop:=fun i' j'=>(i'<s.i∧j'<s.c.bhi)∨(i'=s.i∧j'∈s.ps.take t)
inductive InI (s:Sc) (t:Nat) (ρ:Fr) (σ:St):Prop
 | mk (bi bj bk:Nat) (es:List (Key × V)) (lim:∀ j,j∈s.ps.take t→j<s.c.bhi) (len:es.length≤t) (k:Kp s.c.σ₀ σ) (F:s.c.F ρ) (B:FB ρ bi bj bk) (cd:σ.D s.cd=some s.es) (nd:σ.D s.nd=some es)
  (r13:ρ 13=some (.lst s.c.nl)) (r14:ρ 14=some (.int s.i)) (r15:ρ 15=some (.dM s.cd)) (r16:ρ 16=some (.dct s.nd)) (row:d6 s.c.as s.c.bs s.c.rm s.c.alo s.c.blo s.c.bhi s.i (s.ps.take t) es) (sc:s.c.S (s.seen t) bi bj bk):InI s t ρ σ
inductive n5 (s:Sc) (ρ:Fr) (σ:St):Prop
 | mk (bi bj bk:Nat) (es:List (Key × V)) (k:Kp s.c.σ₀ σ) (F:s.c.F ρ) (B:FB ρ bi bj bk) (r13:ρ 13=some (.lst s.c.nl)) (r16:ρ 16=some (.dct s.nd)) (nd:σ.D s.nd=some es) (row:s.c.R (s.i+1) es)
  (sc:s.c.S (fun i' j'=>(i'<s.i∧j'<s.c.bhi)∨(i'=s.i∧j'<s.c.bhi∧s.c.h s.i j'=true)) bi bj bk):n5 s ρ σ
structure ym (ps:List Nat) (t j:Nat):Prop where
 th:ps.take (t+1)=ps.take t++[j]
 lt:∀ m,m∈ps.take t→m<j
 of:∀ m,m∈ps→m<j→m∈ps.take t
 mem:j∈ps
theorem AH {ps:List Nat} (lt:ps.Pairwise (·<·)) {t j:Nat} (e:ps[t]?=some j):ym ps t j:=by
 obtain⟨ht,rfl⟩:=ay.mp e
 refine⟨lz ht,fun m hm=>?_,fun m hm hl=>?_,qo _⟩
 ·obtain⟨a,ha,rfl⟩:=List.getElem_of_mem hm
  have hb:a<t:=by
   have:=ha
   rw [ip] at this
   (exact eh .B .b .S .N this (Ar.fm _ _).1)
  rw [List.getElem_take]
  exact(List.pairwise_iff_getElem.mp lt) a t (by exact eh .B .b .U .S ht hb) ht hb
 ·obtain⟨a,ha,rfl⟩:=List.getElem_of_mem hm
  have:a<t:=by
   refine Nat.lt_of_not_le fun q=>?_
   rcases Nat.eq_or_lt_of_le q with q | q
   ·subst q;exact absurd hl (gm _)
   ·have:=(List.pairwise_iff_getElem.mp lt) t a ht ha q
    (exact dq .ff .c .B .J hl this)
  exact List.mem_take_iff_getElem.mpr ⟨a,by exact(Ar.fm _ _).2.2.elim (fun q1=>(eh .B .b .S .N this q1)) fun q1=>(jj .B .d .L .S .bB ht this q1),rfl⟩
theorem InI.fin {s:Sc} {t:Nat} {ρ:Fr} {σ:St} (k:Sk s) (I:InI s t ρ σ) (hall:∀ j,j<s.c.bhi→j∈s.ps→j∈s.ps.take t):n5 s ρ σ:=by
 cases I
 refine .mk bi bj bk es k_1 F B r13 r16 nd (row.row fun j hj hh=>hall j hj ((k.mem j).mpr hh)) (sc.skip ?_ ?_)
 ·rintro i' j' (q | ⟨q,q'⟩)
  ·exact .inl q
  ·exact .inr ⟨q,lim _ q',(k.mem _).mp (List.mem_of_mem_take q')⟩
 ·rintro i' j' (q | ⟨q,q',q''⟩)
  ·exact .inl (.inl q)
  ·exact .inl (.inr ⟨q,hall _ q' ((k.mem _).mpr q'')⟩)
section
variable {s:Sc} {t j bi bj bk:Nat}
theorem fG (T:ym s.ps t j) {i' j':Nat} (q:s.seen (t+1) i' j'):s.seen t i' j'∨(i'=s.i∧j'=j):=by
 rcases q with q | ⟨q,q'⟩
 ·exact .inl (.inl q)
 ·rw [T.th] at q'
  rcases dz.mp q' with q' | q'
  ·exact .inl (.inr ⟨q,q'⟩)
  ·exact .inr ⟨q,au.mp q'⟩
theorem kG (T:ym s.ps t j) {i' j':Nat} (q:s.seen t i' j'):s.seen (t+1) i' j':=q.imp_right fun q=>⟨q.1,by rw [T.th];exact gz _ q.2⟩
theorem oB (T:ym s.ps t j) (lim:∀ j,j∈s.ps.take t→j<s.c.bhi) (hj:j<s.c.bhi):∀ j,j∈s.ps.take (t+1)→j<s.c.bhi:=by
 rw [T.th];intro j' hj'
 rcases dz.mp hj' with q | q
 ·exact lim _ q
 ·rw [au.mp q];exact hj
theorem BE (T:ym s.ps t j) (hj:j<s.c.blo) (sc:s.c.S (s.seen t) bi bj bk):s.c.S (s.seen (t+1)) bi bj bk:=by
 refine sc.skip (fun i' j'=>kG T) fun i' j' q=>?_
 rcases fG T q with q | ⟨rfl,rfl⟩
 ·exact .inl q
 ·refine .inr (.inl ?_)
  rw [mT]
  rw [aw (by exact fun q1=>(dq .ff .c .B .a4 hj q1.2.1))]
theorem BG (k:Sk s) (T:ym s.ps t j) (sc:s.c.S (s.seen t) bi bj bk) (h:s.c.e (s.i+1) (j+1)≤bk):s.c.S (s.seen (t+1)) bi bj bk:=by
 refine sc.skip (fun i' j'=>kG T) fun i' j' q=>?_
 rcases fG T q with q | ⟨rfl,rfl⟩
 ·exact .inl q
 ·refine .inr ?_
  obtain⟨h1,h2,hr⟩:=mU (as:=s.c.as) (bs:=s.c.bs) (rm:=s.c.rm) (alo:=s.c.alo) (blo:=s.c.blo) (i:=s.i+1) (j:=j'+1)
  rcases ic (s.c.e (s.i+1) (j'+1)) bk with c4 | c4
  ·exact .inr (.inl c4)
  ·have hEk:s.c.e (s.i+1) (j'+1)=bk:=Nat.le_antisymm h c4
   by_cases h0:s.c.e (s.i+1) (j'+1)=0
   ·exact .inl h0
   ·refine .inr (.inr ⟨hEk,?_⟩)
    have h1:s.c.e (s.i+1) (j'+1)≤s.i+1:=h1
    have h2:s.c.e (s.i+1) (j'+1)≤j'+1:=h2
    have R':=sc.run
    have e1:=R'.ia;have e2:=R'.jb
    rcases sc.at_ (by exact(aq h0).elim (fun q1=>(av .O .o (.l .B .O) q1)) fun q1=>(dq .O .b .bD .T hEk q1)) with q | ⟨q,q'⟩
    ·left;(rename_i z2 z1;exact jt .B .r .L (.e .a6 .V) (.k .aJ .R) q.1 (aa (eh .X .e .bV .c7 z2 hEk)) (Ar.EN _ _))
    ·right
     have:=T.lt _ q'
     (rename_i z2 z1;exact⟨(Ar.sub _ _ (fun q1 p1=>(jt .C [[1,-1,1,1],[1,1,-1,-1]] .b0 (.e .a6 .V) (.e .R .aJ) q (aa (eh .X .e .bV .c7 z2 hEk)) p1)) fun q1 p1=>((aq h0).elim (fun q2=>(jt .C [[0,0,0,1],[1,-1,1,0]] (.e .Q .V) (.k .Z .U) (.l .F .O) (aa (eh .X .e .bV .c7 z2 hEk)) q1 q2)) fun q2=>(I9 .C [[1,1,-1,1,0,1,1],[1,0,0,-1,1,0,0]] .b0 (.e .F .G) (.e (.a .B .D) .aG) (.k .T .U) .b7 .a5 hEk q (aa (eh .X .e .bV .c7 z2 hEk)) q1 p1 q2))),(jt .A .r .L (.e .a6 .V) (.k .aJ .R) this (aa (eh .X .e .bV .c7 z1 hEk)) (Ar.EN _ _))⟩)
theorem BD (k:Sk s) (T:ym s.ps t j) (hj:j<s.c.bhi) (sc:s.c.S (s.seen t) bi bj bk) (h:bk<s.c.e (s.i+1) (j+1)):s.c.S (s.seen (t+1)) (s.i+1-s.c.e (s.i+1) (j+1)) (j+1-s.c.e (s.i+1) (j+1)) (s.c.e (s.i+1) (j+1)) :=
 sc.take k.ia hj h (.inr ⟨rfl,by rw [T.th];exact gq _ (.head _)⟩) fun i' j' q=>(fG T q).imp_right .inl
theorem InI.skip {ρ:Fr} {σ:St} (T:ym s.ps t j) (hj:j<s.c.blo) (hb:s.c.blo≤s.c.bhi) (I:InI s t ρ σ):InI s (t+1) (upd ρ 17 (.int j)) σ:=by
 cases I
 exact .mk bi bj bk es (oB T lim (kz hj hb)) (ug len) k (F.up (by decide)) (B.up (by decide)) cd nd r13 r14 r15 r16 (by rw [T.th];exact row.skip j hj) (BE T hj sc)
end
theorem CA {C:Cal} {s:Sc} (ok:Fk s.c) (k:Sk s) {t j:Nat} {ρ:Fr} {σ:St} (e:s.ps[t]?=some j) (hb:s.c.blo≤s.c.bhi) (I:InI s t ρ σ) {kk:Fr→St→Prop} {K:Fl→Fr→St→Prop} (hk:∀ ρ' σ',InI s (t+1) ρ' σ'→kk ρ' σ') (hf:∀ ρ' σ',n5 s ρ' σ'→K .next ρ' σ') :
  eg C kN (upd ρ 17 (.int j)) σ (ph kk K):=by
 have T:=AH k.lt e
 have ht:t<s.ps.length:=(ay.mp e).1
 have I0:=I
 cases I
 have F1:s.c.F (upd ρ 17 (.int (j:Int))):=F.up (by decide)
 have B1:FB (upd ρ 17 (.int (j:Int))) bi bj bk:=B.up (by decide)
 refine⟨.int j,rfl,.int s.c.blo,F1.r3,?_⟩
 show(if decide ((j:Int)<s.c.blo)=true then _ else _)
 by_cases c1:j<s.c.blo
 ·rw [bp (by simpa using c1)]
  exact hk _ _ (I0.skip T c1 hb)
 rw [aw (by simpa using c1)]
 refine⟨.int j,rfl,.int s.c.bhi,F1.r4,?_⟩
 show(if decide ((s.c.bhi:Int)≤j)=true then _ else _)
 by_cases c2:s.c.bhi≤j
 ·rw [bp (by simpa using c2)]
  exact hf _ _ (InI.fin k (t:=t) (.mk bi bj bk es lim len k_1 F1 B1 cd nd r13 r14 r15 r16 row sc) fun j' h1 h2=>T.of j' h2 (kz h1 c2))
 rw [aw (by simpa using c2)]
 have c2:=Nat.lt_of_not_le c2
 refine⟨.dM s.cd,r15,.int j,rfl,s.es,.int ((j:Int)-1),cd,rfl,?_⟩
 rw [k.row j c2]
 have pl:=k.pl
 have sl:=ok.s
 refine⟨.dct s.nd,r16,.int j,rfl,es,.int j,nd,rfl,by exact jU .B .u .L .I (.k .D .F) (.l .F .B) ht len pl sl,?_⟩
 have hel1:s.c.e (s.i+1) (j+1)=s.c.e s.i j+1:=by
  rw [show s.c.e (s.i+1) (j+1)=_ from mT,bp ⟨k.ai,Nat.le_of_not_lt c1,(k.mem j).mp T.mem⟩]
 have hv2:(V.int (((s.c.e s.i j:Nat):Int)+1))=.int ((s.c.e (s.i+1) (j+1):Nat):Int):=by
  rw [hel1];rfl
 show eg C _ (upd (upd ρ 17 (.int (j:Int))) 18 (V.int (((s.c.e s.i j:Nat):Int)+1))) (σ.oh s.nd (putD es (.int j) (V.int (((s.c.e s.i j:Nat):Int)+1)))) _
 rw [hv2]
 have hr2:d6 s.c.as s.c.bs s.c.rm s.c.alo s.c.blo s.c.bhi s.i (s.ps.take (t+1)) (putD es (.int j) (.int (s.c.e (s.i+1) (j+1):Nat))):=by
  rw [T.th];exact row.put j
 have hlen2:(putD es (.int j) (.int (s.c.e (s.i+1) (j+1):Nat))).length≤t+1:=jd y0 (Nat.succ_le_succ len)
 obtain⟨hE1,hE2,_⟩:=mU (as:=s.c.as) (bs:=s.c.bs) (rm:=s.c.rm) (alo:=s.c.alo) (blo:=s.c.blo) (i:=s.i+1) (j:=j+1)
 have tk:=fun h=>BD k T c2 sc h
 have sm:=fun h=>BG k T sc h
 have hE1:s.c.e (s.i+1) (j+1)≤s.i+1:=hE1
 have hE2:s.c.e (s.i+1) (j+1)≤j+1:=hE2
 generalize s.c.e (s.i+1) (j+1)=E at hr2 hlen2 tk sm hE1 hE2
 have F2:s.c.F (upd (upd ρ 17 (.int (j:Int))) 18 (.int (E:Int))):=F1.up (by decide)
 have B2:FB (upd (upd ρ 17 (.int (j:Int))) 18 (.int (E:Int))) bi bj bk:=B1.up (by decide)
 have k2:Kp s.c.σ₀ (σ.oh s.nd (putD es (.int j) (.int (E:Int)))):=k_1.oh k.no
 have cd2:(σ.oh s.nd (putD es (.int j) (.int (E:Int)))).D s.cd=some s.es:=(cj k.ne).trans cd
 have nd2:(σ.oh s.nd (putD es (.int j) (.int (E:Int)))).D s.nd=some (putD es (.int j) (.int (E:Int))):=bc _ _ _
 have r14:upd (upd ρ 17 (.int (j:Int))) 18 (.int (E:Int)) 14=some (.int s.i):=r14
 have r16:upd (upd ρ 17 (.int (j:Int))) 18 (.int (E:Int)) 16=some (.dct s.nd):=r16
 have r15:upd (upd ρ 17 (.int (j:Int))) 18 (.int (E:Int)) 15=some (.dM s.cd):=r15
 have r13:upd (upd ρ 17 (.int (j:Int))) 18 (.int (E:Int)) 13=some (.lst s.c.nl):=r13
 have r17:upd (upd ρ 17 (.int (j:Int))) 18 (.int (E:Int)) 17=some (.int j):=rfl
 have r18:upd (upd ρ 17 (.int (j:Int))) 18 (.int (E:Int)) 18=some (.int E):=rfl
 generalize upd (upd ρ 17 (.int (j:Int))) 18 (.int (E:Int))=ρ2 at F2 B2 r13 r14 r15 r16 r17 r18
 generalize σ.oh s.nd (putD es (.int j) (.int (E:Int)))=σ2 at k2 cd2 nd2
 refine⟨.int E,r18,.int bk,B2.r11,?_⟩
 show(if decide ((bk:Int)<E)=true then _ else _)
 have lim2:=oB T lim c2
 by_cases c3:bk<E
 ·rw [bp (by simpa using c3)]
  refine⟨.int s.i,r14,.int E,r18,.int j,r17,.int E,r18,.int E,r18,by simp [ax],_,rfl,rfl,?_⟩
  refine hk _ _ (.mk (s.i+1-E) (j+1-E) E _ lim2 hlen2 k2 (((F2.up (by decide)).up (by decide)).up (by decide)) ⟨?_,?_,rfl⟩ cd2 nd2 r13 r14 r15 r16 hr2 (tk c3))
  ·show some (V.int ((s.i:Int)-E+1))=_
   congr 2;(exact cv (.ie (.a (.s .L .P) .U) .S) .h (.e .a0 .M) (aa (av .X .a .X hE1)))
  ·show some (V.int ((j:Int)-E+1))=_
   congr 2;(exact cv (.ie (.a (.s .L .P) .U) .S) .h (.e .a0 .M) (aa (av .X .a .X hE2)))
 ·rw [aw (by simpa using c3)]
  exact hk _ _ (.mk bi bj bk _ lim2 hlen2 k2 F2 B2 cd2 nd2 r13 r14 r15 r16 hr2 (sm (Nat.le_of_not_lt c3)))
theorem qD {C:Cal} {c:Fc} (ok:Fk c) {i bi bj bk:Nat} {cd nd:Addr} {es:List (Key × V)} {σ:St} {ρ:Fr} {K:Fl→Fr→St→Prop} (hai:c.alo≤i) (hia:i<c.ahi) (hb:c.blo≤c.bhi) (k0:Kp c.σ₀ σ) (F:c.F ρ) (B:FB ρ bi bj bk)
  (h13:ρ 13=some (.lst c.nl)) (h14:ρ 14=some (.int i)) (h15:ρ 15=some (.dM cd)) (h16:ρ 16=some (.dct nd)) (hcd:σ.D cd=some es) (hrow:c.R i es) (hnd:σ.D nd=some []) (hne:cd≠nd) (h0d:c.σ₀.D nd=none)
  (sc:c.S (fun i' j'=>i'<i∧j'<c.bhi) bi bj bk) (h:∀ ρ' σ' ps,n5 ⟨c,i,cd,nd,es,ps⟩ ρ' σ'→K .next ρ' σ'):wpS C kH ρ σ K:=by
 have al:=ok.al
 have ea:c.as[i]?=some c.as[i]:=bq (by exact eh .B .b .S .N hia al)
 obtain⟨tb,l,hD,hg,hc⟩:=ok.T.get ok.n c.as[i]
 generalize hps:(if c.rm c.as[i] then [] else posOf c.as[i] c.bs)=ps at hc
 have sk:Sk ⟨c,i,cd,nd,es,ps⟩:=by
  refine⟨hai,hia,hrow,hne,h0d,fun j=>?_,?_,?_⟩
  ·show j∈ps↔hit c.as c.bs c.rm i j=true
   rw [sx,← hps]
   cases hr:c.rm c.as[i] with
   | true =>
    rw [bp rfl]
    refine⟨(fun q=>nomatch q),?_⟩
    rintro ⟨a,e1,_,e3⟩
    obtain rfl:=af (ea.symm.trans e1)
    rw [hr] at e3;cases e3
   | false =>
    rw [aw (by decide),uQ]
    refine⟨fun q=>⟨_,ea,q,hr⟩,?_⟩
    rintro ⟨a,e1,e2,e3⟩
    obtain rfl:=af (ea.symm.trans e1)
    exact e2
  ·show ps.Pairwise (·<·)
   rw [← hps];split
   ·exact .nil
   ·exact y5
  ·show ps.length≤c.bs.length
   rw [← hps];split
   ·exact br _
   ·exact uR
 refine⟨.dct c.db,F.r7,?_,.lst c.la,F.r5,.int i,h14,c.as.map Key.v,c.as[i].v,k0.L _ _ ok.La,by rw [kh];(exact fo .c5 .j),by rw [kh,ef,bw,ea];rfl,.lst c.nl,h13,tb,c.as[i],k0.D _ _ hD,tD _,?_⟩
 ·show(σ.D c.db).isSome=true
  rw [k0.D _ _ hD];rfl
 rw [hg]
 refine⟨_,k0.L _ _ hc,?_⟩
 refine oo (InI ⟨c,i,cd,nd,es,ps⟩) ?_ ?_ ?_
 ·intro t v ρ' σ' hv I
  rw [bw] at hv
  obtain⟨j,e,rfl⟩:=gc.mp hv
  cases I
  exact⟨k.L _ _ hc,fun kk hk=>CA ok sk e hb (.mk bi_1 bj_1 bk_1 es_1 lim len k F_1 B_1 cd_1 nd_1 r13 r14 r15 r16 row sc_1) hk fun ρ' σ'=>h ρ' σ' ps⟩
 ·intro ρ' σ' I
  rw [az] at I
  have I0:=I
  cases I
  exact⟨k.L _ _ hc,h _ _ _ (I0.fin sk fun j _ q=>by show j∈ps.take ps.length;rw [fC];exact q)⟩
 ·refine .mk bi bj bk [] (fun j hj=>nomatch hj) (ah _) k0 F B hcd hnd h13 h14 h15 h16 ?_ (sc.skip (fun i' j' q=>.inl q) fun i' j' q=>?_)
  ·intro j hj
   rw [aw (by simp)]
   rfl
  ·rcases q with q | ⟨_,q⟩
   ·exact .inl q
   ·exact nomatch q
theorem mQ {as bs:List Key} {ok:Key→Bool} {alo blo:Nat}:∀ {i j k:Nat},(vo as bs ok alo blo i j k).1≤i∧(vo as bs ok alo blo i j k).2.1≤j
 | 0,j,k=>⟨ah _,ah _⟩
 | i+1,0,k=>⟨ah _,ah _⟩
 | i+1,j+1,k=>by
  rw [yg]
  split
  ·have:=mQ (as:=as) (bs:=bs) (ok:=ok) (alo:=alo) (blo:=blo) (i:=i) (j:=j) (k:=k+1)
   (exact⟨(av .X .a .A this.1),(av .X .a .A this.2)⟩)
  ·exact⟨ah _,ah _⟩
noncomputable def BJ:ky:=(.cons (.assign [(.var 15)] (.dgetOf (.loc 12)))
 (.cons (.assign [(.var 16)] .dct0)
 (.cons kH
 (.cons (.assign [(.var 12)] (.loc 16))
 .nil))))
inductive D8 (c:Fc) (t:Nat) (ρ:Fr) (σ:St):Prop
 | mk (bi bj bk:Nat) (cd:Addr) (es:List (Key × V)) (k:Kp c.σ₀ σ) (F:c.F ρ) (r13:ρ 13=some (.lst c.nl)) (B:FB ρ bi bj bk) (r12:ρ 12=some (.dct cd)) (hcd:σ.D cd=some es) (row:c.R (c.alo+t) es) (sc:c.S (fun i' j'=>i'<c.alo+t∧j'<c.bhi) bi bj bk):D8 c t ρ σ
theorem y9 {C:Cal} {c:Fc} (ok:Fk c) {t:Nat} {ρ:Fr} {σ:St} {kk:Fr→St→Prop} {K:Fl→Fr→St→Prop} (ht:c.alo+t<c.ahi) (hb:c.blo≤c.bhi) (I:D8 c t ρ σ) (hk:∀ ρ' σ',D8 c (t+1) ρ' σ'→kk ρ' σ') :
  eg C BJ (upd ρ 14 (.int ((c.alo+t:Nat):Int))) σ (ph kk K):=by
 cases I
 refine⟨_,r12,cd,rfl,by rw [hcd];rfl,fun nd hnd=>?_⟩
 have hne:cd≠nd:=fun q=>by rw [q,hnd] at hcd;cases hcd
 refine qD ok (cd:=cd) (nd:=nd) (kq _ _) ht hb (k.oh (k.noD hnd)) (((F.up (by decide)).up (by decide)).up (by decide)) (((B.up (by decide)).up (by decide)).up (by decide)) r13 rfl rfl rfl ((cj hne).trans hcd) row (bc _ _ _) hne (k.noD hnd) sc fun ρ2 σ2 ps E=>?_
 cases E
 refine⟨_,r16,?_⟩
 refine hk _ _ (.mk bi_1 bj_1 bk_1 nd es_1 k_1 (F_1.up (by decide)) r13_1 (B_1.up (by decide)) rfl nd_1 row_1 (sc_1.skip (fun i' j' q=>?_) fun i' j' q=>?_))
 ·rcases q with q | q
  ·exact⟨Nat.lt_succ_of_lt q.1,q.2⟩
  ·exact⟨Nat.lt_succ_of_le (Nat.le_of_eq q.1),q.2.1⟩
 ·by_cases e:i'<c.alo+t
  ·exact .inl (.inl ⟨e,q.2⟩)
  ·have:i'=c.alo+t:=by have:=q.1;(exact eh .b1 .i (.l .A .aC) (.g .A .Q) q.1 e)
   subst this
   by_cases hh:c.h (c.alo+t) j'=true
   ·exact .inl (.inr ⟨rfl,q.2,hh⟩)
   ·refine .inr (.inl ?_)
    rw [mT]
    rw [aw (fun q=>hh q.2.2)]
theorem flm {P:Nat→Option Fn} (hP:P 5=some fn5) {n:Nat} {σ:St} {x la lb db sj:Addr} {as bs:List Key} {rm:Key→Bool} {js:List Key} {Q:V→St→Prop} {alo ahi blo bhi:Nat} {vah vbh:V}
  (hM:MAt σ x la lb db sj as bs rm js) (ha:∀ k∈as,ru k) (hb:∀ k∈bs,ru k) (hs:bs.length<ax) (hsa:as.length<ax)
  (hvah:vah=.int ahi∨(vah=.none∧ahi=as.length)) (hvbh:vbh=.int bhi∨(vbh=.none∧bhi=bs.length))
  (hla:alo≤ahi) (hlb:blo≤bhi) (hal:ahi≤as.length) (hbl:bhi≤bs.length)
  (h:∀ σ' i j k,Kp σ σ'→s7 as bs rm alo ahi blo bhi i j k→(let g:=grow as bs (fun c=>decide (c∈js)) alo ahi blo bhi i j k;Q (mtV (g.1,g.2.1,g.2.2)) σ')):gu P (n+1) 5 [.obj x,.int alo,vah,.int blo,vbh] σ Q:=by
 refine⟨fn5,hP,by simp [fn5],by simp [fn5],?_⟩
 obtain⟨d,f,hI,f1,f2,f7,f8⟩:=hM.I
 have h0:frameOf fn5 [.obj x,.int alo,vah,.int blo,vbh] 0=some (.obj x):=rfl
 have h1:frameOf fn5 [.obj x,.int alo,vah,.int blo,vbh] 1=some (.int alo):=rfl
 have h2:frameOf fn5 [.obj x,.int alo,vah,.int blo,vbh] 2=some vah:=rfl
 have h3:frameOf fn5 [.obj x,.int alo,vah,.int blo,vbh] 3=some (.int blo):=rfl
 have h4:frameOf fn5 [.obj x,.int alo,vah,.int blo,vbh] 4=some vbh:=rfl
 generalize frameOf fn5 [.obj x,.int alo,vah,.int blo,vbh]=ρ at h0 h1 h2 h3 h4
 refine⟨.obj x,h0,x,d,f,_,rfl,hI,f1,.obj x,h0,x,d,f,_,rfl,hI,f2,.obj x,h0,x,d,f,_,rfl,hI,f7,.obj x,h0,x,d,f,_,rfl,hI,f8,sj,rfl,by rw [hM.S];rfl,by simp [ax],?_⟩
 refine⟨_,rfl,rfl,?_⟩
 have goA:∀ (ρ:Fr) (K:Fl→Fr→St→Prop),ρ 2=some vah→ρ 5=some (.lst la)→(∀ ρ',(∀ m,m≠2→ρ' m=ρ m)→ρ' 2=some (.int ahi)→K .next ρ' σ) →
   wpS (gu P n) (.cond (.cmp .is (.loc 2) .none) (.cons (.assign [(.var 2)] (.bf .len (.cons (.loc 5) .nil))) .nil) .nil) ρ σ K:=by
  intro ρ K e2 e5 hk
  refine⟨_,e2,?_⟩
  rcases hvah with rfl | ⟨rfl,rfl⟩
  ·exact hk ρ (fun _ _=>rfl) e2
  ·refine⟨_,e5,_,hM.La,?_⟩
   refine hk _ (fun m hm=>cj hm) ?_
   rw [bc,az]
 have goB:∀ (ρ:Fr) (K:Fl→Fr→St→Prop),ρ 4=some vbh→ρ 6=some (.lst lb)→(∀ ρ',(∀ m,m≠4→ρ' m=ρ m)→ρ' 4=some (.int bhi)→K .next ρ' σ) →
   wpS (gu P n) (.cond (.cmp .is (.loc 4) .none) (.cons (.assign [(.var 4)] (.bf .len (.cons (.loc 6) .nil))) .nil) .nil) ρ σ K:=by
  intro ρ K e2 e5 hk
  refine⟨_,e2,?_⟩
  rcases hvbh with rfl | ⟨rfl,rfl⟩
  ·exact hk ρ (fun _ _=>rfl) e2
  ·refine⟨_,e5,_,hM.Lb,?_⟩
   refine hk _ (fun m hm=>cj hm) ?_
   rw [bc,az]
 refine goA _ _ h2 rfl fun ρ1 s1 e12=>?_
 refine goB _ _ (by rw [s1 4 (by decide)];exact h4) (by rw [s1 6 (by decide)];rfl) fun ρ2 s2 e24=>?_
 have F0:FF ρ2 la lb db sj alo ahi blo bhi:=by
  refine⟨?_,?_,?_,e24,?_,?_,?_,?_⟩<;>rw [s2 _ (by decide)]
  ·rw [s1 _ (by decide)];exact h1
  ·exact e12
  ·rw [s1 _ (by decide)];exact h3
  ·rw [s1 _ (by decide)];rfl
  ·rw [s1 _ (by decide)];rfl
  ·rw [s1 _ (by decide)];rfl
  ·rw [s1 _ (by decide)];rfl
 refine⟨_,F0.r1,_,F0.r3,by simp [ax],_,rfl,rfl,?_⟩
 refine fun d0 hd0=>?_
 refine⟨by simp [ax],fun nl hnl=>?_⟩
 refine⟨_,F0.r1,_,F0.r2,(alo:Int),(ahi:Int),rfl,rfl,by simp [ax] at *;(exact kc .aK .d (.l .B .S) .I .N hsa hla hal),by simp [ax] at *;(exact dq .aK .b (.l .B .S) .A hsa hal),?_⟩
 generalize hσ₀:((σ.oh d0 []).ct nl [])=σ₀
 have k0:Kp σ σ₀:=by
  rw [← hσ₀]
  exact((Kp.refl σ).oh hd0).ct (by exact hnl)
 have hM0:=hM.keep k0
 have hn0:σ₀.L nl=some []:=by rw [← hσ₀];exact bc _ _ _
 have hd00:σ₀.D d0=some []:=by rw [← hσ₀];exact bc _ _ _
 have ok:Fk ⟨σ₀,la,lb,db,sj,nl,as,bs,rm,alo,ahi,blo,bhi⟩:=⟨hM0.La,hM0.D,hn0,hs,hbl,hal⟩
 refine oo (D8 ⟨σ₀,la,lb,db,sj,nl,as,bs,rm,alo,ahi,blo,bhi⟩) ?_ ?_ ?_
 ·intro t v ρ' σ' hv I
  obtain⟨ht,rfl⟩:=zh hv
  exact⟨trivial,fun k hk=>y9 ok ht hlb I hk⟩
 ·intro ρ' σ' I
  obtain⟨bi,bj,bk,cd,es,kk,F,r13,B,r12,hcd,hrow,hsc⟩:=I
  rw [wh] at hrow hsc
  have best:s7 as bs rm alo ahi blo bhi bi bj bk:=hsc.best fun i' j' h1 h2 h3 h4 h5=>⟨by exact dn .aB .e (.l .A .D) (.e .a0 .D) h2 (aa (eh .A .b .I .U h1 h2)),h4⟩
  refine⟨trivial,?_⟩
  have hLa:=kk.L _ _ hM0.La
  have hLb:=kk.L _ _ hM0.Lb
  have hS:σ'.S sj=some js:=by rw [kk.S];exact hM0.S
  have notJ:∀ (ρ:Fr) (e:Ex) (j:Nat) (b:Key) (Q:Bool→St→Prop),ρ 8=some (.eC sj)→bs[j]?=some b→(∀ Q:V→St→Prop,Q (.int j) σ'→wpE (gu P n) e ρ σ' Q)→ρ 6=some (.lst lb)→Q (!decide (b∈js)) σ'→wpT (gu P n) (.not (.callv 8 (.cons (.sub (.loc 6) e) .nil))) ρ σ' Q:=fun ρ e j b Q r8 eb he r6 q=>by
   refine⟨_,r8,_,r6,he _ ?_⟩
   refine⟨_,b.v,hLb,by rw [kh];(first | exact fo .c5 .j Ar.y | omega),by rw [kh,ef,bw,eb];rfl,js,b,hS,tD _,q⟩
  have isJ:∀ (ρ:Fr) (e:Ex) (j:Nat) (b:Key) (Q:Bool→St→Prop),ρ 8=some (.eC sj)→bs[j]?=some b→(∀ Q:V→St→Prop,Q (.int j) σ'→wpE (gu P n) e ρ σ' Q)→ρ 6=some (.lst lb)→Q (decide (b∈js)) σ'→wpT (gu P n) (.callv 8 (.cons (.sub (.loc 6) e) .nil)) ρ σ' Q:=fun ρ e j b Q r8 eb he r6 q=>by
   refine⟨_,r8,_,r6,he _ ?_⟩
   refine⟨_,b.v,hLb,by rw [kh];(first | exact fo .c5 .j Ar.y | omega),by rw [kh,ef,bw,eb];rfl,js,b,hS,tD _,q⟩
  have left:∀ (ρ:Fr) (j:Nat),ρ 10=some (.int ((j+1:Nat):Int))→∀ Q:V→St→Prop,Q (.int j) σ'→wpE (gu P n) (.bin .sub (.loc 10) (.int 1)) ρ σ' Q:=fun ρ j r Q q=>by
   refine⟨_,r,?_⟩
   have e:((j+1:Nat):Int)-1=(j:Int):=by(exact fo .a8 .m)
   show Q (.int _) σ'
   rw [e];exact q
  have right:∀ (ρ:Fr) (j k:Nat),ρ 10=some (.int (j:Int))→ρ 11=some (.int (k:Int))→∀ Q:V→St→Prop,Q (.int ((j+k:Nat):Int)) σ'→wpE (gu P n) (.bin .add (.loc 10) (.loc 11)) ρ σ' Q:=fun ρ j k r r' Q q=>⟨_,r,_,r',q⟩
  have R:=best.run
  have:=R.ia;have:=R.jb
  refine DU (σ:=σ') (js:=js) (ok:=fun c=>!decide (c∈js)) hLa hLb ha hb (by simp [ax] at *;(exact dh .aK .a .aH hsa)) (by simp [ax] at *;(exact dh .aK .a .aH hs)) (fun ρ j b Q F r10 eb q=>notJ ρ _ j b Q F.r8 eb (left ρ j r10) F.r6 q) (i:=bi) (j:=bj) (k:=bk) (by(rename_i z1;exact dn .A .b .N .cF hal z1)) (by exact dn .A .b .N .cF hbl this) (fun ρ F B=>?_) F B
  refine DT (σ:=σ') (js:=js) (ok:=fun c=>!decide (c∈js)) (.inl rfl) hLa hLb ha hb hal hbl (fun ρ j k b Q F r10 r11 eb q=>notJ ρ _ (j+k) b Q F.r8 eb (right ρ j k r10 r11) F.r6 q) (fun ρ F B=>?_) F B
  refine DU (σ:=σ') (js:=js) (ok:=fun c=>decide (c∈js)) hLa hLb ha hb (by simp [ax] at *;(exact dh .aK .a .aH hsa)) (by simp [ax] at *;(exact dh .aK .a .aH hs)) (fun ρ j b Q F r10 eb q=>isJ ρ _ j b Q F.r8 eb (left ρ j r10) F.r6 q) ?_ ?_ (fun ρ F B=>?_) F B
  ·have:=mQ (as:=as) (bs:=bs) (ok:=fun c=>!decide (c∈js)) (alo:=alo) (blo:=blo) (i:=bi) (j:=bj) (k:=bk)
   (rename_i z5 z4 z3 z2 z1;exact jt .A .d .N .b4 .aS hal z5 this.1)
  ·have:=mQ (as:=as) (bs:=bs) (ok:=fun c=>!decide (c∈js)) (alo:=alo) (blo:=blo) (i:=bi) (j:=bj) (k:=bk)
   (rename_i z4 z3 z2 z1;exact jt .A .d .N .b4 .aS hbl z4 this.2)
  refine DT (σ:=σ') (js:=js) (ok:=fun c=>decide (c∈js)) (.inr rfl) hLa hLb ha hb hal hbl (fun ρ j k b Q F r10 r11 eb q=>isJ ρ _ (j+k) b Q F.r8 eb (right ρ j k r10 r11) F.r6 q) (fun ρ F B=>?_) F B
  refine⟨_,B.r9,_,B.r10,_,B.r11,?_⟩
  exact h σ' bi bj bk (k0.trans kk) best
 ·refine .mk alo blo 0 d0 [] (Kp.refl _) (((F0.up (by exact zv (.k (.n 9) (.n 9)) .j)).up (by exact zv (.k (.n 9) (.n 10)) .j)).up (by exact zv (.k (.n 9) (.n 11)) .j) |>.up (by exact zv (.k (.n 9) (.n 12)) .j) |>.up (by exact zv (.k (.n 9) (.n 13)) .j)) rfl ⟨rfl,rfl,rfl⟩ rfl hd00 ?_ ?_
  ·intro j hj
   rw [qk,zB];rfl
  ·refine(Scan.start hla hlb).skip (fun _ _ q=>q.elim) fun i' j' q=>.inr (.inl ?_)
   rw [mT]
   rw [aw (by exact fun q1=>(dq .ff .c (.l .A (.a .B .O)) .a4 q.1 q1.1))]
end SM
end MP
end
section
namespace MP
noncomputable def Flm (as bs:List Key) (rm js:Key→Bool) (alo ahi blo bhi:Nat) (t:Nat × Nat × Nat):Prop :=
 ∃ i j k,s7 as bs rm alo ahi blo bhi i j k∧t=grow as bs js alo ahi blo bhi i j k
noncomputable def Within (alo ahi blo bhi:Nat) (t:Nat × Nat × Nat):Prop:=alo≤t.1∧t.1+t.2.2≤ahi∧blo≤t.2.1∧t.2.1+t.2.2≤bhi
section
variable {as bs:List Key} {ok rm js:Key→Bool} {alo ahi blo bhi:Nat}
theorem mR:∀ {i j k:Nat},Within alo ahi blo bhi (i,j,k)→Within alo ahi blo bhi (vo as bs ok alo blo i j k)
 | 0,j,k,h=>h
 | i+1,0,k,h=>h
 | i+1,j+1,k,h=>by
  rw [yg]
  split
  ·rename_i c
   refine mR ?_
   unfold Within at *
   simp only at *
   (exact⟨(av .A .a .Q c.1),⟨(cv .H .a .a2 h.2.1),⟨(av .A .a .Q c.2.1),(cv .H .a .a2 h.2.2.2)⟩⟩⟩)
  ·exact h
theorem mP:∀ {n i j k:Nat},Within alo ahi blo bhi (i,j,k)→Within alo ahi blo bhi (i,j,dJ as bs ok ahi bhi n i j k)
 | 0,i,j,k,h=>h
 | n+1,i,j,k,h=>by
  rw [uz]
  split
  ·rename_i c
   refine mP ?_
   unfold Within at *
   simp only at *
   (exact⟨(av .A .a .A h.1),⟨(cv .H .a .aC c.1),⟨(av .A .a .A h.2.2.1),(cv .H .a .aC c.2.1)⟩⟩⟩)
  ·exact h
theorem Flm.within {t:Nat × Nat × Nat} (h:Flm as bs rm js alo ahi blo bhi t):Within alo ahi blo bhi t:=by
 obtain⟨i,j,k,B,rfl⟩:=h
 have R:=B.run
 exact mP (mR (mP (mR (show Within alo ahi blo bhi (i,j,k) from⟨R.ai,R.ia,R.bj,R.jb⟩))))
end
inductive nz (F:Nat→Nat→Nat→Nat→Nat × Nat × Nat→Prop):Nat→Nat→Nat→Nat→List (Nat × Nat × Nat)→Prop
 | nil {alo ahi blo bhi i j:Nat}:F alo ahi blo bhi (i,j,0)→nz F alo ahi blo bhi []
 | node {alo ahi blo bhi i j k:Nat} {L R:List (Nat × Nat × Nat)}:F alo ahi blo bhi (i,j,k)→0<k→(alo<i→blo<j→nz F alo i blo j L)→(¬ (alo<i∧blo<j)→L=[]) →
   (i+k<ahi→j+k<bhi→nz F (i+k) ahi (j+k) bhi R)→(¬ (i+k<ahi∧j+k<bhi)→R=[])→nz F alo ahi blo bhi (L++(i,j,k)::R)
noncomputable def pk (t u:Nat × Nat × Nat):Prop:=t.1+t.2.2≤u.1∧t.2.1+t.2.2≤u.2.1
theorem nz.ok {F:Nat→Nat→Nat→Nat→Nat × Nat × Nat→Prop} (hF:∀ a b c d t,F a b c d t→Within a b c d t) {alo ahi blo bhi:Nat} {L:List (Nat × Nat × Nat)} (h:nz F alo ahi blo bhi L) :
  (∀ t∈L,Within alo ahi blo bhi t∧0<t.2.2)∧L.Pairwise pk:=by
 induction h with
 | nil _=>exact⟨fun t h=>(by cases h),.nil⟩
 | @node alo ahi blo bhi i j k L R hf hk hL hL' hR hR' ihL ihR =>
  have W:=hF _ _ _ _ _ hf
  unfold Within at W
  simp only at W
  have hl:(∀ t∈L,Within alo i blo j t∧0<t.2.2)∧L.Pairwise pk:=by
   by_cases c:alo<i∧blo<j
   ·exact ihL c.1 c.2
   ·rw [hL' c];exact⟨fun t h=>(by cases h),.nil⟩
  have hr:(∀ t∈R,Within (i+k) ahi (j+k) bhi t∧0<t.2.2)∧R.Pairwise pk:=by
   by_cases c:i+k<ahi∧j+k<bhi
   ·exact ihR c.1 c.2
   ·rw [hR' c];exact⟨fun t h=>(by cases h),.nil⟩
  refine⟨fun t ht=>?_,?_⟩
  ·rcases dz.mp ht with q | q
   ·have:=hl.1 t q
    unfold Within at *
    (exact⟨⟨(av .A .a .A this.1.1),⟨(tc .G .b .b4 .bF W.2.1 this.1.2.1),⟨(av .A .a .A this.1.2.2.1),(tc .G .b .b4 .bF W.2.2.2 this.1.2.2.2)⟩⟩⟩,(dh .O .a .O this.2)⟩)
   ·rcases cf.mp q with q | q
    ·subst q
     unfold Within
     simp only
     (exact⟨⟨(av .A .a .A W.1),⟨(cv .G .a .G W.2.1),⟨(av .A .a .A W.2.2.1),(cv .G .a .G W.2.2.2)⟩⟩⟩,(dh .O .a .O hk)⟩)
    ·have:=hr.1 t q
     unfold Within at *
     (exact⟨⟨(dn .A .b .I .bY W.1 this.1.1),⟨(cv .G .a .G this.1.2.1),⟨(dn .A .b .I .bY W.2.2.1 this.1.2.2.1),(cv .G .a .G this.1.2.2.2)⟩⟩⟩,(dh .O .a .O this.2)⟩)
  ·rw [List.pairwise_append]
   refine⟨hl.2,.cons (fun u hu=>?_) hr.2,fun t ht u hu=>?_⟩
   ·have:=hr.1 u hu
    unfold Within at this
    unfold pk
    simp only
    (exact⟨(cv .G .a .G this.1.1),(cv .G .a .G this.1.2.2.1)⟩)
   ·have:=hl.1 t ht
    unfold Within at this
    unfold pk
    rcases cf.mp hu with q | q
    ·subst q
     simp only
     (exact⟨(cv .G .a .G this.1.2.1),(cv .G .a .G this.1.2.2.2)⟩)
    ·have:=hr.1 u q
     unfold Within at this
     (rename_i z1;exact⟨(tc .G .b .bF .b4 z1.1.2.1 this.1.1),(tc .G .b .bF .b4 z1.1.2.2.2 this.1.2.2.1)⟩)
noncomputable def mrg:Nat→Nat→Nat→List (Nat × Nat × Nat)→List (Nat × Nat × Nat)
 | i,j,k,[]=>if k=0 then [] else [(i,j,k)]
 | i,j,k,(i',j',k')::r=>if i+k=i'∧j+k=j' then mrg i j (k+k') r else if k=0 then mrg i' j' k' r else (i,j,k)::mrg i' j' k' r
noncomputable def Apart (t u:Nat × Nat × Nat):Prop:=¬ (t.1+t.2.2=u.1∧t.2.1+t.2.2=u.2.1)
noncomputable def wo:List (Nat × Nat × Nat)→Prop
 | t::u::r=>Apart t u∧wo (u::r)
 | _=>True
theorem o7:∀ {L:List (Nat × Nat × Nat)} {t:Nat × Nat × Nat},wo (t::L)→(∀ u∈t::L,0<u.2.2)→mrg t.1 t.2.1 t.2.2 L=t::L
 | [],(i,j,k),h,hp=>by
  have:=hp (i,j,k) (.head _)
  simp only [mrg]
  rw [aw (by simp only at this;(exact dh (.u .A .O) .a .O this))]
 | (i',j',k')::r,(i,j,k),h,hp=>by
  have:=hp (i,j,k) (.head _)
  simp only [mrg]
  rw [aw h.1,aw (by simp only at this;(exact dh (.u .A .O) .a .O this))]
  have:=o7 (L:=r) (t:=(i',j',k')) h.2 fun u hu=>hp u (.tail _ hu)
  simp only at this
  rw [this]
theorem BR {L:List (Nat × Nat × Nat)} (h:wo L) (hp:∀ u∈L,0<u.2.2):mrg 0 0 0 L=L:=by
 cases L with
 | nil=>rfl
 | cons t r =>
  obtain⟨i,j,k⟩:=t
  have:=o7 h hp
  simp only at this
  simp only [mrg]
  split
  ·rename_i c
   obtain⟨rfl,rfl⟩:=c
   simpa using this
  ·exact this
end MP
end
section
namespace MP
open PySem
theorem kM {v:V} (h:isNone v=true):v=.none:=by
 cases v<;>first | rfl | exact Bool.noConfusion h
theorem nO {α:Type} {P:Prop} {x:α} (h:none=some x):P:=nomatch h
theorem jx {α β:Type} {o:Option α} {f:α→Option β} {b:β} (h:o.bind f=some b):∃ a,o=some a∧f a=some b:=dg.mp h
theorem omap {α β:Type} {o:Option α} {f:α→β} {b:β} (h:o.map f=some b):∃ a,o=some a∧f a=b:=gc.mp h
noncomputable def iN (a b:V):Option (Int × Int):=(vInt a).bind fun i=>(vInt b).map fun j=>(i,j)
theorem wi {a b:V} {p:Int × Int} (h:iN a b=some p):a=.int p.1∧b=.int p.2:=by
 obtain⟨i,e,h⟩:=jx h
 obtain⟨j,e',rfl⟩:=omap h
 exact⟨nk e,nk e'⟩
noncomputable def kf {α:Type} (c:Prop) [Decidable c] (x:α):Option α:=if c then some x else none
theorem qx {α:Type} {c:Prop} [Decidable c] {x y:α} (h:kf c x=some y):c∧x=y:=by
 unfold kf at h
 by_cases q:c
 ·rw [bp q] at h;exact⟨q,af h⟩
 ·rw [aw q] at h;cases h
noncomputable def cX (op:Bop) (a b:V):Option V:=(iN a b).bind fun p=>match op with
 | .add=>some (.int (p.1+p.2))
 | .sub=>some (.int (p.1-p.2))
 | .mul=>kf (p.1.natAbs<2^60∨p.2.natAbs<2^60) (.int (p.1*p.2))
 | .fdiv=>kf (0<p.2∧p.2.natAbs<2^60) (.int (p.1/p.2))
 | .mod=>kf (0<p.2) (.int (p.1%p.2))
 | .pow=>kf (0≤p.2∧p.2≤1000∧p.1.natAbs<2^64) (.int (p.1^p.2.toNat))
theorem oJ {op:Bop} {a b v:V} {σ:St} {Q:V→St→Prop} (h:cX op a b=some v) (q:Q v σ):dX op a b σ Q:=by
 obtain⟨⟨i,j⟩,e,h⟩:=jx h
 obtain⟨rfl,rfl⟩:=wi e
 clear e
 cases op with
 | add=>cases h;exact q
 | sub=>cases h;exact q
 | mul=>obtain⟨c,rfl⟩:=qx h;exact⟨c,q⟩
 | fdiv =>
  obtain⟨c,rfl⟩:=qx h
  have c:0<j∧j.natAbs<2^60:=c
  refine⟨(by(rename_i z2 z1;exact jf (.iu .A .O) .a .aV z2.1):j≠0),c.2,?_⟩
  rw [Int.fdiv_eq_ediv_of_nonneg _ (by show 0≤j;(rename_i z2 z1;exact jf .a1 .a .aV z2.1))];exact q
 | mod =>
  obtain⟨c,rfl⟩:=qx h
  have c:0<j:=c
  refine⟨(by(rename_i z2 z1;exact jf (.iu .A .O) .a .aV z2):j≠0),?_⟩
  rw [Int.fmod_eq_emod_of_nonneg _ (by show 0≤j;(rename_i z2 z1;exact jf .a1 .a .aV z2))];exact q
 | pow=>obtain⟨c,rfl⟩:=qx h;exact⟨c.1,c.2.1,c.2.2,q⟩
noncomputable def rE (σ:St):V→Option Bool
 | .none=>some false
 | .bool b=>some b
 | .int i=>some (i != 0)
 | .lst a=>(σ.L a).map fun xs=>!xs.isEmpty
 | .clo _ _=>some true
 | _=>none
theorem eM {σ:St}:∀ (v:V) {b:Bool} {K:Bool→Prop},rE σ v=some b→K b→pv v σ K:=by
 intro v b K h q
 cases v
 case none=>obtain rfl:=af h;exact q
 case bool=>obtain rfl:=af h;exact q
 case int=>obtain rfl:=af h;exact q
 case lst=>obtain⟨xs,e,rfl⟩:=omap h;exact⟨xs,e,q⟩
 case clo=>obtain rfl:=af h;exact q
 all_goals exact nO h
noncomputable def xg (σ:St) (op:Cop) (a b:V):Option Bool:=match op with
 | .eq=>(vInt a).elim ((vStr a).bind fun x=>(vStr b).map fun y=>x==y) fun i=>(vInt b).map fun j=>decide (i=j)
 | .ne=>(vInt a).elim ((vStr a).bind fun x=>(vStr b).map fun y=>!(x==y)) fun i=>(vInt b).map fun j=>decide (i≠j)
 | .lt=>(iN a b).map fun p=>decide (p.1<p.2)
 | .le=>(iN a b).map fun p=>decide (p.1≤p.2)
 | .gt=>(iN a b).map fun p=>decide (p.2<p.1)
 | .ge=>(iN a b).map fun p=>decide (p.2≤p.1)
 | .is=>kf (isNone b=true) (isNone a)
 | .isNot=>kf (isNone b=true) (!(isNone a))
 | _=>none
theorem deq (x y:Int):(x==y)=decide (x=y):=by
 by_cases e:x=y
 ·simp [e]
 ·simp [e]
theorem dne (x y:Int):(!(x==y))=decide (x≠y):=by rw [deq];by_cases e:x=y<;>simp [e]
theorem oI {σ:St} {op:Cop} {a b:V} {r:Bool} {K:Bool→Prop} (h:xg σ op a b=some r) (q:K r):wu op a b σ K:=by
 have is_:∀ {a:V} {K:Bool→Prop},K (isNone a)→A1 a .none σ K:=fun {a K} q=>q
 cases op with
 | eq =>
  cases e:vInt a with
  | some i =>
   obtain rfl:=nk e
   obtain⟨j,e',rfl⟩:=omap h
   obtain rfl:=nk e'
   show K (i==j)
   rw [deq];exact q
  | none =>
   unfold xg at h
   rw [e] at h
   obtain⟨x,e1,h⟩:=jx h
   obtain⟨y,e2,rfl⟩:=omap h
   obtain rfl:=yz e1
   obtain rfl:=yz e2
   exact q
 | ne =>
  cases e:vInt a with
  | some i =>
   obtain rfl:=nk e
   obtain⟨j,e',rfl⟩:=omap h
   obtain rfl:=nk e'
   show K (!(i==j))
   rw [dne];exact q
  | none =>
   unfold xg at h
   rw [e] at h
   obtain⟨x,e1,h⟩:=jx h
   obtain⟨y,e2,rfl⟩:=omap h
   obtain rfl:=yz e1
   obtain rfl:=yz e2
   exact q
 | lt=>obtain⟨p,e,rfl⟩:=omap h;obtain⟨rfl,rfl⟩:=wi e;exact q
 | le=>obtain⟨p,e,rfl⟩:=omap h;obtain⟨rfl,rfl⟩:=wi e;exact q
 | gt=>obtain⟨p,e,rfl⟩:=omap h;obtain⟨rfl,rfl⟩:=wi e;exact q
 | ge=>obtain⟨p,e,rfl⟩:=omap h;obtain⟨rfl,rfl⟩:=wi e;exact q
 | is=>obtain⟨c,rfl⟩:=qx h;obtain rfl:=kM c;exact is_ q
 | isNot=>obtain⟨c,rfl⟩:=qx h;obtain rfl:=kM c;exact is_ (K:=fun r=>K (!r)) q
 | isIn=>cases h
 | notIn=>cases h
theorem ifO {α:Type} {c:Prop} [Decidable c] {x:Option α} {y:α} (h:(if c then x else none)=some y):c∧x=some y:=by
 by_cases q:c
 ·rw [bp q] at h;exact⟨q,h⟩
 ·rw [aw q] at h;cases h
noncomputable def yh (xs:List V) (i:Int):Option V:=if 0≤gf xs.length i then xs[(gf xs.length i).toNat]? else none
noncomputable def kQ (σ:St) (a i:V):Option V:=(vInt i).bind fun i=>match dY a with
 | some a=>(σ.L a).bind fun xs=>yh xs i
 | none=>(EF a).bind fun xs=>if i.natAbs<2^60 then yh xs i else none
theorem oH {σ:St} {a i v:V} {K:V→Prop} (h0:kQ σ a i=some v) (q:K v):s8 a i σ K:=by
 obtain⟨j,e,h⟩:=jx h0
 clear h0
 have e:=nk e
 subst e
 cases e:dY a with
 | some b =>
  rw [e] at h
  have e:=za e
  subst e
  obtain⟨xs,e,h⟩:=jx (o:=σ.L b) h
  obtain⟨c,h⟩:=ifO h
  exact⟨xs,v,e,c,h,q⟩
 | none =>
  rw [e] at h
  obtain⟨xs,e,h⟩:=jx (o:=EF a) h
  have e:=A8 e
  subst e
  obtain⟨c,h⟩:=ifO h
  obtain⟨c2,h⟩:=ifO h
  exact⟨v,c,c2,h,q⟩
noncomputable def rF (σ:St) (k:BF) (vs:List V):Option V:=match k with
 | .len=>match vs with
  | [v]=>(dY v).elim ((AA v).bind fun a=>(σ.D a).map fun xs=>.int xs.length) fun a=>(σ.L a).map fun xs=>.int xs.length
  | _=>none
 | .min=>match vs with
  | [a,b]=>(iN a b).map fun p=>.int (min p.1 p.2)
  | _=>none
 | .max=>match vs with
  | [a,b]=>(iN a b).map fun p=>.int (max p.1 p.2)
  | _=>none
 | .divmod=>match vs with
  | [a,b]=>(iN a b).bind fun p=>kf (0<p.2∧p.2.natAbs<2^60) (.tup [.int (p.1/p.2),.int (p.1%p.2)])
  | _=>none
 | _=>none
theorem CH {σ:St} (k:BF) (vs:List V) {v:V} {Q:V→St→Prop} (h:rF σ k vs=some v) (q:Q v σ):pO k vs σ Q:=by
 cases vs with
 | nil=>cases k<;>exact nO h
 | cons u r =>
  cases k
  case len =>
   cases r with
   | cons=>exact nO h
   | nil =>
    cases e:dY u with
    | some a =>
     obtain rfl:=za e
     obtain⟨xs,e,rfl⟩:=omap h
     exact⟨xs,e,q⟩
    | none =>
     have h:(dY u).elim ((AA u).bind fun a=>(σ.D a).map fun xs=>V.int xs.length) (fun a=>(σ.L a).map fun xs=>.int xs.length)=some v:=h
     rw [e] at h
     obtain⟨a,e1,h⟩:=jx (o:=AA u) h
     obtain rfl:=A9 e1
     obtain⟨xs,e,rfl⟩:=omap h
     exact⟨xs,e,q⟩
  case lrange=>exact nO h
  case set=>exact nO h
  case min3=>exact nO h
  all_goals cases r with
  | nil=>exact nO h
  | cons w r =>
   cases r with
   | cons=>exact nO h
   | nil =>
    first
    | (obtain⟨p,e,rfl⟩:=omap (o:=iN u w) h;obtain⟨rfl,rfl⟩:=wi e;exact q)
    | (obtain⟨⟨i,j⟩,e,h⟩:=jx (o:=iN u w) h;obtain⟨rfl,rfl⟩:=wi e;obtain⟨c,rfl⟩:=qx h;have c:0<j∧j.natAbs<2^60:=c;refine⟨(by(rename_i z2 z1;exact jf (.iu .A .O) .a .aV z2.1):j≠0),c.2,?_⟩;rw [Int.fdiv_eq_ediv_of_nonneg _ (by show 0≤j;(rename_i z2 z1;exact jf .a1 .a .aV z2.1)),Int.fmod_eq_emod_of_nonneg _ (by show 0≤j;(rename_i z2 z1;exact jf .a1 .a .aV z2.1))];exact q)
mutual
noncomputable def evV (σ:St) (ρ:Fr):Ex→Option V
 | .none=>some .none
 | .bool b=>some (.bool b)
 | .int i=>some (.int i)
 | .str s=>some (.str s)
 | .loc x=>ρ x
 | .bin op a b=>(evV σ ρ a).bind fun va=>(evV σ ρ b).bind fun vb=>cX op va vb
 | .neg a=>(evV σ ρ a).bind fun v=>(vInt v).map fun i=>.int (-i)
 | .not a=>(evV σ ρ a).bind fun v=>(rE σ v).map fun b=>.bool !b
 | .cmp op a b=>(evV σ ρ a).bind fun va=>(evV σ ρ b).bind fun vb=>(xg σ op va vb).map .bool
 | .ite c a b=>(evT σ ρ c).bind fun t=>if t then evV σ ρ a else evV σ ρ b
 | .tup es=>(iR σ ρ es).bind fun vs=>if vs.length≤ax then some (.tup vs) else none
 | .attr e x=>(evV σ ρ e).bind fun v=>(EI v).bind fun a=>(σ.I a).bind fun p=>p.2 x
 | .sub e i=>(evV σ ρ e).bind fun v=>(evV σ ρ i).bind fun j=>kQ σ v j
 | .bf k es=>(iR σ ρ es).bind fun vs=>rF σ k vs
 | _=>none
noncomputable def iR (σ:St) (ρ:Fr):Exs→Option (List V)
 | .nil=>some []
 | .cons e es=>(evV σ ρ e).bind fun v=>(iR σ ρ es).map fun vs=>v::vs
noncomputable def evT (σ:St) (ρ:Fr):Ex→Option Bool
 | .not a=>(evT σ ρ a).map fun b=>!b
 | .and a b=>(evT σ ρ a).bind fun t=>if t then evT σ ρ b else some false
 | .or a b=>(evT σ ρ a).bind fun t=>if t then some true else evT σ ρ b
 | .cmp op a b=>(evV σ ρ a).bind fun va=>(evV σ ρ b).bind fun vb=>xg σ op va vb
 | .ite c a b=>(evT σ ρ c).bind fun t=>if t then evT σ ρ a else evT σ ρ b
 | .loc x=>(ρ x).bind fun v=>rE σ v
 | .int i=>some (i != 0)
 | .bool b=>some b
 | .attr e x=>(evV σ ρ e).bind fun v=>(EI v).bind fun a=>(σ.I a).bind fun p=>(p.2 x).bind fun u=>rE σ u
 | .sub e i=>(evV σ ρ e).bind fun v=>(evV σ ρ i).bind fun j=>(kQ σ v j).bind fun r=>rE σ r
 | .bin op a b=>(evV σ ρ a).bind fun va=>(evV σ ρ b).bind fun vb=>(cX op va vb).bind fun r=>rE σ r
 | _=>none
end
section
variable {σ:St} {ρ:Fr} {e a b c:Ex} {es:Exs}
@[simp] theorem HL:evV σ ρ .none=some .none:=rfl
@[simp] theorem HM {x:Bool}:evV σ ρ (.bool x)=some (.bool x):=rfl
@[simp] theorem IG {i:Int}:evV σ ρ (.int i)=some (.int i):=rfl
@[simp] theorem jq {x:Nat}:evV σ ρ (.loc x)=ρ x:=rfl
@[simp] theorem eL {op:Bop}:evV σ ρ (.bin op a b)=(evV σ ρ a).bind fun va=>(evV σ ρ b).bind fun vb=>cX op va vb:=rfl
@[simp] theorem mS:evV σ ρ (.neg a)=(evV σ ρ a).bind fun v=>(vInt v).map fun i=>.int (-i):=rfl
@[simp] theorem IH {op:Cop}:evV σ ρ (.cmp op a b)=(evV σ ρ a).bind fun va=>(evV σ ρ b).bind fun vb=>(xg σ op va vb).map .bool:=rfl
@[simp] theorem uq:evV σ ρ (.tup es)=(iR σ ρ es).bind fun vs=>if vs.length≤ax then some (.tup vs) else none:=rfl
@[simp] theorem zj {i:Ex}:evV σ ρ (.sub e i)=(evV σ ρ e).bind fun v=>(evV σ ρ i).bind fun j=>kQ σ v j:=rfl
@[simp] theorem rD {k:BF}:evV σ ρ (.bf k es)=(iR σ ρ es).bind fun vs=>rF σ k vs:=rfl
@[simp] theorem HK:iR σ ρ .nil=some []:=rfl
@[simp] theorem cg:iR σ ρ (.cons e es)=(evV σ ρ e).bind fun v=>(iR σ ρ es).map fun vs=>v::vs:=rfl
@[simp] theorem II:evT σ ρ (.not a)=(evT σ ρ a).map fun b=>!b:=rfl
@[simp] theorem zk:evT σ ρ (.and a b)=(evT σ ρ a).bind fun t=>if t then evT σ ρ b else some false:=rfl
@[simp] theorem IZ:evT σ ρ (.or a b)=(evT σ ρ a).bind fun t=>if t then some true else evT σ ρ b:=rfl
@[simp] theorem sy {op:Cop}:evT σ ρ (.cmp op a b)=(evV σ ρ a).bind fun va=>(evV σ ρ b).bind fun vb=>xg σ op va vb:=rfl
@[simp] theorem CG {x:Nat}:evT σ ρ (.loc x)=(ρ x).bind fun v=>rE σ v:=rfl
@[simp] theorem GJ {i:Int}:vInt (.int i)=some i:=rfl
@[simp] theorem GG {i j:Int}:cX .add (.int i) (.int j)=some (.int (i+j)):=rfl
@[simp] theorem GC {i j:Int}:cX .sub (.int i) (.int j)=some (.int (i-j)):=rfl
@[simp] theorem GD {i j:Int}:cX .mul (.int i) (.int j)=kf (i.natAbs<2^60∨j.natAbs<2^60) (.int (i*j)):=rfl
@[simp] theorem G0 {i j:Int}:cX .fdiv (.int i) (.int j)=kf (0<j∧j.natAbs<2^60) (.int (i/j)):=rfl
@[simp] theorem GF {i j:Int}:cX .mod (.int i) (.int j)=kf (0<j) (.int (i%j)):=rfl
@[simp] theorem zA {l:Addr}:rF σ .len [.lst l]=(σ.L l).map fun xs=>.int xs.length:=rfl
@[simp] theorem HS {i j:Int}:rF σ .min [.int i,.int j]=some (.int (min i j)):=rfl
@[simp] theorem HT {i j:Int}:rF σ .max [.int i,.int j]=some (.int (max i j)):=rfl
@[simp] theorem HN {i j:Int}:xg σ .lt (.int i) (.int j)=some (decide (i<j)):=rfl
@[simp] theorem HO {i j:Int}:xg σ .le (.int i) (.int j)=some (decide (i≤j)):=rfl
@[simp] theorem HP {i j:Int}:xg σ .gt (.int i) (.int j)=some (decide (j<i)):=rfl
@[simp] theorem HQ {i j:Int}:xg σ .ge (.int i) (.int j)=some (decide (j≤i)):=rfl
@[simp] theorem HR {i j:Int}:xg σ .eq (.int i) (.int j)=some (decide (i=j)):=rfl
end
section
variable {C:Cal} {σ:St} {ρ:Fr}
mutual
theorem gh:∀ (e:Ex) {v:V} {Q:V→St→Prop},evV σ ρ e=some v→Q v σ→wpE C e ρ σ Q
 | .none=>fun h q=>by cases (h:some _=some _);exact q
 | .bool b=>fun h q=>by cases (h:some _=some _);exact q
 | .int b=>fun h q=>by cases (h:some _=some _);exact q
 | .str b=>fun h q=>by cases (h:some _=some _);exact q
 | .loc x=>fun h q=>⟨_,h,q⟩
 | .bin op a b=>fun h q=>by
  obtain⟨va,e1,h⟩:=jx h
  obtain⟨vb,e2,h⟩:=dg.mp h
  exact gh a e1 (gh b e2 (oJ h q))
 | .neg a=>fun h q=>by
  obtain⟨va,e1,h⟩:=jx h
  refine gh a e1 ?_
  obtain⟨i,e2,rfl⟩:=omap h
  exact⟨i,nk e2,q⟩
 | .not a=>fun h q=>by
  obtain⟨va,e1,h⟩:=jx h
  obtain⟨b,e2,rfl⟩:=gc.mp h
  exact gh a e1 (eM _ e2 q)
 | .cmp op a b=>fun h q=>by
  obtain⟨va,e1,h⟩:=jx h
  obtain⟨vb,e2,h⟩:=dg.mp h
  obtain⟨r,e3,rfl⟩:=gc.mp h
  exact gh a e1 (gh b e2 (oI e3 q))
 | .ite c a b=>fun h q=>by
  obtain⟨t,e1,h⟩:=jx h
  refine qy c e1 ?_
  cases t with
  | true=>exact zu (gh a h q)
  | false=>exact uy (gh b h q)
 | .tup es=>fun h q=>by
  obtain⟨vs,e1,h⟩:=jx h
  obtain⟨c,h⟩:=ifO h
  cases h
  exact kr es e1 ⟨c,q⟩
 | .attr e x=>fun h q=>by
  obtain⟨va,e1,h⟩:=jx h
  refine gh e e1 ?_
  obtain⟨a,e0,h⟩:=jx h
  obtain⟨⟨d,f⟩,e2,h⟩:=jx h
  exact⟨a,d,f,_,sE e0,e2,h,q⟩
 | .sub e i=>fun h q=>by
  obtain⟨va,e1,h⟩:=jx h
  obtain⟨vb,e2,h⟩:=dg.mp h
  exact gh e e1 (gh i e2 (oH h q))
 | .bf k es=>fun h q=>by
  obtain⟨vs,e1,h⟩:=jx h
  exact kr es e1 (CH _ _ h q)
 | .and ..=>fun h q=>nO h
 | .or ..=>fun h q=>nO h
 | .lst ..=>fun h q=>nO h
 | .dct0=>fun h q=>nO h
 | .call ..=>fun h q=>nO h
 | .meth ..=>fun h q=>nO h
 | .dgetOf ..=>fun h q=>nO h
 | .shasOf ..=>fun h q=>nO h
 | .bm ..=>fun h q=>nO h
 | .callv ..=>fun h q=>nO h
 | .slc ..=>fun h q=>nO h
 | .comp ..=>fun h q=>nO h
 | .newM ..=>fun h q=>nO h
 | .newMatch ..=>fun h q=>nO h
 | .mkMatches ..=>fun h q=>nO h
 | .dead=>fun h q=>nO h
theorem kr:∀ (es:Exs) {vs:List V} {Q:List V→St→Prop},iR σ ρ es=some vs→Q vs σ→rz C es ρ σ Q
 | .nil,vs,Q,h,q=>by cases (h:some _=some vs);exact q
 | .cons e es,vs,Q,h,q=>by
  obtain⟨v,e1,h⟩:=jx h
  obtain⟨us,e2,rfl⟩:=gc.mp h
  exact gh e e1 (kr es e2 q)
theorem qy:∀ (e:Ex) {b:Bool} {Q:Bool→St→Prop},evT σ ρ e=some b→Q b σ→wpT C e ρ σ Q
 | .not a=>fun h q=>by
  obtain⟨b,e2,rfl⟩:=omap h
  exact qy a e2 q
 | .and a b=>fun h q=>by
  obtain⟨t,e1,h⟩:=jx h
  refine qy a e1 ?_
  cases t with
  | true=>exact zu (qy b h q)
  | false=>cases h;exact uy q
 | .or a b=>fun h q=>by
  obtain⟨t,e1,h⟩:=jx h
  refine qy a e1 ?_
  cases t with
  | true=>cases h;exact zu q
  | false=>exact uy (qy b h q)
 | .cmp op a b=>fun h q=>by
  obtain⟨va,e1,h⟩:=jx h
  obtain⟨vb,e2,h⟩:=dg.mp h
  exact gh a e1 (gh b e2 (oI h q))
 | .ite c a b=>fun h q=>by
  obtain⟨t,e1,h⟩:=jx h
  refine qy c e1 ?_
  cases t with
  | true=>exact zu (qy a h q)
  | false=>exact uy (qy b h q)
 | .loc x=>fun h q=>by
  obtain⟨u,e1,h⟩:=jx h
  exact⟨u,e1,eM _ h q⟩
 | .int i=>fun h q=>by cases (h:some _=some _);exact q
 | .bool i=>fun h q=>by cases (h:some _=some _);exact q
 | .attr e x=>fun h q=>by
  obtain⟨va,e1,h⟩:=jx h
  refine gh e e1 ?_
  obtain⟨a,e0,h⟩:=jx h
  obtain⟨⟨d,f⟩,e2,h⟩:=jx h
  obtain⟨u,e3,h⟩:=jx h
  exact⟨a,d,f,u,sE e0,e2,e3,eM _ h q⟩
 | .sub e i=>fun h q=>by
  obtain⟨va,e1,h⟩:=jx h
  obtain⟨vb,e2,h⟩:=dg.mp h
  obtain⟨u,e3,h⟩:=dg.mp h
  exact gh e e1 (gh i e2 (oH e3 (eM _ h q)))
 | .bin op a b=>fun h q=>by
  obtain⟨va,e1,h⟩:=jx h
  obtain⟨vb,e2,h⟩:=dg.mp h
  obtain⟨u,e3,h⟩:=dg.mp h
  exact gh a e1 (gh b e2 (oJ e3 (eM _ h q)))
 | .none=>fun h q=>nO h
 | .str ..=>fun h q=>nO h
 | .neg ..=>fun h q=>nO h
 | .tup ..=>fun h q=>nO h
 | .bf ..=>fun h q=>nO h
 | .lst ..=>fun h q=>nO h
 | .dct0=>fun h q=>nO h
 | .call ..=>fun h q=>nO h
 | .meth ..=>fun h q=>nO h
 | .dgetOf ..=>fun h q=>nO h
 | .shasOf ..=>fun h q=>nO h
 | .bm ..=>fun h q=>nO h
 | .callv ..=>fun h q=>nO h
 | .slc ..=>fun h q=>nO h
 | .comp ..=>fun h q=>nO h
 | .newM ..=>fun h q=>nO h
 | .newMatch ..=>fun h q=>nO h
 | .mkMatches ..=>fun h q=>nO h
 | .dead=>fun h q=>nO h
end
variable {K:Fl→Fr→St→Prop} {ss:ky}
theorem jB {x:Nat} {e:Ex} (v:V) (h:evV σ ρ e=some v) (k:eg C ss (upd ρ x v) σ K):eg C (.cons (.assign [.var x] e) ss) ρ σ K:=gh e h k
theorem d5 {xs:List Nat} {e:Ex} (vs:List V) (h:evV σ ρ e=some (.tup vs)) (l:xs.length=vs.length) (k:eg C ss (dk xs vs ρ) σ K):eg C (.cons (.assign [.tup xs] e) ss) ρ σ K :=
 gh e h ⟨vs,rfl,l,k⟩
theorem zY {x:Nat} {es:Exs} (vs:List V) (h:iR σ ρ es=some vs) (l:vs.length≤ax) (k:∀ c,σ.L c=none→eg C ss (upd ρ x (.lst c)) (σ.ct c vs) K):eg C (.cons (.assign [.var x] (.lst es)) ss) ρ σ K :=
 kr (Q:=fun vs σ=>vs.length≤ax∧∀ c,σ.L c=none→eg C ss (upd ρ x (.lst c)) (σ.ct c vs) K) es h ⟨l,k⟩
theorem s6 {c:Ex} {t e:ky} (b:Bool) (h:evT σ ρ c=some b) (k:if b then eg C t ρ σ (fun fl ρ σ=>match fl with | .next=>eg C ss ρ σ K | fl=>K fl ρ σ) else eg C e ρ σ (fun fl ρ σ=>match fl with | .next=>eg C ss ρ σ K | fl=>K fl ρ σ)):eg C (.cons (.cond c t e) ss) ρ σ K:=qy c h k
theorem eV {x:Nat} {e:Ex} {a:Addr} {xs:List V} (v:V) (hx:ρ x=some (.lst a)) (ha:σ.L a=some xs) (h:evV σ ρ e=some v) (l:xs.length<ax) (k:eg C ss ρ (σ.ct a (xs++[v])) K):eg C (.cons (.expr (.bm .append (.loc x) (.cons e .nil))) ss) ρ σ K:=by
 refine⟨_,hx,(show(σ.L a).isSome=true by rw [ha];rfl),?_⟩
 rw [te]
 refine gh e h ?_
 exact⟨xs,ha,l,rfl,k⟩
theorem u4 {e:Ex} (v:V) (h:evV σ ρ e=some v) (k:K (.ret v) ρ σ):eg C (.cons (.ret e) ss) ρ σ K:=gh (Q:=fun v σ=>K (.ret v) ρ σ) e h k
theorem gj (k:K .next ρ σ):eg C .nil ρ σ K:=k
theorem gA (k:eg C ss ρ σ K):eg C (.cons .pass ss) ρ σ K:=k
theorem gB {c:Ex} {t e:ky} (p:Prop) [Decidable p] (h:evT σ ρ c=some (decide p)) (k1:p→eg C t ρ σ (fun fl ρ σ=>match fl with | .next=>eg C ss ρ σ K | fl=>K fl ρ σ)) (k2:¬ p→eg C e ρ σ (fun fl ρ σ=>match fl with | .next=>eg C ss ρ σ K | fl=>K fl ρ σ)):eg C (.cons (.cond c t e) ss) ρ σ K:=by
 refine s6 _ h ?_
 by_cases q:p
 ·rw [fc q,bp rfl];exact k1 q
 ·rw [fe q,aw (by simp)];exact k2 q
end
end MP
end
section
namespace MP
namespace SM
open PySem
noncomputable abbrev T3:=Nat × Nat × Nat
noncomputable abbrev T4:=Nat × Nat × Nat × Nat
noncomputable def zT (t:T3):Int × Int × Int:=(t.1,t.2.1,t.2.2)
noncomputable def mV (t:T3):V:=mtV (zT t)
noncomputable def tV (t:T3):V:=.tup [.int t.1,.int t.2.1,.int t.2.2]
noncomputable def qV (r:T4):V:=.tup [.int r.1,.int r.2.1,.int r.2.2.1,.int r.2.2.2]
theorem GQ {L mb:List T3} (hp:L.Perm mb) (hs:L.Pairwise pk) (hk:∀ t∈L,0<t.2.2):((mb.map zT).mergeSort leT).map mtV=L.map mV:=by
 have e:(mb.map zT).mergeSort leT=L.map zT:=by
  refine List.Perm.eq_of_pairwise (le:=LeT) ?_ (cU _) ?_ ((List.mergeSort_perm _ _).trans (hp.symm.map zT))
  ·intro a b _ _ h1 h2
   unfold LeT at h1 h2
   obtain⟨a1,a2,a3⟩:=a
   obtain⟨b1,b2,b3⟩:=b
   simp only [mj] at *
   (exact⟨(h1.elim (fun q1=>(h2.elim (fun q2=>(cZ .K .i .aA .aX q1 q2)) fun q2=>(km .K .h .bT q2.1))) fun q1=>(km .K .g .K q1.1)),⟨(h1.elim (fun q1=>(h2.elim (fun q2=>(qq .K .f .bU .b5 q1 q2)) fun q2=>(qq .K .f .bU (.ie .D .C) q1 q2.1))) fun q1=>(h2.elim (fun q2=>(qq .K .f .b6 .b5 q1.1 q2)) fun q2=>(q1.2.elim (fun q3=>(q2.2.elim (fun q4=>(cZ .K .i .aA .aX q3 q4)) fun q4=>(km .K .h .bT q4.1))) fun q3=>(km .K .g .K q3.1)))),(h1.elim (fun q1=>(h2.elim (fun q2=>(qq .K .f .bU .b5 q1 q2)) fun q2=>(qq .K .f .bU (.ie .D .C) q1 q2.1))) fun q1=>(h2.elim (fun q2=>(qq .K .f .b6 .b5 q1.1 q2)) fun q2=>(q1.2.elim (fun q3=>(q2.2.elim (fun q4=>(qq .K .f .bU .b5 q3 q4)) fun q4=>(qq .K .f .bU (.ie .D .C) q3 q4.1))) fun q3=>(q2.2.elim (fun q4=>(qq .K .f .b6 .b5 q3.1 q4)) fun q4=>(cZ .K .i .cK (.ik .B .A) q3.2 q4.2)))))⟩⟩)
  ·rw [List.pairwise_map]
   refine List.Pairwise.imp_of_mem (fun {a b} ha hb h=>?_) hs
   have:=hk a ha
   unfold pk at h
   unfold LeT zT
   simp only
   (exact .inl (eh (.il .L .P) .b .aP .a5 h.1 this))
 rw [e,md]
 rfl
noncomputable def qw (q:List T4):Nat:=(q.map fun r=>2*(r.2.1-r.1)+1).sum
theorem hJ {q:List T4} {r:T4}:qw (q++[r])=qw q+(2*(r.2.1-r.1)+1):=by simp [qw]
theorem xY {q:List T4}:q.length≤qw q:=by
 induction q with
 | nil=>exact ah _
 | cons r q ih =>
  unfold qw at *
  simp only [bz,mq,List.sum_cons]
  (exact cv (.k .M (.a (.a .a7 .U) .C)) .a .I ih)
inductive n6 (F:Nat→Nat→Nat→Nat→T3→Prop):List T4→List (List T3)→Prop
 | nil:n6 F [] []
 | snoc {q:List T4} {Ls:List (List T3)} {r:T4} {L:List T3}:n6 F q Ls→nz F r.1 r.2.1 r.2.2.1 r.2.2.2 L→n6 F (q++[r]) (Ls++[L])
theorem n6.inv {F:Nat→Nat→Nat→Nat→T3→Prop} {q:List T4} {r:T4} {Ms:List (List T3)} (h:n6 F (q++[r]) Ms):∃ Ls L,Ms=Ls++[L]∧n6 F q Ls∧nz F r.1 r.2.1 r.2.2.1 r.2.2.2 L:=by
 generalize e:q++[r]=q' at h
 cases h with
 | nil=>exact absurd (bx List.length e) (by simp)
 | @snoc q2 Ls r2 L h1 h2 =>
  have:=List.append_inj' e rfl
  obtain⟨rfl,e2⟩:=this
  cases e2
  exact⟨Ls,L,rfl,h1,h2⟩
theorem GL {r:T4} {σ:St}:AB (qV r) σ=some [.int r.1,.int r.2.1,.int r.2.2.1,.int r.2.2.2]:=rfl
theorem w9 {t:T3} {σ:St}:AB (mV t) σ=some [.int t.1,.int t.2.1,.int t.2.2]:=rfl
noncomputable def nv (p:Prop) [Decidable p] (q:List T4) (r:T4):List T4:=if p then q++[r] else q
theorem tg {σ:St} {a:Addr} {xs:List V} (h:σ.L a=some xs):σ.ct a xs=σ:=by
 have:upd σ.L a xs=σ.L:=by
  funext z
  by_cases e:z=a
  ·rw [e,bc,h]
  ·exact cj e
 unfold St.ct
 rw [this]
section
variable {σ:St} {ρ:Fr} {a b c e:Ex} {m n k l:Nat}
theorem uc (ha:evV σ ρ a=some (.int m)) (hb:evV σ ρ b=some (.int n)):evT σ ρ (.cmp .lt a b)=some (decide (m<n)):=by
 rw [sy,ha,hb]
 exact bx some (nh.mpr Int.ofNat_lt)
theorem iS (ha:evV σ ρ a=some (.int m)) (hb:evV σ ρ b=some (.int n)):evT σ ρ (.cmp .eq a b)=some (decide (m=n)):=by
 rw [sy,ha,hb]
 exact bx some (nh.mpr Int.ofNat_inj)
theorem ir (ha:evV σ ρ a=some (.int m)) (hb:evV σ ρ b=some (.int n)):evV σ ρ (.bin .add a b)=some (.int (m+n:Nat)):=by
 rw [eL,ha,hb];rfl
theorem eN {p q:Prop} [Decidable p] [Decidable q] (ha:evT σ ρ a=some (decide p)) (hb:evT σ ρ b=some (decide q)):evT σ ρ (.and a b)=some (decide (p∧q)):=by
 rw [zk,ha]
 by_cases h:p
 ·rw [fc h]
  exact hb.trans (bx some (nh.mpr ⟨fun x=>⟨h,x⟩,fun x=>x.2⟩))
 ·rw [fe h]
  exact bx some (fe fun x=>h x.1).symm
theorem fS {x:Nat} (h:ρ x=some (.int k)):evT σ ρ (.loc x)=some (decide (k≠0)):=by
 rw [CG,h]
 cases k<;>rfl
theorem ev3 (ha:evV σ ρ a=some (.int m)) (hb:evV σ ρ b=some (.int n)) (hc:evV σ ρ c=some (.int k)):evV σ ρ (.tup (.cons a (.cons b (.cons c .nil))))=some (tV (m,n,k)):=by
 rw [uq,cg,ha,cg,hb,cg,hc];rfl
theorem ev4 (ha:evV σ ρ a=some (.int m)) (hb:evV σ ρ b=some (.int n)) (hc:evV σ ρ c=some (.int k)) (he:evV σ ρ e=some (.int l)):evV σ ρ (.tup (.cons a (.cons b (.cons c (.cons e .nil)))))=some (qV (m,n,k,l)):=by
 rw [uq,cg,ha,cg,hb,cg,hc,cg,he];rfl
variable {C:Cal} {K:Fl→Fr→St→Prop} {ss:ky}
theorem push {ql:Addr} {q:List T4} {p:Prop} [Decidable p] (r:T4) (h3:ρ 3=some (.lst ql)) (hq:σ.L ql=some (q.map qV)) (hl:q.length<ax) (hT:evT σ ρ c=some (decide p)) (hE:evV σ ρ e=some (qV r)) (h:eg C ss ρ (σ.ct ql ((nv p q r).map qV)) K) :
  eg C (.cons (.cond c (.cons (.expr (.bm .append (.loc 3) (.cons e .nil))) .nil) .nil) ss) ρ σ K:=by
 unfold nv at h
 refine gB p hT (fun y=>?_) fun y=>?_
 ·rw [bp y,fb] at h
  exact eV (qV r) h3 hq hE (by rw [az];exact hl) (gj h)
 ·rw [aw y,tg hq] at h
  exact gj h
end
noncomputable def In4 (as bs:List Key) (r:T4):Prop:=r.1≤r.2.1∧r.2.2.1≤r.2.2.2∧r.2.1≤as.length∧r.2.2.2≤bs.length
section
variable {as bs:List Key} {F:Nat→Nat→Nat→Nat→T3→Prop} {q:List T4} {r:T4} {mb:List T3} {p:Prop} [Decidable p]
theorem tF (h:∀ u∈q,In4 as bs u) (h':p→In4 as bs r):∀ u∈nv p q r,In4 as bs u:=by
 unfold nv
 split
 ·rename_i c
  intro u hu
  rcases dz.mp hu with hu | hu
  ·exact h u hu
  ·rw [au.mp hu];exact h' c
 ·exact h
theorem lT:qw (nv p q r)≤qw q+(2*(r.2.1-r.1)+1):=by
 unfold nv
 split
 ·rw [hJ];exact ah _
 ·exact kq _ _
theorem kJ {Ls:List (List T3)} (o:n6 F (nv p q r) Ls):∃ Ls' R,n6 F q Ls'∧Ls.flatten=Ls'.flatten++R∧(p→nz F r.1 r.2.1 r.2.2.1 r.2.2.2 R)∧(¬ p→R=[]):=by
 unfold nv at o
 split at o
 ·rename_i c
  obtain⟨Ls5,R,rfl,o5,bR⟩:=o.inv
  exact⟨Ls5,R,o5,by rw [xk,uh,vi,dp],fun _=>bR,fun q=>absurd c q⟩
 ·rename_i c
  exact⟨Ls,[],o,(dp _).symm,fun c1=>absurd c1 c,fun _=>rfl⟩
noncomputable def gW (F:Nat→Nat→Nat→Nat→T3→Prop) (na nb:Nat) (q:List T4) (mb:List T3):Prop:=∀ Ls,n6 F q Ls→∃ L,nz F 0 na 0 nb L∧L.Perm (mb++Ls.flatten)
variable {na nb alo ahi blo bhi i j k:Nat}
theorem gW.drop (h:gW F na nb (q++[(alo,ahi,blo,bhi)]) mb) (hf:F alo ahi blo bhi (i,j,0)):gW F na nb q mb:=fun Ls o=>by
 obtain⟨L,b,p⟩:=h _ (.snoc o (.nil hf))
 exact⟨L,b,by rwa [xk,uh,vi,dp,dp] at p⟩
theorem gW.part (h:gW F na nb (q++[(alo,ahi,blo,bhi)]) mb) (hf:F alo ahi blo bhi (i,j,k)) (hk:0<k) :
  gW F na nb (nv (i+k<ahi∧j+k<bhi) (nv (alo<i∧blo<j) q (alo,i,blo,j)) (i+k,ahi,j+k,bhi)) (mb++[(i,j,k)]):=fun Ls o=>by
 obtain⟨Ls5,R,o5,e5,bR,bR0⟩:=kJ o
 obtain⟨Ls4,L,o4,e4,bL,bL0⟩:=kJ o5
 obtain⟨M,bM,pM⟩:=h _ (.snoc o4 (.node hf hk (fun a b=>bL ⟨a,b⟩) bL0 (fun a b=>bR ⟨a,b⟩) bR0))
 refine⟨M,bM,pM.trans ?_⟩
 rw [e5,e4,xk,uh,vi,dp,ix]
 refine List.Perm.append_left _ ?_
 rw [← ix,ix Ls4.flatten,← ix Ls4.flatten]
 exact List.perm_middle
theorem gW.start:gW F na nb [(0,na,0,nb)] []:=fun Ls o=>by
 obtain⟨Ls',L,rfl,o',b⟩:=o.inv (q:=[])
 have e:Ls'=[]:=by
  generalize e:([]:List T4)=q at o'
  cases o' with
  | nil=>rfl
  | snoc _ _=>exact absurd (bx List.length e) (by simp)
 subst e
 exact⟨L,b,by simp⟩
end
structure QN (σ:St) (ql ml:Addr):Prop where
 ne:ql≠ml
 q:σ.L ql=none
 m:σ.L ml=none
structure QS (σ σ':St) (ql ml:Addr) (q:List T4) (mb:List T3):Prop where
 kp:Kp σ σ'
 q:σ'.L ql=some (q.map qV)
 m:σ'.L ml=some (mb.map mV)
section
variable {σ σ':St} {ql ml:Addr} {q:List T4} {mb:List T3}
theorem QS.GR (N:QN σ ql ml) (S:QS σ σ' ql ml q mb) (q':List T4):QS σ (σ'.ct ql (q'.map qV)) ql ml q' mb:=⟨S.kp.ct N.q,bc _ _ _,(cj (pn N.ne)).trans S.m⟩
theorem QS.setM (N:QN σ ql ml) (S:QS σ σ' ql ml q mb) (mb':List T3):QS σ (σ'.ct ml (mb'.map mV)) ql ml q mb':=⟨S.kp.ct N.m,(cj N.ne).trans S.q,bc _ _ _⟩
theorem QS.kept {σ2:St} (S:QS σ σ' ql ml q mb) (k:Kp σ' σ2):QS σ σ2 ql ml q mb:=⟨S.kp.trans k,k.L _ _ S.q,k.L _ _ S.m⟩
end
structure R6 (ρ:Fr) (x:Addr) (ql ml:Addr) (na nb:Nat):Prop where
 r0:ρ 0=some (.obj x)
 r1:ρ 1=some (.int na)
 r2:ρ 2=some (.int nb)
 r3:ρ 3=some (.lst ql)
 r4:ρ 4=some (.lst ml)
inductive D7 (σ:St) (x ql ml:Addr) (as bs:List Key) (F:Nat→Nat→Nat→Nat→T3→Prop) (w:Nat) (ρ:Fr) (σ':St):Prop
 | mk (q:List T4) (mb:List T3):R6 ρ x ql ml as.length bs.length→w=qw q→QS σ σ' ql ml q mb→qw q+mb.length≤2*as.length+1→(∀ r∈q,In4 as bs r)→gW F as.length bs.length q mb→D7 σ x ql ml as bs F w ρ σ'
theorem BI {w6 w5 w0 i alo ahi k:Nat} (h2:w5≤w0+(2*(i-alo)+1)) (h3:w6≤w5+(2*(ahi-(i+k))+1)) (a:alo≤i) (b:i+k≤ahi) (hk:0<k):w6<w0+(2*(ahi-alo)+1):=by(exact J8 (.l .A (.a .B .aL)) [[1,1,1,2,2,2,-2]] (.k .D (.a .B (.a (.m 2 .F) .U))) (.k .A (.a .D (.a (.m 2 .G) .U))) (.l .O .H) (.e (.a .F .I) .J) (.e (.a .G (.a .J .H)) .K) (.e (.a .C .I) .K) h2 h3 hk (aa (av .A .a .A a)) (aa (cv .G .a .G b)) (aa (dn .A .b .I .bY a b)))
theorem yX {C:Cal} {σ σ':St} {x ql ml:Addr} {as bs:List Key} {F:Nat→Nat→Nat→Nat→T3→Prop} {q:List T4} {mb:List T3} {ρ:Fr} {K:Fl→Fr→St→Prop} {alo ahi blo bhi i j k:Nat} (hsa:as.length<400000) (N:QN σ ql ml) (H:R6 ρ x ql ml as.length bs.length) (S:QS σ σ' ql ml q mb)
  (r5:ρ 5=some (.int alo)) (r6:ρ 6=some (.int ahi)) (r7:ρ 7=some (.int blo)) (r8:ρ 8=some (.int bhi)) (r9:ρ 9=some (.int i)) (r10:ρ 10=some (.int j)) (r11:ρ 11=some (.int k)) (r12:ρ 12=some (mV (i,j,k)))
  (W:Within alo ahi blo bhi (i,j,k)) (hr:In4 as bs (alo,ahi,blo,bhi)) (hin:∀ r∈q,In4 as bs r) (hw:qw (q++[(alo,ahi,blo,bhi)])+mb.length≤2*as.length+1) (hk:0<k) (hf:F alo ahi blo bhi (i,j,k)) (hown:gW F as.length bs.length (q++[(alo,ahi,blo,bhi)]) mb)
  (h:∀ w σ2,w<qw (q++[(alo,ahi,blo,bhi)])→D7 σ x ql ml as bs F w ρ σ2→K .next ρ σ2) :
  eg C (.cons (.expr (.bm .append (.loc 4) (.cons (.loc 12) .nil)))
   (.cons (.cond (.and (.cmp .lt (.loc 5) (.loc 9)) (.cmp .lt (.loc 7) (.loc 10))) (.cons (.expr (.bm .append (.loc 3) (.cons (.tup (.cons (.loc 5) (.cons (.loc 9) (.cons (.loc 7) (.cons (.loc 10) .nil))))) .nil))) .nil) .nil)
   (.cons (.cond (.and (.cmp .lt (.bin .add (.loc 9) (.loc 11)) (.loc 6)) (.cmp .lt (.bin .add (.loc 10) (.loc 11)) (.loc 8))) (.cons (.expr (.bm .append (.loc 3) (.cons (.tup (.cons (.bin .add (.loc 9) (.loc 11)) (.cons (.loc 6) (.cons (.bin .add (.loc 10) (.loc 11)) (.cons (.loc 8) .nil))))) .nil))) .nil) .nil) .nil))) ρ σ' K:=by
 have W:alo≤i∧i+k≤ahi∧blo≤j∧j+k≤bhi:=W
 have hr:alo≤ahi∧blo≤bhi∧ahi≤as.length∧bhi≤bs.length:=hr
 rw [hJ] at hw h
 have hw:qw q+(2*(ahi-alo)+1)+mb.length≤2*as.length+1:=hw
 have h1:=xY (q:=q)
 have lt:=BI (lT (p:=alo<i∧blo<j) (q:=q) (r:=(alo,i,blo,j))) (lT (p:=i+k<ahi∧j+k<bhi) (q:=nv (alo<i∧blo<j) q (alo,i,blo,j)) (r:=(i+k,ahi,j+k,bhi))) W.1 W.2.1 hk
 have h2:qw (nv (alo<i∧blo<j) q (alo,i,blo,j))≤qw q+(2*(i-alo)+1):=lT
 have h4:=xY (q:=nv (alo<i∧blo<j) q (alo,i,blo,j))
 refine eV (mV (i,j,k)) H.r4 S.m r12 (by rw [az];unfold ax;(rename_i z1;exact dn .aH [[1,2,1]] .aU (.k (.a (.a .C (.a .aM .U)) .A) (.a .a7 .U)) hsa z1)) ?_
 have S1:=S.setM N (mb++[(i,j,k)])
 rw [fb] at S1
 refine push (p:=alo<i∧blo<j) (alo,i,blo,j) H.r3 S1.q (by unfold ax;(rename_i z1;exact jt .aH [[1,2,1,1]] .aU (.k (.a (.a .C (.a .aM .U)) .F) (.a .a7 .U)) .I hsa z1 h1)) (eN (uc r5 r9) (uc r7 r10)) (ev4 r5 r9 r7 r10) ?_
 have S2:=S1.GR N (nv (alo<i∧blo<j) q (alo,i,blo,j))
 refine push (p:=i+k<ahi∧j+k<bhi) (i+k,ahi,j+k,bhi) H.r3 S2.q (by unfold ax;(rename_i z1;exact J5 .aH [[1,2,1,2,1,1,-2,2]] .aU (.k (.a (.a .C (.a .aM .U)) .F) (.a .a7 .U)) (.k (.a .G .H) .I) (.k .J (.a .C (.a (.m 2 .K) .U))) (.k .A .J) (.e (.a .D (.v 10)) .I) (.e (.a .K (.v 10)) .G) hsa z1 W.2.1 h2 h4 (aa (dn .A .b .I .bY W.1 W.2.1)) (aa (av .A .a .A W.1)))) (eN (uc (ir r9 r11) r6) (uc (ir r10 r11) r8)) (ev4 (ir r9 r11) r6 (ir r10 r11) r8) ?_
 have S3:=S2.GR N (nv (i+k<ahi∧j+k<bhi) (nv (alo<i∧blo<j) q (alo,i,blo,j)) (i+k,ahi,j+k,bhi))
 refine h _ _ lt ⟨_,mb++[(i,j,k)],H,rfl,S3,?_,?_,hown.part hf hk⟩
 ·rw [bg,du];(rename_i z1;exact tc (.k .a2 .aL) .b (.k (.a (.a .D (.a (.m 2 .F) .U)) .B) .aL) (.l .A (.a .D (.a (.m 2 .F) .U))) z1 lt)
 ·exact tF (tF hin fun c=>⟨xt c.1,xt c.2,by show i≤as.length;(exact dn .A .b (.k .Z .D) .bB W.2.1 hr.2.2.1),by show j≤bs.length;(exact dn .A .b (.k .Z .D) .bB W.2.2.2 hr.2.2.2)⟩) fun c=>⟨xt c.1,xt c.2,hr.2.2.1,hr.2.2.2⟩
theorem yW {P:Nat→Option Fn} (hP5:P 5=some fn5) {n:Nat} {σ σ':St} {x la lb db sj ql ml:Addr} {as bs:List Key} {rm:Key→Bool} {js:List Key} {q:List T4} {r:T4} {mb:List T3} {ρ:Fr} {again:Fr→St→Prop} {K:Fl→Fr→St→Prop}
  (hM:MAt σ x la lb db sj as bs rm js) (ha:∀ k∈as,ru k) (hb:∀ k∈bs,ru k) (hs:bs.length<400000) (hsa:as.length<400000) (N:QN σ ql ml) (H:R6 ρ x ql ml as.length bs.length) (S:QS σ σ' ql ml (q++[r]) mb) (hw:qw (q++[r])+mb.length≤2*as.length+1) (hin:∀ u∈q++[r],In4 as bs u)
  (hown:gW (Flm as bs rm fun c=>decide (c∈js)) as.length bs.length (q++[r]) mb) (hag:∀ w ρ' σ2,w<qw (q++[r])→D7 σ x ql ml as bs (Flm as bs rm fun c=>decide (c∈js)) w ρ' σ2→again ρ' σ2) :
  eg (gu P (n+1)) (.cons (.assign [(.tup [5,6,7,8])] (.bm .pop (.loc 3) .nil))
   (.cons (.assign [(.tup [9,10,11]),(.var 12)] (.meth (.loc 0) 5 (.cons (.loc 5) (.cons (.loc 6) (.cons (.loc 7) (.cons (.loc 8) .nil))))))
   (.cons (.cond (.loc 11) (.cons (.expr (.bm .append (.loc 4) (.cons (.loc 12) .nil)))
    (.cons (.cond (.and (.cmp .lt (.loc 5) (.loc 9)) (.cmp .lt (.loc 7) (.loc 10))) (.cons (.expr (.bm .append (.loc 3) (.cons (.tup (.cons (.loc 5) (.cons (.loc 9) (.cons (.loc 7) (.cons (.loc 10) .nil))))) .nil))) .nil) .nil)
    (.cons (.cond (.and (.cmp .lt (.bin .add (.loc 9) (.loc 11)) (.loc 6)) (.cmp .lt (.bin .add (.loc 10) (.loc 11)) (.loc 8))) (.cons (.expr (.bm .append (.loc 3) (.cons (.tup (.cons (.bin .add (.loc 9) (.loc 11)) (.cons (.loc 6) (.cons (.bin .add (.loc 10) (.loc 11)) (.cons (.loc 8) .nil))))) .nil))) .nil) .nil) .nil))) .nil) .nil))) ρ σ' (ph again K):=by
 obtain⟨alo,ahi,blo,bhi⟩:=r
 have hq:=S.q
 rw [fb] at hq
 refine⟨_,H.r3,(by show(σ'.L ql).isSome=true;rw [hq];rfl),q.map qV,qV (alo,ahi,blo,bhi),hq,_,GL,rfl,?_⟩
 have hr:alo≤ahi∧blo≤bhi∧ahi≤as.length∧bhi≤bs.length:=hin (alo,ahi,blo,bhi) (gq _ (.head _))
 have hin':∀ u∈q,In4 as bs u:=fun u hu=>hin u (gz _ hu)
 have S0:QS σ (σ'.ct ql (q.map qV)) ql ml q mb:=⟨S.kp.ct N.q,bc _ _ _,(cj (pn N.ne)).trans S.m⟩
 obtain⟨d,f,hI,_⟩:=hM.I
 refine⟨_,H.r0,x,rfl,(by show(σ'.I x).isSome=true;rw [S.kp.I,hI];rfl),_,rfl,_,rfl,_,rfl,_,rfl,?_⟩
 refine flm hP5 (hM.keep S0.kp) ha hb (by unfold ax;(exact dh .aH .a .a0 hs)) (by unfold ax;(exact dh .aH .a .a0 hsa)) (.inl rfl) (.inl rfl) hr.1 hr.2.1 hr.2.2.1 hr.2.2.2 fun σ2 i0 j0 k0 k2 best=>?_
 have hf:Flm as bs rm (fun c=>decide (c∈js)) alo ahi blo bhi (grow as bs (fun c=>decide (c∈js)) alo ahi blo bhi i0 j0 k0):=⟨_,_,_,best,rfl⟩
 have S2:=S0.kept k2
 generalize grow as bs (fun c=>decide (c∈js)) alo ahi blo bhi i0 j0 k0=t at hf
 obtain⟨i,j,k⟩:=t
 refine⟨_,w9 (t:=(i,j,k)),rfl,?_⟩
 refine gB (k≠0) (fS rfl) (fun c=>?_) fun c=>?_
 ·exact yX hsa N ⟨H.r0,H.r1,H.r2,H.r3,H.r4⟩ S2 rfl rfl rfl rfl rfl rfl rfl rfl hf.within hr hin' hw (Nat.pos_of_ne_zero c) hf hown fun w σ3 lt Q=>hag w _ σ3 lt Q
 ·obtain rfl:=dA.mp c
  have hw1:qw q+(2*(ahi-alo)+1)+mb.length≤2*as.length+1:=by rw [hJ] at hw;exact hw
  refine gj (hag (qw q) _ _ (by rw [hJ];(exact vv (.l .A (.a .A (.a .a7 .U))) .j)) ⟨q,mb,⟨H.r0,H.r1,H.r2,H.r3,H.r4⟩,rfl,S2,by exact gV (.k .P .aL) .a (.k (.a (.a .A (.a .aM .U)) .B) .aL) hw1,hin',hown.drop hf⟩)
structure R7 (ρ:Fr) (x nl:Addr) (na nb:Nat):Prop where
 r0:ρ 0=some (.obj x)
 r1:ρ 1=some (.int na)
 r2:ρ 2=some (.int nb)
 r16:ρ 16=some (.lst nl)
inductive D9 (σ1:St) (x nl:Addr) (na nb:Nat) (L:List T3) (t:Nat) (ρ:Fr) (σ2:St):Prop
 | mk (i j k:Nat) (acc:List T3):R7 ρ x nl na nb→Kp σ1 σ2→ρ 13=some (.int i)→ρ 14=some (.int j)→ρ 15=some (.int k)→σ2.L nl=some (acc.map tV)→acc.length≤t→acc++mrg i j k (L.drop t)=mrg 0 0 0 L→D9 σ1 x nl na nb L t ρ σ2
theorem t4 {C:Cal} {σ2:St} {ρ:Fr} {K:Fl→Fr→St→Prop} {ss:ky} {nl:Addr} {acc:List T3} {i j k:Nat} (r16:ρ 16=some (.lst nl)) (r13:ρ 13=some (.int i)) (r14:ρ 14=some (.int j)) (r15:ρ 15=some (.int k)) (hacc:σ2.L nl=some (acc.map tV)) (hl:acc.length<ax)
  (h:eg C ss ρ (σ2.ct nl ((acc++if k=0 then [] else [(i,j,k)]).map tV)) K) :
  eg C (.cons (.cond (.loc 15) (.cons (.expr (.bm .append (.loc 16) (.cons (.tup (.cons (.loc 13) (.cons (.loc 14) (.cons (.loc 15) .nil)))) .nil))) .nil) .nil) ss) ρ σ2 K:=by
 refine gB (k≠0) (fS r15) (fun c=>?_) fun c=>?_
 ·rw [aw c,fb] at h
  exact eV (tV (i,j,k)) r16 hacc (ev3 r13 r14 r15) (by rw [az];exact hl) (gj h)
 ·rw [bp (dA.mp c),dp,tg hacc] at h
  exact gj h
theorem yF {C:Cal} {σ1 σ2:St} {x nl:Addr} {na nb t:Nat} {L:List T3} {ρ:Fr} {K:Fl→Fr→St→Prop} {again:Fr→St→Prop} (hn:σ1.L nl=none) (hL:L.length<64) (ht:t<L.length) (I:D9 σ1 x nl na nb L t ρ σ2) (hag:∀ ρ' σ',D9 σ1 x nl na nb L (t+1) ρ' σ'→again ρ' σ') :
  eg C (.cons (.cond (.and (.cmp .eq (.bin .add (.loc 13) (.loc 15)) (.loc 17)) (.cmp .eq (.bin .add (.loc 14) (.loc 15)) (.loc 18))) (.cons (.aug 15 .add (.loc 19)) .nil)
   (.cons (.cond (.loc 15) (.cons (.expr (.bm .append (.loc 16) (.cons (.tup (.cons (.loc 13) (.cons (.loc 14) (.cons (.loc 15) .nil)))) .nil))) .nil) .nil)
   (.cons (.assign [.tup [13,14,15]] (.tup (.cons (.loc 17) (.cons (.loc 18) (.cons (.loc 19) .nil))))) .nil))) .nil) (dk [17,18,19] [.int L[t].1,.int L[t].2.1,.int L[t].2.2] ρ) σ2 (ph again K):=by
 obtain⟨i,j,k,acc,H,kp,r13,r14,r15,hacc,hal,hm⟩:=I
 rw [dj ht] at hm
 generalize L[t]=u at *
 obtain⟨i2,j2,k2⟩:=u
 have hm:acc++(if i+k=i2∧j+k=j2 then mrg i j (k+k2) (L.drop (t+1)) else if k=0 then mrg i2 j2 k2 (L.drop (t+1)) else (i,j,k)::mrg i2 j2 k2 (L.drop (t+1)))=mrg 0 0 0 L:=hm
 refine gB (i+k=i2∧j+k=j2) (eN (iS (ir r13 r15) rfl) (iS (ir r14 r15) rfl)) (fun c=>?_) fun c=>?_
 ·rw [bp c] at hm
  exact⟨_,r15,_,rfl,hag _ _ ⟨i,j,k+k2,acc,⟨H.r0,H.r1,H.r2,H.r16⟩,kp,r13,r14,rfl,hacc,ug hal,hm⟩⟩
 ·rw [aw c] at hm
  refine t4 H.r16 r13 r14 r15 hacc (by unfold ax;(exact kc .aH .d .aD .U .I hL ht hal)) ?_
  refine d5 [.int i2,.int j2,.int k2] rfl rfl (gj (gj (hag _ _ ⟨i2,j2,k2,acc++(if k=0 then [] else [(i,j,k)]),⟨H.r0,H.r1,H.r2,H.r16⟩,kp.ct hn,rfl,rfl,rfl,bc _ _ _,?_,?_⟩)))
  ·rw [bg]
   by_cases c0:k=0
   ·rw [bp c0];show acc.length+0≤_;(exact av (.k .aQ .L) .a .A hal)
   ·rw [aw c0];show acc.length+1≤_;(exact av .aI .a .A hal)
  ·rw [← hm]
   by_cases c0:k=0
   ·rw [bp c0,bp c0,dp]
   ·rw [aw c0,aw c0,ix];rfl
theorem CB {C:Cal} {σ σ3:St} {x d nl:Addr} {f:Nat→Option V} {na nb:Nat} {acc:List T3} {ρ:Fr} {Q:V→St→Prop} (hI:σ.I x=some (d,f)) (kp:Kp σ σ3) (H:R7 ρ x nl na nb) (hn:σ.L nl=none) (hl:acc.length<ax) (hacc:σ3.L nl=some (acc.map tV))
  (h:∀ c σ',Kp σ σ'→σ.L c=none→σ'.L c=some ((acc++[(na,nb,0)]).map mV)→Q (.lst c) (σ'.fj x d (upd f 4 (.lst c)))) :
  eg C (.cons (.expr (.bm .append (.loc 16) (.cons (.tup (.cons (.loc 1) (.cons (.loc 2) (.cons (.int 0) .nil)))) .nil)))
   (.cons (.assign [(.attr (.loc 0) 4)] (.mkMatches (.loc 16))) (.cons (.ret (.attr (.loc 0) 4)) .nil))) ρ σ3 (qE Q):=by
 refine eV (tV (na,nb,0)) H.r16 hacc (ev3 H.r1 H.r2 rfl) (by rw [az];exact hl) ?_
 rw [show acc.map tV++[tV (na,nb,0)]=(acc++[(na,nb,0)]).map tV from by rw [fb];rfl]
 refine⟨_,H.r16,nl,(acc++[(na,nb,0)]).map fun t:T3=>[V.int t.1,V.int t.2.1,V.int t.2.2],rfl,(by rw [md];exact bc _ _ _),(by intro t ht;obtain⟨u,_,rfl⟩:=ee.mp ht;rfl),fun c hc=>?_⟩
 have hcn:c≠nl:=fun q=>by
  rw [q] at hc
  have:upd σ3.L nl _ nl=none:=hc
  rw [bc] at this;cases this
 have hc0:σ.L c=none:=by
  have:upd σ3.L nl _ c=none:=hc
  rw [cj hcn] at this
  exact kp.noL this
 rw [md]
 have k4:Kp σ ((σ3.ct nl ((acc++[(na,nb,0)]).map tV)).ct c ((acc++[(na,nb,0)]).map mV)):=(kp.ct hn).ct hc0
 have hI4:((σ3.ct nl ((acc++[(na,nb,0)]).map tV)).ct c ((acc++[(na,nb,0)]).map mV)).I x=some (d,f):=(iz k4.I x).trans hI
 exact⟨_,H.r0,x,d,f,rfl,hI4,_,H.r0,x,d,upd f 4 (.lst c),_,rfl,bc _ _ _,bc _ _ _,h c _ k4 hc0 (bc _ _ _)⟩
theorem gmb {P:Nat→Option Fn} (hP:P 6=some fn6) (hP5:P 5=some fn5) {n:Nat} {σ:St} {x la lb db sj d:Addr} {f:Nat→Option V} {as bs:List Key} {rm:Key→Bool} {js:List Key} {Q:V→St→Prop}
  (hM:MAt σ x la lb db sj as bs rm js) (hI:σ.I x=some (d,f)) (f4:f 4=some .none) (ha:∀ k∈as,ru k) (hb:∀ k∈bs,ru k) (hs:bs.length<400000) (hsa:as.length<400000)
  (hsz:∀ L,nz (Flm as bs rm fun c=>decide (c∈js)) 0 as.length 0 bs.length L→L.length<64)
  (h:∀ σ' c L,Kp σ σ'→nz (Flm as bs rm fun c=>decide (c∈js)) 0 as.length 0 bs.length L→σ.L c=none→σ'.L c=some ((mrg 0 0 0 L++[(as.length,bs.length,0)]).map mV)→Q (.lst c) (σ'.fj x d (upd f 4 (.lst c)))):gu P (n+2) 6 [.obj x] σ Q:=by
 refine⟨fn6,hP,ah 1,ah 1,?_⟩
 obtain⟨d',f',hI',f1,f2,f7,f8⟩:=hM.I
 obtain⟨rfl,rfl⟩:d=d'∧f=f':=by rw [hI] at hI';cases hI';exact⟨rfl,rfl⟩
 have h0:frameOf fn6 [.obj x] 0=some (.obj x):=rfl
 generalize frameOf fn6 [.obj x]=ρ at h0
 refine⟨.obj x,h0,x,d,f,.none,rfl,hI,f4,?_⟩
 refine⟨_,h0,x,d,f,_,rfl,hI,f1,_,hM.La,_,h0,x,d,f,_,rfl,hI,f2,_,hM.Lb,cp rfl,?_⟩
 refine⟨_,rfl,rfl,?_⟩
 rw [az,az]
 refine⟨_,rfl,_,rfl,cp rfl,cp rfl,fun ql hql=>?_⟩
 refine⟨cp rfl,fun ml hml=>?_⟩
 have hne:ql≠ml:=fun q=>by
  rw [← q] at hml
  have:upd σ.L ql _ ql=none:=hml
  rw [bc] at this;cases this
 have N:QN σ ql ml:=⟨hne,hql,(cj (pn hne)).symm.trans hml⟩
 refine⟨2*as.length+2,ti (D7 σ x ql ml as bs (Flm as bs rm fun c=>decide (c∈js))) ?_ (2*as.length+2) (2*as.length+1) (fB _) ?_⟩
 ·rintro w ρ' σ' ⟨q,mb,H,rfl,S,hw,hin,hown⟩ again hag
  refine⟨_,H.r3,_,S.q,?_⟩
  rcases gY q with rfl | ⟨q,r,rfl⟩
  ·refine uy ?_
   obtain⟨L,bL,pL⟩:=hown [] .nil
   rw [vi,dp] at pL
   have hok:=bL.ok fun _ _ _ _ _ h=>h.within
   have hlen:=hsz L bL
   refine⟨_,H.r4,(by show(σ'.L ml).isSome=true;rw [S.m];rfl),mb.map zT,(by rw [S.m,md];rfl),(by rw [az,← pL.length_eq];exact hlen),rfl,?_⟩
   rw [GQ pL hok.2 fun t ht=>(hok.1 t ht).2]
   have S1:=S.setM N L
   generalize (σ'.ct ml (L.map mV))=σ1 at S1
   refine⟨cp rfl,fun nl hnl=>?_⟩
   have hnm:ml≠nl:=fun q=>by rw [← q,S1.m] at hnl;cases hnl
   refine⟨_,H.r4,L.map mV,(cj hnm).trans S1.m,?_⟩
   refine oo (D9 σ1 x nl as.length bs.length L) ?_ ?_ ⟨0,0,0,[],⟨H.r0,H.r1,H.r2,rfl⟩,(Kp.refl _).ct hnl,rfl,rfl,rfl,bc _ _ _,ah _,rfl⟩
   ·intro t v ρ2 σ2 hv I
    have ht:t<L.length:=(az (f:=mV) (as:=L))▸(ay.mp hv).1
    rw [bw,bq ht] at hv
    obtain rfl:=af hv
    have I':=I
    obtain⟨_,_,_,_,_,kp,_⟩:=I'
    exact⟨kp.L _ _ S1.m,fun kk hk2=>⟨_,w9,rfl,yF hnl hlen ht I hk2⟩⟩
   ·rintro ρ2 σ2 ⟨i,j,k,acc,H2,kp,r13,r14,r15,hacc,hal,hm⟩
    rw [az] at hm hal
    rw [List.drop_length] at hm
    refine⟨kp.L _ _ S1.m,?_⟩
    have hn0:=S1.kp.noL hnl
    refine t4 H2.r16 r13 r14 r15 hacc (by unfold ax;(exact dq .aH .b .aD .A hlen hal)) ?_
    have hm:acc++(if k=0 then [] else [(i,j,k)])=mrg 0 0 0 L:=hm
    have hl:(mrg 0 0 0 L).length<ax:=by
     rw [← hm,bg]
     by_cases c0:k=0
     ·rw [bp c0];show acc.length+0<_;unfold ax;(exact dq (.l .aQ .S) .b .aD .A hlen hal)
     ·rw [aw c0];show acc.length+1<_;unfold ax;(exact dq (.l .M .S) .b .aD .A hlen hal)
    rw [hm]
    exact CB hI ((S1.kp.trans kp).ct hn0) H2 hn0 hl (bc _ _ _) fun c σ4 k4 hc e=>h σ4 c L k4 bL hc e
  ·rw [gZ] at *
   have:((q++[r]).map qV).isEmpty=false:=by rw [fb];cases q<;>rfl
   rw [this]
   refine zu ?_
   exact yW hP5 hM ha hb hs hsa N H S hw hin hown fun w ρ2 σ2 lt I=>hag w ρ2 σ2 lt I
 ·refine⟨[(0,as.length,0,bs.length)],[],⟨h0,rfl,rfl,rfl,rfl⟩,?_,⟨((Kp.refl σ).ct hql).ct N.m,(cj hne).trans (bc _ _ _),bc _ _ _⟩,?_,?_,gW.start⟩
  ·simp [qw]
  ·simp [qw]
  ·intro r hr
   rw [au.mp hr]
   exact⟨br _,br _,ah _,ah _⟩
end SM
end MP
end
section
namespace MP
namespace SM
open PySem
section
variable {C:Cal} {σ:St} {ρ:Fr} {K:Fl→Fr→St→Prop} {ss:ky} {x d:Addr} {f:Nat→Option V} {i a b:Nat} {e:Ex}
theorem gC (v:V) (h:evV σ ρ e=some v) (hx:ρ i=some (.obj x)) (hI:σ.I x=some (d,f)) (k:eg C ss ρ (σ.fj x d (upd f a v)) K):eg C (.cons (.assign [.attr (.loc i) a] e) ss) ρ σ K :=
 gh e h ⟨.obj x,hx,x,d,f,rfl,hI,k⟩
theorem n7 (v:V) (h:evV (σ.fj x d f) ρ e=some v) (hx:ρ i=some (.obj x)) (k:eg C ss ρ (σ.fj x d (upd f a v)) K):eg C (.cons (.assign [.attr (.loc i) a] e) ss) ρ (σ.fj x d f) K :=
 gC v h hx gw (by rw [qu];exact k)
theorem DA (v:V) (h:evV σ ρ e=some v) (hx:ρ i=some (.obj x)) (hI:σ.I x=some (d,f)) (k:eg C ss ρ (σ.fj x d (upd (upd f a v) b v)) K):eg C (.cons (.assign [.attr (.loc i) a,.attr (.loc i) b] e) ss) ρ σ K :=
 gh e h ⟨.obj x,hx,x,d,f,rfl,hI,.obj x,hx,x,d,_,rfl,gw,by rw [qu];exact k⟩
theorem yo (v:V) (h:evV (σ.fj x d f) ρ e=some v) (hx:ρ i=some (.obj x)) (k:eg C ss ρ (σ.fj x d (upd (upd f a v) b v)) K):eg C (.cons (.assign [.attr (.loc i) a,.attr (.loc i) b] e) ss) ρ (σ.fj x d f) K :=
 DA v h hx gw (by rw [qu];exact k)
theorem dP {es:Exs} {m:Nat} (vs:List V) (hx:ρ i=some (.obj x)) (hI:(σ.I x).isSome=true) (h:iR σ ρ es=some vs) (k:C m (.obj x::vs) σ fun v σ=>v=.none∧eg C ss ρ σ K):eg C (.cons (.expr (.meth (.loc i) m es)) ss) ρ σ K :=
 ⟨.obj x,hx,x,rfl,hI,kr (Q:=fun vs σ=>C m (.obj x::vs) σ fun v σ=>v=.none∧eg C ss ρ σ K) es h k⟩
end
theorem xQ {P:Nat→Option Fn} (hP:P 2=some fn2) {n:Nat} {x d la:Addr} {f:Nat→Option V} {σ:St} {Q:V→St→Prop} (hI:σ.I x=some (d,f)) (hf:f 1=some .none) (h:Q .none (σ.fj x d (upd (upd (upd f 1 (.lst la)) 4 .none) 5 .none))):gu P (n+1) 2 [.obj x,.lst la] σ Q :=
 ⟨fn2,hP,ah 2,ah 2,gA (s6 false (by
   show((σ.I x).bind fun p=>p.2 1).bind _=_
   rw [hI];show(f 1).bind _=_;rw [hf];rfl) (uy (gj (gC (.lst la) rfl rfl hI (yo .none rfl rfl (gj h))))))⟩
theorem xO {P:Nat→Option Fn} (hP:P 1=some fn1) {n:Nat} {x:Addr} {va vb:V} {σ:St} {Q:V→St→Prop} (hI:(σ.I x).isSome=true) (h:gu P n 2 [.obj x,va] σ fun v σ=>v=.none∧(σ.I x).isSome=true∧gu P n 3 [.obj x,vb] σ fun v σ=>v=.none∧Q .none σ):gu P (n+1) 1 [.obj x,va,vb] σ Q :=
 ⟨fn1,hP,ah 3,ah 3,gA (dP [va] rfl hI rfl (Eq.mp (bx (gu P n 2 [.obj x,va] σ) (funext fun v=>funext fun σ'=>propext ⟨fun q=>⟨q.1,dP [vb] rfl q.2.1 rfl q.2.2⟩,fun q=>⟨q.1,by
  obtain⟨_,_,e,y,e',h1,_,e2,h2⟩:=q
  cases e;cases e';cases e2
  exact⟨h1,h2⟩⟩⟩)) h))⟩
theorem xP {P:Nat→Option Fn} (hP:P 3=some fn3) {n:Nat} {x d lb:Addr} {f:Nat→Option V} {σ:St} {Q:V→St→Prop} (hI:σ.I x=some (d,f)) (hf:f 2=some .none)
  (h:gu P n 4 [.obj x] (σ.fj x d (upd (upd (upd (upd f 2 (.lst lb)) 4 .none) 5 .none) 6 .none)) fun v σ=>v=.none∧Q .none σ):gu P (n+1) 3 [.obj x,.lst lb] σ Q :=
 ⟨fn3,hP,ah 2,ah 2,gA (s6 false (by
   show((σ.I x).bind fun p=>p.2 2).bind _=_
   rw [hI];show(f 2).bind _=_;rw [hf];rfl) (uy (gj (gC (.lst lb) rfl rfl hI (yo .none rfl rfl (n7 .none rfl rfl (dP [] rfl (by rw [gw];rfl) rfl h)))))))⟩
theorem init {P:Nat→Option Fn} (hP:P 0=some fn0) {n:Nat} {x d:Addr} {va vb:V} {σ:St} {Q:V→St→Prop} (hI:σ.I x=some (d,fun _=>none))
  (h:gu P n 1 [.obj x,va,vb] (σ.fj x d (upd (upd (upd (upd (fun _=>none) 0 .none) 1 .none) 2 .none) 3 (.bool false))) fun v σ=>v=.none∧Q .none σ):gu P (n+1) 0 [.obj x,.none,va,vb,.bool false] σ Q :=
 ⟨fn0,hP,ah 5,kq 5 4,gA (gC .none rfl rfl hI (yo .none rfl rfl (n7 (.bool false) rfl rfl (dP [va,vb] rfl (by rw [gw];rfl) rfl h))))⟩
theorem tW {P:Nat→Option Fn} (hP:P 4=some fn4) {n:Nat} {x d lb:Addr} {f:Nat→Option V} {bs:List Key} {σ:St} {Q:V→St→Prop} (hI:σ.I x=some (d,f)) (hf0:f 0=some .none) (hf2:f 2=some (.lst lb)) (hf3:f 3=some (.bool false)) (hL:σ.L lb=some (bs.map Key.v)) (hz:bs.length<ax)
  (h:∀ σ₁ db s1 s2,B2J (σ.fj x d (upd f 7 (.dct db))) σ₁ db bs→σ.D db=none→σ.S s1=none→σ.S s2=none→s1≠s2 →
   Q .none (((σ₁.su s1 []).su s2 []).fj x d (upd (upd (upd f 7 (.dct db)) 8 (.set s1)) 9 (.set s2)))):gu P (n+1) 4 [.obj x] σ Q:=by
 refine⟨fn4,hP,by simp [fn4],by simp [fn4],?_⟩
 have h0:frameOf fn4 [.obj x] 0=some (.obj x):=rfl
 generalize frameOf fn4 [.obj x]=ρ at h0
 refine⟨.obj x,h0,x,d,f,.lst lb,rfl,hI,hf2,?_⟩
 refine fun db hdb=>⟨.obj x,h0,x,d,f,rfl,hI,?_⟩
 refine⟨.lst lb,rfl,lb,bs.map Key.v,rfl,hL,?_⟩
 refine oo (fun i ρ' σ'=>ρ' 0=some (.obj x)∧ρ' 1=some (.lst lb)∧ρ' 2=some (.dct db)∧B2J (σ.fj x d (upd f 7 (.dct db))) σ' db (bs.take i)) ?_ ?_ ?_
 ·intro i v ρ' σ' hv ⟨r0,r1,r2,hB⟩
  refine⟨hB.old lb _ hL,fun k hk=>?_⟩
  have hi:i<bs.length:=by
   have:=(ay.mp hv).1
   simpa using this
  have hv':v=.tup [.int i,bs[i].v]:=by
   rw [bw,List.getElem?_zipIdx] at hv
   simp [hi] at hv
   exact hv.symm
  subst hv'
  refine⟨_,rfl,rfl,?_⟩
  refine⟨.dct db,r2,?_,bs[i].v,rfl,?_⟩
  ·obtain⟨es,hes,_⟩:=hB.tab
   show(σ'.D db).isSome=true
   rw [hes];rfl
  refine⟨by simp [ax],fun c hc=>?_⟩
  obtain⟨es,hes,hlen,c',e1,e2,hB'⟩:=hB.step hc bs[i]
  have htl:(bs.take i).length=i:=by simp;(exact(Ar.fm _ _).2.2.elim (fun q1=>(dq .C .i .A .a4 (Ar.fm _ _).1 q1)) fun q1=>(kc .C .l .cI .A .aR hi (Ar.fm _ _).1 q1))
  have htk:bs.take i++[bs[i]]=bs.take (i+1):=(lz hi).symm
  rw [htl] at hlen hB'
  rw [htk] at hB'
  refine⟨es,bs[i],hes,tD _,by(first | exact jj .B .d .U .aN .aS hz hi hlen Ar.y | omega),?_⟩
  rw [e1]
  refine⟨.lst c',rfl,?_,.int i,rfl,?_⟩
  ·show(St.L _ c').isSome=true
   rw [e2];rfl
  refine⟨fJ bs[i] (bs.take i),e2,?_,rfl,?_⟩
  ·unfold fJ posOf
   have:=List.length_filter_le (fun j=>decide ((bs.take i)[j]?=some bs[i])) (List.range (bs.take i).length)
   simp only [az,List.length_range] at this ⊢
   (exact jU .B .u .U .aN (.e .F .D) .cC hz hi htl this)
  exact hk _ _ ⟨r0,r1,r2,hB'⟩
 ·intro ρ' σ' ⟨r0,r1,r2,hB⟩
  have hlen:((bs.map Key.v).zipIdx.map fun p=>V.tup [.int p.2,p.1]).length=bs.length:=by simp
  rw [hlen,fC] at hB
  refine⟨hB.old lb _ hL,?_⟩
  have hI2:σ'.I x=some (d,upd f 7 (.dct db)):=by rw [hB.I];exact gw
  intro s1 hs1
  refine⟨.obj x,r0,x,d,_,rfl,hI2,?_⟩
  refine⟨.obj x,r0,x,d,_,.none,rfl,gw,by simp [upd,hf0],?_⟩
  refine⟨.none,rfl,fun s2 hs2=>?_⟩
  have hne:s1≠s2:=fun e=>by
   have:upd σ'.S s1 [] s2=none:=hs2
   rw [← e,bc] at this;cases this
  refine⟨.obj x,r0,x,d,_,rfl,gw,?_⟩
  refine⟨.lst lb,r1,bs.map Key.v,hB.old lb _ hL,?_⟩
  refine⟨.obj x,r0,x,d,_,.bool false,rfl,gw,by simp [upd,hf3],?_⟩
  have hs1':σ.S s1=none:=by
   have:σ'.S s1=none:=hs1
   rw [hB.S] at this;exact this
  have hs2':σ.S s2=none:=by
   have:upd σ'.S s1 [] s2=none:=hs2
   rw [cj (pn hne),hB.S] at this;exact this
  have:=h σ' db s1 s2 hB hdb hs1' hs2' hne
  show Q .none _
  have e:((((σ'.su s1 []).fj x d (upd (upd f 7 (V.dct db)) 8 (V.set s1))).su s2 []).fj x d (upd (upd (upd f 7 (V.dct db)) 8 (V.set s1)) 9 (V.set s2)))=(((σ'.su s1 []).su s2 []).fj x d (upd (upd (upd f 7 (.dct db)) 8 (.set s1)) 9 (.set s2))):=by
   unfold St.su St.fj
   congr 1
   funext j
   simp only [upd]
   split<;>rfl
  rw [← e] at this
  exact this
 ·exact⟨h0,rfl,rfl,B2J.start⟩
end SM
end MP
end
section
namespace MP
open PySem
structure Ext (σ σ':St):Prop where
 L:∀ a xs,σ.L a=some xs→σ'.L a=some xs
 D:∀ a es,σ.D a=some es→σ'.D a=some es
 S:∀ a es,σ.S a=some es→σ'.S a=some es
 I:∀ a es,σ.I a=some es→σ'.I a=some es
 Z:∀ a es,σ.Z a=some es→σ'.Z a=some es
theorem Ext.refl (σ:St):Ext σ σ:=⟨fun _ _ e=>e,fun _ _ e=>e,fun _ _ e=>e,fun _ _ e=>e,fun _ _ e=>e⟩
theorem Ext.trans {σ σ₁ σ₂:St} (h:Ext σ σ₁) (h':Ext σ₁ σ₂):Ext σ σ₂:=⟨fun _ _ e=>h'.L _ _ (h.L _ _ e),fun _ _ e=>h'.D _ _ (h.D _ _ e),fun _ _ e=>h'.S _ _ (h.S _ _ e),fun _ _ e=>h'.I _ _ (h.I _ _ e),fun _ _ e=>h'.Z _ _ (h.Z _ _ e)⟩
theorem Kp.ext {σ σ':St} (h:Kp σ σ'):Ext σ σ':=⟨h.L,h.D,fun _ _ e=>by rw [h.S];exact e,fun _ _ e=>by rw [h.I];exact e,fun _ _ e=>by rw [h.Z];exact e⟩
theorem Ext.noL {σ σ₁:St} (h:Ext σ σ₁) {c:Addr} (hc:σ₁.L c=none):σ.L c=none:=by
 cases q:σ.L c with
 | none=>rfl
 | some xs=>rw [h.L _ _ q] at hc;cases hc
theorem ya {α:Type} {f g:Nat→Option α} (h:∀ a x,f a=some x→g a=some x) {c:Nat} {x:α} (hc:f c=none):∀ a y,f a=some y→upd g c x a=some y:=fun a y e=>by
 have:a≠c:=fun q=>by rw [q,hc] at e;cases e
 rw [cj this];exact h a y e
theorem Ext.ct {σ σ₁:St} (h:Ext σ σ₁) {c:Addr} {xs:List V} (hc:σ.L c=none):Ext σ (σ₁.ct c xs):=⟨ya h.L hc,h.D,h.S,h.I,h.Z⟩
theorem Ext.su {σ σ₁:St} (h:Ext σ σ₁) {c:Addr} {xs:List Key} (hc:σ.S c=none):Ext σ (σ₁.su c xs):=⟨h.L,h.D,ya h.S hc,h.I,h.Z⟩
theorem Ext.fj {σ σ₁:St} (h:Ext σ σ₁) {c d:Addr} {f:Nat→Option V} (hc:σ.I c=none):Ext σ (σ₁.fj c d f):=⟨h.L,h.D,h.S,ya h.I hc,h.Z⟩
theorem B2J.ext {σ₀ σ₁:St} {db:Addr} {bs:List Key} (h:B2J σ₀ σ₁ db bs) (hd:σ₀.D db=none):Ext σ₀ σ₁ :=
 ⟨h.old,fun a es e=>by rw [h.D a (fun q=>by rw [q,hd] at e;cases e)];exact e,fun _ _ e=>by rw [h.S];exact e,fun _ _ e=>by rw [h.I];exact e,fun _ _ e=>by rw [h.Z];exact e⟩
theorem TabAt.ext {σ σ':St} {db:Addr} {bs:List Key} {rm:Key→Bool} (h:TabAt σ db bs rm) (k:Ext σ σ'):TabAt σ' db bs rm:=by
 obtain⟨es,h1,h2,h3⟩:=h
 exact⟨es,k.D _ _ h1,h2,fun q hq=>(h3 q hq).imp_right fun zz0=>by obtain⟨c,e1,e2⟩:=zz0;exact⟨c,e1,k.L _ _ e2⟩⟩
namespace SM
theorem make {P:Nat→Option Fn} (h0:P 0=some fn0) (h1:P 1=some fn1) (h2:P 2=some fn2) (h3:P 3=some fn3) (h4:P 4=some fn4) {n:Nat} {σ:St} {la lb:Addr} {as bs:List Key} {es:Exs} {ρ:Fr} {Q:V→St→Prop}
  (hE:∀ Q:List V→St→Prop,Q [.none,.lst la,.lst lb,.bool false] σ→rz (gu P (n+4)) es ρ σ Q)
  (hLa:σ.L la=some (as.map Key.v)) (hLb:σ.L lb=some (bs.map Key.v)) (hz:bs.length<ax)
  (h:∀ σ' x d f db sj,Ext σ σ'→σ.I x=none→σ'.I x=some (d,f)→f 4=some .none→f 5=some .none→f 0=some .none→f 3=some (.bool false)→MAt σ' x la lb db sj as bs (fun _=>false) []→Q (.obj x) σ'):wpE (gu P (n+4)) (.newM es) ρ σ Q:=by
 rw [vZ]
 refine hE _ ?_
 intro x d hx
 refine init h0 (d:=d) (bc _ _ _) ?_
 refine xO h1 (by rw [gw];rfl) ?_
 refine xQ h2 gw rfl ?_
 refine⟨rfl,by rw [gw];rfl,?_⟩
 refine xP h3 gw rfl ?_
 rw [qu,qu,qu]
 refine tW h4 (lb:=lb) (bs:=bs) gw rfl rfl rfl hLb hz fun σ₁ db s1 s2 hB hdb hs1 hs2 hne=>?_
 refine⟨rfl,rfl,rfl,rfl,?_⟩
 rw [qu] at hB
 generalize hf:(upd (upd (upd (upd (upd (upd (upd (upd (upd (upd (upd (fun x=>(none:Option V)) 0 V.none) 1 V.none) 2 V.none) 3 (V.bool false)) 1 (V.lst la)) 4 V.none) 5 V.none) 2 (V.lst lb)) 4 V.none) 5 V.none) 6 V.none)=f at hB ⊢
 have hE1:Ext σ σ₁:=((Ext.refl σ).fj hx).trans (hB.ext hdb)
 have hI1:σ₁.I x=some (d,upd f 7 (.dct db)):=by rw [hB.I];exact gw
 have E2:Ext σ ((σ₁.su s1 []).su s2 []):=(hE1.su hs1).su hs2
 have hI2:((σ₁.su s1 []).su s2 []).I x=some (d,upd f 7 (.dct db)):=hI1
 refine h _ x d (upd (upd (upd f 7 (.dct db)) 8 (.set s1)) 9 (.set s2)) db s1 (E2.fj hx) hx gw (by rw [← hf];rfl) (by rw [← hf];rfl) (by rw [← hf];rfl) (by rw [← hf];rfl) ⟨⟨d,_,gw,by rw [← hf];rfl,by rw [← hf];rfl,rfl,rfl⟩,E2.L _ _ hLa,E2.L _ _ hLb,?_,?_⟩
 ·obtain⟨es,q1,q2,q3⟩:=hB.tabAt
  exact⟨es,q1,q2,q3⟩
 ·show upd (upd σ₁.S s1 []) s2 [] s1=_
  rw [cj hne,bc]
end SM
end MP
end
section
namespace MP
structure n4 (H:Nat→Nat→Prop) (alo ahi blo bhi i j k:Nat):Prop where
 ai:alo≤i
 ia:i+k≤ahi
 bj:blo≤j
 jb:j+k≤bhi
 eq:∀ t,t<k→H (i+t) (j+t)
structure eX (H:Nat→Nat→Prop) (alo ahi blo bhi i j k:Nat):Prop where
 pos:0<k
 run:n4 H alo ahi blo bhi i j k
 max:∀ i' j' k',0<k'→n4 H alo ahi blo bhi i' j' k'→k'<k∨(k'=k∧(i<i'∨(i=i'∧j≤j')))
inductive BT (H:Nat→Nat→Prop):Nat→Nat→Nat→Nat→List (Nat × Nat × Nat)→Prop
 | nil {alo ahi blo bhi:Nat}:(∀ i j,alo≤i→i<ahi→blo≤j→j<bhi→¬ H i j)→BT H alo ahi blo bhi []
 | node {alo ahi blo bhi i j k:Nat} {L R:List (Nat × Nat × Nat)}:eX H alo ahi blo bhi i j k→BT H alo i blo j L→BT H (i+k) ahi (j+k) bhi R→BT H alo ahi blo bhi (L++(i,j,k)::R)
section
variable {H:Nat→Nat→Prop} {alo ahi blo bhi:Nat}
theorem eX.eF {i j k:Nat} (h:eX H alo ahi blo bhi i j k) (q:∀ i j,alo≤i→i<ahi→blo≤j→j<bhi→¬ H i j):False:=by
 have R:=h.run
 have:=h.pos;have:=R.ai;have:=R.ia;have:=R.bj;have:=R.jb
 exact q i j (by(rename_i z3 z2 z1;exact av .A .a .A z3)) (by(rename_i z4 z3 z2 z1;exact eh .B .b .a5 .aP z4 z2)) (by(rename_i z1;exact av .A .a .A z1)) (by(rename_i z4 z3 z2 z1;exact eh .B .b .a5 .aP z4 this)) (by simpa using R.eq 0 h.pos)
theorem eX.uniq {i j k i' j' k':Nat} (h:eX H alo ahi blo bhi i j k) (h':eX H alo ahi blo bhi i' j' k'):i=i'∧j=j'∧k=k':=by
 have a:=h.max _ _ _ h'.pos h'.run
 have b:=h'.max _ _ _ h.pos h.run
 (exact⟨(a.elim (fun q1=>(b.elim (fun q2=>(dn .C .f .L .aN q1 q2)) fun q2=>(dn .C .f .L (.e .D .C) q1 q2.1))) fun q1=>(b.elim (fun q2=>(dn .C .f .b0 .aN q1.1 q2)) fun q2=>(q1.2.elim (fun q3=>(q2.2.elim (fun q4=>(dq .C .i .B .J q3 q4)) fun q4=>(av .C .h .bD q4.1))) fun q3=>(av .C .g .C q3.1)))),⟨(a.elim (fun q1=>(b.elim (fun q2=>(dn .C .f .L .aN q1 q2)) fun q2=>(dn .C .f .L (.e .D .C) q1 q2.1))) fun q1=>(b.elim (fun q2=>(dn .C .f .b0 .aN q1.1 q2)) fun q2=>(q1.2.elim (fun q3=>(q2.2.elim (fun q4=>(dn .C .f .L .aN q3 q4)) fun q4=>(dn .C .f .L (.e .D .C) q3 q4.1))) fun q3=>(q2.2.elim (fun q4=>(dn .C .f .b0 .aN q3.1 q4)) fun q4=>(dq .C .i .A .a4 q3.2 q4.2))))),(a.elim (fun q1=>(b.elim (fun q2=>(dq .C .v .J .B q1 q2)) fun q2=>(av .C .g .C q2.1))) fun q1=>(av .C .h .bD q1.1))⟩⟩)
theorem BT.uniq {L L':List (Nat × Nat × Nat)} (h:BT H alo ahi blo bhi L) (h':BT H alo ahi blo bhi L'):L=L':=by
 induction h generalizing L' with
 | nil q =>
  cases h' with
  | nil _=>rfl
  | node B _ _=>exact(B.eF q).elim
 | node B _ _ ih1 ih2 =>
  cases h' with
  | nil q=>exact(B.eF q).elim
  | node B' h1 h2 =>
   obtain⟨rfl,rfl,rfl⟩:=B.uniq B'
   rw [ih1 h1,ih2 h2]
theorem BT.ok {L:List (Nat × Nat × Nat)} (h:BT H alo ahi blo bhi L):(∀ t∈L,Within alo ahi blo bhi t∧0<t.2.2)∧L.Pairwise pk∧∀ t∈L,n4 H alo ahi blo bhi t.1 t.2.1 t.2.2:=by
 induction h with
 | nil _=>exact⟨fun t h=>(by cases h),.nil,fun t h=>(by cases h)⟩
 | @node alo ahi blo bhi i j k L R B _ _ hl hr =>
  have Rn:=B.run
  have:=B.pos;have:=Rn.ai;have:=Rn.ia;have:=Rn.bj;have:=Rn.jb
  refine⟨fun t ht=>?_,?_,fun t ht=>?_⟩
  ·rcases dz.mp ht with q | q
   ·have:=hl.1 t q
    unfold Within at *
    (rename_i z3 z2 z1;exact⟨⟨(av .A .a .A this.1.1),⟨(tc .G .b .b4 .bF z3 this.1.2.1),⟨(av .A .a .A this.1.2.2.1),(tc .G .b .b4 .bF z1 this.1.2.2.2)⟩⟩⟩,(dh .O .a .O this.2)⟩)
   ·rcases cf.mp q with q | q
    ·subst q
     unfold Within
     simp only
     (rename_i z4 z3 z2 z1;exact⟨⟨(av .A .a .A z3),⟨(cv .G .a .G z2),⟨(av .A .a .A z1),(cv .G .a .G this)⟩⟩⟩,(dh .O .a .O z4)⟩)
    ·have:=hr.1 t q
     unfold Within at *
     (rename_i z5 z4 z3 z2 z1;exact⟨⟨(dn .A .b .I .bY z5 this.1.1),⟨(cv .G .a .G this.1.2.1),⟨(dn .A .b .I .bY z3 this.1.2.2.1),(cv .G .a .G this.1.2.2.2)⟩⟩⟩,(dh .O .a .O this.2)⟩)
  ·rw [List.pairwise_append]
   refine⟨hl.2.1,.cons (fun u hu=>?_) hr.2.1,fun t ht u hu=>?_⟩
   ·have:=hr.1 u hu
    unfold Within at this
    unfold pk
    simp only
    (exact⟨(cv .G .a .G this.1.1),(cv .G .a .G this.1.2.2.1)⟩)
   ·have:=hl.1 t ht
    unfold Within at this
    unfold pk
    rcases cf.mp hu with q | q
    ·subst q
     simp only
     (exact⟨(cv .G .a .G this.1.2.1),(cv .G .a .G this.1.2.2.2)⟩)
    ·have:=hr.1 u q
     unfold Within at this
     (rename_i z1;exact⟨(tc .G .b .bF .b4 z1.1.2.1 this.1.1),(tc .G .b .bF .b4 z1.1.2.2.2 this.1.2.2.1)⟩)
  ·rcases dz.mp ht with q | q
   ·have:=hl.2.2 t q
    exact⟨this.ai,by have:=this.ia;(rename_i z4 z3 z2 z1;exact tc .G .b .b4 .bF z4 this),this.bj,by have:=this.jb;(rename_i z2 z1;exact tc .G .b .b4 .bF z2 this),this.eq⟩
   ·rcases cf.mp q with q | q
    ·subst q
     exact Rn
    ·have:=hr.2.2 t q
     exact⟨by have:=this.ai;(rename_i z6 z5 z4 z3 z2 z1;exact dn .A .b .I .bY z6 this),this.ia,by have:=this.bj;(rename_i z4 z3 z2 z1;exact dn .A .b .I .bY z4 this),this.jb,this.eq⟩
theorem iE {L:List (Nat × Nat × Nat)} {t:Nat × Nat × Nat} {R:List (Nat × Nat × Nat)} (hL:wo L) (hR:wo (t::R)) (h:∀ u∈L,Apart u t):wo (L++t::R):=by
 induction L with
 | nil=>exact hR
 | cons u L ih =>
  cases L with
  | nil=>exact⟨h u (.head _),hR⟩
  | cons v L=>exact⟨hL.1,ih hL.2 fun w hw=>h w (.tail _ hw)⟩
theorem BT.BP {L:List (Nat × Nat × Nat)} (h:BT H alo ahi blo bhi L):wo L:=by
 induction h with
 | nil _=>trivial
 | @node alo ahi blo bhi i j k L R B hL hR ihL ihR =>
  have Rn:=B.run
  have:=B.pos;have:=Rn.ai;have:=Rn.ia;have:=Rn.bj;have:=Rn.jb
  have oL:=hL.ok;have oR:=hR.ok
  refine iE ihL ?_ ?_
  ·cases R with
   | nil=>trivial
   | cons u R =>
    refine⟨?_,ihR⟩
    rintro ⟨e1,e2⟩
    have Ru:=oR.2.2 u (.head _)
    have hu:=(oR.1 u (.head _)).2
    have:=Ru.ia;have:=Ru.jb
    simp only at e1 e2
    have:=B.max i j (k+u.2.2) (by exact av (.l .O .P) .a .T hu) ⟨by(rename_i z5 z4 z3 z2 z1;exact av .A .a .A z5),by(rename_i z1;exact tc .aG .b (.e .P .F) (.k .aR .D) e1 z1),by(rename_i z3 z2 z1;exact av .A .a .A z3),by exact tc .aG .b (.e .P .F) (.k .aR .D) e2 this,fun t ht=>by
     by_cases c:t<k
     ·exact Rn.eq t c
     ·have:=Ru.eq (t-k) (by exact dn .B .b (.l .C .aB) .b2 ht (aa (av .A .a .cH c)))
      have x1:u.1+(t-k)=i+t:=by(exact tc .bZ [[1,1,-1],[1,-1,1]] (.e (.a .C .F) .A) (.e .a6 .D) e1 (aa (av .A .a .cH c)))
      have x2:u.2.1+(t-k)=j+t:=by(exact G5 .bZ .p (.e .a3 .H) (.e (.a .C .G) .A) (.e (.a .H .B) .aK) e1 e2 x1)
      rw [x1,x2] at this
      exact this⟩
    (exact this.elim (fun q1=>(av .ff .o (.l .P .A) q1)) fun q1=>(dq .ff .c .O (.e .aD .B) hu q1.1))
  ·rintro u hu ⟨e1,e2⟩
   have Ru:=oL.2.2 u hu
   have hu':=(oL.1 u hu).2
   have:=Ru.ai;have:=Ru.bj
   simp only at e1 e2
   have:=B.max u.1 u.2.1 (u.2.2+k) (by exact av (.l .O .P) .a .O hu') ⟨by(rename_i z1;exact av .A .a .A z1),by(rename_i z4 z3 z2 z1;exact tc .aG .b (.k .aR .D) (.e .P .F) z4 e1),by exact av .A .a .A this,by(rename_i z2 z1;exact tc .aG .b (.k .aR .D) (.e .P .F) z2 e2),fun t ht=>by
    by_cases c:t<u.2.2
    ·exact Ru.eq t c
    ·have:=Rn.eq (t-u.2.2) (by exact dn .B .b (.l .C .aB) .b2 ht (aa (av .A .a .cH c)))
     have x1:i+(t-u.2.2)=u.1+t:=by(exact tc .bZ [[1,1,-1],[1,-1,1]] (.e (.a .C .F) .A) (.e .a6 .D) e1 (aa (av .A .a .cH c)))
     have x2:j+(t-u.2.2)=u.2.1+t:=by(exact G5 .bZ .p (.e .a3 .H) (.e (.a .C .G) .A) (.e (.a .H .B) .aK) e1 e2 x1)
     rw [x1,x2] at this
     exact this⟩
   (exact this.elim (fun q1=>(av .ff .o (.l .P .B) q1)) fun q1=>(dq .ff .c .O (.e .P .B) hu' q1.1))
end
noncomputable def pg (as bs:List Key) (i j:Nat):Prop:=hit as bs (fun _=>false) i j=true
theorem pg.iff {as bs:List Key} {i j:Nat}:pg as bs i j↔∃ c,as[i]?=some c∧bs[j]?=some c:=by
 unfold pg
 rw [sx]
 simp
section
variable {as bs:List Key} {alo ahi blo bhi:Nat}
theorem s7.toH {i j k:Nat} (h:s7 as bs (fun _=>false) alo ahi blo bhi i j k) (hk:0<k):eX (pg as bs) alo ahi blo bhi i j k :=
 ⟨hk,⟨h.run.ai,h.run.ia,h.run.bj,h.run.jb,h.run.eq⟩,fun i' j' k' p R=>h.max i' j' k' p ⟨R.ai,R.ia,R.bj,R.jb,R.eq⟩⟩
theorem tM {ok:Key→Bool} {i j k:Nat} (h:∀ i0 j0,i=i0+1→j=j0+1→alo<i→blo<j→hit as bs (fun c=>!ok c) i0 j0=true→False):vo as bs ok alo blo i j k=(i,j,k):=by
 cases i with
 | zero=>rfl
 | succ i =>
  cases j with
  | zero=>rfl
  | succ j =>
   rw [yg]
   rw [aw (fun q=>h i j rfl rfl q.1 q.2.1 q.2.2)]
theorem tL {ok:Key→Bool} {n i j k:Nat} (h:i+k<ahi→j+k<bhi→hit as bs (fun c=>!ok c) (i+k) (j+k)=true→False):dJ as bs ok ahi bhi n i j k=k:=by
 cases n with
 | zero=>rfl
 | succ n =>
  rw [uz]
  rw [aw (fun q=>h q.1 q.2.1 q.2.2)]
theorem tG {i j:Nat} (h:hit as bs (fun _=>true) i j=true):False:=by
 obtain⟨c,_,_,h⟩:=sx.mp h
 cases h
theorem iO {i j k:Nat} (h:s7 as bs (fun _=>false) alo ahi blo bhi i j k):grow as bs (fun _=>false) alo ahi blo bhi i j k=(i,j,k):=by
 have R:=h.run
 have l1:vo as bs (fun _=>true) alo blo i j k=(i,j,k):=by
  refine tM ?_
  rintro i0 j0 rfl rfl c1 c2 hh
  have:=R.ia;have:=R.jb
  have:=h.max i0 j0 (k+1) (by exact fo (.l .O .M) .j) ⟨by exact av .A .a .Q c1,by(rename_i z1;exact cv .H .a .a2 z1),by exact av .A .a .Q c2,by exact cv .H .a .a2 this,fun t ht=>?_⟩
  ·(exact this.elim (fun q1=>(dh .ff .o (.l .M .A) q1)) fun q1=>(dh .ff .o (.e .M .A) q1.1))
  ·cases t with
   | zero=>exact hh
   | succ t =>
    have:=R.eq t (by exact av .B .a (.l .M .L) ht)
    have x1:i0+(t+1)=i0+1+t:=by(exact vv .b9 .m)
    have x2:j0+(t+1)=j0+1+t:=by(exact vv .b9 .m)
    rw [x1,x2];exact this
 have l2:∀ n,dJ as bs (fun _=>true) ahi bhi n i j k=k:=fun n=>by
  refine tL ?_
  intro c1 c2 hh
  have:=R.ai;have:=R.bj
  have:=h.max i j (k+1) (by exact fo (.l .O .M) .j) ⟨by(rename_i z1;exact av .A .a .A z1),by exact cv .H .a .aC c1,by exact av .A .a .A this,by exact cv .H .a .aC c2,fun t ht=>?_⟩
  ·(exact this.elim (fun q1=>(dh .ff .o (.l .M .A) q1)) fun q1=>(dh .ff .o (.e .M .A) q1.1))
  ·by_cases c:t<k
   ·exact R.eq t c
   ·have:t=k:=by(exact dq .C .i .Q .aM ht c)
    subst this
    exact hh
 have l3:vo as bs (fun _=>false) alo blo i j k=(i,j,k):=tM fun _ _ _ _ _ _ hh=>tG hh
 have l4:∀ n,dJ as bs (fun _=>false) ahi bhi n i j k=k:=fun n=>tL fun _ _ hh=>tG hh
 have t0:(fun c:Key=>!((fun _=>false) c))=fun _=>true:=rfl
 show(_,_,_)=_
 simp only [Bool.not_false,l1,l2,l3,l4]
theorem nz.GN {L:List (Nat × Nat × Nat)} (h:nz (Flm as bs (fun _=>false) (fun _=>false)) alo ahi blo bhi L):BT (pg as bs) alo ahi blo bhi L:=by
 induction h with
 | @nil alo ahi blo bhi i j hf =>
  obtain⟨i',j',k',B,e⟩:=hf
  rw [iO B] at e
  cases e
  refine .nil fun i' j' a b c d hh=>?_
  have:=B.max i' j' 1 (by exact zv (.l .O .U) .j) ⟨a,by exact av .F .a .B b,c,by exact av .F .a .B d,fun t ht=>by
   have:t=0:=by(exact dh .M .B (.l .A .U) ht)
   subst this;exact hh⟩
  (exact this.elim (fun q1=>(D5 .ff .o (.l .U .O) q1)) fun q1=>(D5 .ff .o (.e .U .O) q1.1))
 | @node alo ahi blo bhi i j k L R hf hk hL hL0 hR hR0 ihL ihR =>
  obtain⟨i',j',k',B,e⟩:=hf
  rw [iO B] at e
  cases e
  refine .node (B.toH hk) ?_ ?_
  ·by_cases c:alo<i∧blo<j
   ·exact ihL c.1 c.2
   ·rw [hL0 c]
    exact .nil fun i j a b c d=>by(rename_i z1;exact fun q1=>((Ar.imp hL).elim (fun q2=>(kc .ff .k .A .cI (.g .A .C) a b q2)) fun q2=>((Ar.imp ihL).elim (fun q3=>(kc .ff .k .A .cI (.g .A .C) a b q3)) fun q3=>((ak.mp z1).elim (fun q4=>(kc .ff .k .A .cI (.g .A .C) a b q4)) fun q4=>(kc .ff .k .A .cI (.g .A .C) c d q4)))))
  ·by_cases c:i+k<ahi∧j+k<bhi
   ·exact ihR c.1 c.2
   ·rw [hR0 c]
    exact .nil fun i j a b c d=>by(rename_i z1;exact fun q1=>((Ar.imp hR).elim (fun q2=>(jj .ff .k .G .L (.g .P .D) a b q2)) fun q2=>((Ar.imp ihR).elim (fun q3=>(jj .ff .k .G .L (.g .P .D) a b q3)) fun q3=>((ak.mp z1).elim (fun q4=>(jj .ff .k .G .L (.g .P .D) a b q4)) fun q4=>(jj .ff .k .G .L (.g .P .D) c d q4)))))
end
end MP
end
section
namespace MP
open PySem
theorem mapM_some {α β:Type} {f:α→Option β} {g:α→β} {xs:List α} (h:∀ x∈xs,f x=some (g x)):xs.mapM f=some (xs.map g):=by
 induction xs with
 | nil=>rfl
 | cons x r ih=>rw [List.mapM_cons,h x (.head _),ih fun y hy=>h y (.tail _ hy)];rfl
namespace SM
end SM
end MP
end
section
namespace MP
open PySem
noncomputable abbrev iV (xs:List Int):List V:=xs.map V.int
theorem v7 (xs:List Int):(xs.map Key.int).map Key.v=iV xs:=by rw [md];rfl
theorem DS (xs:List Int):∀ k∈xs.map Key.int,ru k:=by
 intro k hk
 obtain⟨x,_,rfl⟩:=ee.mp hk
 trivial
end MP
end
section
namespace MP
open PySem
structure xp (x:Addr) (σ σ':St):Prop where
 L:∀ a xs,σ.L a=some xs→σ'.L a=some xs
 D:∀ a es,σ.D a=some es→σ'.D a=some es
 S:∀ a es,σ.S a=some es→σ'.S a=some es
 I:∀ a es,a≠x→σ.I a=some es→σ'.I a=some es
 Z:∀ a es,σ.Z a=some es→σ'.Z a=some es
theorem Ext.x {σ σ':St} {x:Addr} (h:Ext σ σ'):xp x σ σ':=⟨h.L,h.D,h.S,fun a es _ e=>h.I a es e,h.Z⟩
theorem xp.trans {x:Addr} {σ σ₁ σ₂:St} (h:xp x σ σ₁) (h':xp x σ₁ σ₂):xp x σ σ₂:=⟨fun _ _ e=>h'.L _ _ (h.L _ _ e),fun _ _ e=>h'.D _ _ (h.D _ _ e),fun _ _ e=>h'.S _ _ (h.S _ _ e),fun _ _ n e=>h'.I _ _ n (h.I _ _ n e),fun _ _ e=>h'.Z _ _ (h.Z _ _ e)⟩
theorem xp.fj {x d:Addr} {f:Nat→Option V} {σ σ₁:St} (h:xp x σ σ₁):xp x σ (σ₁.fj x d f):=⟨h.L,h.D,h.S,fun a es n e=>(cj n).trans (h.I a es n e),h.Z⟩
namespace SM
open PySem
noncomputable abbrev O5:=Str × Nat × Nat × Nat × Nat
noncomputable def oV (t:O5):V:=.tup [.str t.1,.int t.2.1,.int t.2.2.1,.int t.2.2.2.1,.int t.2.2.2.2]
noncomputable def chg (i a j b:Nat):List O5:=if i<a∧j<b then [("replace",i,a,j,b)] else if i<a then [("delete",i,a,j,b)] else if j<b then [("insert",i,a,j,b)] else []
noncomputable def eql (a b s:Nat):List O5:=if s=0 then [] else [("equal",a,a+s,b,b+s)]
noncomputable def codes:Nat→Nat→List T3→List O5
 | _,_,[]=>[]
 | i,j,t::r=>chg i t.1 j t.2.1++(eql t.1 t.2.1 t.2.2++codes (t.1+t.2.2) (t.2.1+t.2.2) r)
theorem D0 (i a j b:Nat):(chg i a j b).length≤1:=by
 unfold chg
 split
 ·exact ah _
 ·split
  ·exact ah _
  ·split
   ·exact ah _
   ·exact br _
theorem CI (a b s:Nat):(eql a b s).length≤1:=by
 unfold eql
 split
 ·exact br _
 ·exact ah _
section
variable {C:Cal} {σ:St} {ρ:Fr} {K:Fl→Fr→St→Prop} {ss:ky} {al:Addr} {acc:List O5} {i j a b s:Nat}
theorem ev5 {e1 e2 e3 e4 e5:Ex} {t:Str} (h1:evV σ ρ e1=some (.str t)) (h2:evV σ ρ e2=some (.int i)) (h3:evV σ ρ e3=some (.int a)) (h4:evV σ ρ e4=some (.int j)) (h5:evV σ ρ e5=some (.int b)) :
  evV σ ρ (.tup (.cons e1 (.cons e2 (.cons e3 (.cons e4 (.cons e5 .nil))))))=some (oV (t,i,a,j,b)):=by
 rw [uq,cg,h1,cg,h2,cg,h3,cg,h4,cg,h5];rfl
structure R8o (ρ:Fr) (x al:Addr) (i j a b s:Nat):Prop where
 r0:ρ 0=some (.obj x)
 r1:ρ 1=some (.int i)
 r2:ρ 2=some (.int j)
 r3:ρ 3=some (.lst al)
 r4:ρ 4=some (.int a)
 r5:ρ 5=some (.int b)
 r6:ρ 6=some (.int s)
theorem lK {x:Addr} {t:Str} (H:R8o ρ x al i j a b s) (h7:ρ 7=some (.str t)) (ht:Nat.ble t.cps.size ax=true) (hn:(t.cps.size != 0)=true) (hL:σ.L al=some (acc.map oV)) (hl:acc.length<ax)
  (h:eg C ss ρ (σ.ct al ((acc++[(t,i,a,j,b)]).map oV)) K) :
  eg C (.cons (.cond (.loc 7) (.cons (.expr (.bm .append (.loc 3) (.cons (.tup (.cons (.loc 7) (.cons (.loc 1) (.cons (.loc 4) (.cons (.loc 2) (.cons (.loc 5) .nil)))))) .nil))) .nil) .nil) ss) ρ σ K:=by
 refine⟨_,h7,cp ht,?_⟩
 rw [hn]
 refine zu (eV (oV (t,i,a,j,b)) H.r3 hL (ev5 h7 H.r1 H.r4 H.r2 H.r5) (by rw [az];exact hl) (gj ?_))
 rw [fb] at h
 exact h
theorem wH {t:Ex} {e:ky} (h7:ρ 7=some (.str "")) (h:eg C ss ρ σ K):eg C (.cons (.cond (.loc 7) e .nil) ss) ρ σ K:=by
 refine⟨_,h7,br _,?_⟩
 exact uy (gj h)
theorem D1 {x:Addr} (H:R8o ρ x al i j a b s) (h7:ρ 7=some (.str "")) (hL:σ.L al=some (acc.map oV)) (hl:acc.length<ax)
  (h:∀ ρ',R8o ρ' x al i j a b s→eg C ss ρ' (σ.ct al ((acc++chg i a j b).map oV)) K) :
  eg C (.cons (.cond (.and (.cmp .lt (.loc 1) (.loc 4)) (.cmp .lt (.loc 2) (.loc 5))) (.cons (.assign [(.var 7)] (.str "replace"))
 .nil) (.cons (.cond (.cmp .lt (.loc 1) (.loc 4)) (.cons (.assign [(.var 7)] (.str "delete"))
 .nil) (.cons (.cond (.cmp .lt (.loc 2) (.loc 5)) (.cons (.assign [(.var 7)] (.str "insert"))
 .nil) .nil)
 .nil))
 .nil))
 (.cons (.cond (.loc 7) (.cons (.expr (.bm .append (.loc 3) (.cons (.tup (.cons (.loc 7) (.cons (.loc 1) (.cons (.loc 4) (.cons (.loc 2) (.cons (.loc 5) .nil)))))) .nil)))
 .nil) .nil) ss)) ρ σ K:=by
 have up:∀ v,R8o (upd ρ 7 v) x al i j a b s:=fun v=>⟨H.r0,H.r1,H.r2,H.r3,H.r4,H.r5,H.r6⟩
 unfold chg at h
 refine gB (i<a∧j<b) (eN (uc H.r1 H.r4) (uc H.r2 H.r5)) (fun c=>?_) fun c=>?_
 ·rw [bp c] at h
  exact jB (.str "replace") rfl (gj (lK (up _) rfl (by decide +kernel) (by decide +kernel) hL hl (h _ (up _))))
 ·rw [aw c] at h
  refine gB (i<a) (uc H.r1 H.r4) (fun c=>?_) fun c=>?_
  ·rw [bp c] at h
   exact jB (.str "delete") rfl (gj (gj (lK (up _) rfl (by decide +kernel) (by decide +kernel) hL hl (h _ (up _)))))
  ·rw [aw c] at h
   refine gB (j<b) (uc H.r2 H.r5) (fun c=>?_) fun c=>?_
   ·rw [bp c] at h
    exact jB (.str "insert") rfl (gj (gj (gj (lK (up _) rfl (by decide +kernel) (by decide +kernel) hL hl (h _ (up _))))))
   ·rw [aw c,dp,tg hL] at h
    exact gj (gj (gj (wH (t:=.none) h7 (h _ H))))
theorem CJ {x:Addr} (H:R8o ρ x al i j a b s) (hL:σ.L al=some (acc.map oV)) (hl:acc.length<ax)
  (h:∀ ρ',ρ' 0=some (.obj x)→ρ' 1=some (.int (a+s:Nat))→ρ' 2=some (.int (b+s:Nat))→ρ' 3=some (.lst al)→eg C ss ρ' (σ.ct al ((acc++eql a b s).map oV)) K) :
  eg C (.cons (.assign [.tup [1,2]] (.tup (.cons (.bin .add (.loc 4) (.loc 6)) (.cons (.bin .add (.loc 5) (.loc 6)) .nil))))
 (.cons (.cond (.loc 6) (.cons (.expr (.bm .append (.loc 3) (.cons (.tup (.cons (.str "equal") (.cons (.loc 4) (.cons (.loc 1) (.cons (.loc 5) (.cons (.loc 2) .nil)))))) .nil)))
 .nil) .nil) ss)) ρ σ K:=by
 refine d5 [.int (a+s:Nat),.int (b+s:Nat)] ?_ rfl ?_
 ·rw [uq,cg,ir (a:=.loc 4) (b:=.loc 6) H.r4 H.r6,cg,ir (a:=.loc 5) (b:=.loc 6) H.r5 H.r6];rfl
 unfold eql at h
 refine gB (s≠0) (fS (x:=6) (k:=s) H.r6) (fun c=>?_) fun c=>?_
 ·rw [aw c,fb] at h
  exact eV (oV ("equal",a,a+s,b,b+s)) H.r3 hL (ev5 rfl H.r4 rfl H.r5 rfl) (by rw [az];exact hl) (gj (h _ H.r0 rfl rfl H.r3))
 ·rw [bp (dA.mp c),dp,tg hL] at h
  exact gj (h _ H.r0 rfl rfl H.r3)
end
theorem ze {σ:St} {a:Addr} {xs ys:List V}:(σ.ct a xs).ct a ys=σ.ct a ys:=by
 unfold St.ct
 congr 1
 funext j
 simp only [upd]
 split<;>rfl
inductive ID (x:Addr) (σ:St) (al:Addr) (Ls:List T3) (t:Nat) (ρ:Fr) (σ':St):Prop
 | mk (i j:Nat) (acc:List O5):ρ 0=some (.obj x)→ρ 1=some (.int i)→ρ 2=some (.int j)→ρ 3=some (.lst al)→(∃ ys,σ'=σ.ct al ys)→σ'.L al=some (acc.map oV)→acc.length≤2*t→acc++codes i j (Ls.drop t)=codes 0 0 Ls→ID x σ al Ls t ρ σ'
theorem BK {P:Nat→Option Fn} (hP:P 7=some fn7) (hP6:P 6=some fn6) (hP5:P 5=some fn5) {n:Nat} {σ:St} {x la lb db sj d:Addr} {f:Nat→Option V} {as bs:List Key} {rm:Key→Bool} {js:List Key} {Q:V→St→Prop}
  (hM:MAt σ x la lb db sj as bs rm js) (hI:σ.I x=some (d,f)) (f4:f 4=some .none) (f5:f 5=some .none) (ha:∀ k∈as,ru k) (hb:∀ k∈bs,ru k) (hs:bs.length<400000) (hsa:as.length<400000)
  (hsz:∀ L,nz (Flm as bs rm fun c=>decide (c∈js)) 0 as.length 0 bs.length L→L.length<64)
  (h:∀ σ' c L g,xp x σ σ'→nz (Flm as bs rm fun c=>decide (c∈js)) 0 as.length 0 bs.length L→σ.L c=none→σ'.I x=some (d,g)→(∀ m,m≠4→m≠5→g m=f m)→(mrg 0 0 0 L).length≤L.length →
   σ'.L c=some ((codes 0 0 (mrg 0 0 0 L++[(as.length,bs.length,0)])).map oV)→Q (.lst c) σ'):gu P (n+3) 7 [.obj x] σ Q:=by
 refine⟨fn7,hP,ah 1,ah 1,?_⟩
 obtain⟨d',f',hI',f1,f2,f7,f8⟩:=hM.I
 obtain⟨rfl,rfl⟩:d=d'∧f=f':=by rw [hI] at hI';cases hI';exact⟨rfl,rfl⟩
 have h0:frameOf fn7 [.obj x] 0=some (.obj x):=rfl
 generalize frameOf fn7 [.obj x]=ρ at h0
 refine⟨.obj x,h0,x,d,f,.none,rfl,hI,f5,?_⟩
 refine⟨cp rfl,fun al hal=>?_⟩
 refine⟨.obj x,h0,x,d,f,rfl,hI,?_⟩
 have hx2:((σ.ct al []).fj x d (upd f 5 (.lst al))).I x=some (d,upd f 5 (.lst al)):=gw
 have E2:xp x σ ((σ.ct al []).fj x d (upd f 5 (.lst al))):=(((Ext.refl σ).ct hal).x).fj
 have M2:MAt ((σ.ct al []).fj x d (upd f 5 (.lst al))) x la lb db sj as bs rm js:=by
  refine⟨⟨d,_,gw,f1,f2,f7,f8⟩,E2.L _ _ hM.La,E2.L _ _ hM.Lb,?_,E2.S _ _ hM.S⟩
  have D2:=hM.D.ext ((Ext.refl σ).ct (xs:=[]) hal)
  exact D2
 have hal2:((σ.ct al []).fj x d (upd f 5 (.lst al))).L al=some []:=bc _ _ _
 generalize ((σ.ct al []).fj x d (upd f 5 (.lst al)))=σ2 at hx2 E2 M2 hal2
 refine⟨.obj x,h0,x,rfl,by rw [hx2];rfl,?_⟩
 refine gmb hP6 hP5 M2 hx2 f4 ha hb hs hsa hsz fun σ3 c L k3 b hc0 hc=>?_
 have hal3:=k3.L _ _ hal2
 have hcn:c≠al:=fun q=>by rw [q,hal2] at hc0;cases hc0
 have E3:xp x σ (σ3.fj x d (upd (upd f 5 (.lst al)) 4 (.lst c))):=(E2.trans k3.ext.x).fj
 have hlen:(mrg 0 0 0 L).length≤L.length:=by
  have:∀ (L:List T3) (i j k:Nat),(mrg i j k L).length≤L.length+(if k=0 then 0 else 1):=by
   intro L
   induction L with
   | nil =>
    intro i j k
    unfold mrg
    by_cases c0:k=0
    ·rw [bp c0];exact br _
    ·rw [aw c0,aw c0];exact ah _
   | cons t r ih =>
    intro i j k
    obtain⟨i',j',k'⟩:=t
    unfold mrg
    rw [bz]
    split
    ·have:=ih i j (k+k')
     by_cases c0:k=0
     ·subst c0
      rw [bp rfl]
      by_cases c1:0+k'=0
      ·rw [bp c1] at this;(exact av .cM .a (.k .A (.a .B .O)) this)
      ·rw [aw c1] at this;(exact av .cM .a .X this)
     ·rw [aw c0]
      rw [aw (by exact(aq c0).elim (fun q1=>(av (.u .P .O) .o (.l .A .O) q1)) fun q1=>(av (.u .P .O) .a .O q1))] at this
      (exact av (.k .A (.a .L .U)) .a .X this)
    ·by_cases c0:k=0
     ·rw [bp c0,bp c0]
      have:=ih i' j' k'
      by_cases c1:k'=0
      ·rw [bp c1] at this;(exact av .cM .a (.k .A (.a .B .O)) this)
      ·rw [aw c1] at this;(exact av .cM .a .X this)
     ·rw [aw c0,aw c0,bz]
      have:=ih i' j' k'
      by_cases c1:k'=0
      ·rw [bp c1] at this;(exact av (.k .M (.a .L .U)) .a (.k .A (.a .B .O)) this)
      ·rw [aw c1] at this;(exact av (.k .M (.a .L .U)) .a .X this)
  have:=this L 0 0 0
  rwa [bp rfl] at this
 have hL64:=hsz L b
 have hc3:(σ3.fj x d (upd (upd f 5 (.lst al)) 4 (.lst c))).L c=some ((mrg 0 0 0 L++[(as.length,bs.length,0)]).map mV):=hc
 have hal4:(σ3.fj x d (upd (upd f 5 (.lst al)) 4 (.lst c))).L al=some []:=hal3
 have hx3:(σ3.fj x d (upd (upd f 5 (.lst al)) 4 (.lst c))).I x=some (d,upd (upd f 5 (.lst al)) 4 (.lst c)):=gw
 have hg:∀ m,m≠4→m≠5→(upd (upd f 5 (.lst al)) 4 (.lst c)) m=f m:=fun m h4 h5=>(cj h4).trans (cj h5)
 generalize (upd (upd f 5 (.lst al)) 4 (.lst c))=g at hg hx3 hc3 hal4 E3
 generalize σ3.fj x d g=σ4 at hx3 hc3 hal4 E3
 generalize hLs:mrg 0 0 0 L++[(as.length,bs.length,0)]=Ls at hc3
 have hLsl:Ls.length≤64:=by rw [← hLs,bg,du];(exact dq (.k .M (.n 64)) .b .A .aD hlen hL64)
 refine⟨_,hc3,?_⟩
 refine oo (ID x σ4 al Ls) ?_ ?_ ⟨0,0,[],h0,rfl,rfl,rfl,⟨[],(tg hal4).symm⟩,hal4,br _,rfl⟩
 ·rintro t v ρ' σ' hv ⟨i,j,acc,r0,r1,r2,r3,⟨ys,rfl⟩,hacc,hal',e⟩
  refine⟨(cj hcn).trans hc3,fun kk hag=>?_⟩
  rw [bw] at hv
  obtain⟨u,hu,rfl⟩:=omap hv
  obtain⟨ht,hu'⟩:=ay.mp hu
  rw [dj ht,hu'] at e
  obtain⟨a,b',s⟩:=u
  refine⟨_,w9 (t:=(a,b',s)),rfl,?_⟩
  refine jB (.str "") rfl ?_
  refine D1 (x:=x) (al:=al) (i:=i) (j:=j) (a:=a) (b:=b') (s:=s) (acc:=acc) ⟨r0,r1,r2,r3,rfl,rfl,rfl⟩ rfl hacc (by unfold ax;(exact kc .aH [[1,2,1,2]] (.k .B (.n 64)) (.k .A (.m 2 .C)) .U hLsl hal' ht)) fun ρ2 H2=>?_
  have h1:=D0 i a j b'
  refine CJ H2 (acc:=acc++chg i a j b') (bc _ _ _) (by rw [bg];unfold ax;(exact eT (.l .P .S) [[1,2,1,2,1]] (.k .C (.n 64)) (.k .A .aM) .aN (.k .B .U) hLsl hal' ht h1)) fun ρ3 q0 q1 q2 q3=>?_
  have h2:=CI a b' s
  rw [ze,ze]
  refine gj (hag _ _ ⟨a+s,b'+s,acc++chg i a j b'++eql a b' s,q0,q1,q2,q3,⟨_,rfl⟩,bc _ _ _,?_,?_⟩)
  ·rw [bg,bg];(exact jj (.k (.a .P .C) (.m 2 .V)) .d (.k .A .aM) (.k .B .U) (.k .C .U) hal' h1 h2)
  ·rw [← e,ix,ix];rfl
 ·rintro ρ' σ' ⟨i,j,acc,r0,r1,r2,r3,⟨ys,rfl⟩,hacc,hal',e⟩
  refine⟨(cj hcn).trans hc3,?_⟩
  rw [az,List.drop_length] at e
  have e:acc++[]=codes 0 0 Ls:=e
  rw [dp] at e
  refine u4 (.lst al) r3 ?_
  refine h _ al L g ⟨fun a xs e1=>?_,E3.D,E3.S,E3.I,E3.Z⟩ b hal hx3 hg hlen ?_
  ·have:a≠al:=fun q=>by rw [q,hal] at e1;cases e1
   exact(cj this).trans (E3.L a xs e1)
  ·rw [hLs,← e];exact hacc
end SM
end MP
end
section
namespace MP
open PySem SM
noncomputable abbrev ks (xs:List Int):List Key:=xs.map Key.int
theorem pg.ints {xs ys:List Int} {i j:Nat}:pg (ks xs) (ks ys) i j↔∃ c,xs[i]?=some c∧ys[j]?=some c:=by
 rw [pg.iff]
 constructor
 ·rintro ⟨c,h1,h2⟩
  rw [bw] at h1 h2
  obtain⟨x,e1,rfl⟩:=omap h1
  obtain⟨y,e2,e⟩:=omap h2
  cases e
  exact⟨_,e1,e2⟩
 ·rintro ⟨c,h1,h2⟩
  exact⟨.int c,by rw [bw,h1];rfl,by rw [bw,h2];rfl⟩
theorem lB {alo ahi blo bhi:Nat}:∀ {L:List T3} {lo:Nat},(∀ t∈L,Within alo ahi blo bhi t∧0<t.2.2)→L.Pairwise pk→(∀ t∈L,lo≤t.1)→lo≤ahi→lo+L.length≤ahi
 | [],lo,_,_,_,h=>h
 | t::L,lo,hw,hp,hl,h=>by
  have h1:=hw t (.head _)
  have h2:=hl t (.head _)
  obtain⟨ha,hp⟩:=oe.mp hp
  have:=lB (lo:=lo+1) (fun u hu=>hw u (.tail _ hu)) hp (fun u hu=>by have:=(ha u hu).1;(exact jj .F .d .a5 .aS (.k .aA .B) h1.2 h2 this)) (by have:=h1.1.2.1;(exact jj .F .d .a5 .aS (.k .aA .B) h1.2 h2 this))
  rw [bz];(exact cv .H .a .a2 this)
noncomputable abbrev P2:=Nat × Nat
noncomputable def stp (k:Nat) (p q:P2):List O5:=if p=q then [] else [(if k%2=0 then "equal" else if p.1=q.1 then "insert" else if p.2=q.2 then "delete" else "replace",p.1,q.1,p.2,q.2)]
noncomputable def nE:Nat→P2→List P2→List O5
 | _,_,[]=>[]
 | k,p,q::r=>stp k p q++nE (k+1) q r
noncomputable def si (L:List T3):List P2:=L.flatMap fun t=>[(t.1,t.2.1),(t.1+t.2.2,t.2.1+t.2.2)]
noncomputable def pJ:Nat→Nat→List T3→Prop
 | _,_,[]=>True
 | i,j,t::r=>i≤t.1∧j≤t.2.1∧pJ (t.1+t.2.2) (t.2.1+t.2.2) r
theorem pJ.of:∀ {L:List T3} {i j:Nat},L.Pairwise pk→(∀ t∈L,i≤t.1∧j≤t.2.1)→pJ i j L
 | [],_,_,_,_=>trivial
 | t::L,i,j,hp,h=>by
  obtain⟨ha,hp⟩:=oe.mp hp
  exact⟨(h t (.head _)).1,(h t (.head _)).2,pJ.of hp fun u hu=>ha u hu⟩
theorem sN {k i j a b:Nat} (hk:k%2=1) (h1:i≤a) (h2:j≤b):stp k (i,j) (a,b)=chg i a j b:=by
 unfold stp chg
 rw [aw (show ¬ k%2=0 by exact dh (.u .A .O) .A (.e .A .U) hk)]
 by_cases c1:i=a
 ·subst c1
  rw [aw (show ¬ (i<i∧j<b) by exact fun q1=>(dh .ff .o (.l .A .A) q1.1)),aw (gm i)]
  by_cases c2:j=b
  ·subst c2;rw [bp rfl,aw (gm j)]
  ·rw [aw (fun q=>c2 (kn q).2),bp (show j<b by exact(aq c2).elim (fun q1=>(av .B .a .B q1)) fun q1=>(dq .B .c .A .J h2 q1)),bp rfl]
 ·rw [aw (fun q=>c1 (kn q).1)]
  by_cases c2:j=b
  ·subst c2
   rw [aw (show ¬ (i<a∧j<j) by exact fun q1=>(dh .ff .o (.l .A .A) q1.2)),bp (show i<a by exact(aq c1).elim (fun q1=>(av .B .a .B q1)) fun q1=>(dq .B .c .A .J h1 q1)),aw (show ¬ ((i,j).1=(a,j).1) from c1),bp rfl]
  ·rw [bp (show i<a∧j<b by exact⟨((aq c1).elim (fun q1=>(av .B .a .B q1)) fun q1=>(dq .B .c .A .J h1 q1)),((aq c1).elim (fun q1=>((aq c2).elim (fun q2=>(av .B .a .B q2)) fun q2=>(dq .B .c .A .J h2 q2))) fun q1=>(dn .B .c .a7 .aN h1 q1))⟩),aw (show ¬ ((i,j).1=(a,b).1) from c1),aw (show ¬ ((i,j).2=(a,b).2) from c2)]
theorem wJ {k a b s:Nat} (hk:k%2=0):stp k (a,b) (a+s,b+s)=eql a b s:=by
 unfold stp eql
 rw [bp hk]
 by_cases c:s=0
 ·subst c;exact(bp (show(a,b)=(a+0,b+0) from rfl)).trans (bp (show(0:Nat)=0 from rfl)).symm
 ·rw [aw c,aw (fun q=>c (by have:=(kn q).1;(exact av .M [[1,0],[1,-1]] (.e .B .aD) this)))]
theorem gD:∀ {L:List T3} {k i j na nb:Nat},k%2=1→pJ i j (L++[(na,nb,0)])→nE k (i,j) (si L++[(na,nb)])=codes i j (L++[(na,nb,0)])
 | [],k,i,j,na,nb,hk,h=>by
  show stp k (i,j) (na,nb)++[]=chg i na j nb++([]++[])
  rw [sN hk (show i≤na from h.1) (show j≤nb from h.2.1)]
  rfl
 | (a,b,s)::L,k,i,j,na,nb,hk,h=>by
  have ih:=gD (L:=L) (k:=k+2) (i:=a+s) (j:=b+s) (na:=na) (nb:=nb) ((Nat.add_mod_right k 2).trans hk) h.2.2
  show stp k (i,j) (a,b)++(stp (k+1) (a,b) (a+s,b+s)++nE (k+2) (a+s,b+s) (si L++[(na,nb)]))=_
  rw [sN hk h.1 h.2.1,wJ (show(k+1)%2=0 by rw [Nat.add_mod,hk]),ih]
  rfl
section
variable {H:Nat→Nat→Prop} {na nb:Nat} {S S':Nat→Nat→Prop} {i j k a b r:Nat}
end
end MP
end
section
namespace MP
open PySem SM
noncomputable def Gv (C:Cal) (ρ:Fr) (σb:St) (e:Ex) (xs:List V):Prop:=∀ (σ:St) (Q:V→St→Prop),Ext σb σ→(∀ c σ',Ext σ σ'→σ'.L c=some xs→Q (.lst c) σ')→wpE C e ρ σ Q
noncomputable def Fv (C:Cal) (ρ:Fr) (σb:St) (e:Ex) (xs:List V):Prop:=∀ (σ:St) (Q:V→St→Prop),Ext σb σ→(∀ c σ',Ext σ σ'→σ.L c=none→σ'.L c=some xs→Q (.lst c) σ')→wpE C e ρ σ Q
section
variable {C:Cal} {ρ:Fr} {σb:St} {e f:Ex} {xs ys:List V}
theorem Gv.loc {x:Nat} {l:Addr} (hx:ρ x=some (.lst l)) (hl:σb.L l=some xs):Gv C ρ σb (.loc x) xs:=fun σ Q E k=>⟨_,hx,k l σ (Ext.refl σ) (E.L _ _ hl)⟩
theorem Gv.slc {lo hi:Ex} {i j:Int} (h:Gv C ρ σb e xs) (hlo:∀ σ,Ext σb σ→∃ v,evV σ ρ lo=some v∧eJ 0 v=some i) (hhi:∀ σ,Ext σb σ→∃ v,evV σ ρ hi=some v∧eJ xs.length v=some j) (h1:i.natAbs<2^60) (h2:j.natAbs<2^60) :
  Fv C ρ σb (.slc e lo hi) ((xs.take (dt xs.length j)).drop (dt xs.length i)):=fun σ Q E k=>by
 refine h σ _ E fun a σ1 E1 ha=>?_
 obtain⟨v,ev,iv⟩:=hlo σ1 (E.trans E1)
 obtain⟨u,eu,iu⟩:=hhi σ1 (E.trans E1)
 refine gh (Q:=fun va σ=>wpE C hi ρ σ fun vb σ=>s9 (.lst a) va vb σ Q) lo ev ?_
 refine gh (Q:=fun vb σ=>s9 (.lst a) v vb σ Q) hi eu ?_
 exact⟨xs,i,j,ha,iv,iu,h1,h2,fun c hc=>k c _ (E1.ct (E1.noL hc)) (E1.noL hc) (bc _ _ _)⟩
end
theorem zm {n i:Nat} (h:i≤n):dt n (i:Int)=i:=by unfold dt gf;rw [aw (by exact fo (.ig .L .O) .j),ef];exact Nat.min_eq_right h
noncomputable def dO (t:O5):PyData:=.tuple [.str t.1,.int t.2.1,.int t.2.2.1,.int t.2.2.2.1,.int t.2.2.2.2]
theorem G1 (t:O5):PyData.eqv (dO t) (dO t)=true:=by simp [dO,PyData.eqv,PyData.eqvAll]
theorem kR:∀ L:List O5,PyData.eqvAll (L.map dO) (L.map dO)=true
 | []=>by simp [PyData.eqvAll]
 | t::L=>by simp [PyData.eqvAll,G1,kR L]
theorem CS {σ:St} {n:Nat} {t:O5} (h:PyData.strOk t.1=true):wj σ (n+1) (oV t)=some (dO t):=by
 have e:wj σ n (.str t.1)=some (.str t.1):=by
  cases n<;>exact bp h
 show(([V.str t.1,.int t.2.1,.int t.2.2.1,.int t.2.2.2.1,.int t.2.2.2.2].mapM (wj σ n)).map PyData.tuple)=_
 rw [mapM_some (g:=fun v=>match v with | .str s=>PyData.str s | .int i=>.int i | _=>.none)]
 ·rfl
 ·intro v hv
  rcases cf.mp hv with rfl | hv
  ·exact e
  ·have:∃ i,v=.int i:=by
    rcases cf.mp hv with rfl | hv
    ·exact⟨_,rfl⟩
    rcases cf.mp hv with rfl | hv
    ·exact⟨_,rfl⟩
    rcases cf.mp hv with rfl | hv
    ·exact⟨_,rfl⟩
    ·exact⟨_,au.mp hv⟩
   obtain⟨i,rfl⟩:=this
   cases n<;>rfl
theorem tS {σ:St} {n:Nat} {a:Addr} {L:List O5} (h:σ.L a=some (L.map oV)) (hs:∀ t∈L,PyData.strOk t.1=true):wj σ (n+2) (.lst a)=some (.list (L.map dO)):=by
 show((σ.L a).bind fun xs=>(xs.mapM (wj σ (n+1))).map PyData.list)=_
 rw [h]
 show((L.map oV).mapM (wj σ (n+1))).map PyData.list=_
 rw [mapM_some (g:=fun v=>match v with | .tup [.str s,.int a,.int b,.int c,.int d]=>PyData.tuple [.str s,.int a,.int b,.int c,.int d] | _=>.none)]
 ·rw [md];rfl
 ·intro v hv
  obtain⟨t,ht,rfl⟩:=ee.mp hv
  exact CS (hs t ht)
theorem AK:PyData.strOk "replace"=true:=by decide +kernel
theorem AJ:PyData.strOk "delete"=true:=by decide +kernel
theorem AI:PyData.strOk "insert"=true:=by decide +kernel
theorem sM:PyData.strOk "equal"=true:=by decide +kernel
theorem G3 {i a j b:Nat}:∀ t∈chg i a j b,PyData.strOk t.1=true:=by
 unfold chg
 intro t ht
 split at ht
 ·rw [au.mp ht];exact AK
 ·split at ht
  ·rw [au.mp ht];exact AJ
  ·split at ht
   ·rw [au.mp ht];exact AI
   ·cases ht
theorem j5:∀ {L:List T3} {i j:Nat},∀ t∈codes i j L,PyData.strOk t.1=true
 | [],_,_,_,h=>by cases h
 | (a,b,s)::L,i,j,t,h=>by
  rcases dz.mp h with h | h
  ·exact G3 t h
  ·rcases dz.mp h with h | h
   ·unfold eql at h
    split at h
    ·cases h
    ·rw [au.mp h];exact sM
   ·exact j5 t h
theorem vY {σ:St} {a b:Addr} {L:List O5} {K:Bool→Prop} (ha:σ.L a=some (L.map oV)) (hb:σ.L b=some (L.map oV)) (hs:∀ t∈L,PyData.strOk t.1=true) (h:K true):nC (.lst a) (.lst b) σ K:=by
 refine⟨_,_,tS ha hs,tS hb hs,?_⟩
 have:PyData.eqv (.list (L.map dO)) (.list (L.map dO))=true:=by
  simp [PyData.eqv,kR]
 rw [this];exact h
theorem pK {σ:St} {a b:Addr} {L:List O5} {K:Bool→Prop} (ha:σ.L a=some (L.map oV)) (hb:σ.L b=some (L.map oV)) (hs:∀ t∈L,PyData.strOk t.1=true) (h:K false):wu .ne (.lst a) (.lst b) σ K:=vY (K:=fun r=>K (!r)) ha hb hs h
namespace SM
end SM
end MP
end
section
namespace MP
open PySem SM
noncomputable def pV (p:P2):V:=.tup [.int p.1,.int p.2]
section
variable {σ:St} {ρ:Fr} {a b c e:Ex} {m n k l:Nat}
theorem ev2 (ha:evV σ ρ a=some (.int m)) (hb:evV σ ρ b=some (.int n)):evV σ ρ (.tup (.cons a (.cons b .nil)))=some (pV (m,n)):=by
 rw [uq,cg,ha,cg,hb];rfl
theorem eO (ha:evV σ ρ a=some (.int m)) (hb:evV σ ρ b=some (.int n)) (h:n≤m):evV σ ρ (.bin .sub a b)=some (.int (m-n:Nat)):=by
 rw [eL,ha,hb]
 show some (V.int ((m:Int)-n))=_
 rw [Int.ofNat_sub h]
theorem dK {x:Nat} {al:Addr} {xs:List V} {v:V} (hx:ρ x=some (.lst al)) (hL:σ.L al=some xs) (hi:evV σ ρ e=some (.int n)) (hv:xs[n]?=some v):evV σ ρ (.sub (.loc x) e)=some v:=by
 rw [zj,jq,hx,hi]
 show kQ σ (.lst al) (.int n)=_
 show(σ.L al).bind (fun xs=>yh xs n)=_
 rw [hL]
 show yh xs n=_
 unfold yh
 rw [kh,bp (by exact fo .c5 .j),ef]
 exact hv
theorem EC {p q:P2} {K:Bool→Prop} (h:K (decide (p≠q))):wu .ne (pV p) (pV q) σ K:=by
 refine⟨.tuple [.int p.1,.int p.2],.tuple [.int q.1,.int q.2],rfl,rfl,?_⟩
 have:(!PyData.eqv (.tuple [.int p.1,.int p.2]) (.tuple [.int q.1,.int q.2]))=decide (p≠q):=by
  obtain⟨a,b⟩:=p
  obtain⟨c,d⟩:=q
  by_cases e1:a=c
  ·by_cases e2:b=d
   ·simp [PyData.eqv,PyData.eqvAll,e1,e2]
   ·simp [PyData.eqv,PyData.eqvAll,e1,e2];(exact(aq e2).elim (fun q1=>(av (.iu .L .P) .x .B q1)) fun q1=>(av (.iu .L .P) .a .J q1))
  ·simp [PyData.eqv,PyData.eqvAll,e1];(exact .inl ((aq e1).elim (fun q1=>(av (.iu .L .P) .x .B q1)) fun q1=>(av (.iu .L .P) .a .J q1)))
 show K (!PyData.eqv _ _)
 rw [this];exact h
end
noncomputable def vM:ky:=(.cons (.assign [(.var 3)] (.lst (.cons (.tup (.cons (.int 0) (.cons (.int 0) .nil))) .nil)))
 (.cons (.each (.tup [4,5,6]) (.seq (.loc 0)) (.cons (.expr (.bm .extend (.loc 3) (.cons (.lst (.cons (.tup (.cons (.loc 4) (.cons (.loc 5) .nil))) (.cons (.tup (.cons (.bin .add (.loc 4) (.loc 6)) (.cons (.bin .add (.loc 5) (.loc 6)) .nil))) .nil))) .nil)))
 .nil))
 (.cons (.expr (.bm .append (.loc 3) (.cons (.tup (.cons (.loc 1) (.cons (.loc 2) .nil))) .nil)))
 (.cons (.assign [(.var 7)] (.lst .nil))
 (.cons (.each (.var 8) (.rng2 (.int 1) (.bf .len (.cons (.loc 3) .nil))) (.cons (.assign [(.tup [9,10])] (.sub (.loc 3) (.bin .sub (.loc 8) (.int 1))))
 (.cons (.assign [(.tup [11,12])] (.sub (.loc 3) (.loc 8)))
 (.cons (.assign [(.var 13)] (.ite (.cmp .eq (.bin .mod (.loc 8) (.int 2)) (.int 0)) (.str "equal") (.ite (.cmp .eq (.loc 9) (.loc 11)) (.str "insert") (.ite (.cmp .eq (.loc 10) (.loc 12)) (.str "delete") (.str "replace")))))
 (.cons (.cond (.cmp .ne (.tup (.cons (.loc 9) (.cons (.loc 10) .nil))) (.tup (.cons (.loc 11) (.cons (.loc 12) .nil)))) (.cons (.expr (.bm .append (.loc 7) (.cons (.tup (.cons (.loc 13) (.cons (.loc 9) (.cons (.loc 11) (.cons (.loc 10) (.cons (.loc 12) .nil)))))) .nil)))
 .nil) .nil)
 .nil)))))
 (.cons (.ret (.loc 7))
 .nil))))))
theorem qW {σ:St} {ρ:Fr} {c a b:Ex} {p:Prop} [Decidable p] {x y:Str} (hc:evT σ ρ c=some (decide p)) (ha:evV σ ρ a=some (.str x)) (hb:evV σ ρ b=some (.str y)):evV σ ρ (.ite c a b)=some (.str (if p then x else y)):=by
 show(evT σ ρ c).bind (fun t=>if t then evV σ ρ a else evV σ ρ b)=_
 rw [hc]
 by_cases h:p
 ·rw [fc h,bp h];exact ha
 ·rw [fe h,aw h];exact hb
theorem rO {C:Cal} {σ:St} {ρ:Fr} {K:Fl→Fr→St→Prop} {again:Fr→St→Prop} {el tl:Addr} {E:List P2} {acc:List O5} {t:Nat} {p q:P2} (r3:ρ 3=some (.lst el)) (r7:ρ 7=some (.lst tl)) (hE:σ.L el=some (E.map pV)) (hT:σ.L tl=some (acc.map oV)) (hacc:acc.length<ax)
  (hp:E[t]?=some p) (hq:E[t+1]?=some q) (h:∀ ρ',ρ' 3=some (.lst el)→ρ' 7=some (.lst tl)→again ρ' (σ.ct tl ((acc++stp (t+1) p q).map oV))) :
  eg C (.cons (.assign [(.tup [9,10])] (.sub (.loc 3) (.bin .sub (.loc 8) (.int 1))))
 (.cons (.assign [(.tup [11,12])] (.sub (.loc 3) (.loc 8)))
 (.cons (.assign [(.var 13)] (.ite (.cmp .eq (.bin .mod (.loc 8) (.int 2)) (.int 0)) (.str "equal") (.ite (.cmp .eq (.loc 9) (.loc 11)) (.str "insert") (.ite (.cmp .eq (.loc 10) (.loc 12)) (.str "delete") (.str "replace")))))
 (.cons (.cond (.cmp .ne (.tup (.cons (.loc 9) (.cons (.loc 10) .nil))) (.tup (.cons (.loc 11) (.cons (.loc 12) .nil)))) (.cons (.expr (.bm .append (.loc 7) (.cons (.tup (.cons (.loc 13) (.cons (.loc 9) (.cons (.loc 11) (.cons (.loc 10) (.cons (.loc 12) .nil)))))) .nil)))
 .nil) .nil)
 .nil)))) (upd ρ 8 (.int (t+1:Nat))) σ (ph again K):=by
 have at_:∀ {i:Nat} {p:P2},E[i]?=some p→(E.map pV)[i]?=some (pV p):=fun {i p} h=>by rw [bw,h];rfl
 refine d5 [.int p.1,.int p.2] (dK (n:=t) r3 hE ((eO (a:=.loc 8) (b:=.int 1) (m:=t+1) (n:=1) rfl rfl (Nat.le_add_left 1 t)).trans (by rw [yu])) (at_ hp)) rfl ?_
 refine d5 [.int q.1,.int q.2] (dK (n:=t+1) r3 hE rfl (at_ hq)) rfl ?_
 have hmod:evT σ (dk [11,12] [.int q.1,.int q.2] (dk [9,10] [.int p.1,.int p.2] (upd ρ 8 (.int (t+1:Nat))))) (.cmp .eq (.bin .mod (.loc 8) (.int 2)) (.int 0))=some (decide ((t+1)%2=0)) :=
  iS (m:=(t+1)%2) (n:=0) (by
   show kf ((0:Int)<2) (V.int (((t+1:Nat):Int)%2))=_
   unfold kf
   rw [bp (by decide)]
   exact bx (fun i=>some (V.int i)) (Int.natCast_emod (t+1) 2).symm) rfl
 refine jB _ (qW hmod rfl (qW (iS (a:=.loc 9) (b:=.loc 11) rfl rfl) rfl (qW (iS (a:=.loc 10) (b:=.loc 12) rfl rfl) rfl rfl))) ?_
 refine gh _ (ev2 (m:=p.1) (n:=p.2) rfl rfl) (gh _ (ev2 (m:=q.1) (n:=q.2) rfl rfl) (EC ?_))
 unfold stp at h
 by_cases c:p=q
 ·rw [bp c,dp,tg hT] at h
  rw [fe (fun n=>n c)]
  exact uy (gj (h _ r3 r7))
 ·rw [aw c,fb] at h
  rw [fc c]
  exact zu (eV (oV _) r7 hT (ev5 rfl rfl rfl rfl rfl) (by rw [az];exact hacc) (gj (gj (h _ r3 r7))))
inductive IF (σ:St) (lk el:Addr) (na nb:Nat) (L:List T3) (t:Nat) (ρ:Fr) (σ':St):Prop
 | mk:ρ 0=some (.lst lk)→ρ 1=some (.int na)→ρ 2=some (.int nb)→ρ 3=some (.lst el)→Ext σ σ'→σ'.L el=some (((0,0)::si (L.take t)).map pV)→IF σ lk el na nb L t ρ σ'
inductive IB (σ:St) (el tl:Addr) (E:List P2) (t:Nat) (ρ:Fr) (σ':St):Prop
 | mk (acc:List O5) (p:P2):ρ 3=some (.lst el)→ρ 7=some (.lst tl)→Ext σ σ'→σ'.L el=some (E.map pV)→σ'.L tl=some (acc.map oV)→acc.length≤t→E[t]?=some p→acc++nE (t+1) p (E.drop (t+1))=nE 1 (0,0) (E.drop 1)→IB σ el tl E t ρ σ'
theorem fU:∀ {L:List T3},(si L).length=2*L.length
 | []=>rfl
 | t::L=>by
  have:=fU (L:=L)
  show(si L).length+2=_
  rw [this,bz];rfl
theorem yM {P:Nat→Option Fn} {k n na nb:Nat} (hk:P k=some ⟨3,[],vM⟩) {σ:St} {lk:Addr} {L:List T3} {Q:V→St→Prop} (hL:σ.L lk=some (L.map tV)) (hl:L.length<100000) (hm:pJ 0 0 (L++[(na,nb,0)]))
  (h:∀ c σ',Ext σ σ'→σ.L c=none→σ'.L c=some ((codes 0 0 (L++[(na,nb,0)])).map oV)→Q (.lst c) σ'):gu P (n+1) k [.lst lk,.int na,.int nb] σ Q:=by
 refine⟨_,hk,ah 3,ah 3,?_⟩
 refine zY [pV (0,0)] rfl (cp rfl) fun el hel=>?_
 refine⟨_,rfl,_,((Ext.refl σ).ct (xs:=[pV (0,0)]) hel).L _ _ hL,?_⟩
 have hne:lk≠el:=fun q=>by rw [q,hel] at hL;cases hL
 refine oo (IF σ lk el na nb L) ?_ ?_ ⟨rfl,rfl,rfl,rfl,(Ext.refl σ).ct hel,bc _ _ _⟩
 ·rintro t v ρ' σ' hv ⟨r0,r1,r2,r3,E,he⟩
  refine⟨E.L _ _ hL,fun kk hag=>?_⟩
  rw [bw] at hv
  obtain⟨u,hu,rfl⟩:=omap hv
  obtain⟨ht,hu'⟩:=ay.mp hu
  obtain⟨a,b,s⟩:=u
  refine⟨_,rfl,rfl,?_⟩
  refine⟨_,r3,(by show(σ'.L el).isSome=true;rw [he];rfl),?_⟩
  rw [te,dW]
  refine kr (Q:=_) _ (vs:=[pV (a,b),pV (a+s,b+s)]) ?_ ⟨cp rfl,fun c hc=>?_⟩
  ·rw [cg,ev2 (a:=.loc 4) (b:=.loc 5) (m:=a) (n:=b) rfl rfl,cg,ev2 (ir (a:=.loc 4) (b:=.loc 6) (m:=a) (n:=s) rfl rfl) (ir (a:=.loc 5) (b:=.loc 6) (m:=b) (n:=s) rfl rfl)];rfl
  have hc2:el≠c:=fun q=>by rw [q,hc] at he;cases he
  refine⟨_,_,hc2,(cj hc2).trans he,bc _ _ _,?_,rfl,?_⟩
  ·have:=fU (L:=L.take t)
   simp only [az,bz,List.length_nil,this,ip]
   unfold ax;(exact kc (.k (.a (.a (.m 2 .A) .U) (.a .aP .U)) .S) [[1,2,2,2]] (.l .B .aH) .U .I hl ht (Ar.fm _ _).1)
  refine hag _ _ ⟨r0,r1,r2,r3,(E.ct (E.noL hc)).ct hel,?_⟩
  refine(bc _ _ _).trans (bx some ?_)
  rw [lz ht,hu']
  show _=((0,0)::(L.take t++[(a,b,s)]).flatMap _).map pV
  rw [List.flatMap_append,← fE,fb]
  rfl
 rintro ρ' σ' ⟨r0,r1,r2,r3,E,he⟩
 refine⟨E.L _ _ hL,?_⟩
 rw [az,fC] at he
 have hel2:=fU (L:=L)
 refine eV (pV (na,nb)) r3 he (ev2 r1 r2) (by rw [az,bz,hel2];unfold ax;(exact dh (.l (.a (.m 2 .A) .U) .S) [[1,2]] (.l .A .aH) hl)) ?_
 rw [show((0,0)::si L).map pV++[pV (na,nb)]=((0,0)::(si L++[(na,nb)])).map pV by rw [← fE,fb];rfl]
 have E2:=E.ct (c:=el) (xs:=((0,0)::(si L++[(na,nb)])).map pV) hel
 have he2:(σ'.ct el (((0,0)::(si L++[(na,nb)])).map pV)).L el=some (((0,0)::(si L++[(na,nb)])).map pV):=bc _ _ _
 generalize σ'.ct el (((0,0)::(si L++[(na,nb)])).map pV)=σ2 at E2 he2
 refine zY [] rfl (br _) fun tl htl=>?_
 have hne2:el≠tl:=fun q=>by rw [q,htl] at he2;cases he2
 have htl0:=E2.noL htl
 have hlen:((0,0)::(si L++[(na,nb)])).length=2*L.length+2:=by rw [bz,bg,du,hel2]
 have hc:=gD (k:=1) rfl hm
 have hd:((0,0)::(si L++[(na,nb)])).drop 1=si L++[(na,nb)]:=rfl
 rw [← hd] at hc
 have h00:((0,0)::(si L++[(na,nb)]))[0]?=some (0,0):=rfl
 generalize (0,0)::(si L++[(na,nb)])=EE at he2 hlen hc h00
 refine⟨_,r3,_,(cj hne2).trans he2,1,((EE.map pV).length:Int),rfl,rfl,by decide,by rw [az,hlen];(exact(Ar.nab _).elim (fun q1=>(dq .R [[1,2,1]] (.l .B .aH) (.ie .L (.t (.a .a7 .W))) hl q1.2)) fun q1=>(av .R .a (.ie .L (.g (.t (.a .a7 .W)))) q1.2)),?_⟩
 refine oo (IB σ el tl EE) ?_ ?_ ⟨[],(0,0),r3,rfl,E2.ct htl0,(cj hne2).trans he2,bc _ _ _,br _,h00,rfl⟩
 ·rintro t v ρ2 σ3 hv ⟨acc,p,q3,q7,E3,g1,g2,hal,hp,e⟩
  refine⟨trivial,fun kk hag=>?_⟩
  obtain⟨hlt,rfl⟩:=zh (a:=1) hv
  rw [az] at hlt
  have hq:EE[t+1]?=some EE[t+1]:=bq (by exact av (.l .M .B) .a (.l (.a .U .A) .B) hlt)
  rw [dj (i:=t+1) (by exact av (.l .M .B) .a (.l (.a .U .A) .B) hlt)] at e
  generalize EE[t+1]=q at hq e
  rw [Nat.add_comm 1 t]
  refine rO q3 q7 g1 g2 (by unfold ax;(exact eT .aH [[1,2,1,1,1]] (.l .B .aH) (.e .C (.a .a7 .W)) .aS (.l (.a .U .D) .C) hl hlen hal hlt)) hp hq fun ρ4 p3 p7=>?_
  refine hag _ _ ⟨acc++stp (t+1) p q,q,p3,p7,E3.ct htl0,(cj hne2).trans g1,bc _ _ _,?_,hq,?_⟩
  ·rw [bg]
   have:(stp (t+1) p q).length≤1:=by
    unfold stp
    split
    ·exact br _
    ·exact ah _
   (exact eh (.k .P .R) .b .I (.k .B .U) hal this)
  ·rw [← e,ix];rfl
 rintro ρ2 σ3 ⟨acc,p,q3,q7,E3,g1,g2,hal,hp,e⟩
 refine⟨trivial,?_⟩
 have hl2:(qc 1 ((EE.map pV).length:Int)).length=EE.length-1:=(wh (a:=1) (b:=(EE.map pV).length)).trans (by rw [az])
 rw [hl2,show EE.length-1+1=EE.length by exact av .aT .g .aT (aa (av .D .A (.e .A (.a .a7 .W)) hlen)),List.drop_length] at e
 have e:acc++[]=_:=e
 rw [dp] at e
 refine u4 (.lst tl) q7 (h _ _ E3 htl0 ?_)
 rw [← hc,← e]
 exact g2
end MP
end
section
namespace MP
open PySem SM
noncomputable def Nb (H:Nat→Nat→Prop) (t u:T3):Prop:=¬ H (t.1+t.2.2) (t.2.1+t.2.2)∨¬ H (u.1-1) (u.2.1-1)
noncomputable def lD (H:Nat→Nat→Prop):List T3→Prop
 | t::u::r=>Nb H t u∧lD H (u::r)
 | _=>True
theorem kL {H:Nat→Nat→Prop} {t:T3} {R:List T3}:∀ {L:List T3},lD H L→lD H (t::R)→(∀ u∈L,Nb H u t)→lD H (L++t::R)
 | [],_,h,_=>h
 | [u],_,h,q=>⟨q u (.head _),h⟩
 | u::v::L,h0,h,q=>⟨h0.1,kL (L:=v::L) h0.2 h fun w hw=>q w (.tail _ hw)⟩
theorem BT.H5 {H:Nat→Nat→Prop} {alo ahi blo bhi:Nat} {L:List T3} (h:BT H alo ahi blo bhi L):lD H L:=by
 induction h with
 | nil _=>trivial
 | @node alo ahi blo bhi i j k L R B hL hR ihL ihR =>
  have Rn:=B.run
  have:=B.pos;have:=Rn.ai;have:=Rn.ia;have:=Rn.bj;have:=Rn.jb
  have oL:=hL.ok;have oR:=hR.ok
  refine kL ihL ?_ fun u hu=>.inr fun hh=>?_
  ·cases R with
   | nil=>trivial
   | cons u R =>
    refine⟨.inl fun hh=>?_,ihR⟩
    have Ru:=oR.2.2 u (.head _)
    have hu:=(oR.1 u (.head _)).2
    have:=Ru.ai;have:=Ru.ia;have:=Ru.bj;have:=Ru.jb
    have:=B.max i j (k+1) (by exact fo (.l .O .M) .j) ⟨by(rename_i z7 z6 z5 z4 z3 z2 z1;exact av .A .a .A z7),by(rename_i z3 z2 z1;exact jt .H .d (.l .O .D) (.k .P .F) (.k .aK .C) hu z3 z2),by(rename_i z5 z4 z3 z2 z1;exact av .A .a .A z5),by(rename_i z1;exact jt .H .d (.l .O .D) (.k .P .F) (.k .aK .C) hu z1 this),fun t ht=>by
     rcases ic t k with c | c
     ·exact Rn.eq t c
     ·obtain rfl:t=k:=by(exact dq .C .i .Q .a4 ht c)
      exact hh⟩
    (exact this.elim (fun q1=>(dh .ff .o (.l .M .A) q1)) fun q1=>(dh .ff .o (.e .M .A) q1.1))
  ·have Ru:=oL.2.2 u hu
   have hu':=(oL.1 u hu).2
   have:=Ru.ai;have:=Ru.ia;have:=Ru.bj;have:=Ru.jb
   have hh:H (i-1) (j-1):=hh
   have:=B.max (i-1) (j-1) (k+1) (by exact fo (.l .O .M) .j) ⟨by(rename_i z3 z2 z1;exact jU .A [[1,1,1,1,-1]] .a5 .aS (.k .aA .F) (.e .L .F) hu' z3 z2 (aa (eh .D .b .T .bS hu' z2))),by(rename_i z7 z6 z5 z4 z3 z2 z1;exact dn .H .b (.k .aB .C) (.e .M .D) z7 (aa (eh .D .b .T .bS hu' z2))),by(rename_i z1;exact jU .A [[1,1,1,1,-1]] .a5 .aS (.k .aA .F) (.e .L .F) hu' z1 this (aa (eh .D .b .T .bS hu' this))),by(rename_i z5 z4 z3 z2 z1;exact dn .H .b (.k .aB .C) (.e .M .D) z5 (aa (eh .D .b .T .bS hu' this))),fun t ht=>by
    cases t with
    | zero=>exact hh
    | succ t =>
     have:=Rn.eq t (by exact av .B .a (.l .M .L) ht)
     rwa [show i-1+(t+1)=i+t by(rename_i z3 z2 z1;exact cv (.e .a2 .a0) .g .bK (aa (eh .D .b .T .bS hu' z3))),show j-1+(t+1)=j+t by(rename_i z1;exact cv (.e .a2 .a0) .g .bK (aa (eh .D .b .T .bS hu' z1)))]⟩
   (rename_i z3 z2 z1;exact this.elim (fun q1=>(dh .ff .o (.l .M .A) q1)) fun q1=>(dh .ff .o (.e .M .A) q1.1))
noncomputable def tn (xs:List Int):Nat→Nat
 | 0=>0
 | i+1=>tn xs i+(if xs[i+1]?=xs[i]? then 0 else 1)
theorem nG {xs:List Int} {i:Nat}:∀ (d:Nat),tn xs i≤tn xs (i+d)
 | 0=>ah _
 | d+1=>jd (nG d) (kq _ _)
theorem zb {xs:List Int} {i:Nat}:∀ {d:Nat},tn xs (i+d)=tn xs i→∀ e,e≤d→xs[i+e]?=xs[i]?
 | 0,_,e,he=>by
  obtain rfl:e=0:=Nat.le_zero.mp he
  rfl
 | d+1,h,e,he=>by
  have h1:=nG (xs:=xs) (i:=i) d
  have h:tn xs (i+d)+(if xs[i+d+1]?=xs[i+d]? then 0 else 1)=tn xs i:=h
  by_cases c:xs[i+d+1]?=xs[i+d]?
  ·rw [bp c] at h
   have ih:=zb (d:=d) h
   rcases ic e (d+1) with q | q
   ·exact ih e (by exact av .A .a .Q q)
   ·obtain rfl:e=d+1:=by(exact dq .a9 .i .X (.k .L .A) he q)
    exact c.trans (ih d (ah _))
  ·rw [aw c] at h;(exact False.elim (dq .ff .c .A .cD h1 h))
theorem pQ {xs:List Int} {i:Nat}:∀ {d:Nat},tn xs (i+d)=tn xs i+1→xs[i+d]?≠xs[i]?
 | 0,h=>by rw [qk] at h;(exact False.elim (dh .ff [[0,-1]] (.e .A .M) h))
 | d+1,h=>by
  have h1:=nG (xs:=xs) (i:=i) d
  have h:tn xs (i+d)+(if xs[i+d+1]?=xs[i+d]? then 0 else 1)=tn xs i+1:=h
  by_cases c:xs[i+d+1]?=xs[i+d]?
  ·rw [bp c] at h
   have ih:=pQ (d:=d) h
   exact fun q=>ih (c.symm.trans q)
  ·rw [aw c] at h
   have:=zb (d:=d) (by exact av .C .g (.e .M .L) h) d (ah _)
   exact fun q=>c (q.trans this.symm)
theorem FI {xs ys:List Int} {t u:T3} (ht:0<t.2.2) (hu:0<u.2.2) (Rt:∀ e,e<t.2.2→pg (ks xs) (ks ys) (t.1+e) (t.2.1+e)) (Ru:pg (ks xs) (ks ys) u.1 u.2.1) (ha:pk t u) (nb:Nb (pg (ks xs) (ks ys)) t u) :
  tn xs t.1+tn ys t.2.1+2≤tn xs u.1+tn ys u.2.1:=by
 unfold pk at ha
 obtain⟨d,hd⟩:∃ d,u.1=t.1+d:=⟨u.1-t.1,by exact cv .b1 .h (.e .a0 .A) (aa (cv .A .a .aP ha.1))⟩
 obtain⟨e,he⟩:∃ e,u.2.1=t.2.1+e:=⟨u.2.1-t.2.1,by exact cv .b1 .h (.e .a0 .A) (aa (cv .A .a .aP ha.2))⟩
 rw [hd,he] at Ru ⊢
 have m1:=nG (xs:=xs) (i:=t.1) d
 have m2:=nG (xs:=ys) (i:=t.2.1) e
 obtain⟨v,v1,v2⟩:=pg.ints.mp (Rt 0 ht)
 obtain⟨w,w1,w2⟩:=pg.ints.mp Ru
 rw [qk] at v1 v2
 have same:tn xs (t.1+d)=tn xs t.1→tn ys (t.2.1+e)=tn ys t.2.1→False:=fun s1 s2=>by
  have p1:=zb s1
  have p2:=zb s2
  rcases nb with q | q
  ·refine q (pg.ints.mpr ⟨v,?_,?_⟩)
   ·rw [p1 t.2.2 (by exact dn .A .b (.k .a8 .D) (.e .D .a0) ha.1 hd)];exact v1
   ·rw [p2 t.2.2 (by exact dn .A .b (.k .a8 .D) (.e .D .a0) ha.2 he)];exact v2
  ·refine q (pg.ints.mpr ⟨v,?_,?_⟩)
   ·rw [show u.1-1=t.1+(d-1) by exact jt .b1 .y (.e .D .a6) (.e .M .D) (.e .R .F) hd (aa (eh .D .b .T .bS ht ha.1)) (aa (jj .D .d .T (.k .a0 .D) (.e .D .a8) ht ha.1 hd)),p1 (d-1) (by exact av .A .a .aT (aa (jj .D .d .T (.k .a0 .D) (.e .D .a8) ht ha.1 hd)))];exact v1
   ·rw [show u.2.1-1=t.2.1+(e-1) by exact jt .b1 .y (.e .D .a6) (.e .M .D) (.e .R .F) he (aa (eh .D .b .T .bS ht ha.2)) (aa (jj .D .d .T (.k .a0 .D) (.e .D .a8) ht ha.2 he)),p2 (e-1) (by exact av .A .a .aT (aa (jj .D .d .T (.k .a0 .D) (.e .D .a8) ht ha.2 he)))];exact v2
 have one1:tn xs (t.1+d)=tn xs t.1→tn ys (t.2.1+e)=tn ys t.2.1+1→False:=fun s1 s2=>by
  have p1:=zb s1 d (ah _)
  have p2:=pQ s2
  rw [w1,v1] at p1
  rw [w2,v2] at p2
  exact p2 p1
 have one2:tn xs (t.1+d)=tn xs t.1+1→tn ys (t.2.1+e)=tn ys t.2.1→False:=fun s1 s2=>by
  have p1:=pQ s1
  have p2:=zb s2 e (ah _)
  rw [w1,v1] at p1
  rw [w2,v2] at p2
  exact p1 p2
 rcases ic (tn xs (t.1+d)+tn ys (t.2.1+e)) (tn xs t.1+tn ys t.2.1+2) with c | c
 ·exfalso
  have:(tn xs (t.1+d)=tn xs t.1∧tn ys (t.2.1+e)=tn ys t.2.1)∨(tn xs (t.1+d)=tn xs t.1∧tn ys (t.2.1+e)=tn ys t.2.1+1)∨(tn xs (t.1+d)=tn xs t.1+1∧tn ys (t.2.1+e)=tn ys t.2.1):=by(exact jr fun q1=>((ak.mp (kj.mp q1).1).elim (fun q2=>((aq q2).elim (fun q3=>(dq .ff .c .A .J m1 q3)) fun q3=>((ak.mp (kj.mp (kj.mp q1).2).2).elim (fun q4=>((aq q4).elim (fun q5=>(dq .ff .c .B (.l .B .M) q3 q5)) fun q5=>(jj .ff .k .A (.l .a0 (.a (.a .D .A) .W)) (.l .V .C) m2 c q5))) fun q4=>((aq q4).elim (fun q5=>(dq .ff .c .A .J m2 q5)) fun q5=>(jj .ff .k (.l .P (.a .Y .W)) .c8 .cB c q3 q5))))) fun q2=>((aq q2).elim (fun q3=>(dq .ff .c .A .J m2 q3)) fun q3=>((ak.mp (kj.mp (kj.mp q1).2).1).elim (fun q4=>((aq q4).elim (fun q5=>(dq .ff .c .A .J m1 q5)) fun q5=>(jj .ff .k (.l .P (.a .Y .W)) .cB .c8 c q3 q5))) fun q4=>((aq q4).elim (fun q5=>(dq .ff .c .B (.l .B .M) q3 q5)) fun q5=>(jj .ff .k .A (.l .Q (.a .T .W)) (.l .V .C) m1 c q5))))))
  rcases this with q | q | q
  ·exact same q.1 q.2
  ·exact one1 q.1 q.2
  ·exact one2 q.1 q.2
 ·exact c
theorem few {xs ys:List Int} {m:Nat}:∀ {L:List T3} {t:T3},(∀ u∈t::L,0<u.2.2∧∀ e,e<u.2.2→pg (ks xs) (ks ys) (u.1+e) (u.2.1+e))→(t::L).Pairwise pk→lD (pg (ks xs) (ks ys)) (t::L)→(∀ u∈t::L,tn xs u.1+tn ys u.2.1≤m)→tn xs t.1+tn ys t.2.1+2*L.length≤m
 | [],t,_,_,_,h=>h t (.head _)
 | u::L,t,hr,hp,hn,h=>by
  obtain⟨ha,hp⟩:=oe.mp hp
  have ih:=few (L:=L) (t:=u) (fun v hv=>hr v (.tail _ hv)) hp hn.2 fun v hv=>h v (.tail _ hv)
  have r1:=hr t (.head _)
  have r2:=hr u (.tail _ (.head _))
  have:=FI r1.1 r2.1 r1.2 (r2.2 0 r2.1) (ha u (.head _)) hn.1
  rw [bz];(exact pG (.k (.a .P (.m 2 .R)) .D) .b (.k (.a .a3 (.m 2 .C)) .D) (.k (.a .P .W) .a3) ih this)
theorem BT.few {xs ys:List Int} {m:Nat} (hx:∀ i,i<xs.length→tn xs i≤m) (hy:∀ i,i<ys.length→tn ys i≤m) {L:List T3} (h:BT (pg (ks xs) (ks ys)) 0 xs.length 0 ys.length L):L.length≤m+1:=by
 cases L with
 | nil=>exact br _
 | cons t L =>
  have ok:=h.ok
  have:=MP.few (m:=2*m) (fun u hu=>⟨(ok.1 u hu).2,(ok.2.2 u hu).eq⟩) ok.2.1 h.H5 fun u hu=>by
   have w:=ok.1 u hu
   have w1:=w.1
   unfold Within at w1
   have:=hx u.1 (by exact eh .B .b .a5 .aP w.2 w1.2.1)
   have:=hy u.2.1 (by exact eh .B .b .a5 .aP w.2 w1.2.2.2)
   (rename_i z1;exact eh (.k .P (.m 2 .C)) .b .I .bJ z1 this)
  rw [bz];(exact gV .aI [[2,1]] (.k (.a .Y (.m 2 .A)) .a7) this)
end MP
end
section
namespace MP
open PySem SM
noncomputable def Chn (xs:List Int):Nat→List P2→Nat→Prop
 | lo,[],hi=>lo=hi
 | lo,(s,n)::r,hi=>s=lo∧0<n∧(∀ t,t<n→xs[lo+t]?=xs[lo]?)∧(r≠[]→xs[lo+n]?≠xs[lo]?)∧Chn xs (lo+n) r hi
theorem Chn.le {xs:List Int}:∀ {R:List P2} {lo hi:Nat},Chn xs lo R hi→lo≤hi
 | [],_,_,h=>Nat.le_of_eq h
 | (s,n)::r,lo,hi,h=>jd (kq lo n) (Chn.le h.2.2.2.2)
theorem Chn.snoc {xs:List Int} {k:Nat}:∀ {R:List P2} {lo:Nat},Chn xs lo R k→(R≠[]→xs[k-1]?≠xs[k]?)→Chn xs lo (R++[(k,1)]) (k+1)
 | [],lo,h,_=>by
  obtain rfl:lo=k:=h
  exact⟨rfl,Nat.one_pos,fun t ht=>by
   obtain rfl:t=0:=Nat.lt_one_iff.mp ht
   rfl,fun q=>absurd rfl q,rfl⟩
 | (s,n)::r,lo,h,q=>by
  obtain⟨rfl,hn,he,hb,hr⟩:=h
  refine⟨rfl,hn,he,fun _=>?_,Chn.snoc hr fun hr'=>q (by simp)⟩
  cases r with
  | nil =>
   have hr:s+n=k:=hr
   have:=q (by simp)
   have e1:=he (n-1) (by exact av .B .a .aT (aa (dh .D .a .O hn)))
   rw [show s+(n-1)=k-1 by(exact jt .aQ .y .c0 .cJ (.e .R .F) hr (aa (dh .D .a .O hn)) (aa (eh .D .b .T (.e .a0 .A) hn hr)))] at e1
   rw [hr]
   exact fun x=>this (e1.trans x.symm)
  | cons x r=>exact hb (by simp)
theorem Chn.grow {xs:List Int} {k s n:Nat}:∀ {R:List P2} {lo:Nat},Chn xs lo (R++[(s,n)]) k→xs[k]?=xs[k-1]?→Chn xs lo (R++[(s,n+1)]) (k+1)
 | [],lo,h,q=>by
  obtain⟨rfl,hn,he,_,hr⟩:=h
  obtain rfl:s+n=k:=hr
  refine⟨rfl,Nat.succ_pos n,fun t ht=>?_,fun q=>absurd rfl q,rfl⟩
  rcases ic t n with c | c
  ·exact he t c
  ·obtain rfl:t=n:=by(exact dq .C .i .Q .a4 ht c)
   have:=he (t-1) (by exact av .B .a .aT (aa (dh .D .a .O hn)))
   rw [q,← this,show s+t-1=s+(t-1) by(exact dn .b1 .n (.e .M (.a .B .D)) (.e .R .D) (aa (av .bP .a .T hn)) (aa (dh .D .a .O hn)))]
 | (a,b)::R,lo,h,q=>by
  obtain⟨rfl,hn,he,hb,hr⟩:=h
  exact⟨rfl,hn,he,fun _=>hb (by simp),Chn.grow hr q⟩
theorem Chn.at {xs:List Int}:∀ {R:List P2} {lo hi i:Nat},Chn xs lo R hi→lo≤i→i<hi→∃ (r:Nat) (s n:Nat),R[r]?=some (s,n)∧s≤i∧i<s+n∧Chn xs s (R.drop r) hi
 | [],lo,hi,i,h,h1,h2=>by
  have h:lo=hi:=h
  (exact False.elim (kc .ff [[0,1,1,-1]] .A .cI (.e .A .C) h1 h2 h))
 | (s,n)::R,lo,hi,i,h,h1,h2=>by
  have h0:=h
  obtain⟨rfl,hn,he,hb,hr⟩:=h
  rcases ic i (s+n) with c | c
  ·exact⟨0,s,n,rfl,h1,c,h0⟩
  ·obtain⟨r,s',n',e,a,b,d⟩:=Chn.at hr c h2
   exact⟨r+1,s',n',e,a,b,d⟩
theorem Chn.drop {xs:List Int}:∀ {R:List P2} {lo hi r s n:Nat},Chn xs lo R hi→R[r]?=some (s,n)→lo≤s∧s+n≤hi∧0<n∧Chn xs s (R.drop r) hi
 | [],_,_,_,_,_,_,e=>by cases e
 | (a,b)::R,lo,hi,0,s,n,h,e=>by
  cases e
  have h0:=h
  obtain⟨rfl,hn,he,hb,hr⟩:=h
  exact⟨ah _,hr.le,hn,h0⟩
 | (a,b)::R,lo,hi,r+1,s,n,h,e=>by
  obtain⟨rfl,hn,he,hb,hr⟩:=h
  obtain⟨h1,h2,h3,h4⟩:=Chn.drop hr e
  exact⟨by exact cv .A .a .aP h1,h2,h3,h4⟩
section
variable {xs ys:List Int}
noncomputable abbrev HI (xs ys:List Int):Nat→Nat→Prop:=fun i j=>∃ c:Int,xs[i]?=some c∧ys[j]?=some c
noncomputable def cont (xs ys:List Int):List P2→List P2→Nat
 | x::r,y::s=>if xs[x.1]?=ys[y.1]? then min x.2 y.2+(if x.2=y.2 then cont xs ys r s else 0) else 0
 | _,_=>0
theorem oQ (hx:hi≤xs.length) (hy:hj≤ys.length):∀ {R S:List P2} {lo lj:Nat},Chn xs lo R hi→Chn ys lj S hj→n4 (HI xs ys) lo hi lj hj lo lj (cont xs ys R S)
 | [],S,lo,lj,h,g=>⟨ah _,h.le,ah _,g.le,fun t ht=>by cases S<;>cases ht⟩
 | x::R,[],lo,lj,h,g=>⟨ah _,h.le,ah _,g.le,fun t ht=>by cases ht⟩
 | (a,n)::R,(b,m)::S,lo,lj,h,g=>by
  obtain⟨rfl,hn,he,hb,hr⟩:=h
  obtain⟨rfl,gn,ge,gb,gr⟩:=g
  have l1:=hr.le
  have l2:=gr.le
  unfold cont
  by_cases c:xs[a]?=ys[b]?
  ·rw [bp c]
   have hit:∀ t,t<min n m→HI xs ys (a+t) (b+t):=fun t ht=>by
    have e1:=he t (by exact eh .B .b .S .N ht (Ar.fm _ _).1)
    have e2:=ge t (by exact eh .B .b .S .N ht (Ar.fm _ _).2.1)
    have la:a<xs.length:=by(exact jj .B .d .N (.l .O .D) .cF hx hn l1)
    have e0:=bq la
    exact⟨xs[a],by rw [e1,e0],by rw [e2,← c,e0]⟩
   by_cases d:n=m
   ·subst d
    rw [bp rfl,Nat.min_self]
    have ih:=oQ hx hy hr gr
    refine⟨ah _,by have:=ih.ia;(exact gV .aG .a .Y this),ah _,by have:=ih.jb;(exact gV .aG .a .Y this),fun t ht=>?_⟩
    rcases ic t n with q | q
    ·exact hit t (by exact(Ar.fm _ _).2.2.elim (fun q1=>(eh .B .b .S .N q q1)) fun q1=>(eh .B .b .S .N q q1))
    ·have:=ih.eq (t-n) (by exact dn .B .b (.l .C .aB) .b2 ht (aa (av .A .a .A q)))
     rwa [show a+n+(t-n)=a+t by exact gV (.e (.a .P .C) .T) .g (.e .a0 .D) (aa (av .A .a .A q)),show b+n+(t-n)=b+t by(exact gV (.e (.a .P .C) .T) .g (.e .a0 .D) (aa (av .A .a .A q)))] at this
   ·rw [aw d]
    exact⟨ah _,by show a+(min n m+0)≤hi;(exact dn (.k (.a .A (.a .B .O)) .C) .b .cF (.k .B .D) l1 (Ar.fm _ _).1),ah _,by show b+(min n m+0)≤hj;(exact dn (.k (.a .A (.a .B .O)) .C) .b .cF (.k .B .D) l2 (Ar.fm _ _).2.1),fun t ht=>hit t ht⟩
  ·rw [aw c]
   exact⟨ah _,by show a+0≤hi;(exact cv (.k .aQ .B) .a .aP l1),ah _,by show b+0≤hj;(exact cv (.k .aQ .B) .a .aP l2),fun t ht=>absurd ht (kg _)⟩
theorem oS (hx:hi≤xs.length) (hy:hj≤ys.length):∀ {R S:List P2} {lo lj k:Nat},Chn xs lo R hi→Chn ys lj S hj→(∀ t,t<k→HI xs ys (lo+t) (lj+t))→lo+k≤hi→lj+k≤hj→k≤cont xs ys R S
 | [],S,lo,lj,k,h,g,e,h1,h2=>by
  have h:lo=hi:=h
  (exact dn .A .e (.k .a8 .D) .b0 h1 h)
 | x::R,[],lo,lj,k,h,g,e,h1,h2=>by
  have g:lj=hj:=g
  (exact dn .A .e (.k .a8 .D) .b0 h2 g)
 | (a,n)::R,(b,m)::S,lo,lj,k,h,g,e,h1,h2=>by
  obtain⟨rfl,hn,he,hb,hr⟩:=h
  obtain⟨rfl,gn,ge,gb,gr⟩:=g
  cases k with
  | zero=>exact br _
  | succ k =>
   obtain⟨v,v1,v2⟩:=e 0 (Nat.succ_pos k)
   rw [qk] at v1 v2
   unfold cont
   rw [bp (v1.trans v2.symm)]
   rcases ic (min n m) (k+1) with c | c
   ·
    have d:n=m:=by
     rcases Nat.lt_trichotomy n m with q | q | q
     ·exfalso
      obtain⟨w,w1,w2⟩:=e n (by exact(Ar.fm _ _).2.2.elim (fun q1=>(eh .Q .b .bL .I c q1)) fun q1=>(jj .Q .d .bL (.l .A .D) .b8 c q q1))
      have:R≠[]:=fun z=>by subst z;have hr:a+n=hi:=hr;(exact(Ar.fm _ _).2.2.elim (fun q1=>(jU .ff [[0,1,1,-1,1]] .H (.l .D .L) (.e .aJ .C) (.k .F .D) h1 c hr q1)) fun q1=>(n3 .ff [[0,1,1,1,-1,1]] .H (.l .D .L) (.l .F .G) (.e .aJ .C) (.k .G .D) h1 c q hr q1))
      exact hb this (by rw [w1,v1];rw [ge n q] at w2;exact w2.symm.trans v2)
     ·exact q
     ·exfalso
      obtain⟨w,w1,w2⟩:=e m (by exact(Ar.fm _ _).2.2.elim (fun q1=>(jj .Q .d .bL (.l .A .D) .b8 c q q1)) fun q1=>(eh .Q .b .bL .I c q1))
      have:S≠[]:=fun z=>by subst z;have gr:b+m=hj:=gr;(exact(Ar.fm _ _).2.2.elim (fun q1=>(n3 .ff [[0,1,1,1,-1,1]] .H (.l .D .L) (.l .F .G) (.e .aJ .C) (.k .G .D) h2 c q gr q1)) fun q1=>(jU .ff [[0,1,1,-1,1]] .H (.l .D .L) (.e .aJ .C) (.k .F .D) h2 c gr q1))
      exact gb this (by rw [w2,v2];rw [he m q] at w1;exact w1.symm.trans v1)
    subst d
    rw [bp rfl,Nat.min_self]
    have:=oS hx hy (k:=k+1-n) hr gr (fun t ht=>by
     have:=e (n+t) (by exact Ar.sub _ _ (fun q1 p1=>(dn (.l .P .R) .b .cA (.e (.a .D .A) .R) ht p1)) fun q1 p1=>(dn (.l .P .R) .c .cA .bN ht p1))
     rwa [← dT,← dT] at this) (by exact Ar.sub _ _ (fun q1 p1=>(tc .Y .b .bG (.e .a0 .X) h1 p1)) fun q1 p1=>((Ar.fm _ _).2.2.elim (fun q2=>(yk .Y .u .bG (.l .G .X) .b3 (.k .B .G) h1 c p1 q2)) fun q2=>(yk .Y .u .bG (.l .G .X) .b3 (.k .B .G) h1 c p1 q2))) (by exact Ar.sub _ _ (fun q1 p1=>(tc .Y .b .bG (.e .a0 .X) h2 p1)) fun q1 p1=>((Ar.fm _ _).2.2.elim (fun q2=>(yk .Y .u .bG (.l .G .X) .b3 (.k .B .G) h2 c p1 q2)) fun q2=>(yk .Y .u .bG (.l .G .X) .b3 (.k .B .G) h2 c p1 q2)))
    (exact dn (.k .M .Q) .b .b8 (.k .M .aB) this (Ar.EN _ _))
   ·(exact cv (.k .M .Q) .a .F c)
theorem HI.eq:pg (ks xs) (ks ys)=HI xs ys:=funext fun i=>funext fun j=>propext pg.ints
structure Two (xs ys:List Int) (R S:List P2) (r s i n j m:Nat):Prop where
 a:R[r]?=some (i,n)
 b:S[s]?=some (j,m)
 e:xs[i]?=ys[j]?
noncomputable abbrev cd1 (i n j m:Nat):T3:=(i,j,min n m)
noncomputable abbrev cd2 (xs ys:List Int) (R S:List P2) (r s i n j m:Nat):T3:=(i+n-min n m,j+m-min n m,min n m+cont xs ys (R.drop (r+1)) (S.drop (s+1)))
variable {R S:List P2} {lo hi lj hj:Nat}
theorem Two.parts {r s i n j m:Nat} (T:Two xs ys R S r s i n j m) (cx:Chn xs lo R hi) (cy:Chn ys lj S hj) :
  (lo≤i∧i+n≤hi∧0<n∧∀ t,t<n→xs[i+t]?=xs[i]?)∧(lj≤j∧j+m≤hj∧0<m∧∀ t,t<m→ys[j+t]?=ys[j]?)∧Chn xs (i+n) (R.drop (r+1)) hi∧Chn ys (j+m) (S.drop (s+1)) hj:=by
 obtain⟨x1,x2,x3,x4⟩:=cx.drop T.a
 obtain⟨y1,y2,y3,y4⟩:=cy.drop T.b
 obtain⟨lr,er⟩:=ay.mp T.a
 obtain⟨ls,es⟩:=ay.mp T.b
 rw [dj lr,er] at x4
 rw [dj ls,es] at y4
 exact⟨⟨x1,x2,x3,x4.2.2.1⟩,⟨y1,y2,y3,y4.2.2.1⟩,x4.2.2.2.2,y4.2.2.2.2⟩
theorem Two.runs (hx:hi≤xs.length) (hy:hj≤ys.length) {r s i n j m:Nat} (T:Two xs ys R S r s i n j m) (cx:Chn xs lo R hi) (cy:Chn ys lj S hj) :
  (0<min n m∧n4 (HI xs ys) lo hi lj hj i j (min n m))∧n4 (HI xs ys) lo hi lj hj (i+n-min n m) (j+m-min n m) (min n m+cont xs ys (R.drop (r+1)) (S.drop (s+1))):=by
 obtain⟨⟨x1,x2,x3,x4⟩,⟨y1,y2,y3,y4⟩,c1,c2⟩:=T.parts cx cy
 have e0:xs[i]?=some xs[i]:=bq (by exact jj .B .d .N .cF (.l .O .D) hx x2 x3)
 have hit:∀ p q,p<n→q<m→HI xs ys (i+p) (j+q):=fun p q hp hq=>⟨xs[i],by rw [x4 p hp,e0],by rw [y4 q hq,← T.e,e0]⟩
 have cr:=oQ hx hy c1 c2
 refine⟨⟨by exact(Ar.fm _ _).2.2.elim (fun q1=>(dq .O .b .T .a4 x3 q1)) fun q1=>(dq .O .b .T .a4 y3 q1),⟨x1,by exact dn .G .b .cF (.k .B .D) x2 (Ar.fm _ _).1,y1,by exact dn .G .b .cF (.k .B .D) y2 (Ar.fm _ _).2.1,fun t ht=>hit t t (by exact eh .B .b .S .N ht (Ar.fm _ _).1) (by exact eh .B .b .S .N ht (Ar.fm _ _).2.1)⟩⟩,⟨by exact jt .A .q .I (.k .D .F) (.e (.a .B .D) (.a .C .F)) x1 (Ar.fm _ _).1 (aa (cv .V .a .I (Ar.fm _ _).1)),by have:=cr.ia;(exact pG .aG .b (.k (.a .a3 .C) .D) (.e .P .a3) this (aa (cv .V .a .I (Ar.fm _ _).1))),by exact jt .A .q .I (.k .D .F) (.e (.a .B .D) (.a .C .F)) y1 (Ar.fm _ _).2.1 (aa (cv .V .a .I (Ar.fm _ _).2.1)),by have:=cr.jb;(exact pG .aG .b (.k (.a .a3 .C) .D) (.e .P .a3) this (aa (cv .V .a .I (Ar.fm _ _).2.1))),fun t ht=>?_⟩⟩
 rcases ic t (min n m) with q | q
 ·have:=hit (n-min n m+t) (m-min n m+t) (by exact dn .aC .b .cA .b2 q (aa (av .A .a .A (Ar.fm _ _).1))) (by exact dn .aC .b .cA .b2 q (aa (av .A .a .A (Ar.fm _ _).2.1)))
  rwa [show i+(n-min n m+t)=i+n-min n m+t by exact pG (.e (.a .A .Q) .aA) .n (.e .a6 .G) (.e .a1 (.a .A .G)) (aa (av .A .a .A (Ar.fm _ _).1)) (aa (cv .V .a .I (Ar.fm _ _).1)),show j+(m-min n m+t)=j+m-min n m+t by(exact pG (.e (.a .A .Q) .aA) .n (.e .a6 .G) (.e .a1 (.a .A .G)) (aa (av .A .a .A (Ar.fm _ _).2.1)) (aa (cv .V .a .I (Ar.fm _ _).2.1)))] at this
 ·have:=cr.eq (t-min n m) (by exact dn .B .b (.l .C .aB) .b2 ht (aa (av .A .a .A q)))
  rwa [show i+n+(t-min n m)=i+n-min n m+t by exact pG (.e (.a .P .C) .a1) .n (.e (.a .C .G) .F) (.e (.a .D .G) .P) (aa (av .A .a .A q)) (aa (cv .V .a .I (Ar.fm _ _).1)),show j+m+(t-min n m)=j+m-min n m+t by(exact pG (.e (.a .P .C) .a1) .n (.e (.a .C .G) .F) (.e (.a .D .G) .P) (aa (av .A .a .A q)) (aa (cv .V .a .I (Ar.fm _ _).2.1)))] at this
noncomputable def Btr (t u:T3):Prop:=u.2.2<t.2.2∨(u.2.2=t.2.2∧(t.1<u.1∨(t.1=u.1∧t.2.1≤u.2.1)))
theorem J2 {i n j m i' j' k' C:Nat} (r1:i≤i') (r2:i'<i+n) (s1:j≤j') (s2:j'<j+m) (d:i+n-i'=j+m-j') (mx:k'-(i+n-i')≤C) (c:i+n-i'<k'):k'<min n m+C∨(k'=min n m+C∧(i+n-min n m<i'∨(i+n-min n m=i'∧j+m-min n m≤j'))):=by
 obtain⟨e,he⟩:∃ e,e=i+n-i':=⟨_,rfl⟩
 have h1:e≤min n m:=Nat.le_min.mpr ⟨by exact jt .A .d .a7 (.e .A .F) (.e .aK .a0) r1 he (aa (cv .V .a .aB r2)),by exact yk .A .u .a7 (.e .F .G) (.e .A .F) (.e (.a .G .D) .a0) s1 d he (aa (cv .V .a .aB s2))⟩
 rw [← he] at mx c d
 have b1:i+n=i'+e:=by(exact tc .bZ [[1,1,1],[1,-1,-1]] (.e .D .F) (.e .aR .P) he (aa (cv .V .a .aB r2)))
 have b2:j+m=j'+e:=by(exact tc .bZ [[1,1,1],[1,-1,-1]] (.e .D .F) (.e .aR .P) d (aa (cv .V .a .aB s2)))
 rw [b1,b2]
 generalize min n m=z at h1 ⊢
 rcases ic e z with q | q
 ·exact .inl (by exact jt .aB .q .b8 (.l .F .B) (.e .a1 .A) mx q (aa (av .A .a .B c)))
 ·obtain rfl:z=e:=by(exact dq .C .v .a4 .A h1 q)
  rw [yu,yu]
  rcases ic k' (z+C) with w | w
  ·exact .inl w
  ·exact .inr ⟨by exact jj .b1 [[1,0,1,0],[1,1,0,-1]] .b8 (.k .Q .A) (.e .aB .A) mx w (aa (av .A .a .B c)),.inr ⟨rfl,ah _⟩⟩
theorem J3 {i n j m i' j' k':Nat} (r1:i≤i') (r2:i'<i+n) (s1:j≤j') (s2:j'<j+m) (c:k'≤min (i+n-i') (j+m-j')):k'<min n m∨(k'=min n m∧(i<i'∨(i=i'∧j≤j'))):=by
 obtain⟨c1,c2⟩:=Nat.le_min.mp c
 have h:k'≤min n m:=Nat.le_min.mpr ⟨by exact jt .A .d .a7 .cC (.e .aK .a0) r1 c1 (aa (cv .V .a .aB r2)),by exact jt .A .d .a7 .cC (.e .aK .a0) s1 c2 (aa (cv .V .a .aB s2))⟩
 rcases oa h with q | q
 ·exact .inl q
 ·refine .inr ⟨q,?_⟩
  rcases oa r1 with w | w
  ·exact .inl w
  ·exact .inr ⟨w,s1⟩
theorem Two.best (hx:hi≤xs.length) (hy:hj≤ys.length) (cx:Chn xs lo R hi) (cy:Chn ys lj S hj) {i' j' k':Nat} (hk:0<k') (h:n4 (HI xs ys) lo hi lj hj i' j' k') :
  ∃ r s i n j m,Two xs ys R S r s i n j m∧(Btr (cd1 i n j m) (i',j',k')∨Btr (cd2 xs ys R S r s i n j m) (i',j',k')):=by
 have a1:=h.ai;have a2:=h.ia;have b1:=h.bj;have b2:=h.jb
 obtain⟨r,i,n,er,r1,r2,_⟩:=cx.at a1 (by(exact eh .B .b .a5 .aP hk a2):i'<hi)
 obtain⟨s,j,m,es,s1,s2,_⟩:=cy.at b1 (by(exact eh .B .b .a5 .aP hk b2):j'<hj)
 obtain⟨v,v1,v2⟩:=h.eq 0 hk
 rw [qk] at v1 v2
 obtain⟨x1,x2,x3,x4⟩:=cx.drop er
 obtain⟨y1,y2,y3,y4⟩:=cy.drop es
 obtain⟨lr,er'⟩:=ay.mp er
 obtain⟨ls,es'⟩:=ay.mp es
 rw [dj lr,er'] at x4
 rw [dj ls,es'] at y4
 obtain⟨_,_,hex,hbx,cx'⟩:=x4
 obtain⟨_,_,hey,hby,cy'⟩:=y4
 have ex:xs[i]?=some v:=by have:=hex (i'-i) (by exact dn .B .b (.l .C .aB) .b2 r2 (aa (av .A .a .A r1)));rw [show i+(i'-i)=i' by exact cv .aQ .g (.e .aD .C) (aa (av .A .a .A r1)),v1] at this;exact this.symm
 have ey:ys[j]?=some v:=by have:=hey (j'-j) (by exact dn .B .b (.l .C .aB) .b2 s2 (aa (av .A .a .A s1)));rw [show j+(j'-j)=j' by exact cv .aQ .g (.e .aD .C) (aa (av .A .a .A s1)),v2] at this;exact this.symm
 refine⟨r,s,i,n,j,m,⟨er,es,ex.trans ey.symm⟩,?_⟩
 rcases ic (min (i+n-i') (j+m-j')) k' with c | c
 ·
  have d:i+n-i'=j+m-j':=by
   rcases Nat.lt_trichotomy (i+n-i') (j+m-j') with q | q | q
   ·exfalso
    obtain⟨w,w1,w2⟩:=h.eq (i+n-i') (by exact(Ar.fm _ _).2.2.elim (fun q1=>(eh .B .b .U .I c q1)) fun q1=>(jj .B .d .U (.l .A .D) .b8 c q q1))
    rw [show i'+(i+n-i')=i+n by(exact gV .bZ .g (.e .aD .Y) (aa (cv .V .a .aB r2)))] at w1
    have n1:R.drop (r+1)≠[]:=fun z=>by rw [z] at cx';have cx':i+n=hi:=cx';(exact(Ar.fm _ _).2.2.elim (fun q1=>(vQ .ff [[0,1,1,-1,-1,1]] .G .cB (.e .a3 .C) (.e (.a .H .A) .a3) (.k .H .D) a2 c cx' (aa (cv .V .a .aB r2)) q1)) fun q1=>(I7 .ff [[0,1,1,1,-1,-1,1]] .G .cB (.l .F .G) (.e (.a .H .I) .C) (.e (.a .F .A) (.a .H .I)) (.k .G .D) a2 c q cx' (aa (cv .V .a .aB r2)) q1))
    have:=hey (j'+(i+n-i')-j) (by exact pF .B .d .L (.e .a1 (.a .G .B)) (.e (.a .A .G) .aR) q (aa (cv .V .a .aB s2)) (aa (cv .V .a .A s1)))
    rw [show j+(j'+(i+n-i')-j)=j'+(i+n-i') by exact gV .bZ .g (.e .aD .Y) (aa (cv .V .a .A s1)),w2,ey] at this
    exact hbx n1 (by rw [w1,this,ex])
   ·exact q
   ·exfalso
    obtain⟨w,w1,w2⟩:=h.eq (j+m-j') (by exact(Ar.fm _ _).2.2.elim (fun q1=>(jj .B .d .U (.l .A .D) .b8 c q q1)) fun q1=>(eh .B .b .U .I c q1))
    rw [show j'+(j+m-j')=j+m by(exact gV .bZ .g (.e .aD .Y) (aa (cv .V .a .aB s2)))] at w2
    have n1:S.drop (s+1)≠[]:=fun z=>by rw [z] at cy';have cy':j+m=hj:=cy';(exact(Ar.fm _ _).2.2.elim (fun q1=>(I7 .ff [[0,1,1,1,-1,-1,1]] .G .cB (.l .F .G) (.e (.a .H .I) .C) (.e (.a .F .A) (.a .H .I)) (.k .G .D) b2 c q cy' (aa (cv .V .a .aB s2)) q1)) fun q1=>(vQ .ff [[0,1,1,-1,-1,1]] .G .cB (.e .a3 .C) (.e (.a .H .A) .a3) (.k .H .D) b2 c cy' (aa (cv .V .a .aB s2)) q1))
    have:=hex (i'+(j+m-j')-i) (by exact pF .B .d .L (.e .a1 (.a .G .B)) (.e (.a .A .G) .aR) q (aa (cv .V .a .aB r2)) (aa (cv .V .a .A r1)))
    rw [show i+(i'+(j+m-j')-i)=i'+(j+m-j') by exact gV .bZ .g (.e .aD .Y) (aa (cv .V .a .A r1)),w1,ex] at this
    exact hby n1 (by rw [w2,this,ey])
  have mx:=oS hx hy (k:=k'-(i+n-i')) cx' cy' (fun t ht=>by
   have:=h.eq (i+n-i'+t) (by exact Ar.sub _ _ (fun q1 p1=>(dn .aC .b .cA (.e (.a .D .A) .C) ht p1)) fun q1 p1=>(dn .aC .c .cA .bN ht p1))
   rwa [show i'+(i+n-i'+t)=i+n+t by exact JC (.e (.a .A .Q) (.a .a1 .C)) .g (.e .aD .a1) (aa (cv .V .a .aB r2)),show j'+(i+n-i'+t)=j+m+t by(exact pG (.e (.a .A .Q) (.a .a1 .C)) [[1,-1,-1],[1,1,1]] (.e .B .G) (.e (.a .G .A) .a1) d (aa (cv .V .a .aB s2)))] at this) (by exact Ar.sub _ _ (fun q1 p1=>(G5 .Y .r (.k .a3 .D) (.e (.a .H .F) .P) .cN a2 (aa (cv .V .a .aB r2)) p1)) fun q1 p1=>(dn .Y .b .bF .b3 x2 p1)) (by exact Ar.sub _ _ (fun q1 p1=>(J9 .Y [[1,1,-1,-1,1]] (.k .a3 .D) (.e .H .I) (.e (.a .I .F) .P) .cN b2 d (aa (cv .V .a .aB s2)) p1)) fun q1 p1=>(dn .Y .b .bF .b3 y2 p1))
  exact .inr (J2 r1 r2 s1 s2 d mx (by exact(Ar.fm _ _).2.2.elim (fun q1=>(eh .B .b .U .I c q1)) fun q1=>(jj .B .d .U (.e .A .D) .b8 c d q1)))
 ·exact .inl (J3 r1 r2 s1 s2 c)
noncomputable def nT (t:T3):Int × Int × Int:=(-(t.2.2:Int),t.1,t.2.1)
theorem t5 (a b:Int × Int × Int):zq a b=a∨zq a b=b:=by
 unfold zq
 split
 ·exact .inr rfl
 ·exact .inl rfl
theorem LeT.refl (a:Int × Int × Int):LeT a a:=.inr ⟨rfl,.inr ⟨rfl,Int.le_refl _⟩⟩
theorem t6 (a b:Int × Int × Int):LeT (zq a b) a∧LeT (zq a b) b:=by
 have h:=rp a b
 unfold leT at h
 unfold zq
 by_cases c:gv [b.1,b.2.1,b.2.2] [a.1,a.2.1,a.2.2]=true
 ·rw [bp c]
  rw [c] at h
  exact⟨(LeT.total a b).elim (fun q=>absurd (h.mpr q) (by decide)) id,LeT.refl b⟩
 ·rw [aw c]
  rw [Bool.not_eq_true] at c
  rw [c] at h
  exact⟨LeT.refl a,h.mp rfl⟩
structure MB (xs ys:List Int) (R S:List P2) (lo hi lj hj:Nat) (Sn:Nat→Nat→Prop) (best:Int × Int × Int):Prop where
 or:best=(0,0,0)∨∃ t:T3,best=nT t∧0<t.2.2∧n4 (HI xs ys) lo hi lj hj t.1 t.2.1 t.2.2
 z:LeT best (0,0,0)
 mx:∀ r s i n j m,Sn r s→Two xs ys R S r s i n j m→LeT best (nT (cd1 i n j m))∧LeT best (nT (cd2 xs ys R S r s i n j m))
theorem MB.start:MB xs ys R S lo hi lj hj (fun _ _=>False) (0,0,0):=⟨.inl rfl,LeT.refl _,fun _ _ _ _ _ _ h=>h.elim⟩
theorem MB.skip {Sn Sn':Nat→Nat→Prop} {best:Int × Int × Int} (h:MB xs ys R S lo hi lj hj Sn best) (hs:∀ r s i n j m,Sn' r s→Two xs ys R S r s i n j m→Sn r s):MB xs ys R S lo hi lj hj Sn' best:=⟨h.or,h.z,fun r s i n j m q T=>h.mx r s i n j m (hs r s i n j m q T) T⟩
theorem MB.take (hx:hi≤xs.length) (hy:hj≤ys.length) (cx:Chn xs lo R hi) (cy:Chn ys lj S hj) {Sn Sn':Nat→Nat→Prop} {best:Int × Int × Int} {r s i n j m:Nat} (h:MB xs ys R S lo hi lj hj Sn best) (T:Two xs ys R S r s i n j m) (hs:∀ x y,Sn' x y→Sn x y∨(x=r∧y=s)) :
  MB xs ys R S lo hi lj hj Sn' (zq (zq best (nT (cd1 i n j m))) (nT (cd2 xs ys R S r s i n j m))):=by
 obtain⟨⟨p1,r1⟩,r2⟩:=T.runs hx hy cx cy
 have a:=t6 best (nT (cd1 i n j m))
 have b:=t6 (zq best (nT (cd1 i n j m))) (nT (cd2 xs ys R S r s i n j m))
 refine⟨?_,(b.1.trans a.1).trans h.z,fun x y i' n' j' m' q T'=>?_⟩
 ·rcases t5 (zq best (nT (cd1 i n j m))) (nT (cd2 xs ys R S r s i n j m)) with e | e
  ·rw [e]
   rcases t5 best (nT (cd1 i n j m)) with e | e
   ·rw [e];exact h.or
   ·rw [e];exact .inr ⟨_,rfl,p1,r1⟩
  ·rw [e];exact .inr ⟨_,rfl,kz p1 (kq _ _),r2⟩
 ·rcases hs x y q with q | ⟨rfl,rfl⟩
  ·have:=h.mx x y i' n' j' m' q T'
   exact⟨(b.1.trans a.1).trans this.1,(b.1.trans a.1).trans this.2⟩
  ·have e1:=T.a.symm.trans T'.a
   have e2:=T.b.symm.trans T'.b
   cases e1;cases e2
   exact⟨b.1.trans a.2,b.2⟩
theorem EB {t u:T3} (h:Btr t u):LeT (nT t) (nT u):=by
 unfold Btr at h
 unfold LeT nT
 simp only
 (exact jr fun q1=>(h.elim (fun q2=>(dq .ff .c (.ig (.g .L) .V) .J (kj.mp q1).1 q2)) fun q2=>((ak.mp (kj.mp q1).2).elim (fun q3=>((lh q3).elim (fun q4=>(dq .ff .z .C (.il .V (.g .L)) q2.1 q4)) fun q4=>(dq .ff .c .C (.il (.g .L) .V) q2.1 q4))) fun q3=>(q2.2.elim (fun q4=>(dq .ff .c (.ig .L .P) .B (kj.mp q3).1 q4)) fun q4=>((ak.mp (kj.mp q3).2).elim (fun q5=>((lh q5).elim (fun q6=>(dq .ff .z .C (.il .L .P) q4.1 q6)) fun q6=>(dq .ff .c .C (.il .P .L) q4.1 q6))) fun q5=>(dq .ff .c .A (.ij .L .P) q4.2 q5))))))
theorem H6 {t u:T3} (h:LeT (nT t) (nT u)):Btr t u:=by
 unfold Btr
 unfold LeT nT at h
 simp only at h
 (exact jr fun q1=>(h.elim (fun q2=>(dq .ff .c .aM (.il .V (.g .L)) (kj.mp q1).1 q2)) fun q2=>((ak.mp (kj.mp q1).2).elim (fun q3=>((aq q3).elim (fun q4=>(dq .ff .z (.ie (.g .L) .V) .J q2.1 q4)) fun q4=>(dq .ff .c (.ie (.g .L) .V) .B q2.1 q4))) fun q3=>(q2.2.elim (fun q4=>(dq .ff .c .aM (.il .L .P) (kj.mp q3).1 q4)) fun q4=>((ak.mp (kj.mp q3).2).elim (fun q5=>((aq q5).elim (fun q6=>(dq .ff .z (.ie .L .P) .B q4.1 q6)) fun q6=>(dq .ff .c (.ie .L .P) .J q4.1 q6))) fun q5=>(dq .ff .c (.ik .L .P) (.j .A .B) q4.2 q5))))))
theorem MB.fin (hx:hi≤xs.length) (hy:hj≤ys.length) (cx:Chn xs lo R hi) (cy:Chn ys lj S hj) {Sn:Nat→Nat→Prop} {best:Int × Int × Int} (h:MB xs ys R S lo hi lj hj Sn best) (hs:∀ r s,r<R.length→s<S.length→Sn r s) :
  (best=(0,0,0)∧∀ i j,lo≤i→i<hi→lj≤j→j<hj→¬ HI xs ys i j)∨∃ t:T3,best=nT t∧eX (HI xs ys) lo hi lj hj t.1 t.2.1 t.2.2:=by
 have all:∀ u:T3,0<u.2.2→n4 (HI xs ys) lo hi lj hj u.1 u.2.1 u.2.2→LeT best (nT u):=fun u p R'=>by
  obtain⟨r,s,i,n,j,m,T,q⟩:=Two.best hx hy cx cy p R'
  have:=h.mx r s i n j m (hs r s (ay.mp T.a).1 (ay.mp T.b).1) T
  rcases q with q | q
  ·exact this.1.trans (EB q)
  ·exact this.2.trans (EB q)
 rcases h.or with e | ⟨t,e,p,R'⟩
 ·refine .inl ⟨e,fun i j a b c d hh=>?_⟩
  have:=all (i,j,1) Nat.one_pos ⟨a,b,c,d,fun t ht=>by
   obtain rfl:t=0:=Nat.lt_one_iff.mp ht
   exact hh⟩
  rw [e] at this
  unfold LeT nT at this
  simp only at this
  (exact this.elim (fun q1=>(D5 .ff .o (.il .O (.g (.t .U))) q1)) fun q1=>(D5 .ff .o (.ie .O (.g (.t .U))) q1.1))
 ·refine .inr ⟨t,e,p,R',fun i' j' k' hk R2=>?_⟩
  have:=all (i',j',k') hk R2
  rw [e] at this
  have:=H6 this
  unfold Btr at this
  exact this
end
noncomputable def Rest (H:Nat→Nat→Prop):T3→List T3→List T3→Prop
 | _,[],F=>F=[]
 | c,d::r,F=>∃ B F',F=B++d::F'∧BT H (c.1+c.2.2) d.1 (c.2.1+c.2.2) d.2.1 B∧Rest H d r F'
theorem Rest.le {H:Nat→Nat→Prop}:∀ {ds:List T3} {c:T3} {F:List T3},Rest H c ds F→ds.length≤F.length
 | [],_,_,_=>br _
 | d::r,c,F,⟨B,F',e,_,h⟩=>by
  have:=Rest.le h
  rw [e,bg,bz,bz];(exact cv (.k .M .aC) .a .I this)
theorem Rest.split {H:Nat→Nat→Prop} {c d:T3} {r F:List T3} (h:Rest H c (d::r) F) {i j k:Nat} (B:eX H (c.1+c.2.2) d.1 (c.2.1+c.2.2) d.2.1 i j k):Rest H c ((i,j,k)::d::r) F:=by
 obtain⟨L,F',rfl,bt,h'⟩:=h
 cases bt with
 | nil q=>exact(B.eF q).elim
 | @node _ _ _ _ i' j' k' L R B' b1 b2 =>
  obtain⟨rfl,rfl,rfl⟩:=B.uniq B'
  exact⟨L,R++d::F',by simp,b1,R,F',rfl,b2,h'⟩
theorem Rest.next {H:Nat→Nat→Prop} {c d:T3} {r F:List T3} (h:Rest H c (d::r) F) (q:∀ i j,c.1+c.2.2≤i→i<d.1→c.2.1+c.2.2≤j→j<d.2.1→¬ H i j):∃ F',F=d::F'∧Rest H d r F':=by
 obtain⟨L,F',rfl,bt,h'⟩:=h
 cases bt with
 | nil _=>exact⟨F',rfl,h'⟩
 | node B' b1 b2=>exact(B'.eF q).elim
theorem BT.self {xs:List Int} (h:xs≠[]):BT (pg (ks xs) (ks xs)) 0 xs.length 0 xs.length [(0,0,xs.length)]:=by
 have hp:0<xs.length:=List.length_pos_iff.mpr h
 refine BT.node (L:=[]) (R:=[]) ⟨hp,⟨ah _,by exact fo (.k (.a .O .A) .A) .j,ah _,by exact fo (.k (.a .O .A) .A) .j,fun t ht=>pg.ints.mpr ⟨xs[0+t],bq (by exact av (.l (.a .O .A) .B) .a .B ht),bq (by exact av (.l (.a .O .A) .B) .a .B ht)⟩⟩,fun i' j' k' p R=>by have:=R.ia;have:=R.jb;(rename_i z1;exact jr fun q1=>((ak.mp (kj.mp q1).2).elim (fun q2=>((aq q2).elim (fun q3=>(dq .ff .c .aM .B (kj.mp q1).1 q3)) fun q3=>(eh .ff .c .G .U z1 q3))) fun q2=>((ak.mp (kj.mp q2).2).elim (fun q3=>((aq q3).elim (fun q4=>(G6 .ff .c (.g .O .A) .O (kj.mp q2).1 q4)) fun q4=>(dh .ff .o (.l .A .O) q4))) fun q3=>(dh .ff .o (.j .O .A) q3))))⟩ (.nil fun i j a b c d=>by exact fun q1=>(dh .ff .o (.l .A .O) b)) (.nil fun i j a b c d=>by exact fun q1=>(dq .ff .c (.k (.a .O .A) .B) .J a b))
end MP
end
section
namespace MP
open PySem SM
theorem vH {C:Cal} {ρ:Fr} {σ:St} {K:Fl→Fr→St→Prop} {x:Nat} {e1 e2:Ex} {b ss:ky} {m n:Nat} (Inv:Nat→Fr→St→Prop) (h1:evV σ ρ e1=some (.int m)) (h2:evV σ ρ e2=some (.int n)) (hm:m≤n) (hn:n<2^39) (h0:Inv m ρ σ)
  (step:∀ i ρ' σ' (kk:Fr→St→Prop) (K':Fl→Fr→St→Prop),m≤i→i<n→Inv i ρ' σ'→(∀ ρ2 σ2,Inv (i+1) ρ2 σ2→kk ρ2 σ2)→eg C b (upd ρ' x (.int (i:Nat))) σ' (ph kk K'))
  (fin:∀ ρ' σ',Inv n ρ' σ'→eg C ss ρ' σ' K):eg C (.cons (.each (.var x) (.rng2 e1 e2) b) ss) ρ σ K:=by
 refine gh (Q:=_) e1 h1 (gh (Q:=_) e2 h2 ⟨m,n,rfl,rfl,by exact(Ar.nab _).elim (fun q1=>(kc .R .d .bJ (.l .C .aN) (.ie .L .P) hm hn q1.2)) fun q1=>(av .R .a (.ie .L .V) q1.2),by exact(Ar.nab _).elim (fun q1=>(dq .R .b (.l .B .aN) (.ie .L .P) hn q1.2)) fun q1=>(av .R .a (.ie .L .V) q1.2),?_⟩)
 refine oo (fun i ρ' σ'=>Inv (m+i) ρ' σ') ?_ (fun ρ' σ' I=>?_) h0
 ·intro i v ρ' σ' hv I
  obtain⟨hi,rfl⟩:=zh hv
  exact⟨trivial,fun kk hk=>step _ _ _ kk _ (kq _ _) hi I hk⟩
 ·rw [wh,Nat.add_sub_cancel' hm] at I
  exact⟨trivial,fin _ _ I⟩
theorem kT {C:Cal} {ρ:Fr} {σ:St} {K:Fl→Fr→St→Prop} {x:Nat} {e:Ex} {b ss:ky} {n:Nat} (Inv:Nat→Fr→St→Prop) (h2:evV σ ρ e=some (.int n)) (hn:n<2^39) (h0:Inv 0 ρ σ)
  (step:∀ i ρ' σ' (kk:Fr→St→Prop) (K':Fl→Fr→St→Prop),i<n→Inv i ρ' σ'→(∀ ρ2 σ2,Inv (i+1) ρ2 σ2→kk ρ2 σ2)→eg C b (upd ρ' x (.int (i:Nat))) σ' (ph kk K'))
  (fin:∀ ρ' σ',Inv n ρ' σ'→eg C ss ρ' σ' K):eg C (.cons (.each (.var x) (.rng1 e) b) ss) ρ σ K:=by
 refine gh (Q:=_) e h2 ⟨n,rfl,by exact(Ar.nab _).elim (fun q1=>(dq .R .b (.l .B .aN) (.ie .L .P) hn q1.2)) fun q1=>(av .R .a (.ie .L .V) q1.2),?_⟩
 refine oo Inv ?_ (fun ρ' σ' I=>?_) h0
 ·intro i v ρ' σ' hv I
  obtain⟨hi,rfl⟩:=zh (a:=0) hv
  rw [qj] at hi ⊢
  exact⟨trivial,fun kk hk=>step _ _ _ kk _ hi I hk⟩
 ·have e:(qc 0 (n:Int)).length=n:=wh (a:=0)
  rw [e] at I
  exact⟨trivial,fin _ _ I⟩
section
variable {σ:St} {ρ:Fr} {e:Ex}
theorem pd {α:Type} {u:α→V} {x:Nat} {l:Addr} {zs:List α} (hx:ρ x=some (.lst l)) (hl:σ.L l=some (zs.map u)):evV σ ρ (.bf .len (.cons (.loc x) .nil))=some (.int zs.length):=by
 rw [rD,cg,jq,hx]
 show rF σ .len [.lst l]=_
 rw [zA,hl]
 show some (V.int ((zs.map u).length:Nat))=_
 rw [az]
theorem CF {x:Nat} {l:Addr} {vs:List V} {v:V} (hx:ρ x=some (.lst l)) (hl:σ.L l=some (vs++[v])):evV σ ρ (.sub (.loc x) (.neg (.int 1)))=some v:=by
 rw [zj,jq,hx]
 show kQ σ (.lst l) (.int (-1))=_
 show(σ.L l).bind (fun xs=>yh xs (-1))=_
 rw [hl]
 show yh (vs++[v]) (-1)=_
 unfold yh
 have e:gf (vs++[v]).length (-1)=vs.length:=by
  unfold gf
  rw [bp (by decide),bg,du];(exact fo (.ie (.a (.ng 1) (.t .M)) .L) .m)
 rw [e,bp (by exact fo .c5 .j),ef,lg (ah _),Nat.sub_self]
 rfl
theorem z9 {p:P2} (h:evV σ ρ e=some (pV p)):evV σ ρ (.sub e (.int 0))=some (.int p.1):=by rw [zj,h];rfl
theorem oG {p:P2} (h:evV σ ρ e=some (pV p)):evV σ ρ (.sub e (.int 1))=some (.int p.2):=by rw [zj,h];rfl
theorem HJ {p:T3} (h:evV σ ρ e=some (tV p)):evV σ ρ (.sub e (.int 0))=some (.int p.1):=by rw [zj,h];rfl
theorem HH {p:T3} (h:evV σ ρ e=some (tV p)):evV σ ρ (.sub e (.int 1))=some (.int p.2.1):=by rw [zj,h];rfl
theorem fT {x:Nat} {al:Addr} {xs:List Int} {n:Nat} {v:Int} (hx:ρ x=some (.lst al)) (hL:σ.L al=some (iV xs)) (hi:evV σ ρ e=some (.int n)) (hv:xs[n]?=some v):evV σ ρ (.sub (.loc x) e)=some (.int v) :=
 dK hx hL hi (by rw [bw,hv];rfl)
end
theorem tR {σ:St} {n:Nat} {a:Addr} {L:List P2} (h:σ.L a=some (L.map pV)):wj σ (n+2) (.lst a)=some (.list (L.map fun p=>.tuple [.int p.1,.int p.2])):=by
 show((σ.L a).bind fun xs=>(xs.mapM (wj σ (n+1))).map PyData.list)=_
 rw [h]
 show((L.map pV).mapM (wj σ (n+1))).map PyData.list=_
 rw [mapM_some (g:=fun v=>match v with | .tup [.int a,.int b]=>PyData.tuple [.int a,.int b] | _=>.none)]
 ·rw [md];rfl
 ·intro v hv
  obtain⟨t,_,rfl⟩:=ee.mp hv
  cases n<;>rfl
theorem vV {σ:St} {a b:Addr} {L:List P2} {K:Bool→Prop} (ha:σ.L a=some (L.map pV)) (hb:σ.L b=some []) (h:K (decide (L≠[]))):wu .ne (.lst a) (.lst b) σ K:=by
 refine⟨_,_,tR ha,tR (L:=[]) hb,?_⟩
 show K (!PyData.eqv _ _)
 have:(!PyData.eqv (.list (L.map fun p=>.tuple [.int p.1,.int p.2])) (.list (([]:List P2).map fun p=>.tuple [.int p.1,.int p.2])))=decide (L≠[]):=by
  cases L with
  | nil=>simp [PyData.eqv,PyData.eqvAll]
  | cons p L=>simp [PyData.eqv,PyData.eqvAll]
 rw [this];exact h
namespace R6
section
variable {C:Cal} {σ:St} {la lb:Addr} {xs ys:List Int}
theorem wI {K:Fl→Fr→St→Prop} {kk:Fr→St→Prop} {ρ:Fr} {rl:Addr} {R:List P2} {lo k:Nat} (hL:σ.L la=some (iV xs)) (hne:la≠rl) (hk:k<xs.length) (hz:R.length<ax) (r0:ρ 0=some (.lst la)) (r3:ρ 3=some (.lst rl)) (hR:σ.L rl=some (R.map pV)) (ch:Chn xs lo R k)
  (h:∀ σ' R' c,σ.L c=none→(∃ ys,σ'=(σ.ct c []).ct rl ys)→σ'.L rl=some (R'.map pV)→R'.length≤R.length+1→Chn xs lo R' (k+1)→kk (upd ρ 4 (.int k)) σ') :
  eg C (.cons (.cond (.and (.cmp .ne (.loc 3) (.lst .nil)) (.cmp .eq (.sub (.loc 0) (.loc 4)) (.sub (.loc 0) (.bin .sub (.loc 4) (.int 1))))) (.cons (.assign [(.sub (.loc 3) (.neg (.int 1)))] (.tup (.cons (.sub (.sub (.loc 3) (.neg (.int 1))) (.int 0)) (.cons (.bin .add (.sub (.sub (.loc 3) (.neg (.int 1))) (.int 1)) (.int 1)) .nil))))
 .nil) (.cons (.expr (.bm .append (.loc 3) (.cons (.tup (.cons (.loc 4) (.cons (.int 1) .nil))) .nil)))
 .nil))
 .nil) (upd ρ 4 (.int k)) σ (ph kk K):=by
 have q0:upd ρ 4 (.int k) 0=some (.lst la):=r0
 have q3:upd ρ 4 (.int k) 3=some (.lst rl):=r3
 have q4:upd ρ 4 (.int k) 4=some (.int k):=rfl
 generalize upd ρ 4 (.int k)=ρ1 at q0 q3 q4 h
 refine⟨_,q3,?_⟩
 refine⟨br _,fun c hc=>?_⟩
 have hcr:rl≠c:=fun q=>by rw [q,hc] at hR;cases hR
 have hca:la≠c:=fun q=>by rw [q,hc] at hL;cases hL
 have hR1:(σ.ct c []).L rl=some (R.map pV):=(cj hcr).trans hR
 have hL1:(σ.ct c []).L la=some (iV xs):=(cj hca).trans hL
 have h:=fun σ' R'=>h σ' R' c hc
 have c1:(σ.ct c []).L c=some []:=bc _ _ _
 generalize σ.ct c []=σ1 at hR1 hL1 c1 h
 refine vV hR1 c1 ?_
 have app:Chn xs lo (R++[(k,1)]) (k+1)→eg C (.cons (.expr (.bm .append (.loc 3) (.cons (.tup (.cons (.loc 4) (.cons (.int 1) .nil))) .nil))) .nil) ρ1 σ1 fun fl ρ σ=>match fl with | .next=>eg C .nil ρ σ (ph kk K) | fl=>ph kk K fl ρ σ:=fun ch'=>by
  refine eV (pV (k,1)) q3 hR1 (ev2 (m:=k) (n:=1) q4 rfl) (by rw [az];exact hz) (gj (gj (h _ (R++[(k,1)]) ⟨_,rfl⟩ ((bc _ _ _).trans ?_) (by rw [bg];exact ah _) ch')))
  rw [fb];rfl
 by_cases hr:R=[]
 ·subst hr
  rw [fe (fun q=>q rfl)]
  exact uy (app (ch.snoc fun q=>absurd rfl q))
 ·rw [fc hr]
  obtain⟨R0,⟨s,n⟩,rfl⟩:=(gY R).resolve_left hr
  have hlo:=ch.le
  have hk1:1≤k:=by
   cases R0 with
   | nil=>obtain⟨rfl,hn,_,_,hr⟩:=ch;have hr:s+n=k:=hr;(exact eh .D .b .T (.e .a0 .A) hn hr)
   | cons x R0=>obtain⟨rfl,hn,_,_,hr⟩:=ch;have:=Chn.le hr;(exact eh .D .b .T .bS hn this)
  have e1:xs[k]?=some xs[k]:=bq hk
  have e2:xs[k-1]?=some xs[k-1]:=bq (by exact eh .B .b .U .bK hk (aa (dh .D .a .D hk1)))
  refine zu (qy (b:=decide (xs[k]?=xs[k-1]?)) _ ?_ ?_)
  ·rw [sy,fT (e:=.loc 4) q0 hL1 q4 e1,fT q0 hL1 (eO (a:=.loc 4) (b:=.int 1) (m:=k) (n:=1) q4 rfl hk1) e2,e1,e2]
   exact bx some (nh.mpr Option.some_inj.symm)
  by_cases c2:xs[k]?=xs[k-1]?
  ·rw [fc c2]
   have hl2:σ1.L rl=some (R0.map pV++[pV (s,n)]):=by rw [hR1];simp
   have lst:=CF (ρ:=ρ1) q3 hl2
   refine zu (gh _ (v:=pV (s,n+1)) (ev2 (z9 lst) (ir (oG lst) (b:=.int 1) (n:=1) rfl)) ⟨_,q3,?_⟩)
   refine⟨1,rfl,?_⟩
   refine⟨R0.map pV++[pV (s,n)],hl2,by decide,by rw [bg,du];(exact fo (.ik .O (.a (.ng 1) (.t .M))) .j),?_⟩
   have e3:(R0.map pV++[pV (s,n)]).set (-1+((R0.map pV++[pV (s,n)]).length:Int)).toNat (pV (s,n+1))=(R0++[(s,n+1)]).map pV:=by
    rw [bg,du]
    have:(-1+((R0.map pV).length+1:Nat):Int).toNat=(R0.map pV).length:=by(exact(Ar.ton _).elim (fun q1=>(av .C .g (.ie .L (.a (.ng 1) (.t .L))) q1.2)) fun q1=>(dq .C .v (.ik (.a (.ng 1) (.t .L)) .O) .M q1.1 q1.2))
    rw [this,fb,List.set_append_right _ _ (ah _),Nat.sub_self];rfl
   rw [e3]
   rw [gZ] at ch
   exact h _ (R0++[(s,n+1)]) ⟨_,rfl⟩ (bc _ _ _) (by simp) (ch.grow c2)
  ·rw [fe c2]
   exact uy (app (ch.snoc fun _ q=>c2 q.symm))
theorem eI {n:Nat} {Q:V→St→Prop} {lo hi:Nat} (hL:σ.L la=some (iV xs)) (h1:lo≤hi) (h2:hi≤xs.length) (hz:xs.length<400000)
  (h:∀ σ' c R,Ext σ σ'→σ.L c=none→σ'.L c=some (R.map pV)→Chn xs lo R hi→R.length≤hi-lo→Q (.lst c) σ'):gu P (n+1) 10 [.lst la,.int lo,.int hi] σ Q:=by
 refine⟨HF,rfl,ah 3,ah 3,?_⟩
 refine zY [] rfl (br _) fun rl hrl=>?_
 have hne:la≠rl:=fun q=>by rw [q,hrl] at hL;cases hL
 refine vH (m:=lo) (n:=hi) (fun k ρ' σ'=>ρ' 0=some (.lst la)∧ρ' 3=some (.lst rl)∧Ext σ σ'∧∃ R:List P2,σ'.L rl=some (R.map pV)∧Chn xs lo R k∧R.length≤k-lo) rfl rfl h1 (by exact dq (.l .A .aN) .b .A .aU h2 hz) ⟨rfl,rfl,(Ext.refl σ).ct hrl,[],bc _ _ _,rfl,br _⟩ ?_ ?_
 ·rintro k ρ' σ' kk K' k1 k2 ⟨r0,r3,E,R,hR,ch,hl⟩ hk
  refine wI (E.L _ _ hL) hne (by exact eh .B .b .N .S h2 k2) (by unfold ax;(exact n3 .aH [[1,1,1,1,1,1]] .bJ (.l .C (.n 400000)) .cB .cC (.e .a3 .D) h2 hz k2 hl (aa (av .A .a .A k1)))) r0 r3 hR ch fun σ2 R' c hc zz hR' hl' ch'=>hk _ _ ⟨r0,r3,?_,R',hR',ch',by exact yk .A [[1,1,1,1,-1]] .a7 (.k .A .R) (.e .a1 .G) (.e .a6 .aG) hl hl' (aa (av .A .a .A k1)) (aa (av .X .a .A k1))⟩
  obtain⟨ys,rfl⟩:=zz
  exact(E.ct (E.noL hc)).ct hrl
 ·rintro ρ' σ' ⟨r0,r3,E,R,hR,ch,hl⟩
  exact u4 (.lst rl) r3 (h _ _ R E hrl hR ch hl)
end
end R6
end MP
end
section
namespace MP
open PySem SM
theorem tN {σ:St} {ρ:Fr} {a b:Ex} {m n:Nat} (ha:evV σ ρ a=some (.int m)) (hb:evV σ ρ b=some (.int n)):evV σ ρ (.bf .min (.cons a (.cons b .nil)))=some (.int (min m n:Nat)):=by
 rw [rD,cg,ha,cg,hb]
 show some (V.int (min (m:Int) n))=_
 exact bx (fun i=>some (V.int i)) (by exact(Ar.yU _ _).2.2.elim (fun q1=>((Ar.fm _ _).2.2.elim (fun q2=>(DZ .c6 .w (.ik .A .P) .A (.ik .P .A) .a4 (Ar.yU _ _).1 (Ar.fm _ _).1 q1 q2)) fun q2=>(DY .c6 .w (.ik .A .P) .I (.ik .S .A) .a4 (Ar.yU _ _).2.1 (Ar.fm _ _).1 q1 q2))) fun q1=>((Ar.fm _ _).2.2.elim (fun q2=>(DY .c6 .w (.ik .A .P) .I (.ik .S .A) .a4 (Ar.yU _ _).1 (Ar.fm _ _).2.1 q1 q2)) fun q2=>(DZ .c6 .w (.ik .A .P) .A (.ik .P .A) .a4 (Ar.yU _ _).2.1 (Ar.fm _ _).2.1 q1 q2)))
theorem FZ {σ:St} {ρ:Fr} {a b:Ex} {m n:Nat} (ha:evV σ ρ a=some (.int m)) (hb:evV σ ρ b=some (.int n)):evT σ ρ (.cmp .ne a b)=some (decide (m≠n)):=by
 rw [sy,ha,hb]
 show some (decide ((m:Int)≠n))=_
 exact bx some (nh.mpr (not_congr Int.ofNat_inj))
namespace R6
noncomputable def jZ:Ex:=(.and (.cmp .lt (.bin .add (.loc 5) (.loc 13)) (.bf .len (.cons (.loc 2) .nil))) (.and (.cmp .lt (.bin .add (.loc 6) (.loc 13)) (.bf .len (.cons (.loc 3) .nil))) (.cmp .eq (.sub (.loc 0) (.sub (.sub (.loc 2) (.bin .add (.loc 5) (.loc 13))) (.int 0))) (.sub (.loc 1) (.sub (.sub (.loc 3) (.bin .add (.loc 6) (.loc 13))) (.int 0))))))
noncomputable def DI:ky:=(.cons (.aug 12 .add (.bf .min (.cons (.sub (.sub (.loc 2) (.bin .add (.loc 5) (.loc 13))) (.int 1)) (.cons (.sub (.sub (.loc 3) (.bin .add (.loc 6) (.loc 13))) (.int 1)) .nil))))
 (.cons (.cond (.cmp .ne (.sub (.sub (.loc 2) (.bin .add (.loc 5) (.loc 13))) (.int 1)) (.sub (.sub (.loc 3) (.bin .add (.loc 6) (.loc 13))) (.int 1))) (.cons .brk
 .nil) .nil)
 (.cons (.aug 13 .add (.int 1))
 .nil)))
structure RS (ρ:Fr) (la lb l1 l2:Addr) (best:Int × Int × Int) (r s:Nat):Prop where
 r0:ρ 0=some (.lst la)
 r1:ρ 1=some (.lst lb)
 r2:ρ 2=some (.lst l1)
 r3:ρ 3=some (.lst l2)
 r4:ρ 4=some (tI best)
 r5:ρ 5=some (.int r)
 r6:ρ 6=some (.int s)
structure Ls (σ:St) (la lb l1 l2:Addr) (xs ys:List Int) (R S:List P2) (lo hi lj hj:Nat):Prop where
 a:σ.L la=some (iV xs)
 b:σ.L lb=some (iV ys)
 c:σ.L l1=some (R.map pV)
 d:σ.L l2=some (S.map pV)
 x:hi≤xs.length
 y:hj≤ys.length
 cx:Chn xs lo R hi
 cy:Chn ys lj S hj
section
variable {C:Cal} {σ:St} {la lb l1 l2:Addr} {xs ys:List Int} {R S:List P2} {lo hi lj hj:Nat} {best:Int × Int × Int} {K:Fl→Fr→St→Prop} {r s:Nat}
theorem pAt {ρ:Fr} {x l:Nat} {R:List P2} {e:Ex} {n:Nat} {p:P2} (hx:ρ x=some (.lst l)) (hL:σ.L l=some (R.map pV)) (hi:evV σ ρ e=some (.int n)) (hp:R[n]?=some p):evV σ ρ (.sub (.loc x) e)=some (pV p) :=
 dK hx hL hi (by rw [bw,hp];rfl)
noncomputable def More (xs ys:List Int) (R S:List P2) (p q:Nat):Prop:=∃ a n b m,R[p]?=some (a,n)∧S[q]?=some (b,m)∧xs[a]?=ys[b]?
theorem CU {ρ:Fr} {k:Nat} (H:RS ρ la lb l1 l2 best r s) (Z:Ls σ la lb l1 l2 xs ys R S lo hi lj hj) (r13:ρ 13=some (.int k)):∃ b:Bool,evT σ ρ jZ=some b∧(b=true→More xs ys R S (r+k) (s+k))∧(b=false→¬ More xs ys R S (r+k) (s+k)):=by
 have g1:=uc (ir (a:=.loc 5) (b:=.loc 13) H.r5 r13) (pd H.r2 Z.c)
 have g2:=uc (ir (a:=.loc 6) (b:=.loc 13) H.r6 r13) (pd H.r3 Z.d)
 by_cases c1:r+k<R.length
 ·by_cases c2:s+k<S.length
  ·have e1:R[r+k]?=some R[r+k]:=bq c1
   have e2:S[s+k]?=some S[s+k]:=bq c2
   generalize R[r+k]=p at e1
   generalize S[s+k]=q at e2
   have d1:=Z.cx.drop e1
   have d2:=Z.cy.drop e2
   have zx:=Z.x;have zy:=Z.y
   have lx:p.1<xs.length:=by(exact jj .B .d (.k .Z .D) .a5 .bB d1.2.1 d1.2.2.1 zx)
   have ly:q.1<ys.length:=by(exact jj .B .d (.k .Z .D) .a5 .bB d2.2.1 d2.2.2.1 zy)
   have x1:=bq lx
   have x2:=bq ly
   have v1:=fT H.r0 Z.a (z9 (pAt H.r2 Z.c (ir (a:=.loc 5) (b:=.loc 13) H.r5 r13) e1)) x1
   have v2:=fT H.r1 Z.b (z9 (pAt H.r3 Z.d (ir (a:=.loc 6) (b:=.loc 13) H.r6 r13) e2)) x2
   refine⟨decide (xs[p.1]?=ys[q.1]?),?_,fun b=>⟨p.1,p.2,q.1,q.2,e1,e2,bb b⟩,fun b m=>?_⟩
   ·unfold jZ
    rw [zk,g1,fc c1]
    show evT σ ρ (.and _ _)=_
    rw [zk,g2,fc c2]
    show evT σ ρ (.cmp .eq _ _)=_
    rw [sy,v1,v2,x1,x2]
    exact bx some (nh.mpr Option.some_inj.symm)
   ·obtain⟨a,n,b',m',f1,f2,f3⟩:=m
    rw [e1] at f1
    rw [e2] at f2
    cases f1;cases f2
    exact of_decide_eq_false b f3
  ·refine⟨false,?_,fun b=>Bool.noConfusion b,fun _ m=>?_⟩
   ·unfold jZ
    rw [zk,g1,fc c1]
    show evT σ ρ (.and _ _)=_
    rw [zk,g2,fe c2];rfl
   ·obtain⟨a,n,b',m',f1,f2,f3⟩:=m
    exact c2 (ay.mp f2).1
 ·refine⟨false,?_,fun b=>Bool.noConfusion b,fun _ m=>?_⟩
  ·unfold jZ
   rw [zk,g1,fe c1];rfl
  ·obtain⟨a,n,b',m',f1,f2,f3⟩:=m
   exact c1 (ay.mp f1).1
theorem CT {p q:Nat} (h:¬ More xs ys R S p q):cont xs ys (R.drop p) (S.drop q)=0:=by
 cases e1:R.drop p with
 | nil=>rfl
 | cons x r' =>
  cases e2:S.drop q with
  | nil=>rfl
  | cons y s' =>
   have g1:=List.getElem?_drop (xs:=R) (i:=p) (j:=0)
   have g2:=List.getElem?_drop (xs:=S) (i:=q) (j:=0)
   rw [e1] at g1
   rw [e2] at g2
   exact aw fun z=>h ⟨x.1,x.2,y.1,y.2,g1.symm,g2.symm,z⟩
theorem vJ {p q a n b m:Nat} (e1:R[p]?=some (a,n)) (e2:S[q]?=some (b,m)) (e:xs[a]?=ys[b]?):cont xs ys (R.drop p) (S.drop q)=min n m+(if n=m then cont xs ys (R.drop (p+1)) (S.drop (q+1)) else 0):=by
 obtain⟨h1,g1⟩:=ay.mp e1
 obtain⟨h2,g2⟩:=ay.mp e2
 rw [dj h1,dj h2,g1,g2]
 show(if xs[a]?=ys[b]? then _ else _)=_
 rw [bp e]
theorem whole {ρ:Fr} {sz:Nat} (H:RS ρ la lb l1 l2 best r s) (Z:Ls σ la lb l1 l2 xs ys R S lo hi lj hj) (r12:ρ 12=some (.int sz)) (r13:ρ 13=some (.int (1:Nat)))
  (h:∀ ρ',(∀ m,m≠12→m≠13→ρ' m=ρ m)→ρ' 12=some (.int (sz+cont xs ys (R.drop (r+1)) (S.drop (s+1)):Nat))→K .next ρ' σ):wpS C (.loop jZ DI) ρ σ K:=by
 refine⟨R.length+2,ti (fun n ρ' σ'=>σ'=σ∧(∀ m,m≠12→m≠13→ρ' m=ρ m)∧∃ w k:Nat,n=R.length+1-k∧ρ' 12=some (.int w)∧ρ' 13=some (.int k)∧w+cont xs ys (R.drop (r+k)) (S.drop (s+k))=sz+cont xs ys (R.drop (r+1)) (S.drop (s+1))) ?_ (R.length+2) (R.length+1-1) (by exact av (.l .A (.a .B .W)) .a (.e .M .L) (aa (fo (.k .U .M) .j))) ⟨rfl,fun _ _ _=>rfl,sz,1,rfl,r12,r13,rfl⟩⟩
 rintro n ρ' σ' ⟨rfl,fr,w,k,rfl,q12,q13,e⟩ again hag
 have H':RS ρ' la lb l1 l2 best r s:=⟨(fr 0 (by decide) (by decide)).trans H.r0,(fr 1 (by decide) (by decide)).trans H.r1,(fr 2 (by decide) (by decide)).trans H.r2,(fr 3 (by decide) (by decide)).trans H.r3,(fr 4 (by decide) (by decide)).trans H.r4,(fr 5 (by decide) (by decide)).trans H.r5,(fr 6 (by decide) (by decide)).trans H.r6⟩
 obtain⟨b,eb,ht,hf⟩:=CU H' Z q13
 refine qy _ eb ?_
 cases b with
 | false =>
  rw [CT (hf rfl),qk] at e
  exact uy (h ρ' fr (by rw [q12,e]))
 | true =>
  obtain⟨a,n,b,m,e1,e2,e3⟩:=ht rfl
  rw [vJ e1 e2 e3] at e
  have p1:=oG (pAt H'.r2 Z.c (ir (a:=.loc 5) (b:=.loc 13) H'.r5 q13) e1)
  have p2:=oG (pAt H'.r3 Z.d (ir (a:=.loc 6) (b:=.loc 13) H'.r6 q13) e2)
  refine zu ⟨_,q12,gh _ (tN p1 p2) ?_⟩
  have fr2:∀ m',m'≠12→upd ρ' 12 (.int (w+min n m:Nat)) m'=ρ' m':=fun m' h=>cj h
  have g12:upd ρ' 12 (.int (w+min n m:Nat)) 12=some (.int (w+min n m:Nat)):=rfl
  show eg C _ (upd ρ' 12 (.int (w+min n m:Nat))) σ' _
  generalize upd ρ' 12 (.int (w+min n m:Nat))=ρ2 at fr2 g12
  have g13:ρ2 13=some (.int k):=(fr2 13 (by decide)).trans q13
  have p1:=oG (pAt ((fr2 2 (by decide)).trans H'.r2) Z.c (ir (a:=.loc 5) (b:=.loc 13) ((fr2 5 (by decide)).trans H'.r5) g13) e1)
  have p2:=oG (pAt ((fr2 3 (by decide)).trans H'.r3) Z.d (ir (a:=.loc 6) (b:=.loc 13) ((fr2 6 (by decide)).trans H'.r6) g13) e2)
  refine gB (n≠m) (FZ p1 p2) (fun c=>?_) fun c=>?_
  ·rw [aw c,qk] at e
   exact h ρ2 (fun m' h1 h2=>(fr2 m' h1).trans (fr m' h1 h2)) (by rw [g12,e])
  ·rw [bp (dA.mp c)] at e
   have hk:=(ay.mp e1).1
   refine gj ⟨_,g13,?_⟩
   refine hag (R.length+1-(k+1)) _ _ (by exact dn .B .e (.e .a4 .V) (.e .Q .V) (aa (cv .aI .a (.l .a8 .B) hk)) (aa (cv .X .a (.l .a8 .B) hk))) ⟨rfl,fun m' h1 h2=>(cj h2).trans ((fr2 m' h1).trans (fr m' h1 h2)),w+min n m,k+1,rfl,(cj (by decide)).trans g12,rfl,?_⟩
   rw [← e,dT,← dT r,← dT s]
noncomputable def y7:ky:=(.cons (.assign [(.tup [7,8])] (.sub (.loc 2) (.loc 5)))
 (.cons (.assign [(.tup [9,10])] (.sub (.loc 3) (.loc 6)))
 (.cons (.cond (.cmp .eq (.sub (.loc 0) (.loc 7)) (.sub (.loc 1) (.loc 9))) (.cons (.assign [(.var 11)] (.bf .min (.cons (.loc 8) (.cons (.loc 10) .nil))))
 (.cons (.assign [.tup [12,13]] (.tup (.cons (.loc 11) (.cons (.int 1) .nil))))
 (.cons (.loop jZ DI)
 (.cons (.assign [(.var 4)] (.bf .min3 (.cons (.loc 4) (.cons (.tup (.cons (.neg (.loc 11)) (.cons (.loc 7) (.cons (.loc 9) .nil)))) (.cons (.tup (.cons (.neg (.loc 12)) (.cons (.bin .sub (.bin .add (.loc 7) (.loc 8)) (.loc 11)) (.cons (.bin .sub (.bin .add (.loc 9) (.loc 10)) (.loc 11)) .nil)))) .nil)))))
 .nil)))) .nil)
 .nil)))
theorem uS {ρ:Fr} {again:Fr→St→Prop} {Sn Sn':Nat→Nat→Prop} (H:RS ρ la lb l1 l2 best r s) (Z:Ls σ la lb l1 l2 xs ys R S lo hi lj hj) (hr:r<R.length) (hs:s<S.length) (B:MB xs ys R S lo hi lj hj Sn best) (hsn:∀ x y,Sn' x y→Sn x y∨(x=r∧y=s))
  (h:∀ ρ' best',RS ρ' la lb l1 l2 best' r s→MB xs ys R S lo hi lj hj Sn' best'→again ρ' σ):eg C y7 ρ σ (ph again K):=by
 have e1:R[r]?=some R[r]:=bq hr
 have e2:S[s]?=some S[s]:=bq hs
 generalize R[r]=p at e1
 generalize S[s]=q at e2
 obtain⟨i,n⟩:=p
 obtain⟨j,m⟩:=q
 have d1:=Z.cx.drop e1
 have d2:=Z.cy.drop e2
 have zx:=Z.x;have zy:=Z.y
 have lx:i<xs.length:=by(exact jj .B .d (.k .Z .D) .a5 .bB d1.2.1 d1.2.2.1 zx)
 have ly:j<ys.length:=by(exact jj .B .d (.k .Z .D) .a5 .bB d2.2.1 d2.2.2.1 zy)
 have x1:=bq lx
 have x2:=bq ly
 refine d5 [.int i,.int n] (pAt (e:=.loc 5) H.r2 Z.c H.r5 e1) rfl ?_
 refine d5 [.int j,.int m] (pAt (x:=3) (l:=l2) (e:=.loc 6) (n:=s) (ρ:=dk [7,8] [.int i,.int n] ρ) H.r3 Z.d H.r6 e2) rfl ?_
 have H1:RS (dk [9,10] [.int j,.int m] (dk [7,8] [.int i,.int n] ρ)) la lb l1 l2 best r s:=⟨H.r0,H.r1,H.r2,H.r3,H.r4,H.r5,H.r6⟩
 have q7:dk [9,10] [.int j,.int m] (dk [7,8] [.int i,.int n] ρ) 7=some (.int i):=rfl
 have q8:dk [9,10] [.int j,.int m] (dk [7,8] [.int i,.int n] ρ) 8=some (.int n):=rfl
 have q9:dk [9,10] [.int j,.int m] (dk [7,8] [.int i,.int n] ρ) 9=some (.int j):=rfl
 have q10:dk [9,10] [.int j,.int m] (dk [7,8] [.int i,.int n] ρ) 10=some (.int m):=rfl
 generalize dk [9,10] [.int j,.int m] (dk [7,8] [.int i,.int n] ρ)=ρ1 at H1 q7 q8 q9 q10
 refine gB (xs[i]?=ys[j]?) ?_ (fun c=>?_) fun c=>?_
 ·rw [sy,fT (e:=.loc 7) H1.r0 Z.a q7 x1,fT (e:=.loc 9) H1.r1 Z.b q9 x2,x1,x2]
  exact bx some (nh.mpr Option.some_inj.symm)
 ·have T:Two xs ys R S r s i n j m:=⟨e1,e2,c⟩
  refine jB (.int (min n m:Nat)) (tN (a:=.loc 8) (b:=.loc 10) q8 q10) ?_
  refine d5 [.int (min n m:Nat),.int (1:Nat)] rfl rfl ?_
  refine whole (best:=best) (r:=r) (s:=s) ⟨H1.r0,H1.r1,H1.r2,H1.r3,H1.r4,H1.r5,H1.r6⟩ Z rfl rfl fun ρ2 fr q12=>?_
  have q11:ρ2 11=some (.int (min n m:Nat)):=fr 11 (by decide) (by decide)
  have f7:ρ2 7=some (.int i):=(fr 7 (by decide) (by decide)).trans q7
  have f8:ρ2 8=some (.int n):=(fr 8 (by decide) (by decide)).trans q8
  have f9:ρ2 9=some (.int j):=(fr 9 (by decide) (by decide)).trans q9
  have f10:ρ2 10=some (.int m):=(fr 10 (by decide) (by decide)).trans q10
  have f4:ρ2 4=some (tI best):=(fr 4 (by decide) (by decide)).trans H1.r4
  have mn:min n m≤i+n:=jd (Nat.min_le_left n m) (Nat.le_add_left n i)
  have mm:min n m≤j+m:=jd (Nat.min_le_right n m) (Nat.le_add_left m j)
  have v2:evV σ ρ2 (.tup (.cons (.neg (.loc 11)) (.cons (.loc 7) (.cons (.loc 9) .nil))))=some (tI (nT (cd1 i n j m))):=by
   rw [uq,cg,mS,jq,q11,cg,jq,f7,cg,jq,f9];rfl
  have v3:evV σ ρ2 (.tup (.cons (.neg (.loc 12)) (.cons (.bin .sub (.bin .add (.loc 7) (.loc 8)) (.loc 11)) (.cons (.bin .sub (.bin .add (.loc 9) (.loc 10)) (.loc 11)) .nil))))=some (tI (nT (cd2 xs ys R S r s i n j m))):=by
   rw [uq,cg,mS,jq,q12,cg,eO (ir (a:=.loc 7) (b:=.loc 8) f7 f8) (b:=.loc 11) q11 mn,cg,eO (ir (a:=.loc 9) (b:=.loc 10) f9 f10) (b:=.loc 11) q11 mm];rfl
  refine kr (Q:=_) _ (vs:=[tI best,tI (nT (cd1 i n j m)),tI (nT (cd2 xs ys R S r s i n j m))]) ?_ ⟨best,_,_,rfl,?_⟩
  ·rw [cg,jq,f4,cg,v2,cg,v3];rfl
  have fz:∀ m',m'<7→m'≠4→ρ2 m'=ρ1 m':=fun m' h h4=>(fr m' (by exact dh (.u .A (.n 12)) .x .bC h) (by exact dh (.u .A (.n 13)) .x .bC h)).trans (by show upd (upd (upd ρ1 11 _) 12 _) 13 _ m'=_;rw [cj (by exact dh (.u .A (.n 13)) .x .bC h),cj (by exact dh (.u .A (.n 12)) .x .bC h),cj (by exact dh (.u .A (.n 11)) .x .bC h)])
  exact h _ _ ⟨(fz 0 (by decide) (by decide)).trans H1.r0,(fz 1 (by decide) (by decide)).trans H1.r1,(fz 2 (by decide) (by decide)).trans H1.r2,(fz 3 (by decide) (by decide)).trans H1.r3,rfl,(fz 5 (by decide) (by decide)).trans H1.r5,(fz 6 (by decide) (by decide)).trans H1.r6⟩ (B.take Z.x Z.y Z.cx Z.cy T hsn)
 ·refine gj (gj (h _ best H1 (B.skip fun x y i' n' j' m' q T=>(hsn x y q).resolve_right fun zz=>?_)))
  obtain⟨rfl,rfl⟩:=zz
  have f1:=e1.symm.trans T.a
  have f2:=e2.symm.trans T.b
  cases f1;cases f2
  exact c T.e
theorem qT {n:Nat} {Q:V→St→Prop} (Z:Ls σ la lb l1 l2 xs ys R S lo hi lj hj) (hz1:R.length<400000) (hz2:S.length<400000)
  (h:∀ best,MB xs ys R S lo hi lj hj (fun r s=>r<R.length∧s<S.length) best→Q (tI best) σ):gu P (n+1) 11 [.lst la,.lst lb,.lst l1,.lst l2] σ Q:=by
 refine⟨FX,rfl,ah 4,ah 4,?_⟩
 refine jB (tI (0,0,0)) rfl ?_
 have F0:(upd (frameOf FX [.lst la,.lst lb,.lst l1,.lst l2]) 4 (tI (0,0,0))) 2=some (.lst l1):=rfl
 refine kT (n:=R.length) (fun r ρ' σ'=>σ'=σ∧∃ best,RS (upd (upd ρ' 5 (.int (0:Nat))) 6 (.int (0:Nat))) la lb l1 l2 best 0 0∧MB xs ys R S lo hi lj hj (fun x y=>x<r∧y<S.length) best) (pd F0 Z.c) (by exact dh (.l .A .aN) .a .a0 hz1) ⟨rfl,(0,0,0),⟨rfl,rfl,rfl,rfl,rfl,rfl,rfl⟩,MB.start.skip fun r s i n j m q _=>absurd q.1 (kg _)⟩ ?_ ?_
 ·rintro r ρ' σ' kk K' hr ⟨rfl,best,H,B⟩ hk
  have e5:upd ρ' 5 (.int (r:Nat)) 5=some (.int r):=rfl
  have H1:RS (upd (upd ρ' 5 (.int (r:Nat))) 6 (.int (0:Nat))) la lb l1 l2 best r 0:=⟨H.r0,H.r1,H.r2,H.r3,H.r4,rfl,rfl⟩
  have g3:upd ρ' 5 (.int (r:Nat)) 3=some (.lst l2):=H.r3
  generalize upd ρ' 5 (.int (r:Nat))=ρ1 at H1 g3
  refine kT (n:=S.length) (fun s ρ2 σ2=>σ2=σ'∧∃ best,RS (upd ρ2 6 (.int (0:Nat))) la lb l1 l2 best r 0∧MB xs ys R S lo hi lj hj (fun x y=>(x<r∧y<S.length)∨(x=r∧y<s)) best) (pd g3 Z.d) (by exact dh (.l .A .aN) .a .a0 hz2) ⟨rfl,best,H1,B.skip fun x y i n j m q _=>q.elim id fun q=>absurd q.2 (kg _)⟩ ?_ ?_
  ·rintro s ρ2 σ2 k2 K2 hs ⟨rfl,best2,H2,B2⟩ hk2
   refine uS (r:=r) (s:=s) (best:=best2) (Sn':=fun x y=>(x<r∧y<S.length)∨(x=r∧y<s+1)) ⟨H2.r0,H2.r1,H2.r2,H2.r3,H2.r4,H2.r5,rfl⟩ Z hr hs B2 (fun x y q=>by exact jr fun q1=>(q.elim (fun q2=>((ak.mp (kj.mp (kj.mp q1).1).1).elim (fun q3=>(dq .ff .c .B .aM q2.1 q3)) fun q3=>(dq .ff .c .B .aM q2.2 q3))) fun q2=>((ak.mp (kj.mp (kj.mp q1).1).1).elim (fun q3=>((ak.mp (kj.mp q1).2).elim (fun q4=>((aq q4).elim (fun q5=>(dq .ff .z .C .B q2.1 q5)) fun q5=>(dq .ff .c .C .J q2.1 q5))) fun q4=>((aq q4).elim (fun q5=>((ak.mp (kj.mp (kj.mp q1).1).2).elim (fun q6=>((aq q6).elim (fun q7=>(dq .ff .z .C .B q2.1 q7)) fun q7=>(dq .ff .c .C .J q2.1 q7))) fun q6=>(dq .ff .c .B .aM q5 q6))) fun q5=>(dq .ff .c .Q .J q2.2 q5)))) fun q3=>(kc .ff .k .B (.l .C .M) (.g .C .B) hs q2.2 q3)))) fun ρ3 best3 H3 B3=>hk2 _ _ ⟨rfl,best3,⟨H3.r0,H3.r1,H3.r2,H3.r3,H3.r4,H3.r5,rfl⟩,B3⟩
  ·rintro ρ2 σ2 ⟨rfl,best2,H2,B2⟩
   exact gj (hk _ _ ⟨rfl,best2,⟨H2.r0,H2.r1,H2.r2,H2.r3,H2.r4,rfl,rfl⟩,B2.skip fun x y i n j m q _=>by exact jr fun q1=>((ak.mp (kj.mp q1).1).elim (fun q2=>((ak.mp (kj.mp q1).2).elim (fun q3=>((aq q3).elim (fun q4=>(dq .ff .c .aM .B q2 q4)) fun q4=>(dq .ff .c .Q .J q.1 q4))) fun q3=>(dq .ff .c .B .aM q.2 q3))) fun q2=>(dq .ff .c .B .aM q.2 q2))⟩)
 ·rintro ρ' σ' ⟨rfl,best,H,B⟩
  exact u4 (tI best) H.r4 (h best B)
end
end R6
end MP
end
section
namespace MP
open PySem SM
theorem xy {C:Cal} {k:Nat} {es:Exs} {ρ:Fr} {σ:St} {Q:V→St→Prop}:wpE C (.call k es) ρ σ Q=rz C es ρ σ fun vs σ=>C k vs σ Q:=rfl
noncomputable def rk (L:List T3) (na nb:Nat):List T3:=(0,0,0)::(L++[(na,nb,0)])
theorem jO {L:List T3} {na nb:Nat} (hp:L.Pairwise pk) (hw:∀ t∈L,Within 0 na 0 nb t∧0<t.2.2):(rk L na nb).Pairwise pk∧∀ u∈rk L na nb,u.1≤na∧u.2.1≤nb:=by
 refine⟨.cons (fun u _=>⟨br _,br _⟩) (List.pairwise_append.mpr ⟨hp,.cons (fun u hu=>(by cases hu)) .nil,fun a ha b hb=>?_⟩),fun u hu=>?_⟩
 ·rw [au.mp hb]
  exact⟨(hw a ha).1.2.1,(hw a ha).1.2.2.2⟩
 ·rcases cf.mp hu with rfl | hu
  ·exact⟨br _,br _⟩
  ·rcases dz.mp hu with hu | hu
   ·have:=(hw u hu).1
    unfold Within at this;(exact⟨(cv .A .a .aP this.2.1),(cv .A .a .aP this.2.2.2)⟩)
   ·rw [au.mp hu];exact⟨ah _,ah _⟩
theorem Rest.mem {H:Nat→Nat→Prop}:∀ {ds:List T3} {c:T3} {F:List T3},Rest H c ds F→∀ d∈ds,d∈F
 | [],_,_,_,d,h=>nomatch h
 | x::r,c,F,⟨B,F',e,_,h⟩,d,hd=>by
  rw [e]
  rcases cf.mp hd with rfl | hd
  ·exact gq _ (.head _)
  ·exact gq _ (.tail _ (h.mem d hd))
namespace R6
noncomputable def HC:ky:=(.cons (.assign [(.tup [4,5,6])] (.sub (.loc 2) (.bin .sub (.loc 3) (.int 1))))
 (.cons (.assign [(.var 7)] (.call 10 (.cons (.loc 0) (.cons (.bin .add (.loc 4) (.loc 6)) (.cons (.sub (.sub (.loc 2) (.loc 3)) (.int 0)) .nil)))))
 (.cons (.assign [(.var 8)] (.call 10 (.cons (.loc 1) (.cons (.bin .add (.loc 5) (.loc 6)) (.cons (.sub (.sub (.loc 2) (.loc 3)) (.int 1)) .nil)))))
 (.cons (.assign [(.tup [9,4,5])] (.call 11 (.cons (.loc 0) (.cons (.loc 1) (.cons (.loc 7) (.cons (.loc 8) .nil))))))
 (.cons (.cond (.cmp .lt (.loc 9) (.int 0)) (.cons (.expr (.bm .insert (.loc 2) (.cons (.loc 3) (.cons (.tup (.cons (.loc 4) (.cons (.loc 5) (.cons (.neg (.loc 9)) .nil)))) .nil))))
 .nil) (.cons (.aug 3 .add (.int 1))
 .nil))
 .nil)))))
structure RK (ρ:Fr) (la lb kl:Addr) (k:Nat):Prop where
 r0:ρ 0=some (.lst la)
 r1:ρ 1=some (.lst lb)
 r2:ρ 2=some (.lst kl)
 r3:ρ 3=some (.int k)
section
variable {σ0 σ:St} {la lb kl:Addr} {xs ys:List Int} {K:Fl→Fr→St→Prop} {n:Nat}
theorem vB {ρ:Fr} {again:Fr→St→Prop} {pre r F G:List T3} {c d:T3} (hLa:σ0.L la=some (iV xs)) (hLb:σ0.L lb=some (iV ys)) (hkl:σ0.L kl=none) (E:Ext σ0 σ) (hza:xs.length<400000) (hzb:ys.length<400000) (H:RK ρ la lb kl (pre.length+1)) (hk:σ.L kl=some ((pre++c::d::r).map tV))
  (hR:Rest (pg (ks xs) (ks ys)) c (d::r) F) (hG:pre++c::F=G) (hA:G.Pairwise pk) (hW:∀ u∈G,u.1≤xs.length∧u.2.1≤ys.length) (hGl:G.length<400000)
  (h1:∀ ρ' σ' t,RK ρ' la lb kl (pre.length+1)→Ext σ0 σ'→σ'.L kl=some ((pre++c::t::d::r).map tV)→Rest (pg (ks xs) (ks ys)) c (t::d::r) F→again ρ' σ')
  (h2:∀ ρ' σ' F',RK ρ' la lb kl (pre.length+1+1)→Ext σ0 σ'→σ'.L kl=some ((pre++c::d::r).map tV)→F=d::F'→Rest (pg (ks xs) (ks ys)) d r F'→again ρ' σ') :
  eg (gu P (n+1)) HC ρ σ (ph again K):=by
 have ec:(pre++c::d::r)[pre.length]?=some c:=by rw [lg (ah _),Nat.sub_self];rfl
 have ed:(pre++c::d::r)[pre.length+1]?=some d:=by rw [lg (kq _ _),Nat.add_sub_cancel_left];rfl
 have at_:∀ {i:Nat} {c':T3},(pre++c::d::r)[i]?=some c'→((pre++c::d::r).map tV)[i]?=some (tV c'):=fun {i c'} h=>by rw [bw,h];rfl
 have hF:d∈F:=hR.mem d (.head _)
 have hcd:pk c d:=by
  rw [← hG] at hA
  have:=(List.pairwise_append.mp hA).2.1
  exact(oe.mp this).1 d hF
 have hd:=hW d (by rw [← hG];exact gq _ (.tail _ hF))
 have hlen:pre.length+2+r.length≤G.length:=by
  have:=hR.le
  rw [← hG,bg,bz]
  rw [bz] at this;(exact cv (.k (.a .a5 .B) .a4) .a (.k .L .C) this)
 unfold pk at hcd
 refine d5 [.int c.1,.int c.2.1,.int c.2.2] (dK (n:=pre.length) H.r2 hk ((eO (a:=.loc 3) (b:=.int 1) (m:=pre.length+1) (n:=1) H.r3 rfl (Nat.le_add_left 1 _)).trans (by rw [yu])) (at_ ec)) rfl ?_
 have H1:RK (dk [4,5,6] [.int c.1,.int c.2.1,.int c.2.2] ρ) la lb kl (pre.length+1):=⟨H.r0,H.r1,H.r2,H.r3⟩
 have q4:dk [4,5,6] [.int c.1,.int c.2.1,.int c.2.2] ρ 4=some (.int c.1):=rfl
 have q5:dk [4,5,6] [.int c.1,.int c.2.1,.int c.2.2] ρ 5=some (.int c.2.1):=rfl
 have q6:dk [4,5,6] [.int c.1,.int c.2.1,.int c.2.2] ρ 6=some (.int c.2.2):=rfl
 generalize dk [4,5,6] [.int c.1,.int c.2.1,.int c.2.2] ρ=ρ1 at H1 q4 q5 q6
 rw [ll,xy]
 refine⟨_,H1.r0,?_⟩
 refine kr (Q:=_) _ (vs:=[.int (c.1+c.2.2:Nat),.int d.1]) ?_ ?_
 ·rw [cg,ir (a:=.loc 4) (b:=.loc 6) q4 q6,cg,HJ (dK (e:=.loc 3) H1.r2 hk H1.r3 (at_ ed))];rfl
 refine eI (E.L _ _ hLa) hcd.1 hd.1 hza fun σ1 l1 R E1 _ hl1 cx hRl=>?_
 have H2:RK (upd ρ1 7 (.lst l1)) la lb kl (pre.length+1):=⟨H1.r0,H1.r1,H1.r2,H1.r3⟩
 have q5:upd ρ1 7 (.lst l1) 5=some (.int c.2.1):=q5
 have q6:upd ρ1 7 (.lst l1) 6=some (.int c.2.2):=q6
 have q7:upd ρ1 7 (.lst l1) 7=some (.lst l1):=rfl
 show eg _ _ (upd ρ1 7 (.lst l1)) σ1 _
 generalize upd ρ1 7 (.lst l1)=ρ2 at H2 q5 q6 q7
 have hk1:=E1.L _ _ hk
 rw [ll,xy]
 refine⟨_,H2.r1,?_⟩
 refine kr (Q:=_) _ (vs:=[.int (c.2.1+c.2.2:Nat),.int d.2.1]) ?_ ?_
 ·rw [cg,ir (a:=.loc 5) (b:=.loc 6) q5 q6,cg,HH (dK (e:=.loc 3) H2.r2 hk1 H2.r3 (at_ ed))];rfl
 have E1':=E.trans E1
 refine eI (E1'.L _ _ hLb) hcd.2 hd.2 hzb fun σ2 l2 S E2 _ hl2 cy hSl=>?_
 have E2':=E1'.trans E2
 have H3:RK (upd ρ2 8 (.lst l2)) la lb kl (pre.length+1):=⟨H2.r0,H2.r1,H2.r2,H2.r3⟩
 have q7:upd ρ2 8 (.lst l2) 7=some (.lst l1):=q7
 have q8:upd ρ2 8 (.lst l2) 8=some (.lst l2):=rfl
 show eg _ _ (upd ρ2 8 (.lst l2)) σ2 _
 generalize upd ρ2 8 (.lst l2)=ρ3 at H3 q7 q8
 have hk2:=E2.L _ _ hk1
 rw [ll,xy]
 refine⟨_,H3.r0,_,H3.r1,_,q7,_,q8,?_⟩
 have Z:Ls σ2 la lb l1 l2 xs ys R S (c.1+c.2.2) d.1 (c.2.1+c.2.2) d.2.1:=⟨E2'.L _ _ hLa,E2'.L _ _ hLb,E2.L _ _ hl1,hl2,hd.1,hd.2,cx,cy⟩
 refine qT Z (by exact yk .a0 .u .aU .N .aS (.e (.a .D .a3) .C) hza hd.1 hRl (aa (cv .G .a .G hcd.1))) (by exact yk .a0 .u .aU .N .aS (.e (.a .D .a3) .C) hzb hd.2 hSl (aa (cv .G .a .G hcd.2))) fun best B=>?_
 refine⟨_,rfl,rfl,?_⟩
 have H4:RK (dk [9,4,5] [.int best.1,.int best.2.1,.int best.2.2] ρ3) la lb kl (pre.length+1):=⟨H3.r0,H3.r1,H3.r2,H3.r3⟩
 have q9:dk [9,4,5] [.int best.1,.int best.2.1,.int best.2.2] ρ3 9=some (.int best.1):=rfl
 have q4:dk [9,4,5] [.int best.1,.int best.2.1,.int best.2.2] ρ3 4=some (.int best.2.1):=rfl
 have q5:dk [9,4,5] [.int best.1,.int best.2.1,.int best.2.2] ρ3 5=some (.int best.2.2):=rfl
 show eg _ _ (dk [9,4,5] [.int best.1,.int best.2.1,.int best.2.2] ρ3) σ2 _
 generalize dk [9,4,5] [.int best.1,.int best.2.1,.int best.2.2] ρ3=ρ4 at H4 q9 q4 q5
 refine gB (best.1<0) (by rw [sy,jq,q9];rfl) (fun cn=>?_) fun cn=>?_
 ·rcases B.fin Z.x Z.y cx cy (fun r s a b=>⟨a,b⟩) with ⟨rfl,_⟩ | ⟨t,rfl,Bt⟩
  ·exact absurd cn (by decide)
  refine⟨_,H4.r2,(by show(σ2.L kl).isSome=true;rw [hk2];rfl),?_⟩
  have vt:evV σ2 ρ4 (.tup (.cons (.loc 4) (.cons (.loc 5) (.cons (.neg (.loc 9)) .nil))))=some (tV t):=by
   rw [uq,cg,jq,q4,cg,jq,q5,cg,mS,jq,q9]
   show some (V.tup [V.int t.1,V.int t.2.1,V.int (-(-(t.2.2:Int)))])=_
   rw [Int.neg_neg];rfl
  refine kr (Q:=_) _ (vs:=[.int (pre.length+1:Nat),tV t]) (by rw [cg,jq,H4.r3,cg,vt];rfl) ?_
  have hll:((pre++c::d::r).map tV).length=pre.length+2+r.length:=by rw [az,bg,bz,bz];(exact vv (.e (.a .A (.a .L .U)) (.a .a5 .B)) .m)
  refine⟨_,hk2,by rw [hll];unfold ax;(exact eh (.l (.a .a5 .B) .S) .b (.l .C (.n 400000)) (.k (.a .a5 .B) .C) hGl hlen),by exact fo (.ik .O (.t .M)) .j,by exact eh (.il (.t .M) (.n (2^60))) .b .aU (.k (.a .a5 .C) .B) hGl hlen,?_⟩
  have ei:((pre++c::d::r).map tV).take (dt ((pre++c::d::r).map tV).length ((pre.length+1:Nat):Int))++tV t::((pre++c::d::r).map tV).drop (dt ((pre++c::d::r).map tV).length ((pre.length+1:Nat):Int))=(pre++c::t::d::r).map tV:=by
   rw [zm (by rw [hll];(exact vv (.k .M (.a .a5 .B)) .j)),← List.map_take,← List.map_drop]
   have e1:(pre++c::d::r).take (pre.length+1)=pre++[c]:=by
    rw [show pre++c::d::r=(pre++[c])++d::r by simp,List.take_left' (by simp)]
   have e2:(pre++c::d::r).drop (pre.length+1)=d::r:=by
    rw [show pre++c::d::r=(pre++[c])++d::r by simp,List.drop_left' (by simp)]
   rw [e1,e2];simp
  rw [ei]
  refine⟨rfl,gj (gj (h1 _ _ t H4 (E2'.ct hkl) (bc _ _ _) ?_))⟩
  exact hR.split (by rw [HI.eq];exact Bt)
 ·rcases B.fin Z.x Z.y cx cy (fun r s a b=>⟨a,b⟩) with ⟨rfl,no⟩ | ⟨t,rfl,Bt⟩
  ·obtain⟨F',e,hR'⟩:=hR.next (by rw [HI.eq];exact no)
   refine⟨_,H4.r3,?_⟩
   exact h2 _ _ F' ⟨H4.r0,H4.r1,H4.r2,rfl⟩ E2' hk2 e hR'
  ·exact absurd (show(-(t.2.2:Int))<0 by have:=Bt.pos;(exact dh (.il (.g .L) .O) .a .O this)) cn
inductive KInv (σ0:St) (la lb kl:Addr) (xs ys:List Int) (G:List T3) (w:Nat) (ρ:Fr) (σ:St):Prop
 | mk (pre ds F:List T3) (c:T3):RK ρ la lb kl (pre.length+1)→Ext σ0 σ→σ.L kl=some ((pre++c::ds).map tV)→Rest (pg (ks xs) (ks ys)) c ds F→pre++c::F=G→w=2*F.length-ds.length→KInv σ0 la lb kl xs ys G w ρ σ
theorem C3 {Q:V→St→Prop} {L:List T3} (hLa:σ.L la=some (iV xs)) (hLb:σ.L lb=some (iV ys)) (hza:xs.length<400000) (hzb:ys.length<400000) (bt:BT (pg (ks xs) (ks ys)) 0 xs.length 0 ys.length L) (hLl:L.length<1000)
  (h:∀ σ' c,Ext σ σ'→σ'.L c=some (L.map tV)→Q (.lst c) σ'):gu P (n+2) 12 [.lst la,.lst lb] σ Q:=by
 refine⟨CE,rfl,ah 2,ah 2,?_⟩
 refine Eq.mpr ll ?_
 rw [sD,te,dW]
 have F0:frameOf CE [.lst la,.lst lb] 0=some (.lst la):=rfl
 have F1:frameOf CE [.lst la,.lst lb] 1=some (.lst lb):=rfl
 refine kr (Q:=_) _ (vs:=[tV (0,0,0),tV (xs.length,ys.length,0)]) ?_ ⟨cp rfl,fun kl hkl=>?_⟩
 ·rw [cg,ev3 (m:=0) (n:=0) (k:=0) rfl rfl rfl,cg,ev3 (k:=0) (pd F0 hLa) (pd F1 hLb) rfl];rfl
 refine⟨cp rfl,_,rfl,rfl,?_⟩
 obtain⟨cA,cW⟩:=jO bt.ok.2.1 bt.ok.1
 have cl:(rk L xs.length ys.length).length=L.length+2:=by
  show(L++[(xs.length,ys.length,0)]).length+1=_
  rw [bg,du]
 have E0:Ext σ (σ.ct kl [tV (0,0,0),tV (xs.length,ys.length,0)]):=(Ext.refl σ).ct hkl
 refine⟨2*L.length+10,ti (KInv σ la lb kl xs ys (rk L xs.length ys.length)) ?_ (2*L.length+10) (2*(L++[(xs.length,ys.length,0)]).length-1) (by rw [bg,du];(exact av (.l .A (.a .a7 (.n 10))) .a (.e .M (.m 2 .L)) (aa (fo (.k .U (.m 2 .M)) .j)))) ⟨[],[(xs.length,ys.length,0)],L++[(xs.length,ys.length,0)],(0,0,0),⟨rfl,rfl,rfl,rfl⟩,E0,bc _ _ _,⟨L,[],rfl,bt,rfl⟩,rfl,rfl⟩⟩
 rintro w ρ' σ' ⟨pre,ds,F,c,H,E,hk,hR,hG,rfl⟩ again hag
 have hle:=hR.le
 refine qy (b:=decide (pre.length+1<(pre++c::ds).length)) _ (uc (a:=.loc 3) H.r3 (pd H.r2 hk)) ?_
 cases ds with
 | nil =>
  rw [fe (by simp)]
  obtain rfl:F=[]:=hR
  refine uy ?_
  rw [hG] at hk
  have s1:=Gv.slc (C:=gu P (n+1)) (lo:=.int 1) (hi:=.neg (.int 1)) (i:=1) (j:=-1) (Gv.loc H.r2 hk) (fun _ _=>⟨_,rfl,rfl⟩) (fun _ _=>⟨_,rfl,rfl⟩) (by decide) (by decide)
  have e:(((rk L xs.length ys.length).map tV).take (dt ((rk L xs.length ys.length).map tV).length (-1))).drop (dt ((rk L xs.length ys.length).map tV).length 1)=L.map tV:=by
   have e1:dt ((rk L xs.length ys.length).map tV).length (-1)=L.length+1:=by
    unfold dt gf
    rw [bp (by decide),az,cl];(exact(Ar.ton _).elim (fun q1=>((Ar.fm _ _).2.2.elim (fun q2=>(kc .a9 [[1,0,0,1],[1,1,1,0]] .I (.ie .S .R) (.k (.a .B .W) .A) (Ar.fm _ _).2.1 q1.2 q2)) fun q2=>(kc .a9 [[1,0,-1,1],[1,1,1,0]] .I (.ie .S .R) .aR (Ar.fm _ _).2.1 q1.2 q2))) fun q1=>(kc .a9 [[0,0,1,0],[1,1,0,1]] .I (.ik .R .O) .b3 (Ar.fm _ _).2.1 q1.1 q1.2))
   have e2:dt ((rk L xs.length ys.length).map tV).length 1=1:=zm (i:=1) (by rw [az,cl];(exact fo (.k .U .a5) .j))
   rw [e1,e2]
   show(((L++[(xs.length,ys.length,0)]).map tV).take L.length)=_
   rw [← List.map_take,List.take_left' rfl]
  rw [e] at s1
  exact s1 σ' _ (Ext.refl σ') fun a σ2 E2 _ ha=>h σ2 a (E.trans E2) ha
 | cons d r =>
  rw [fc (by rw [bg,bz,bz];(exact vv (.l .M (.a .A (.a .L .U))) .j))]
  rw [bz] at hle
  refine zu (vB (G:=rk L xs.length ys.length) hLa hLb hkl E hza hzb H hk hR hG cA cW (by rw [cl];(exact dh (.l .a5 (.n 400000)) .a .a6 hLl)) (fun ρ2 σ2 t H2 E2 hk2 hR2=>?_) fun ρ2 σ2 F' H2 E2 hk2 e hR2=>?_)
  ·have:=hR2.le
   rw [bz,bz] at this
   exact hag _ _ _ (by rw [bz,bz];(exact dn .B .e (.e (.a .A (.a .R .U)) .aM) (.e .aC .aM) (aa (av (.k .aF .a7) [[1,2]] (.k .aF .B) this)) (aa (av (.k .M .a7) [[1,2]] (.k .aF .B) this)))) ⟨pre,t::d::r,F,c,H2,E2,hk2,hR2,hG,rfl⟩
  ·have:=hR2.le
   subst e
   exact hag _ _ _ (by rw [bz,bz];(exact dn .B .e (.e .Z .aM) (.e .aC (.m 2 .V)) (aa (av (.k .A .a7) .a .A this)) (aa (cv (.k .M (.m 2 .L)) .a (.e .a8 .a7) (aa (av (.k .A .a7) .a .A this)))))) ⟨pre++[c],r,F',d,⟨H2.r0,H2.r1,H2.r2,by rw [H2.r3,bg,du]⟩,E2,by rw [hk2];simp,hR2,by rw [← hG];simp,rfl⟩
end
end R6
end MP
end
section
namespace MP
open PySem SM
noncomputable def GA (l:List Int):Prop:=∃ (v:Int) (n:Nat),l=List.replicate (n+1) v∧n<12
theorem wA {F:List Int} {v:Int} {n t:Nat} (hF:∀ i,i<F.length→tn F i≤t):∀ i,i<(F++List.replicate (n+1) v).length→(i<F.length→tn (F++List.replicate (n+1) v) i=tn F i)∧(F.length≤i→tn (F++List.replicate (n+1) v) i≤t+1)
 | 0,_=>⟨fun _=>rfl,fun _=>br _⟩
 | i+1,h=>by
  obtain⟨h1,h2⟩:=wA (v:=v) (n:=n) hF i (Nat.lt_of_succ_lt h)
  have e:tn (F++List.replicate (n+1) v) (i+1)=tn (F++List.replicate (n+1) v) i+(if (F++List.replicate (n+1) v)[i+1]?=(F++List.replicate (n+1) v)[i]? then 0 else 1):=rfl
  refine⟨fun hi=>?_,fun hi=>?_⟩
  ·rw [e,qt hi,qt (Nat.lt_of_succ_lt hi),h1 (Nat.lt_of_succ_lt hi)];rfl
  ·rw [e]
   rcases ic i F.length with c | c
   ·have:=hF i c
    rw [h1 c]
    split<;>(first | exact av (.k .aQ .L) .a .A this Ar.y | exact av .aI .a .A this Ar.y | omega)
   ·have hl:i+1<F.length+(n+1):=by rw [bg,uu] at h;exact h
    rw [lg (by exact av .X .a .X hi),lg c,List.getElem?_replicate_of_lt (by exact dn .Q .b (.l .R (.a .D .L)) (.e .T .R) hl (aa (av .X .a .X hi))),List.getElem?_replicate_of_lt (by exact dn .Q .b (.l .R (.a .D .L)) .b2 hl (aa (av .A .a .A c))),bp rfl]
    exact h2 c
theorem sI {F l:List Int} {t:Nat} (hF:∀ i,i<F.length→tn F i≤t) (hl:GA l):∀ i,i<(F++l).length→tn (F++l) i≤t+1:=fun i hi=>by
 obtain⟨v,n,rfl,_⟩:=hl
 obtain⟨h1,h2⟩:=wA hF i hi
 rcases ic i F.length with c | c
 ·rw [h1 c];exact ug (hF i c)
 ·exact h2 c
theorem nF:∀ (n:Nat) {Ps:List (List Int)},Ps.length=n→(∀ p∈Ps,GA p)→(∀ i,i<Ps.flatten.length→tn Ps.flatten i≤n)∧Ps.flatten.length≤12*n
 | 0,Ps,h,_=>by
  obtain rfl:=sq.mp h
  exact⟨fun i hi=>absurd hi (kg _),ah _⟩
 | n+1,Ps,h,hs=>by
  rcases gY Ps with rfl | ⟨Qs,q,rfl⟩
  ·cases h
  rw [gZ] at *
  have hn:Qs.length=n:=by rw [bg,du] at h;(exact av .C .g (.e .M .L) h)
  obtain⟨h1,h2⟩:=nF n hn fun p hp=>hs p (gz _ hp)
  have hq:=hs q (gq _ (.head _))
  rw [xk,uh,vi,dp]
  refine⟨sI h1 hq,?_⟩
  obtain⟨v,k,rfl,hk⟩:=hq
  rw [bg,uu];(exact eh (.k .a2 (.m 12 .R)) .b .c2 (.l .B (.n 12)) h2 hk)
namespace R6
noncomputable def HB:ky:=(.cons (.assign [(.tup [5,6])] (.bf .divmod (.cons (.loc 4) (.cons (.int 3) .nil))))
 (.cons (.assign [(.tup [5,7])] (.bf .divmod (.cons (.loc 5) (.cons (.int 12) .nil))))
 (.cons (.assign [(.var 8)] (.bin .mul (.lst (.cons (.ite (.cmp .gt (.bin .mod (.loc 1) (.int 4)) (.int 0)) (.bin .mod (.loc 5) (.bin .add (.bin .mod (.loc 1) (.int 4)) (.int 1))) (.loc 5)) .nil)) (.bin .add (.loc 7) (.int 1))))
 (.cons (.cond (.cmp .ne (.loc 6) (.int 2)) (.cons (.expr (.bm .extend (.loc 2) (.cons (.loc 8) .nil)))
 .nil) .nil)
 (.cons (.cond (.cmp .ne (.loc 6) (.int 1)) (.cons (.expr (.bm .insert (.loc 3) (.cons (.bin .mod (.bin .fdiv (.loc 5) (.int 4)) (.bin .add (.bf .len (.cons (.loc 3) .nil)) (.int 1))) (.cons (.loc 8) .nil))))
 .nil) .nil)
 .nil)))))
abbrev AL:=Addr × List Int
structure Pt (σ:St) (fl pl:Addr) (p:AL):Prop where
 at_:σ.L p.1=some (iV p.2)
 nf:p.1≠fl
 np:p.1≠pl
 s:GA p.2
theorem Pt.set {σ:St} {fl pl:Addr} {p:AL} {a:Addr} {ys:List V} (h:Pt σ fl pl p) (ha:a=fl∨a=pl∨σ.L a=none):Pt (σ.ct a ys) fl pl p:=by
 have:p.1≠a:=fun q=>by
  rcases ha with rfl | rfl | ha
  ·exact h.nf q
  ·exact h.np q
  ·rw [← q,h.at_] at ha;cases ha
 exact⟨(cj this).trans h.at_,h.nf,h.np,h.s⟩
structure PF (ρ:Fr) (way:Int) (fl pl:Addr):Prop where
 r1:ρ 1=some (.int way)
 r2:ρ 2=some (.lst fl)
 r3:ρ 3=some (.lst pl)
structure PS (σ0 σ:St) (fl pl:Addr) (t u:Nat) (F:List Int) (Ps:List AL):Prop where
 ext:Ext σ0 σ
 f:σ.L fl=some (iV F)
 p:σ.L pl=some (Ps.map fun p=>V.lst p.1)
 each:∀ p∈Ps,Pt σ fl pl p
 len:Ps.length≤u
 fn:F.length≤12*t
 ft:∀ i,i<F.length→tn F i≤t
section
variable {σ0 σ:St} {fl pl:Addr} {C:Cal} {K:Fl→Fr→St→Prop} {way:Int} {ρ:Fr} {t u:Nat} {F:List Int} {Ps:List AL}
theorem PS.new {c:Addr} {ys:List V} (S:PS σ0 σ fl pl t u F Ps) (hc:σ.L c=none):PS σ0 (σ.ct c ys) fl pl t u F Ps :=
 ⟨S.ext.ct (S.ext.noL hc),(cj (fun q=>by rw [← q,S.f] at hc;cases hc)).trans S.f,(cj (fun q=>by rw [← q,S.p] at hc;cases hc)).trans S.p,fun p hp=>(S.each p hp).set (.inr (.inr hc)),S.len,S.fn,S.ft⟩
theorem yT {ss:ky} {sl:Addr} {l:List Int} {rest kind:Int} (np:σ0.L pl=none) (ne:fl≠pl) (hu:u<100) (H:PF ρ way fl pl) (S:PS σ0 σ fl pl t u F Ps) (q5:ρ 5=some (.int rest)) (q6:ρ 6=some (.int kind)) (q8:ρ 8=some (.lst sl)) (hs:Pt σ fl pl (sl,l))
  (h:∀ σ' Ps',PS σ0 σ' fl pl t (u+1) F Ps'→eg C ss ρ σ' K) :
  eg C (.cons (.cond (.cmp .ne (.loc 6) (.int 1)) (.cons (.expr (.bm .insert (.loc 3) (.cons (.bin .mod (.bin .fdiv (.loc 5) (.int 4)) (.bin .add (.bf .len (.cons (.loc 3) .nil)) (.int 1))) (.cons (.loc 8) .nil)))) .nil) .nil) ss) ρ σ K:=by
 have hl:=S.len
 refine gB (kind≠1) (by rw [sy,jq,q6];rfl) (fun c=>?_) fun c=>gj (h σ Ps ⟨S.ext,S.f,S.p,S.each,ug S.len,S.fn,S.ft⟩)
 obtain⟨p,hp,ep⟩:∃ p:Nat,p≤Ps.length∧(rest/4)%((Ps.length:Int)+1)=p:=by
  have h1:=Int.emod_nonneg (rest/4) (show((Ps.length:Int)+1)≠0 by exact fo (.iu (.a .L .U) .O) .j)
  have h2:=Int.emod_lt_of_pos (rest/4) (show(0:Int)<(Ps.length:Int)+1 by exact fo (.il .O (.a .L .U)) .j)
  exact⟨((rest/4)%((Ps.length:Int)+1)).toNat,by(first | exact(Ar.ton _).elim (fun q1=>(pH .A .b (.il .A (.a .P .U)) .aF h2 q1.2)) fun q1=>(av .A .a .M q1.2) | omega),by(first | exact(Ar.ton _).elim (fun q1=>(pI .c6 .h .aF q1.2)) fun q1=>(zR .c6 .l .a1 .aW .M h1 q1.1 q1.2) | omega)⟩
 refine⟨_,H.r3,(by show(σ.L pl).isSome=true;rw [S.p];rfl),?_⟩
 refine kr (Q:=_) _ (vs:=[.int p,.lst sl]) ?_ ?_
 ·have e1:evV σ ρ (.bin .mod (.bin .fdiv (.loc 5) (.int 4)) (.bin .add (.bf .len (.cons (.loc 3) .nil)) (.int 1)))=some (.int p):=by
   rw [eL,eL,jq,q5,eL,pd H.r3 S.p]
   show(kf ((0:Int)<4∧(4:Int).natAbs<2^60) (V.int (rest/4))).bind (fun va=>cX .mod va (.int ((Ps.length:Int)+1)))=_
   unfold kf
   rw [bp (by decide)]
   show kf ((0:Int)<(Ps.length:Int)+1) (V.int ((rest/4)%((Ps.length:Int)+1)))=_
   unfold kf
   rw [bp (by exact fo (.il .O (.a .L .U)) .j),ep]
  rw [cg,e1,cg,jq,q8];rfl
 refine⟨_,S.p,by rw [az];unfold ax;(exact dq .aH .b (.l .B (.n 100)) .A hu hl),by exact fo .c5 .j,by exact kc (.il .L (.n (2^60))) .d (.l .B (.n 100)) .N .I hu hl hp,rfl,?_⟩
 rw [az,zm hp,← List.map_take,← List.map_drop]
 have e:(Ps.take p).map (fun p=>V.lst p.1)++V.lst sl::(Ps.drop p).map (fun p=>V.lst p.1)=(Ps.take p++(sl,l)::Ps.drop p).map fun p=>V.lst p.1:=by rw [fb];rfl
 rw [e]
 refine gj (h _ (Ps.take p++(sl,l)::Ps.drop p) ⟨S.ext.ct np,(cj ne).trans S.f,bc _ _ _,fun x hx=>?_,?_,S.fn,S.ft⟩)
 ·rcases dz.mp hx with hx | hx
  ·exact(S.each x (List.mem_of_mem_take hx)).set (.inr (.inl rfl))
  ·rcases cf.mp hx with rfl | hx
   ·exact hs.set (.inr (.inl rfl))
   ·exact(S.each x (List.mem_of_mem_drop hx)).set (.inr (.inl rfl))
 ·rw [bg,bz,ip,jw];(exact jt (.k .a2 .R) .d .b8 .cC (.e .a6 .D) hl (Ar.fm _ _).1 (aa (av .A .a .A hp)))
theorem yZ {ss:ky} {sl:Addr} {l:List Int} {kind:Int} (nf:σ0.L fl=none) (ne:fl≠pl) (ht:t<100) (H:PF ρ way fl pl) (S:PS σ0 σ fl pl t u F Ps) (q6:ρ 6=some (.int kind)) (q8:ρ 8=some (.lst sl)) (hs:Pt σ fl pl (sl,l))
  (h:∀ σ' F',PS σ0 σ' fl pl (t+1) u F' Ps→Pt σ' fl pl (sl,l)→eg C ss ρ σ' K) :
  eg C (.cons (.cond (.cmp .ne (.loc 6) (.int 2)) (.cons (.expr (.bm .extend (.loc 2) (.cons (.loc 8) .nil))) .nil) .nil) ss) ρ σ K:=by
 have hf:=S.fn
 refine gB (kind≠2) (by rw [sy,jq,q6];rfl) (fun c=>?_) fun c=>gj (h σ F ⟨S.ext,S.f,S.p,S.each,S.len,by exact av (.k .A (.m 12 .L)) .a (.k .A (.m 12 .B)) hf,fun i hi=>ug (S.ft i hi)⟩ hs)
 refine⟨_,H.r2,(by show(σ.L fl).isSome=true;rw [S.f];rfl),_,q8,?_⟩
 obtain⟨v,n,el,hn⟩:=id hs.s
 have el:l=List.replicate (n+1) v:=el
 refine⟨_,_,pn hs.nf,S.f,hs.at_,?_,rfl,?_⟩
 ·rw [az,az]
  show F.length+l.length≤_
  rw [el,uu];unfold ax;(exact kc (.k .a2 .S) [[1,12,1,1]] (.l .C (.n 100)) .c2 (.l .B (.n 12)) ht hf hn)
 refine gj (h _ (F++l) ⟨S.ext.ct nf,(bc _ _ _).trans (bx some fb.symm),(cj (pn ne)).trans S.p,fun p hp=>(S.each p hp).set (.inl rfl),S.len,?_,sI S.ft hs.s⟩ (hs.set (.inl rfl)))
 rw [bg,el,uu];(exact eh (.k .a2 (.m 12 .R)) .b .c2 (.l .B (.n 12)) hf hn)
theorem qI {kk:Fr→St→Prop} {x:Int} (nf:σ0.L fl=none) (np:σ0.L pl=none) (ne:fl≠pl) (ht:t<100) (H:PF ρ way fl pl) (S:PS σ0 σ fl pl t t F Ps) (h:∀ ρ' σ' F' Ps',PF ρ' way fl pl→PS σ0 σ' fl pl (t+1) (t+1) F' Ps'→kk ρ' σ'):eg C HB (upd ρ 4 (.int x)) σ (ph kk K):=by
 have dm:∀ {σ:St} {ρ:Fr} {i:Nat} {x k:Int},ρ i=some (.int x)→0<k→k<100→evV σ ρ (.bf .divmod (.cons (.loc i) (.cons (.int k) .nil)))=some (.tup [.int (x/k),.int (x%k)]):=fun {σ ρ i x k} hx h0 h1=>by
  rw [rD,cg,jq,hx]
  show kf (0<k∧k.natAbs<2^60) (V.tup [.int (x/k),.int (x%k)])=_
  unfold kf
  rw [bp ⟨h0,by exact(Ar.nab _).elim (fun q1=>(mw .W .b (.il .A (.n 100)) .aF h1 q1.2)) fun q1=>(mw .W .b .aV .aJ h0 q1.2)⟩]
 refine d5 [.int (x/3),.int (x%3)] (dm rfl (by decide) (by decide)) rfl ?_
 refine d5 [.int (x/3/12),.int (x/3%12)] (dm rfl (by decide) (by decide)) rfl ?_
 have H1:PF (dk [5,7] [.int (x/3/12),.int (x/3%12)] (dk [5,6] [.int (x/3),.int (x%3)] (upd ρ 4 (.int x)))) way fl pl:=⟨H.r1,H.r2,H.r3⟩
 have q5:dk [5,7] [.int (x/3/12),.int (x/3%12)] (dk [5,6] [.int (x/3),.int (x%3)] (upd ρ 4 (.int x))) 5=some (.int (x/3/12)):=rfl
 have q6:dk [5,7] [.int (x/3/12),.int (x/3%12)] (dk [5,6] [.int (x/3),.int (x%3)] (upd ρ 4 (.int x))) 6=some (.int (x%3)):=rfl
 have q7:dk [5,7] [.int (x/3/12),.int (x/3%12)] (dk [5,6] [.int (x/3),.int (x%3)] (upd ρ 4 (.int x))) 7=some (.int (x/3%12)):=rfl
 generalize dk [5,7] [.int (x/3/12),.int (x/3%12)] (dk [5,6] [.int (x/3),.int (x%3)] (upd ρ 4 (.int x)))=ρ1 at H1 q5 q6 q7
 generalize x/3/12=rest at q5
 generalize x%3=kind at q6
 obtain⟨sz,hsz,esz⟩:∃ sz:Nat,sz<12∧x/3%12=sz:=by
  have h1:=Int.emod_nonneg (x/3) (show(12:Int)≠0 by decide)
  have h2:=Int.emod_lt_of_pos (x/3) (show(0:Int)<12 by decide)
  exact⟨(x/3%12).toNat,by(first | exact(Ar.ton _).elim (fun q1=>(mw (.l .A (.n 12)) .b (.il .A (.n 12)) .aF h2 q1.2)) fun q1=>(dh (.l .A (.n 12)) .a .M q1.2) | omega),by(first | exact(Ar.ton _).elim (fun q1=>(pI .c6 .h .aF q1.2)) fun q1=>(zR .c6 .l .a1 .aW .M h1 q1.1 q1.2) | omega)⟩
 rw [esz] at q7
 obtain⟨v,ev⟩:∃ v,evV σ ρ1 (.ite (.cmp .gt (.bin .mod (.loc 1) (.int 4)) (.int 0)) (.bin .mod (.loc 5) (.bin .add (.bin .mod (.loc 1) (.int 4)) (.int 1))) (.loc 5))=some (.int v):=by
  have hc:evT σ ρ1 (.cmp .gt (.bin .mod (.loc 1) (.int 4)) (.int 0))=some (decide (0<way%4)):=by
   have h1:=H1.r1
   simp [kf,h1]
  by_cases c:0<way%4
  ·refine⟨rest%(way%4+1),?_⟩
   show(evT σ ρ1 _).bind (fun t=>if t then _ else _)=_
   rw [hc,fc c]
   show evV σ ρ1 (.bin .mod (.loc 5) (.bin .add (.bin .mod (.loc 1) (.int 4)) (.int 1)))=_
   have h1:=H1.r1
   simp [kf,h1,q5]
   (exact jf (.il .O (.a .A .U)) .a .aV c)
  ·refine⟨rest,?_⟩
   show(evT σ ρ1 _).bind (fun t=>if t then _ else _)=_
   rw [hc,fe c]
   exact q5
 rw [ll,A4,dW]
 refine kr (Q:=_) _ (vs:=[.int v]) (by rw [cg,ev];rfl) ⟨cp rfl,fun c hc=>?_⟩
 have S1:=S.new (ys:=[.int v]) hc
 have hc1:(σ.ct c [.int v]).L c=some [.int v]:=bc _ _ _
 generalize σ.ct c [.int v]=σ1 at S1 hc1
 refine gh (Q:=_) _ (v:=.int (sz+1:Nat)) (ir (a:=.loc 7) (b:=.int 1) (n:=1) q7 rfl) ?_
 refine⟨[.int v],hc1,?_,by(first | exact(Ar.nab _).elim (fun q1=>(dq .W .b (.l .B (.n 12)) (.ie .L (.t .L)) hsz q1.2)) fun q1=>(av .W .a (.ie .L (.g (.t .L))) q1.2) | omega),fun sl hsl=>?_⟩
 ·rw [du,ef];unfold ax;(exact dh (.k (.m 1 .M) .S) .a (.l .A (.n 12)) hsz)
 have er:(List.replicate ((sz+1:Nat):Int).toNat [V.int v]).flatten=iV (List.replicate (sz+1) v):=by
  rw [ef]
  generalize sz+1=m
  induction m with
  | zero=>rfl
  | succ m ih=>rw [List.replicate_succ,uh,ih];rfl
 rw [er]
 have hss:Pt (σ1.ct sl (iV (List.replicate (sz+1) v))) fl pl (sl,List.replicate (sz+1) v):=by
  refine⟨bc _ _ _,fun q=>?_,fun q=>?_,v,sz,rfl,hsz⟩
  ·have q:sl=fl:=q
   rw [q,S1.f] at hsl;cases hsl
  ·have q:sl=pl:=q
   rw [q,S1.p] at hsl;cases hsl
 have S2:=S1.new (ys:=iV (List.replicate (sz+1) v)) hsl
 generalize σ1.ct sl (iV (List.replicate (sz+1) v))=σ2 at hss S2
 have H2:PF (upd ρ1 8 (.lst sl)) way fl pl:=⟨H1.r1,H1.r2,H1.r3⟩
 have q5:upd ρ1 8 (.lst sl) 5=some (.int rest):=q5
 have q6:upd ρ1 8 (.lst sl) 6=some (.int kind):=q6
 have q8:upd ρ1 8 (.lst sl) 8=some (.lst sl):=rfl
 show eg _ _ (upd ρ1 8 (.lst sl)) σ2 _
 generalize upd ρ1 8 (.lst sl)=ρ2 at H2 q5 q6 q8
 refine yZ nf ne ht H2 S2 q6 q8 hss fun σ3 F' S3 hs3=>?_
 exact yT np ne ht H2 S3 q5 q6 q8 hs3 fun σ4 Ps' S4=>gj (h ρ2 σ4 F' Ps' H2 S4)
end
end R6
end MP
end
section
namespace MP
open PySem SM
namespace SM
theorem qC {P:Nat→Option Fn} (hP:P 2=some fn2) {n:Nat} {x d la la0:Addr} {f:Nat→Option V} {σ:St} {Q:V→St→Prop} (hI:σ.I x=some (d,f)) (hf:f 1=some (.lst la0)) (h0:(σ.L la0).isSome=true) (h1:(σ.L la).isSome=true) (hne:la≠la0)
  (h:Q .none (σ.fj x d (upd (upd (upd f 1 (.lst la)) 4 .none) 5 .none))):gu P (n+1) 2 [.obj x,.lst la] σ Q:=by
 refine⟨fn2,hP,ah 2,ah 2,gA ?_⟩
 refine⟨_,rfl,_,rfl,x,d,f,_,rfl,hI,hf,h1,h0,?_⟩
 rw [ow hne]
 exact uy (gj (gC (.lst la) rfl rfl hI (yo .none rfl rfl (gj h))))
theorem oZ {P:Nat→Option Fn} (hP:P 4=some fn4) {n:Nat} {x d la lb:Addr} {f:Nat→Option V} {as bs:List Key} {σ:St} {Q:V→St→Prop} (hI:σ.I x=some (d,f)) (hf0:f 0=some .none) (hf1:f 1=some (.lst la)) (hf2:f 2=some (.lst lb)) (hf3:f 3=some (.bool false)) (hLa:σ.L la=some (as.map Key.v)) (hLb:σ.L lb=some (bs.map Key.v)) (hz:bs.length<ax)
  (h:∀ σ' f' db sj,xp x σ σ'→σ'.I x=some (d,f')→(∀ m,m<7→f' m=f m)→MAt σ' x la lb db sj as bs (fun _=>false) []→Q .none σ'):gu P (n+1) 4 [.obj x] σ Q:=by
 refine tW hP hI hf0 hf2 hf3 hLb hz fun σ₁ db s1 s2 hB hdb hs1 hs2 hne=>?_
 have E1:xp x σ σ₁:=⟨hB.old,fun a es e=>by rw [hB.D a (fun q=>by rw [q,hdb] at e;cases e)];exact e,fun _ _ e=>by rw [hB.S];exact e,fun a _ n e=>by rw [hB.I];exact(cj n).trans e,fun _ _ e=>by rw [hB.Z];exact e⟩
 have E2:xp x σ ((σ₁.su s1 []).su s2 []):=⟨E1.L,E1.D,ya (ya E1.S hs1) hs2,E1.I,E1.Z⟩
 refine h _ (upd (upd (upd f 7 (.dct db)) 8 (.set s1)) 9 (.set s2)) db s1 E2.fj gw (fun m hm=>(cj (by exact dh (.u .A (.n 9)) .x .bC hm)).trans ((cj (by exact dh (.u .A (.n 8)) .x .bC hm)).trans (cj (by exact dh (.u .A (.n 7)) .x .bC hm)))) ⟨⟨d,_,gw,hf1,hf2,rfl,rfl⟩,E2.L _ _ hLa,E2.L _ _ hLb,?_,?_⟩
 ·obtain⟨es,q1,q2,q3⟩:=hB.tabAt
  exact⟨es,q1,q2,q3⟩
 ·show upd (upd σ₁.S s1 []) s2 [] s1=_
  rw [cj hne,bc]
theorem qB {P:Nat→Option Fn} (hP:P 3=some fn3) (hP4:P 4=some fn4) {n:Nat} {x d la lb lb0:Addr} {f:Nat→Option V} {as bs:List Key} {σ:St} {Q:V→St→Prop} (hI:σ.I x=some (d,f)) (hf0:f 0=some .none) (hf1:f 1=some (.lst la)) (hf:f 2=some (.lst lb0)) (hf3:f 3=some (.bool false)) (h0:(σ.L lb0).isSome=true) (hne:lb≠lb0)
  (hLa:σ.L la=some (as.map Key.v)) (hLb:σ.L lb=some (bs.map Key.v)) (hz:bs.length<ax)
  (h:∀ σ' f' db sj,xp x σ σ'→σ'.I x=some (d,f')→f' 4=some .none→f' 5=some .none→MAt σ' x la lb db sj as bs (fun _=>false) []→Q .none σ'):gu P (n+2) 3 [.obj x,.lst lb] σ Q:=by
 refine⟨fn3,hP,ah 2,ah 2,gA ?_⟩
 refine⟨_,rfl,_,rfl,x,d,f,_,rfl,hI,hf,by rw [hLb];rfl,h0,?_⟩
 rw [ow hne]
 refine uy (gj (gC (.lst lb) rfl rfl hI (yo .none rfl rfl (n7 .none rfl rfl (dP [] rfl (by rw [gw];rfl) rfl ?_)))))
 refine oZ hP4 (la:=la) (lb:=lb) (as:=as) (bs:=bs) gw hf0 hf1 rfl hf3 hLa hLb hz fun σ' f' db sj E hI' hf' M=>⟨rfl,gj (h σ' f' db sj ?_ hI' ((hf' 4 (by decide)).trans rfl) ((hf' 5 (by decide)).trans rfl) M)⟩
 exact⟨E.L,E.D,E.S,fun a es n e=>E.I a es n ((cj n).trans e),E.Z⟩
theorem GW {P:Nat→Option Fn} (h5:P 5=some fn5) (h6:P 6=some fn6) (h7:P 7=some fn7) {n:Nat} {σ:St} {x la lb db sj d:Addr} {f:Nat→Option V} {xs ys:List Int} {Q:V→St→Prop} (M:MAt σ x la lb db sj (ks xs) (ks ys) (fun _=>false) []) (hI:σ.I x=some (d,f)) (f4:f 4=some .none) (f5:f 5=some .none) (hza:xs.length<400000) (hzb:ys.length<400000)
  (few:∀ L,BT (pg (ks xs) (ks ys)) 0 xs.length 0 ys.length L→L.length<64)
  (h:∀ σ' c L g,xp x σ σ'→BT (pg (ks xs) (ks ys)) 0 xs.length 0 ys.length L→σ'.I x=some (d,g)→(∀ m,m≠4→m≠5→g m=f m)→σ'.L c=some ((codes 0 0 (L++[(xs.length,ys.length,0)])).map oV)→Q (.lst c) σ'):gu P (n+3) 7 [.obj x] σ Q:=by
 have lx:(ks xs).length=xs.length:=az _
 have ly:(ks ys).length=ys.length:=az _
 have hj:(fun c:Key=>decide (c∈([]:List Key)))=fun _=>false:=by funext c;simp
 refine BK h7 h6 h5 M hI f4 f5 (DS _) (DS _) (by rw [ly];exact hzb) (by rw [lx];exact hza) (fun L b=>?_) fun σ2 c L g E2 b hc hg hgm _ hcL=>?_
 ·rw [hj] at b
  have bt:=b.GN
  rw [lx,ly] at bt
  exact few L bt
 rw [hj] at b
 have bt:=b.GN
 rw [BR bt.BP fun u hu=>(bt.ok.1 u hu).2] at hcL
 rw [lx,ly] at hcL bt
 exact h σ2 c L g E2 bt hg hgm hcL
end SM
theorem oF {α:Type} {us:List α} {G:St→Prop} {T:V→Fr→List V→St→(Fr→List V→St→Prop)→Prop} {K:Fr→List V→St→Prop} (f:α→V) (g:α→List V) (Inv:Fr→Prop) {σ:St} (hG:G σ) {N:Nat} {acc:List V}
  (hT:∀ v∈us,∀ ρ acc K',Inv ρ→acc.length+(g v).length≤N→(∀ ρ',Inv ρ'→K' ρ' (acc++g v) σ)→T (f v) ρ acc σ K') {ρ:Fr} (hi:Inv ρ) (hN:acc.length+(us.flatMap g).length≤N) (hK:∀ ρ,Inv ρ→K ρ (acc++us.flatMap g) σ):mO (us.map f) G T ρ acc σ K:=by
 induction us generalizing acc ρ with
 | nil=>exact⟨hG,by have:=hK ρ hi;rwa [List.flatMap_nil,dp] at this⟩
 | cons u us ih =>
  rw [List.flatMap_cons,bg] at hN
  refine⟨hG,hT u (.head _) ρ acc _ hi (by exact gV .G .a (.k (.a .A (.a .B .D)) .C) hN) fun ρ' hi'=>ih (fun v hv=>hT v (.tail _ hv)) hi' (by rw [bg];(exact gV .Y .a .aG hN)) fun ρ2 hi2=>?_⟩
  have:=hK ρ2 hi2
  rwa [List.flatMap_cons,← ix] at this
theorem tT {σ:St} {n:Nat} {a:Addr} {L:List Int} (h:σ.L a=some (iV L)):wj σ (n+2) (.lst a)=some (.list (L.map PyData.int)):=by
 show((σ.L a).bind fun xs=>(xs.mapM (wj σ (n+1))).map PyData.list)=_
 rw [h]
 show((L.map V.int).mapM (wj σ (n+1))).map PyData.list=_
 rw [mapM_some (g:=fun v=>match v with | .int a=>PyData.int a | _=>.none)]
 ·rw [md];rfl
 ·intro v hv
  obtain⟨t,_,rfl⟩:=ee.mp hv
  cases n<;>rfl
theorem u5 {σ:St} {a b:Addr} {L:List Int} {K:Bool→Prop} (ha:σ.L a=some (iV L)) (hb:σ.L b=some []) (h:K (decide (L≠[]))):wu .ne (.lst a) (.lst b) σ K:=by
 refine⟨_,_,tT ha,tT (L:=[]) hb,?_⟩
 show K (!PyData.eqv _ _)
 have:(!PyData.eqv (.list (L.map PyData.int)) (.list (([]:List Int).map PyData.int)))=decide (L≠[]):=by
  cases L with
  | nil=>simp [PyData.eqv,PyData.eqvAll]
  | cons p L=>simp [PyData.eqv,PyData.eqvAll]
 rw [this];exact h
theorem A3 {σ:St} {a b:Addr} {L:List O5} {K:Bool→Prop} (ha:σ.L a=some (L.map oV)) (hb:σ.L b=some (L.map oV)) (hs:∀ t∈L,PyData.strOk t.1=true) (h:K true):wu .eq (.lst a) (.lst b) σ K:=vY ha hb hs h
end MP
end
section
namespace MP
namespace R6
open PySem SM
noncomputable def jY (ns:List Int):Int:=ns.headD 0
structure Sml (xs:List Int):Prop where
 l:xs.length<1000
 t:∀ i,i<xs.length→tn xs i≤62
theorem Sml.few {xs ys:List Int} (hx:Sml xs) (hy:Sml ys):∀ L,BT (pg (ks xs) (ks ys)) 0 xs.length 0 ys.length L→L.length<64:=fun L b=>Nat.lt_succ_of_le (b.few hx.t hy.t)
theorem BS {xs ys:List Int} {L:List T3} (bt:BT (pg (ks xs) (ks ys)) 0 xs.length 0 ys.length L):pJ 0 0 (L++[(xs.length,ys.length,0)]) :=
 pJ.of (List.pairwise_append.mpr ⟨bt.ok.2.1,.cons (fun u hu=>(by cases hu)) .nil,fun a ha b hb=>by
  rw [au.mp hb]
  exact⟨(bt.ok.1 a ha).1.2.1,(bt.ok.1 a ha).1.2.2.2⟩⟩) fun _ _=>⟨br _,br _⟩
theorem kB {ρ:Fr} {σ:St} {x d la lb db sj ia ib:Nat} {f:Nat→Option V} {xs ys:List Int} {K:V→V→St→Prop} (r10:ρ 10=some (.obj x)) (ra:ρ ia=some (.lst la)) (rb:ρ ib=some (.lst lb)) (M:MAt σ x la lb db sj (ks xs) (ks ys) (fun _=>false) []) (hI:σ.I x=some (d,f)) (f4:f 4=some .none) (f5:f 5=some .none)
  (hLa:σ.L la=some (iV xs)) (hLb:σ.L lb=some (iV ys)) (hx:Sml xs) (hy:Sml ys)
  (h:∀ σ' c1 c2 L g,xp x σ σ'→σ'.I x=some (d,g)→(∀ m,m≠4→m≠5→g m=f m)→σ'.L c1=some ((codes 0 0 L).map oV)→σ'.L c2=some ((codes 0 0 L).map oV)→K (.lst c1) (.lst c2) σ') :
  wpE (gu P 6) (.meth (.loc 10) 7 .nil) ρ σ fun va σ=>wpE (gu P 6) (.call 13 (.cons (.call 12 (.cons (.loc ia) (.cons (.loc ib) .nil))) (.cons (.bf .len (.cons (.loc ia) .nil)) (.cons (.bf .len (.cons (.loc ib) .nil)) .nil)))) ρ σ fun vb σ=>K va vb σ:=by
 have l1:=hx.l;have l2:=hy.l
 rw [w4]
 refine⟨_,r10,x,rfl,by rw [hI];rfl,?_⟩
 refine GW (P:=P) (n:=3) rfl rfl rfl M hI f4 f5 (by exact dh .a0 .a .a6 l1) (by exact dh .a0 .a .a6 l2) (hx.few hy) fun σ1 c1 L g E1 bt hg hgm hc1=>?_
 rw [xy,te,xy]
 refine⟨_,ra,_,rb,?_⟩
 have fw:=hx.few hy L bt
 refine C3 (n:=4) (E1.L _ _ hLa) (E1.L _ _ hLb) (by exact dh .a0 .a .a6 l1) (by exact dh .a0 .a .a6 l2) bt (by exact dh .a6 .a .bI fw) fun σ2 ck E2 hck=>?_
 have La2:=E2.L _ _ (E1.L _ _ hLa)
 have Lb2:=E2.L _ _ (E1.L _ _ hLb)
 refine kr (Q:=_) _ (vs:=[.int xs.length,.int ys.length]) (by rw [cg,pd ra La2,cg,pd rb Lb2];rfl) ?_
 refine yM (P:=P) (k:=13) (n:=5) rfl hck (by exact dh (.l .A .aH) .a .bI fw) (BS bt) fun c2 σ3 E3 _ hc2=>?_
 exact h σ3 c1 c2 _ g (E1.trans (E2.trans E3).x) (E3.I _ _ (E2.I _ _ hg)) hgm (E3.L _ _ (E2.L _ _ hc1)) hc2
theorem rP {n:Nat} (h:n≠0):codes 0 0 ([(0,0,n)]++[(n,n,0)])=([("equal",0,n,0,n)]:List O5):=by
 have e1:chg 0 0 0 0=[]:=rfl
 have e2:chg (0+n) n (0+n) n=[]:=by
  rw [qj]
  unfold chg
  rw [aw (fun q=>gm _ q.1),aw (gm _),aw (gm _)]
 have e3:eql 0 0 n=([("equal",0,n,0,n)]:List O5):=by
  unfold eql
  rw [aw h,qj]
 show chg 0 0 0 0++(eql 0 0 n++(chg (0+n) n (0+n) n++(eql n n 0++[])))=([("equal",0,n,0,n)]:List O5)
 rw [e1,e2,e3];rfl
theorem yL {σ:St} {ρ:Fr} {fl gl:Addr} {F G:List Int} (r2:ρ 2=some (.lst fl)) (r9:ρ 9=some (.lst gl)) (hF:σ.L fl=some (iV F)) (hG:σ.L gl=some (iV G)) (sF:Sml F) (sG:Sml G) (ne:gl≠fl) :
  eg (gu P 6) (.cons (.assign [(.var 10)] (.newM (.cons .none (.cons (.loc 2) (.cons (.loc 9) (.cons (.bool false) .nil))))))
 (.cons (.cond (.cmp .ne (.meth (.loc 10) 7 .nil) (.call 13 (.cons (.call 12 (.cons (.loc 2) (.cons (.loc 9) .nil))) (.cons (.bf .len (.cons (.loc 2) .nil)) (.cons (.bf .len (.cons (.loc 9) .nil)) .nil))))) (.cons (.ret (.bool false))
 .nil) .nil)
 (.cons (.expr (.meth (.loc 10) 2 (.cons (.loc 9) .nil)))
 (.cons (.cond (.cmp .ne (.meth (.loc 10) 7 .nil) (.ite (.cmp .ne (.loc 9) (.lst .nil)) (.lst (.cons (.tup (.cons (.str "equal") (.cons (.int 0) (.cons (.bf .len (.cons (.loc 9) .nil)) (.cons (.int 0) (.cons (.bf .len (.cons (.loc 9) .nil)) .nil)))))) .nil)) (.lst .nil))) (.cons (.ret (.bool false))
 .nil) .nil)
 (.cons (.expr (.meth (.loc 10) 3 (.cons (.loc 2) .nil)))
 (.cons (.ret (.cmp .eq (.meth (.loc 10) 7 .nil) (.call 13 (.cons (.call 12 (.cons (.loc 9) (.cons (.loc 2) .nil))) (.cons (.bf .len (.cons (.loc 9) .nil)) (.cons (.bf .len (.cons (.loc 2) .nil)) .nil))))))
 .nil)))))) ρ σ (qE fun v σ=>v=.bool true):=by
 have l1:=sF.l;have l2:=sG.l
 rw [ll]
 refine make (P:=P) rfl rfl rfl rfl rfl (n:=2) (la:=fl) (lb:=gl) (as:=ks F) (bs:=ks G) (fun Q q=>⟨_,r2,_,r9,q⟩) (by rw [v7];exact hF) (by rw [v7];exact hG) (by rw [az];unfold ax;(exact dh .aH .a .a6 l2)) fun σ1 x d f db sj E1 hx0 hI f4 f5 f0 f3 M=>?_
 have r10:upd ρ 10 (.obj x) 10=some (.obj x):=rfl
 have r2:upd ρ 10 (.obj x) 2=some (.lst fl):=r2
 have r9:upd ρ 10 (.obj x) 9=some (.lst gl):=r9
 show eg _ _ (upd ρ 10 (.obj x)) σ1 _
 generalize upd ρ 10 (.obj x)=ρ1 at r2 r9 r10
 have hF:=E1.L _ _ hF
 have hG:=E1.L _ _ hG
 refine kB (K:=fun va vb σ=>wu .ne va vb σ _) r10 r2 r9 M hI f4 f5 hF hG sF sG fun σ2 c1 c2 L g E2 hI2 hg h1 h2=>?_
 refine pK h1 h2 j5 (uy (gj ?_))
 have hF:=E2.L _ _ hF
 have hG:=E2.L _ _ hG
 obtain⟨d',f',hI',p1,p2,p7,p8⟩:=M.I
 obtain⟨rfl,rfl⟩:d=d'∧f=f':=by rw [hI] at hI';cases hI';exact⟨rfl,rfl⟩
 have g0:=(hg 0 (by decide) (by decide)).trans f0
 have g1:=(hg 1 (by decide) (by decide)).trans p1
 have g2:=(hg 2 (by decide) (by decide)).trans p2
 have g3:=(hg 3 (by decide) (by decide)).trans f3
 have g7:=(hg 7 (by decide) (by decide)).trans p7
 have g8:=(hg 8 (by decide) (by decide)).trans p8
 refine dP [.lst gl] r10 (by rw [hI2];rfl) (by rw [cg,jq,r9];rfl) ?_
 refine qC (P:=P) rfl (n:=5) hI2 g1 (by rw [hF];rfl) (by rw [hG];rfl) ne ⟨rfl,?_⟩
 have E3:xp x σ2 (σ2.fj x d (upd (upd (upd g 1 (.lst gl)) 4 .none) 5 .none)):=(Ext.refl σ2).x.fj
 have hI3:(σ2.fj x d (upd (upd (upd g 1 (.lst gl)) 4 .none) 5 .none)).I x=some (d,upd (upd (upd g 1 (.lst gl)) 4 .none) 5 .none):=gw
 have M3:MAt (σ2.fj x d (upd (upd (upd g 1 (.lst gl)) 4 .none) 5 .none)) x gl gl db sj (ks G) (ks G) (fun _=>false) []:=by
  refine⟨⟨d,_,gw,rfl,g2,g7,g8⟩,by rw [v7];exact hG,by rw [v7];exact hG,?_,E2.S _ _ M.S⟩
  obtain⟨es,q1,q2,q3⟩:=M.D
  exact⟨es,E2.D _ _ q1,q2,fun q hq=>(q3 q hq).imp_right fun zz=>by obtain⟨c,e1,e2⟩:=zz;exact⟨c,e1,E2.L _ _ e2⟩⟩
 have k0:(upd (upd (upd g 1 (.lst gl)) 4 .none) 5 .none) 0=some .none:=g0
 have k2:(upd (upd (upd g 1 (.lst gl)) 4 .none) 5 .none) 2=some (.lst gl):=g2
 have k1:(upd (upd (upd g 1 (.lst gl)) 4 .none) 5 .none) 1=some (.lst gl):=rfl
 have k3:(upd (upd (upd g 1 (.lst gl)) 4 .none) 5 .none) 3=some (.bool false):=g3
 have k4:(upd (upd (upd g 1 (.lst gl)) 4 .none) 5 .none) 4=some .none:=rfl
 have k5:(upd (upd (upd g 1 (.lst gl)) 4 .none) 5 .none) 5=some .none:=rfl
 generalize (upd (upd (upd g 1 (.lst gl)) 4 .none) 5 .none)=k at hI3 M3 k0 k1 k2 k3 k4 k5 E3
 have hF:(σ2.fj x d k).L fl=some (iV F):=hF
 have hG:(σ2.fj x d k).L gl=some (iV G):=hG
 generalize σ2.fj x d k=σ3 at hI3 M3 E3 hF hG
 refine⟨_,r10,x,rfl,by rw [hI3];rfl,?_⟩
 refine GW (P:=P) (n:=3) rfl rfl rfl M3 hI3 k4 k5 (by exact dh .a0 .a .a6 l2) (by exact dh .a0 .a .a6 l2) (sG.few sG) fun σ4 c3 L g' E4 bt hI4 hg' h3=>?_
 have hF:=E4.L _ _ hF
 have hG:=E4.L _ _ hG
 suffices hn:∀ σ5 c4,Ext σ4 σ5→σ5.L c4=some ((codes 0 0 (L++[(G.length,G.length,0)])).map oV)→eg (gu P 6) (.cons (.expr (.meth (.loc 10) 3 (.cons (.loc 2) .nil)))
 (.cons (.ret (.cmp .eq (.meth (.loc 10) 7 .nil) (.call 13 (.cons (.call 12 (.cons (.loc 9) (.cons (.loc 2) .nil))) (.cons (.bf .len (.cons (.loc 9) .nil)) (.cons (.bf .len (.cons (.loc 2) .nil)) .nil))))))
 .nil)) ρ1 σ5 (qE fun v σ=>v=.bool true) by
  refine⟨_,r9,?_⟩
  refine⟨br _,fun c hc=>?_⟩
  have Ec:Ext σ4 (σ4.ct c []):=(Ext.refl σ4).ct hc
  refine u5 (Ec.L _ _ hG) (bc _ _ _) ?_
  have h3c:=Ec.L _ _ h3
  have hGc:=Ec.L _ _ hG
  generalize σ4.ct c []=σ6 at Ec h3c hGc
  by_cases hg:G=[]
  ·rw [fe (fun q=>q hg)]
   refine uy ⟨br _,fun c4 hc4=>?_⟩
   have el:L=[]:=by
    have:=lB (lo:=0) bt.ok.1 bt.ok.2.1 (fun _ _=>br _) (br _)
    rw [hg] at this
    exact sq.mp (by simpa using this)
   have ec:codes 0 0 (L++[(G.length,G.length,0)])=[]:=by rw [el,hg];rfl
   rw [ec] at hn h3c
   have E7:=(Ext.refl σ6).ct (xs:=[]) hc4
   exact pK (L:=[]) (E7.L _ _ h3c) (bc _ _ _) (fun t h=>nomatch h) (uy (gj (hn _ c4 (Ec.trans E7) (bc _ _ _))))
  ·rw [fc hg]
   have el:L=[(0,0,G.length)]:=bt.uniq (BT.self hg)
   have ec:codes 0 0 (L++[(G.length,G.length,0)])=([("equal",0,G.length,0,G.length)]:List O5):=by
    rw [el];exact rP fun q=>hg (sq.mp q)
   rw [ec] at hn h3c
   refine zu ?_
   refine kr (Q:=_) _ (vs:=[oV ("equal",0,G.length,0,G.length)]) ?_ ⟨cp rfl,fun c4 hc4=>?_⟩
   ·rw [cg,ev5 (i:=0) (j:=0) rfl rfl (pd r9 hGc) rfl (pd r9 hGc)];rfl
   have E7:=(Ext.refl σ6).ct (xs:=[oV ("equal",0,G.length,0,G.length)]) hc4
   refine pK (L:=([("equal",0,G.length,0,G.length)]:List O5)) (E7.L _ _ h3c) (bc _ _ _) (fun t h=>?_) (uy (gj (hn _ c4 (Ec.trans E7) (bc _ _ _))))
   rw [au.mp h];exact sM
 intro σ5 c4 E5 _
 have hF:=E5.L _ _ hF
 have hG:=E5.L _ _ hG
 have hI5:=E5.I _ _ hI4
 refine dP [.lst fl] r10 (by rw [hI5];rfl) (by rw [cg,jq,r2];rfl) ?_
 refine qB (P:=P) rfl rfl (n:=4) (la:=gl) (lb:=fl) (lb0:=gl) (as:=ks G) (bs:=ks F) hI5 ((hg' 0 (by decide) (by decide)).trans k0) ((hg' 1 (by decide) (by decide)).trans k1) ((hg' 2 (by decide) (by decide)).trans k2) ((hg' 3 (by decide) (by decide)).trans k3) (by rw [hG];rfl) (pn ne) (by rw [v7];exact hG) (by rw [v7];exact hF) (by rw [az];unfold ax;(exact dh .aH .a .a6 l1)) fun σ6 f6 db6 sj6 E6 hI6 f64 f65 M6=>⟨rfl,?_⟩
 refine kB (K:=fun va vb σ=>wu .eq va vb σ _) r10 r9 r2 M6 hI6 f64 f65 (E6.L _ _ hG) (E6.L _ _ hF) sG sF fun σ7 c5 c6 L7 g7' E7 hI7 hg7 h5 h6=>?_
 exact A3 h5 h6 j5 rfl
end R6
end MP
end
section
namespace MP
namespace R6
open PySem SM
theorem vF {C:Cal} {ρ:Fr} {σ0 σ:St} {fl pl:Addr} {t u:Nat} {F:List Int} {Ps:List AL} {Q:V→St→Prop} (r3:ρ 3=some (.lst pl)) (S:PS σ0 σ fl pl t u F Ps) (hz:(Ps.map (·.2)).flatten.length≤100000)
  (h:∀ c,σ.L c=none→Q (.lst c) (σ.ct c (iV (Ps.map (·.2)).flatten))):wpE C (.comp [] (.seq (.loc 3)) (.var 1) .nil (.cons (.seq (.loc 1)) (.var 2) .nil (.elt (.loc 2)))) ρ σ Q:=by
 rw [w7,vW]
 refine⟨_,r3,_,S.p,?_⟩
 have e:(Ps.flatMap fun p=>iV p.2)=iV (Ps.map (·.2)).flatten:=by
  show _=((Ps.map (·.2)).flatten).map V.int
  rw [List.map_flatten,md];rfl
 refine oF (us:=Ps) (fun p=>V.lst p.1) (fun p=>iV p.2) (fun _=>True) S.p (N:=100000) (fun p hp ρ' acc K' _ hl hK=>?_) trivial (by rw [e,az];show 0+_≤_;(exact dh (.k (.a .O .A) .aH) .a (.k .A .aH) hz)) fun ρ' _=>?_
 ·refine⟨_,rfl,_,(S.each p hp).at_,?_⟩
  have e2:(p.2.flatMap fun x=>[V.int x])=iV p.2:=by
   generalize p.2=l
   induction l with
   | nil=>rfl
   | cons x r ih=>rw [List.flatMap_cons,ih];rfl
  refine oF (us:=p.2) V.int (fun x=>[V.int x]) (fun _=>True) (S.each p hp).at_ (N:=100000) (fun x hx ρ2 acc2 K2 _ hl2 hK2=>?_) trivial (by rw [e2];exact hl) fun ρ2 _=>?_
  ·rw [du] at hl2
   exact⟨_,rfl,by unfold ax;(exact dh .aH .a (.k .M .aH) hl2),hK2 _ trivial⟩
  ·rw [e2];exact hK ρ2 trivial
 ·rw [e,List.nil_append];exact h
theorem IV (ns:List Int) (hns:ns.length≤63) (σ:St):gu P 7 14 [.ro ns] σ fun v σ=>v=.bool true:=by
 refine⟨CD,rfl,ah 1,ah 1,?_⟩
 have h0:frameOf CD [.ro ns] 0=some (.ro ns):=rfl
 generalize frameOf CD [.ro ns]=ρ at h0
 have hz:ns.length≤ax:=by unfold ax;(exact dh .bX .a (.k .A (.n 63)) hns)
 refine⟨.ro ns,h0,hz,?_⟩
 suffices hw:eg (gu P 6) _ (upd ρ 1 (.int (jY ns))) σ _ by
  cases ns with
  | nil=>exact uy hw
  | cons x r=>exact zu ⟨.ro (x::r),h0,x,hz,by rw [show(0:Int)=((0:Nat):Int) from rfl,kh];exact Int.le_refl _,by rw [show(0:Int)=((0:Nat):Int) from rfl,kh];rfl,hw⟩
 have r0:upd ρ 1 (.int (jY ns)) 0=some (.ro ns):=h0
 have r1:upd ρ 1 (.int (jY ns)) 1=some (.int (jY ns)):=rfl
 generalize upd ρ 1 (.int (jY ns))=ρ1 at r0 r1
 generalize jY ns=way at r1
 rw [ll,sD,te,dW]
 refine⟨br _,fun fl hfl=>?_⟩
 rw [te,dW]
 refine⟨br _,fun pl hpl=>⟨cp rfl,_,rfl,rfl,?_⟩⟩
 have ne:fl≠pl:=fun q=>by
  rw [← q] at hpl
  have:upd σ.L fl [] fl=none:=hpl
  rw [bc] at this;cases this
 have np:σ.L pl=none:=(cj (pn ne)).symm.trans hpl
 have H:PF (dk [2,3] [.lst fl,.lst pl] ρ1) way fl pl:=⟨r1,rfl,rfl⟩
 have r0:dk [2,3] [.lst fl,.lst pl] ρ1 0=some (.ro ns):=r0
 show eg _ _ (dk [2,3] [.lst fl,.lst pl] ρ1) ((σ.ct fl []).ct pl []) _
 generalize dk [2,3] [.lst fl,.lst pl] ρ1=ρ2 at H r0
 have hf2:((σ.ct fl []).ct pl []).L fl=some []:=(cj ne).trans (bc _ _ _)
 have hp2:((σ.ct fl []).ct pl []).L pl=some []:=bc _ _ _
 have E2:Ext σ ((σ.ct fl []).ct pl []):=((Ext.refl σ).ct hfl).ct np
 generalize (σ.ct fl []).ct pl []=σ2 at hf2 hp2 E2
 refine⟨_,r0,hz,?_⟩
 suffices hs:∀ (ms:List Int) (c:Addr),σ2.L c=none→ms.length≤62→oE (iV ms) (fun τ=>τ.L c=some (iV ms)) _ ρ2 (σ2.ct c (iV ms)) _ by
  show(if decide ((1:Int)<ns.length)=true then _ else _)
  by_cases cl:(1:Int)<ns.length
  ·rw [fc cl]
   refine zu ⟨_,r0,1,63,hz,rfl,rfl,by decide,by decide,fun c hc=>?_⟩
   have:=hs ((ns.take (dt ns.length 63)).drop (dt ns.length 1)) c hc (by
    have e2:dt ns.length 1=1:=zm (i:=1) (by exact dh .D .a (.il .U .L) cl)
    rw [e2,jw,ip];(exact Ar.sub _ _ (fun q1 p1=>(kc (.k .A (.n 62)) .d (.k .B (.n 63)) .N .bK hns (Ar.fm _ _).2.1 p1)) fun q1 p1=>(dh (.k .A (.n 62)) .a .M p1)))
   exact⟨_,bc _ _ _,this⟩
  ·rw [fe cl]
   exact uy (kr (Q:=_) _ (vs:=iV [0,2]) rfl ⟨cp rfl,fun c hc=>⟨_,bc _ _ _,hs [0,2] c hc (by decide)⟩⟩)
 intro ms c hc hms
 have hcf:fl≠c:=fun q=>by rw [← q,hf2] at hc;cases hc
 have hcp:pl≠c:=fun q=>by rw [← q,hp2] at hc;cases hc
 have hc0:=E2.noL hc
 have nf0:(σ.ct c (iV ms)).L fl=none:=(cj hcf).trans hfl
 have np0:(σ.ct c (iV ms)).L pl=none:=(cj hcp).trans np
 have E0:Ext (σ.ct c (iV ms)) (σ2.ct c (iV ms)):=by
  refine⟨fun a xs e=>?_,E2.D,E2.S,E2.I,E2.Z⟩
  by_cases q:a=c
  ·subst q;exact(bc _ _ _).trans ((bc _ _ _).symm.trans e)
  ·exact(cj q).trans (E2.L _ _ ((cj q).symm.trans e))
 have hms0:(σ.ct c (iV ms)).L c=some (iV ms):=bc _ _ _
 refine oo (fun t ρ' σ'=>PF ρ' way fl pl∧∃ F Ps,PS (σ.ct c (iV ms)) σ' fl pl t t F Ps) ?_ ?_ ⟨H,[],[],⟨E0,(cj hcf).trans hf2,(cj hcp).trans hp2,fun p hp=>(by cases hp),ah _,ah _,fun i hi=>absurd hi (kg _)⟩⟩
 ·rintro t v ρ' σ' hv ⟨H',F,Ps,S⟩
  rw [bw] at hv
  obtain⟨x,hx,rfl⟩:=omap hv
  have ht:=(ay.mp hx).1
  exact⟨S.ext.L _ _ hms0,fun kk hk=>qI nf0 np0 ne (by exact dq (.l .A (.n 100)) .b .cL .B hms ht) H' S fun ρ3 σ3 F' Ps' H3 S3=>hk _ _ ⟨H3,F',Ps',S3⟩⟩
 rintro ρ' σ' ⟨H',F,Ps,S⟩
 refine⟨S.ext.L _ _ hms0,?_⟩
 rw [az] at S
 have sl:=S.len
 have st:=nF (Ps.map (·.2)).length rfl fun p hp=>by
  obtain⟨q,hq,rfl⟩:=ee.mp hp
  exact(S.each q hq).s
 rw [az] at st
 show eg (gu P 6) (.cons (.assign [.var 9] _) _) ρ' σ' _
 rw [ll]
 refine vF H'.r3 S (by exact kc (.k .A .aH) [[1,12,12,1]] .cL .N .c2 hms sl st.2) fun gl hgl=>?_
 have hfg:gl≠fl:=fun q=>by rw [q,S.f] at hgl;cases hgl
 have sfn:=S.fn
 refine yL (F:=F) (G:=(Ps.map fun p:AL=>p.2).flatten) H'.r2 rfl ((cj (pn hfg)).trans S.f) (bc _ _ _) ⟨by exact dq .a6 [[1,12,1]] .cL (.k .A (.m 12 .B)) hms sfn,fun i hi=>jd (S.ft i hi) hms⟩ ⟨by exact kc .a6 [[1,12,12,1]] .cL .N .c2 hms sl st.2,fun i hi=>jd (st.1 i hi) (by exact dq (.k .A (.n 62)) .b .cL .A hms sl)⟩ hfg
end R6
end MP
end
section
open PySem PySem.W PyProof.Rows
namespace Mine
theorem IY:rw6.Holds:=J0 fun ns h=>MP.R6.IV ns h st0
end Mine
end
theorem PySem.Challenge.cw_dm0056_06_holds : PySem.Challenge.rw_dm0056_06.Holds :=
 Mine.IY
