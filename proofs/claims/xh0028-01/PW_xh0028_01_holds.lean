import PyProof.Rows.All
import Wide.All
import OpenK.AllK
import Wide.FinOn
import Flt.RightMore
import Flt.Pure
import Lean
import PySem.Challenge.RW_xh0028_01
open PySem PySem.W PyProof.Rows
set_option Elab.async false
set_option maxRecDepth 100000
set_option maxHeartbeats 8000000
set_option linter.all false
set_option tactic.hygienic false
set_option genInjectivity false
set_option genSizeOf false
noncomputable section
namespace Internal
def aJ:=@Nat.le_trans
def bH:=@List.mem_cons_self
def bt:=@List.length_map
def b3:=@List.mem_cons_of_mem
def aR:=@wpAny_bind
def a7:=@Nat.le_refl
def ar:=@if_neg
def au:=@if_pos
def bN:=@List.map_cons
def dn:=@Heap.get?_push_of_some
def bV:=@List.mem_map
def c7:=@Nat.lt_of_lt_of_le
def cU:=@of_decide_eq_true
def cA:=@decide_eq_true
def cn:=@List.mem_cons
def c8:=@Nat.le_add_right
def fi:=@List.getElem?_eq_getElem
def bp:=@congrArg
def e5:=@Nat.le_of_ble_eq_true
def dG:=@List.length_cons
def b7:=@wpAny_pure
def b8:=@wpAny_mono
def eW:=@Heap.get?_push_size
def cP:=@List.map_map
def eL:=@List.length_append
def e6:=@Nat.lt_of_le_of_lt
def er:=@List.all_eq_true
def fj:=@List.mem_singleton
def hJ:=@List.getD_eq_getElem?_getD
def gD:=@List.length_filter_le
def c9:=@Nat.le_succ
def ek:=@List.mem_range
def dy:=@Nat.le_of_lt
def dz:=@Heap.lt_size
def fP:=@List.lookup_cons
def gU:=@beq_eq_false_iff_ne
def fk:=@List.mem_append
def gp:=@List.size_toArray
def gq:=@List.isEmpty_iff
def iG:=@List.contains_iff_mem
def gr:=@List.mem_filter
def gE:=@decide_eq_false
def eM:=@Nat.zero_le
def f6:=@List.sum_cons
def hq:=@beq_self_eq_true
def hZ:=@List.length_range
def fQ:=@Nat.ne_of_lt
def j0:=@Bool.and_eq_true_iff
def j1:=@Nat.mul_le_mul_left
def i5:=@Nat.le_of_lt_succ
def iH:=@Nat.lt_succ_self
def e7:=@Nat.not_lt
def h1:=@wpAny_with_toks
def h2:=@List.nodup_cons
def j2:=@Nat.lt_of_lt_of_eq
def hK:=@Heap.size_push
def gV:=@Nat.le_of_eq
def j3:=@Nat.lt_succ_of_lt
def i6:=@List.foldl_cons
def hr:=@Nat.zero_add
def lu:=@Nat.add_right_comm
def hL:=@Int.ofNat_lt
def gu:=@Int.not_lt
def m4:=@Nat.add_le_add_right
def lx:=@Bool.not_eq_true'
def n':=@Nat.eq_of_beq_eq_true
def h3:=@Int.le_of_lt
def h4:=@Int.add_zero
def pv:=@List.length_eq_zero_iff
def m5:=@List.map_congr_left
def m6:=@Bool.or_eq_true_iff
def kD:=@List.map_append
def oa:=@Nat.le_sub_one_of_lt
def ml:=@List.append_assoc
def iI:=@Int.add_comm
def m7:=@Int.natCast_nonneg
def i7:=@Nat.ne_of_gt
def ly:=@List.nil_append
def sb:=@Nat.mod_two_eq_zero_or_one
def mm:=@List.filter_cons
def m8:=@List.getElem?_map
def m9:=@List.flatten_cons
def m_:=@List.flatMap_cons
def j4:=@Int.add_assoc
def gd:=@wpS_bind
def mn:=@Nat.le_antisymm
def mq:=@List.length_zip
def kE:=@Value.ref.inj
def pw:=@List.mem_map_of_mem
def h5:=@beq_iff_eq
def qM:=@List.getElem?_eq_none
def t2:=@Int.fmod_eq_emod_of_nonneg
def px:=@Bool.false_eq_true
def m':=@Nat.min_eq_left
def lz:=@Nat.lt_irrefl
def nc:=@Nat.le_add_left
def nd:=@List.append_nil
def ob:=@wpAny_items_cons
def oc:=@List.not_mem_nil
def kF:=@Int.le_trans
def qE:=@Heap.SameBut.update
def n4:=@Nat.min_le_left
def qF:=@List.pairwise_cons
def kC:=@Prod.mk.inj
def rZ:=@Nat.sub_one_lt_of_lt
def r0:=@Nat.mul_le_mul_right
def pl:=@Bool.and_eq_true
def me:=@Nat.lt_trans
def qG:=@Nat.lt_succ_of_le
def mf:=@Nat.add_comm
def tM:=@List.take_of_length_le
def mg:=@Int.zero_add
def qH:=@Int.toNat_natCast
def r1:=@Nat.add_le_add_left
def r2:=@List.map_eq_map_iff
def vR:=@Option.isNone_iff_eq_none
def gT:=@Ne.symm
def qI:=@List.any_eq_true
def r3:=@Calls.spliced_cons
def n5:=@wpAny_holding
def m2:=@Nat.succ.inj
def n6:=@List.cons.inj
def iE:=@wpS_pure
def mh:=@wpAny_field
def mi:=@Nat.mul_pos
def pn:=@List.nodup_nil
def r4:=@List.nodup_append
def r5:=@List.count_append
def qJ:=@Nat.not_lt_zero
def tN:=@Int.toNat_of_nonneg
def n7:=@Int.ofNat_le
def r6:=@wpAny_Call_NameR
def tO:=@Nat.lt_or_eq_of_le
def tP:=@Nat.lt_of_le_of_ne
def y0:=@Int.fdiv_eq_ediv_of_nonneg
def tQ:=@Int.add_right_comm
def r7:=@wpAny_items_nil
def r8:=@List.count_cons
def pq:=@Nat.min_self
def n8:=@Nat.add_mod
def tR:=@Calls.spliced_nil
def m3:=@Nat.sub_le
def qK:=@Nat.add_assoc
def vS:=@eq_false_of_ne_true
def vT:=@Array.length_toList
def y1:=@wpAny_callSpecial?_slot
def tS:=@Nat.succ_le_succ
def tT:=@Nat.min_eq_right
def r9:=@Nat.add_le_add
def y2:=@List.filter_cons_of_pos
def y3:=@List.filter_cons_of_neg
def ps:=@sizeLine_eq
def n9:=@Nat.not_le
def y4:=@Nat.lt_of_succ_lt_succ
def y5:=@List.length_singleton
def y6:=@List.getElem?_toArray
def vU:=@decide_eq_true_eq
def vV:=@Nat.sub_pos_of_lt
def vW:=@Nat.lt_of_succ_lt
def tU:=@wpAny_seqItems
def Cm:=@List.perm_ext_iff_of_nodup
def tV:=@List.forIn_nil
def tW:=@Int.add_le_add
def Cn:=@F.slot_tuple_iterator_next
def r_:=@Nat.succ_pos
def vX:=@Nat.max_eq_right
def vY:=@List.mem_flatMap
def vZ:=@List.getElem_mem
def Co:=@List.getLastD_eq_getLast?
def y7:=@List.length_take_le
def y8:=@List.getElem_of_mem
def y9:=@List.flatMap_append
def y_:=@List.filter_eq_self
def tX:=@Nat.mul_assoc
def v3:=@get?_update_seq
def v5:=@List.of_mem_zip
def v7:=@List.length_set
def v8:=@List.length_nil
def v9:=@List.forIn_cons
def y':=@wpAny_setField_rec
def qL:=@wpAny_rule
def za:=@List.count_eq_zero
def zb:=@Int.sub_eq_add_neg
def zc:=@Int.lt_of_le_of_lt
def zd:=@Bool.false_ne_true
def Cp:=@PySem.F.plainAttrs_list
def Cq:=@PySem.F.plainAttrs_dict
def n_:=@if_false
def tY:=@getElem?_pos
def Cr:=@PySem.F.slot_str_split
def mj:=@Or.elim
def ze:=@Nat.zero_lt_of_lt
def zf:=@Nat.le_of_succ_le
def zg:=@Nat.add_pos_right
def Cs:=@List.range_succ_eq_map
def zh:=@Int.add_left_comm
def Ct:=@Nat.sub_eq_zero_of_le
def Cu:=@List.mem_append_right
def Cv:=@Array.getElem?_toList
def zi:=@wpAny_call_entry
def r':=@intKind_is
def zj:=@decide_eq_decide
def H6:=@PyProof.Rows.callWith_builtin1
def zk:=@Nat.succ_lt_succ
def zl:=@List.length_drop
def v_:=@wpAny_standAt
def v':=@Int.ofNat_inj
def Cw:=@Nat.sub_le_sub_right
def Cx:=@List.mem_append_left
def Cy:=@Int.natAbs_of_nonneg
def Cz:=@Calls.evalArgs_plain
def zm:=@pushCells_keeps
def CA:=@PySem.callWith_type
def CB:=@Nat.add_lt_add_left
def CC:=@List.filterMap_cons
def CD:=@List.append_toArray
def CE:=@Int.natCast_eq_zero
def wa:=@wpS_forRange
def wb:=@Int.lt_trans
def CF:=@wpAny_pyIter_tuple
def tZ:=@typeIs_str
def CG:=@Nat.sub_add_cancel
def CH:=@Int.lt_or_eq_of_le
def zo:=@Int.add_nonneg
def H7:=@List.getElem?_eq_some_iff
def H8:=@Decidable.byContradiction
def CI:=@wpAny_newObj_type
def CJ:=@wpAny_assign_Name
def wc:=@Nat.one_mul
def CK:=@Nat.lt_trichotomy
def wd:=@Nat.le_zero
def CL:=@List.pairwise_map
def H9:=@wpAny_comprehension_free
def H_:=@PySem.F.args_str_split_2
def zp:=@List.take_nil
def H':=@List.length_filterMap_le
def Ia:=@wpAny_list_append_plain
def sa:=@or_false
def Ib:=@decide_eq_false_iff_not
def Ic:=@PySem.F.entry_str_split
def CM:=@Nat.sub_sub_self
def CN:=@Nat.min_le_right
def Ie:=@Nat.add_sub_cancel_left
def CO:=@Nat.add_pos_left
def CP:=@List.map_fst_zip
def CQ:=@List.getElem_map
def CR:=@List.cons_append
def CS:=@Int.min_eq_right
def CT:=@Int.max_eq_right
def Ig:=@List.length_pos_of_mem
def Ih:=@List.find?_cons_of_pos
def Ii:=@List.find?_cons_of_neg
def Ij:=@List.filter_eq_nil_iff
def zq:=@Int.ne_of_gt
def zr:=@Int.le_of_eq
def CU:=@Int.min_eq_left
def CV:=@F.slot_zip_next
def Ik:=@Nat.le_of_sub_eq_zero
def Il:=@Nat.sub_lt_sub_right
def Im:=@Nat.le_sub_of_add_le
def zt:=@Nat.add_mul
def Io:=@List.mem_of_mem_take
def Ip:=@List.mem_of_mem_drop
def Iq:=@List.drop_eq_nil_iff
def CW:=@Int.natAbs_mul
def Ir:=@Int.add_le_add_right
def It:=@Array.toArray_toList
def Iu:=@Array.getElem?_range
def PY:=@List.exists_cons_of_length_eq_add_one
def Iv:=@ne_true_of_eq_false
def Iw:=@Nat.sub_le_sub_left
def Iy:=@Nat.add_sub_cancel'
def Iz:=@List.getElem?_range
def CX:=@listUpdate_at
def CY:=@Int.ofNat_sub
def CZ:=@Int.lt_irrefl
def C0:=@Int.le_natAbs
def C1:=@Bool.or_false
def IA:=@wpAny_Constant_str
def zu:=@call_meets
def zv:=@Nat.ble_eq
def IB:=@List.filter_append
def IC:=@List.filterMap_map
def ID:=@List.count_pos_iff
def zw:=@Int.not_le
def IE:=@Int.lt_of_lt_of_le
@[elab_as_elim]theorem rwt{α:Sort _}{a b:α}{P:α->Prop}(h:a=b)(t:P b):P a:=h▸t
@[elab_as_elim]theorem rwf{α:Sort _}{a b:α}{P:α->Prop}(h:b=a)(t:P b):P a:=h▸t
end Internal
local macro_rules
|`(tactic|rw[$rs,*])=>do
 let ba<-rs.getElems.mapM λr=>match r with
  |`(Lean.Parser.Tactic.rwRule| ←$e)=>`(tactic|first|refine Internal.rwf $e ?_|rewrite[←$e])
  |`(Lean.Parser.Tactic.rwRule|$e:term)=>`(tactic|first|refine Internal.rwt $e ?_|rewrite[$e:term])
  |_=>Lean.Macro.throwUnsupported
 `(tactic|($[$ba]*;try with_reducible rfl))
local macro_rules
|`(.k)=>`((by kernel_rfl))
|`(.d)=>`((by decide))
|`(.l)=>`((by lia))
|`(.j)=>`((by subst_vars;kernel_rfl))
abbrev el:=Shared->Prop
abbrev cg:=Value->el
namespace Internal
theorem ae{α:Type _}{a b:α}(h:some a=some b):a=b:=Option.some.inj h
theorem ν{P:z->Prop}{G:Prop}(h:∃x0,P x0)(k:∀x0,P x0->G):G:=match h with|⟨x0,h⟩=>k x0 h
theorem ai{P:y->fR->Prop}{G:Prop}(h:∃x0 z,P x0 z)(k:∀x0 z,P x0 z->G):G:=match h with|⟨x0,z,h⟩=>k x0 z h
theorem cN{P:j->fR->zy->Prop}{G:Prop}(h:∃x0 z y,P x0 z y)(k:∀x0 z y,P x0 z y->G):G:=match h with|⟨x0,z,y,h⟩=>k x0 z y h
theorem bL{z hM G:Prop}(h:z/\hM)(k:z->hM->G):G:=k h.1 h.2
theorem cu{z hM mu G:Prop}(h:z/\hM/\mu)(k:z->hM->mu->G):G:=k h.1 h.2.1 h.2.2
theorem b2{z hM mu dP G:Prop}(h:z/\hM/\mu/\dP)(k:z->hM->mu->dP->G):G:=k h.1 h.2.1 h.2.2.1 h.2.2.2
theorem Jw{y hM mu dP z d8 G:Prop}(h:y/\hM/\mu/\dP/\z/\d8)(k:y->hM->mu->dP->z->d8->G):G:=k h.1 h.2.1 h.2.2.1 h.2.2.2.1 h.2.2.2.2.1 h.2.2.2.2.2
theorem cps{P:Prop}(h:∀Q:Prop,(P->Q)->Q):P:=h P id
theorem aQ{P:Prop}(h:(none:Option α)=some a):P:=nomatch h
theorem jq{a:α}{P:Prop}(h:some a=(none:Option α)):P:=nomatch h
theorem dk{P:Prop}(h:true=false):P:=nomatch h
theorem qan{a c:α}(h:some (a,b)=some (c,d)):a=c/\b=d:=by cases h;exact⟨rfl,rfl⟩
theorem jo{P:Prop}(h:false=true):P:=nomatch h
inductive D where
 |none
 |bool (b:Bool)
 |int (i:Int)
 |υ (x:UInt64)
 |str (s:Str)
 |tup (l:List D)
 |lst (l:List D)
 |aX (l:List (Int×D))
 deriving Inhabited
structure aE where
 prog:Program
 w:World
 fU:Heap
 c0:Str->Option Value
 bM:Str->Option Value
 T:List (Addr×Addr)
noncomputable def aE.bo(C:aE):List Addr:=C.T.map (·.2)
noncomputable abbrev aE.M(C:aE):Model:=model C.prog C.w
noncomputable abbrev aE.dR(C:aE):KeyKind C.prog C.w Int:=intKind C.prog C.w
def pD(h:Heap)(a:Addr)(items:Array Value):Prop:=∃n,IsT h a items n
theorem pD.lX(x:pD h a items):h.IsTuple a items:=let ⟨n,e⟩:=x;⟨_,e,rfl,n,rfl⟩
noncomputable abbrev bc:=Tok->Option UInt64
mutual
noncomputable def Den(C:aE)(F:bc)(h:Heap)(B:Addr->Prop):D->Value->Prop
 |.none,v=>v=.none
 |.bool b,v=>v=.bool b
 |.int i,v=>∃t,v=.int i t
 |.υ x,v=>∃t,v=.float x t/\F t=some x
 |.str x,v=>∃t,v=.str x t
 |.tup ds,v=>∃a vs,v=.ref a/\¬B a/\pD h a (List.toArray vs)/\bA C F h B ds vs
 |.lst ds,v=>∃a vs,v=.ref a/\¬B a/\h.PlainList a (List.toArray vs)/\bA C F h B ds vs
 |.aX ds,v=>∃a us,v=.ref a/\¬B a/\(a==sysModules)=false/\h.DictOf C.dR a us/\cL C F h B ds us
noncomputable def bA(C:aE)(F:bc)(h:Heap)(B:Addr->Prop):List D->List Value->Prop
 |[],vs=>vs=[]
 |d::ds,vs=>∃v r,vs=v::r/\Den C F h B d v/\bA C F h B ds r
noncomputable def cL(C:aE)(F:bc)(h:Heap)(B:Addr->Prop):List (Int×D)->List (Int×Value)->Prop
 |[],us=>us=[]
 |(k,d)::ds,us=>∃v r,us=(k,v)::r/\Den C F h B d v/\cL C F h B ds r
end
section
variable{C:aE}{F F':bc}{h h':Heap}{B B':Addr->Prop}
theorem Yv(H:pD h a x)(k:∀o,h.get? a=some o->h'.get? a=some o):pD h' a x:=
 let ⟨n,e⟩:=H;⟨n,k _ e⟩
theorem tf(H:h.DictOf C.dR a x)(k:∀o,h.get? a=some o->h'.get? a=some o):h'.DictOf C.dR a x:=
 let ⟨o,es,ep,e,r⟩:=H;⟨o,es,ep,k _ e,r⟩
structure dt(F:bc)(h:Heap)(B:Addr->Prop)(F':bc)(h':Heap)(B':Addr->Prop):Prop where
 θ:∀t x,F t=some x->F' t=some x
 keep:∀b o,¬B b->h.get? b=some o->h'.get? b=some o
 bad:∀b o,¬B b->h.get? b=some o->¬B' b
theorem Den.grow(G:dt F h B F' h' B'){d}:∀{v},Den C F h B d v->Den C F' h' B' d v:=
 D.rec (motive_1:=λd=>∀{v},Den C F h B d v->Den C F' h' B' d v) (motive_2:=λds=>∀{vs},bA C F h B ds vs->bA C F' h' B' ds vs)
  (motive_3:=λds=>∀{us},cL C F h B ds us->cL C F' h' B' ds us) (motive_4:=λp=>∀{v},Den C F h B p.2 v->Den C F' h' B' p.2 v)
  id (λ_=>id) (λ_=>id) (λ_ {_} H=>ν H λt q=>⟨t,q.1,G.θ _ _ q.2⟩) (λ_=>id)
  (λ_ y {_} H=>ai H λa vs q=>b2 q λe z ω ζ=>ν ω λn j=>⟨a,vs,e,G.bad _ _ z j,Yv ω λbf aB=>G.keep _ _ z aB,y ζ⟩)
  (λ_ y {_} H=>ai H λa vs q=>b2 q λe z ω ζ=>ν ω λn j=>⟨a,vs,e,G.bad _ _ z j,ω.at λbf aB=>G.keep _ _ z aB,y ζ⟩)
  (λ_ y {_} H=>ai H λa vs q=>b2 q λe z hs q=>bL q λω ζ=>cN ω λo es ep q=>⟨a,vs,e,G.bad _ _ z q.1,hs,tf ω λbf aB=>G.keep _ _ z aB,y ζ⟩)
  id (λ_ _ b_ b5 {_} H=>ai H λv r q=>⟨v,r,q.1,b_ q.2.1,b5 q.2.2⟩) id (λ_ _ b_ b5 {_} H=>ai H λv r q=>⟨v,r,q.1,b_ q.2.1,b5 q.2.2⟩) (λ_ _ y=>y) d
theorem bA.grow(G:dt F h B F' h' B'){ds}:∀{vs},bA C F h B ds vs->bA C F' h' B' ds vs:=by
 induction ds with
 |nil=>exact id
 |cons d ds z=>exact λH=>ai H λv r q=>⟨v,r,q.1,q.2.1.grow G,z q.2.2⟩
theorem cL.grow(G:dt F h B F' h' B'){ds}:∀{us},cL C F h B ds us->cL C F' h' B' ds us:=by
 induction ds with
 |nil=>exact id
 |cons d ds z=>exact λH=>ai H λv r q=>⟨v,r,q.1,q.2.1.grow G,z q.2.2⟩
theorem bA.length:∀{ds} {vs},bA C F h B ds vs->vs.length=ds.length:=by
 intro y
 induction y with
 |nil=>
  intro γ H;rw[H];rfl
 |cons d ds z=>
  intro γ j;obtain⟨v,r,e,_,ζ⟩:=j;rw[e,dG,dG,z ζ]
theorem cL.length:∀{ds} {us},cL C F h B ds us->us.length=ds.length:=by
 intro y
 induction y with
 |nil=>
  intro γ H;rw[H];rfl
 |cons j ds z=>
  obtain⟨k,d⟩:=j;intro γ q;obtain⟨v,r,e,_,ζ⟩:=q;rw[e,dG,dG,z ζ]
theorem bA.get{ds}:∀{vs} {i:Nat} {d},bA C F h B ds vs->ds[i]? =some d->∃v,vs[i]? =some v/\Den C F h B d v:=by
 induction ds with
 |nil=>exact λ_ ρ=>aQ ρ
 |cons d ds z=>
  intro vs i d' H ρ;refine ai H λv r q=>?_;rw[q.1];cases i with
  |zero=>exact⟨v,rfl,ae ρ▸q.2.1⟩
  |succ i=>exact z (vs:=r) (i:=i) q.2.2 ρ
theorem bA.get'{ds}:∀{vs} {i:Nat} {v},bA C F h B ds vs->vs[i]? =some v->∃d,ds[i]? =some d/\Den C F h B d v:=by
 induction ds with
 |nil=>exact λH ρ=>aQ ((bp (·[_]?) H).symm.trans ρ)
 |cons d ds z=>
  intro vs i y H ρ;refine ai H λv r q=>?_;rw[q.1] at ρ;cases i with
  |zero=>exact⟨d,rfl,ae ρ▸q.2.1⟩
  |succ i=>exact z (vs:=r) (i:=i) q.2.2 ρ
theorem bA.append:∀{ds es} {vs us},bA C F h B ds vs->bA C F h B es us->bA C F h B (ds++es) (vs++us):=by
 intro y
 induction y with
 |nil=>
  intro γ γ γ H K;rw[H];exact K
 |cons d ds z=>
  intro γ γ γ j K;obtain⟨v,r,e,hd,ζ⟩:=j;exact⟨v,r++_,by rw[e];rfl,hd,z ζ K⟩
theorem bA.take{ds}:∀{vs} n,bA C F h B ds vs->bA C F h B (ds.take n) (vs.take n):=by
 induction ds with
 |nil=>exact λn H=>by rw[show _=[] from H,zp,zp];rfl
 |cons d ds z=>
  intro vs n H;refine ai H λv r q=>?_;rw[q.1];cases n with
  |zero=>rfl
  |succ n=>exact⟨v,_,rfl,q.2.1,z n q.2.2⟩
theorem bA.drop{ds}:∀{vs} n,bA C F h B ds vs->bA C F h B (ds.drop n) (vs.drop n):=by
 induction ds with
 |nil=>exact λn H=>by rw[show _=[] from H,List.drop_nil,List.drop_nil];rfl
 |cons d ds z=>
  intro vs n H;refine ai H λv r q=>?_;rw[q.1];cases n with
  |zero=>exact⟨v,_,rfl,q.2⟩
  |succ n=>exact z n q.2.2
theorem bA.set{ds}:∀{vs} {d} {v} n,bA C F h B ds vs->Den C F h B d v->bA C F h B (ds.set n d) (vs.set n v):=by
 induction ds with
 |nil=>exact λn H K=>by rw[show _=[] from H];rfl
 |cons d ds z=>
  intro vs d' y n H K;refine ai H λv r q=>?_;rw[q.1];cases n with
  |zero=>exact⟨_,_,rfl,K,q.2.2⟩
  |succ n=>exact⟨_,_,rfl,q.2.1,z n q.2.2 K⟩
theorem cL.lookup:∀{ds:List (Int×D)} {us:List (Int×Value)} (k:Int),cL C F h B ds us->
 (match ds.lookup k with|none=>valueAt us k=none|some d=>∃v,valueAt us k=some v/\Den C F h B d v):=by
 intro j
 induction j with
 |nil=>
  intro γ k H;rw[H];rfl
 |cons p ds y=>
  obtain⟨k',d⟩:=p;intro γ k f;obtain⟨v,r,e,hd,ζ⟩:=f;rw[e,fP];cases z:k==k' with
  |true=>
   refine⟨v,?_,hd⟩;unfold valueAt;rw[Ih (by rw[eq_of_beq z];simp)];rfl
  |false=>
   have u:k'≠k:=λq=>by rw[q] at z;simp at z
   have g:valueAt ((k',v)::r) k=valueAt r k:=by
    unfold valueAt;rw[Ii (by simpa using u)]
   rw[g];exact y k ζ
end
def d1(o:Obj):Prop:=¬(o.cls=.type "code" /\∃vs,o.data=.fields vs)
theorem d1.vk(h:∀vs,o.data≠ .fields vs):d1 o:=λ⟨_,vs,e⟩=>h vs e
theorem d1.jr(h:o.cls=.type nm)(z:nm≠"code"):d1 o:=λ⟨e,_⟩=>z (by rw[h] at e;exact Value.type.inj e)
def oh(h:Heap)(v:Value):Prop:=∃c o,v=.ref c/\h.get? c=some o/\o.cls=.type "code" /\∃vs x,o.data=.fields vs/\vs[1]? =some x
def C7(C:aE)(h:Heap):Prop:=∀q∈C.T,∀ao,h.TableAt q.1 q.2 ao->∀pos v,codeAmong pos ao.toList=some v->oh h v
structure aE.Ok(C:aE)(F:bc)(s:Shared):Prop where
 base:∀b o,b∉C.bo->C.fU.get? b=some o->s.heap.get? b=some o
 tabs:∀q∈C.T,∃ao,s.heap.IsCode q.1 q.2 ao/\s.heap.TableAt q.1 q.2 ao
 old:OldK C.fU s.heap
 gens:AllBare s.gens
 pos:0<s.toks
 θ:∀t x,F t=some x->0<t/\t<s.toks
 lam:C7 C s.heap
theorem aE.Ok.u3(H:C.Ok F s)(ω:∀q∈C.T,∀ao,s.heap.TableAt q.1 q.2 ao->h'.TableAt q.1 q.2 ao)(κ:∀b o,s.heap.get? b=some o->¬d1 o->h'.get? b=some o):C7 C h':=by
 intro q z g f pos v hf;obtain⟨ao,_,t⟩:=H.tabs q z;have bP:=ω q z ao t;have e:g=ao:=by
  have:=f.2.symm.trans bP.2;cases this;rfl
 subst e;obtain⟨c,o,ag,u,y,vs,x,j,p⟩:=H.lam q z g t pos v hf;exact⟨c,o,ag,κ c o u (λn=>n ⟨y,vs,j⟩),y,vs,x,j,p⟩
structure aE.Good(C:aE):Prop where
 tabs:∀q∈C.T,∃ao,C.fU.TableAt q.1 q.2 ao
 g:C.fU.Ns mainGlobals C.c0
 b:C.fU.Ns builtinsNs C.bM
 lim:C.fU.NoLimit
 yq:∃nQ,C.fU.Ns cStatics nQ/\nQ sharingNotToldKey=none
 sys:(sysModules<C.fU.objs.size)
structure aE.Step(C:aE)(F:bc)(s:Shared)(F':bc)(s':Shared):Prop where
 ok:C.Ok F' s'
 keep:∀b o,b∉C.bo->s.heap.get? b=some o->s'.heap.get? b=some o
 os:s'.os=s.os
 θ:∀t x,F t=some x->F' t=some x
 toks:s.toks<=s'.toks
section
variable{C:aE}{F F' fS:bc}{s s' cO:Shared}
theorem aE.Good.kn(G:C.Good){b:Addr}(e:C.fU.get? b=some o)(hd:∀ao,o.data≠ .fields ao):b∉C.bo:=by
 intro y;obtain⟨q,z,rfl⟩:=bV.mp y;obtain⟨ao,_,h⟩:=G.tabs q z;rw[e] at h;cases h;exact hd ao rfl
theorem aE.Good.NQ(G:C.Good){b:Addr}(z:C.fU.Ns b m):b∉C.bo:=by
 obtain⟨o,es,ep,e,hd,_⟩:=z;exact G.kn e λao=>by rw[hd];nofun
theorem aE.Ok.ns(H:C.Ok F s)(G:C.Good)(z:C.fU.Ns b m):s.heap.Ns b m:=
 z.at' λo e=>H.base b o (G.NQ z) e
theorem aE.Ok.lim(H:C.Ok F s)(G:C.Good):s.heap.NoLimit:=by
 obtain⟨nQ,z,e⟩:=G.lim;exact⟨nQ,H.ns G z,e⟩
theorem aE.Ok.yq(H:C.Ok F s)(G:C.Good):∃nQ,s.heap.Ns cStatics nQ/\nQ sharingNotToldKey=none:=by
 obtain⟨nQ,z,e⟩:=G.yq;exact⟨nQ,H.ns G z,e⟩
theorem aE.Ok.step(H:C.Ok F s)(z:∀b o,s.heap.get? b=some o->s'.heap.get? b=some o)(y:s'.gens=s.gens)(ω:s.toks<=s'.toks):C.Ok F s':=
 ⟨λb o g e=>z _ _ (H.base b o g e),λq j=>let ⟨ao,a,b⟩:=H.tabs q j;⟨ao,a.keeps z,b.keeps z⟩,H.old.step_keeps z,by rw[y];exact H.gens,
   c7 H.pos ω,λt x e=>⟨(H.θ t x e).1,c7 (H.θ t x e).2 ω⟩,
   H.u3 (λq γ ao t=>t.keeps z) λb o e γ=>z b o e⟩
theorem aE.Step.refl(H:C.Ok F s):C.Step F s F s:=⟨H,λγ γ γ e=>e,rfl,λγ γ e=>e,a7 _⟩
theorem aE.Step.trans(X:C.Step F s F' s')(Y:C.Step F' s' fS cO):C.Step F s fS cO:=
 ⟨Y.ok,λb o z e=>Y.keep b o z (X.keep b o z e),Y.os.trans X.os,λt x e=>Y.θ t x (X.θ t x e),aJ X.toks Y.toks⟩
theorem aE.Step.of(H:C.Ok F s)(z:∀b o,s.heap.get? b=some o->s'.heap.get? b=some o)(j:s'.gens=s.gens)(y:s'.os=s.os)(ω:s.toks<=s'.toks):C.Step F s F s':=
 ⟨H.step z j ω,λb o γ e=>z b o e,y,λγ γ e=>e,ω⟩
theorem aE.Step.tok(H:C.Ok F s)(z:s.toks<=n):C.Step F s F {s with toks:=n}:=.of H (λγ γ e=>e) rfl rfl z
theorem aE.Step.heap(H:C.Ok F s)(z:s.toks<=n)(y:∀b o,s.heap.get? b=some o->h'.get? b=some o):C.Step F s F {s with heap:=h',toks:=n}:=.of H y rfl rfl z
noncomputable def mark(F:bc)(n:Tok)(x:UInt64):bc:=λt=>if t=n then some x else F t
theorem aE.Step.υ(H:C.Ok F s) x (z:s.toks<n):C.Step F s (mark F s.toks x) {s with toks:=n}:=by
 have X:=aE.Step.tok H (dy z);refine⟨⟨X.ok.base,X.ok.tabs,X.ok.old,X.ok.gens,X.ok.pos,λt y e=>?_,X.ok.lam⟩,X.keep,X.os,λt y e=>?_,X.toks⟩
 ·unfold mark at e;split at e
  ·rename_i ω;subst ω;exact⟨H.pos,z⟩
  ·exact X.ok.θ t y e
 ·unfold mark;rw[ar (λq=>by have:=(H.θ t y e).2;rw[q] at this;exact lz _ this)];exact e
theorem Y3 F n x:mark F n x n=some x:=au rfl
structure aE.dZ(C:aE)(B:Addr->Prop)(s:Shared):Prop where
 bo:∀b∈C.bo,B b
 some:∀b,B b->∃o,s.heap.get? b=some o
 new:∀b,B b->b∉C.bo->C.fU.get? b=none
theorem aE.dZ.step(H:C.dZ B s)(X:C.Step F s F' s'):C.dZ B s':=by
 refine⟨H.bo,λb j=>?_,H.new⟩
 by_cases ω:b∈C.bo
 ·obtain⟨q,y,rfl⟩:=bV.mp ω;obtain⟨ao,_,_,h⟩:=X.ok.tabs q y;exact⟨_,h⟩
 ·obtain⟨o,z⟩:=H.some b j;exact⟨o,X.keep b o ω z⟩
theorem aE.dZ.fresh(H:C.dZ B s)(y:s.heap.objs.size<=a):¬B a:=λj=>by
 obtain⟨o,z⟩:=H.some a j;exact absurd (dz z) (e7.mpr y)
theorem aE.Step.grow(X:C.Step F s F' s')(H:C.dZ B s):dt F s.heap B F' s'.heap B:=
 ⟨X.θ,λb o z e=>X.keep b o (λω=>z (H.bo b ω)) e,λγ γ z γ=>z⟩
end
structure a_(A:Around)(k:Nat):Prop where
 handled:A.handled=none
 depth:A.depth+k<recursionLimit
 units:A.units+8*k+80<cLine
section
variable{A:Around}{k k':Nat}
theorem PJ u k c (h:c<=8):u+c+8*k+80<=u+8*(k+1)+80:=by rw[Nat.mul_succ,lu u c,<-qK];exact m4 (r1 h _) 80
theorem a_.mono(R:a_ A k)(h:k'<=k):a_ A k':=⟨R.handled,e6 (r1 h _) R.depth,e6 (m4 (r1 (j1 8 h) _) 80) R.units⟩
theorem a_.in1(R:a_ A (k+1)):a_ A.in1 k:=⟨R.handled,e6 (c9 _) R.depth,e6 (PJ A.units k 1 .d) R.units⟩
theorem a_.deeper(R:a_ A (k+1)) env:a_ (A.deeper env) k:=
 ⟨R.handled,by show A.depth+1+k<_;rw[lu];exact R.depth,by rw[Around.deeper_units];exact e6 (PJ A.units k 3 .d) R.units⟩
theorem a_.lt(R:a_ A k):A.depth<recursionLimit:=e6 (c8 _ k) R.depth
theorem a_.c(R:a_ A k):A.units+64<cLine:=e6 (r9 (c8 _ _) .d) R.units
theorem a_.fp(R:a_ A k):A.units<cLine:=e6 (aJ (c8 _ _) (c8 _ _)) R.units
end
abbrev jx(C:aE)(F:bc)(s:Shared){α:Type}(P:α->bc->el):α->el:=λv s'=>∃F',C.Step F s F' s'/\P v F' s'
abbrev Run(C:aE)(A:Around)(F:bc){α:Type}(t:Sem α)(P:α->bc->el)(s:Shared):Prop:=∀E,wpAny C.M A t (jx C F s P) E s
abbrev h6(C:aE)(B:Addr->Prop)(d:D):Value->bc->el:=λv F s=>Den C F s.heap B d v
def Gives(C:aE)(A:Around)(B:Addr->Prop)(F:bc)(t:Sem Value)(d:D)(s:Shared):Prop:=Run C A F t (h6 C B d) s
section
variable{C:aE}{A:Around}{F a0:bc}{s av:Shared}{α:Type}{t:Sem α}{P Q:α->bc->el}{K:α->el}{E:cg}
theorem Run.seq(h:Run C A F t P s)(k:∀v a0 av,C.Step F s a0 av->P v a0 av->K v av):wpAny C.M A t K E s:=
 b8 (h E) (λv av q=>ν q λa0 q=>k v a0 av q.1 q.2) λγ γ x=>x
theorem Run.post(h:Run C A a0 t P av)(X:C.Step F s a0 av)(k:∀v z aN,C.Step a0 av z aN->P v z aN->Q v z aN):wpAny C.M A t (jx C F s Q) E av:=
 Run.seq h λv z aN Y p=>⟨z,X.trans Y,k v z aN Y p⟩
theorem Run.on(h:Run C A a0 t P av)(X:C.Step F s a0 av):wpAny C.M A t (jx C F s P) E av:=
 Run.seq h λv z aN Y p=>⟨z,X.trans Y,p⟩
end
section
variable{a₀:Array Keyed}{prog:Program}{w:World}{A:Around}{E:cg}{s:Shared}{st:SortSt}{p:Array Nat}
noncomputable def Pi(p:Array Nat)(i:Nat):Nat:=(p[i]?).getD 0
def h9(a₀:Array Keyed)(x y:Nat):Prop:=K a₀ x<K a₀ y∨(K a₀ x=K a₀ y/\x<y)
theorem h9.trans(h:h9 a₀ x y)(h':h9 a₀ y z):h9 a₀ x z:=
 h.elim (λa=>h'.elim (λb=>.inl (wb a b)) λb=>.inl (b.1▸a)) λa=>h'.elim (λb=>.inl (a.1.symm▸b)) λb=>.inr ⟨a.1.trans b.1,me a.2 b.2⟩
theorem h9.NY(h:¬K a₀ y<K a₀ x)(z:x<y):h9 a₀ x y:=(CH (gu.mp h)).elim .inl λe=>.inr ⟨e,z⟩
theorem h9.le(h:h9 a₀ x y):K a₀ x<=K a₀ y:=h.elim h3 λq=>zr q.1
theorem ym(h:l<r):(l+r)/2<r:=Nat.div_lt_of_lt_mul (by rw[Nat.two_mul];exact Nat.add_lt_add_right h r)
theorem Gf(h:l<=r):l<=(l+r)/2:=(Nat.le_div_iff_mul_le .d).mpr (by rw[Nat.mul_two];exact r1 h l)
theorem Ze(h:r-l<=k-x)(q:l<r):(l+r)/2-l<=k-(x+1):=oa (c7 (Il (Gf (dy q)) (ym q)) h)
theorem mid_up(h:r-l<=k-x)(q:l<r):r-((l+r)/2+1)<=k-(x+1):=aJ (Iw (tS (Gf (dy q))) r) (Cw h 1)
theorem o6(ε:i<=k)(z:k<j):i+j-1-k<j:=
 e6 (Cw (Cw (m4 ε j) 1) k) (by rw[Nat.add_sub_assoc (ze z),Ie];exact rZ z)
theorem yn(z:k<j):i<=i+j-1-k:=Im (oa (CB z i))
theorem Gz(h:k<k')(z:k'<j):i+j-1-k'<i+j-1-k:=
 Nat.sub_lt_sub_left (c7 h (oa (c7 z (nc j i)))) h
structure SB(a₀:Array Keyed)(p:Array Nat)(st:SortSt):Prop where
 base:SBase a₀ st
 ao:p.Perm (Array.range a₀.size)
 idx:∀i,i<a₀.size->(arrOf st)[i]? =a₀[Pi p i]?
def Pre(a₀:Array Keyed)(p:Array Nat)(n:Nat):Prop:=(∀i,n<=i->i<a₀.size->Pi p i=i)/\(∀i,i<n->Pi p i<n)
def eX(a₀:Array Keyed)(p:Array Nat)(n:Nat):Prop:=∀i j,i<j->j<n->h9 a₀ (Pi p i) (Pi p j)
def oi(a₀:Array Keyed)(p:Array Nat)(n:Nat):Prop:=∀i j,i<j->j<n->h9 a₀ (Pi p j) (Pi p i)
theorem SB.size(H:SB a₀ p st):p.size=a₀.size:=by rw[H.ao.size_eq,Array.size_range]
theorem SB.k(H:SB a₀ p st)(ρ:i<a₀.size):K (arrOf st) i=K a₀ (Pi p i):=K_congr (H.idx i ρ)
theorem I9(z:j<=p.size) k:Pi (mirror p i j ((j-i)/2)) k=if i<=k/\k<j then Pi p (i+j-1-k) else Pi p k:=by
 unfold Pi;rw[getElem?_mirror_all z];split<;>rfl
theorem wA(hs:src<p.size)(hd:d<=src) k:Pi (bubble p src d) k=if k=src-d then Pi p src else if src-d<k/\k<=src then Pi p (k-1) else Pi p k:=by
 unfold Pi;rw[getElem?_bubble hs d hd];repeat' split
 all_goals rfl
theorem nk(z:j<=p.size)(ε:i<=k)(y:k<j):Pi (mirror p i j ((j-i)/2)) k=Pi p (i+j-1-k):=by rw[I9 z,au ⟨ε,y⟩]
theorem sf(z:j<=p.size)(h:¬(i<=k/\k<j)):Pi (mirror p i j ((j-i)/2)) k=Pi p k:=by rw[I9 z,ar h]
theorem SB.rev(H:SB a₀ p st){i j:Nat}(z:j<=a₀.size):SB a₀ (mirror p i j ((j-i)/2)) (setArr st (mirror (arrOf st) i j ((j-i)/2))) where
 base:=H.base.setArr (mirror_perm _ _ _ _)
 ao:=(mirror_perm _ _ _ _).trans H.ao
 idx:=λk y=>by
  show(mirror (arrOf st) i j ((j-i)/2))[k]? =_;rw[getElem?_mirror_all (H.base.size.symm▸z)]
  by_cases κ:i<=k/\k<j
  ·rw[au κ,nk (H.size.symm▸z) κ.1 κ.2];exact H.idx _ (c7 (o6 κ.1 κ.2) z)
  ·rw[ar κ,sf (H.size.symm▸z) κ];exact H.idx _ y
theorem SB.w7(H:SB a₀ p st){src d:Nat}(hs:src<a₀.size)(hd:d<=src):SB a₀ (bubble p src d) (setArr st (bubble (arrOf st) src d)) where
 base:=H.base.setArr (bubble_perm _ _ _)
 ao:=(bubble_perm _ _ _).trans H.ao
 idx:=λk y=>by
  show(bubble (arrOf st) src d)[k]? =_;rw[getElem?_bubble (H.base.size.symm▸hs) d hd,wA (H.size.symm▸hs) hd]
  by_cases ε:k=src-d
  ·rw[au ε,au ε];exact H.idx _ hs
  ·rw[ar ε,ar ε]
   by_cases z:src-d<k/\k<=src
   ·rw[au z,au z];exact H.idx _ (e6 (m3 k 1) y)
   ·rw[ar z,ar z];exact H.idx _ y
theorem Pre.rev(H:Pre a₀ p n)(z:j<=n)(hs:j<=p.size):Pre a₀ (mirror p i j ((j-i)/2)) n:=by
 refine⟨λk ε y=>?_,λk q=>?_⟩
 ·rw[sf hs λc=>e7.mpr (aJ z ε) c.2];exact H.1 k ε y
 ·by_cases κ:i<=k/\k<j
  ·rw[nk hs κ.1 κ.2];exact H.2 _ (c7 (o6 κ.1 κ.2) z)
  ·rw[sf hs κ];exact H.2 _ q
theorem DS(hs:k<p.size)(ζ:l<=k)(h:i<l):Pi (bubble p k (k-l)) i=Pi p i:=by
 rw[wA hs (m3 k l),CM ζ,ar (fQ h),ar λc=>Nat.lt_asymm h c.1]
theorem DR(hs:k<p.size)(ζ:l<=k):Pi (bubble p k (k-l)) l=Pi p k:=by
 rw[wA hs (m3 k l),CM ζ,au rfl]
theorem w8(hs:k<p.size)(ζ:l<=k)(h:l<i)(z:i<=k):Pi (bubble p k (k-l)) i=Pi p (i-1):=by
 rw[wA hs (m3 k l),CM ζ,ar (i7 h),au ⟨h,z⟩]
theorem Pre.w7(H:Pre a₀ p k)(y:k<a₀.size)(ζ:l<=k)(hs:k<p.size):Pre a₀ (bubble p k (k-l)) (k+1):=by
 refine⟨λi ε z=>?_,λi ρ=>?_⟩
 ·rw[wA hs (m3 k l),CM ζ,ar (i7 (e6 ζ ε)),ar λc=>n9.mpr ε c.2];exact H.1 i (dy ε) z
 ·refine(CK i l).elim (λh=>?_) λh=>h.elim (λh=>?_) λh=>?_
  ·rw[DS hs ζ h];exact j3 (H.2 i (c7 h ζ))
  ·rw[h,DR hs ζ,H.1 k (a7 _) y];exact iH k
  ·rw[w8 hs ζ h (i5 ρ)];exact j3 (H.2 _ (c7 (rZ h) (i5 ρ)))
theorem Pre.more(H:Pre a₀ p n)(y:n<a₀.size):Pre a₀ p (n+1):=by
 refine⟨λi ε z=>H.1 i (dy ε) z,λi ρ=>?_⟩
 by_cases h:i<n
 ·exact j3 (H.2 i h)
 ·rw[H.1 i (e7.mp h) (e6 (i5 ρ) y)];exact ρ
theorem yZ(z:SB a₀ p st)(h0:IntKeys a₀)(ρ:i<a₀.size)(y:j<a₀.size)
 (h:Q (some (decide (K a₀ (Pi p i)<K a₀ (Pi p j)))) st):wpS (model prog w) A E s (ltAt' i j) Q st:=
 wpS_ltK z.base h0 ρ y (by rw[z.k ρ,z.k y];exact h)
theorem kB[Decidable c](ε:c->wpS (model prog w) A E s a Q st)(z:¬c->wpS (model prog w) A E s b Q st):wpS (model prog w) A E s (if c then a else b) Q st:=by
 by_cases h:c
 ·rw[au h];exact ε h
 ·rw[ar h];exact z h
structure iK(a₀:Array Keyed)(p:Array Nat)(k l r:Nat):Prop where
 Gk:l<=r
 vA:r<=k
 lo:∀i,i<l->h9 a₀ (Pi p i) (Pi p k)
 ρ:∀i,r<=i->i<k->h9 a₀ (Pi p k) (Pi p i)
theorem iK.down(M:iK a₀ p k l r)(hs:eX a₀ p k)(q:l<r)(h:K a₀ (Pi p k)<K a₀ (Pi p ((l+r)/2))):iK a₀ p k l ((l+r)/2):=
 ⟨Gf M.Gk,aJ (dy (ym q)) M.vA,M.lo,λi ε z=>(tO ε).elim (λε=>h9.trans (.inl h) (hs _ _ ε z)) λe=>e▸ .inl h⟩
theorem iK.up(M:iK a₀ p k l r)(hs:eX a₀ p k)(j:Pre a₀ p k)(y:Pi p k=k)(q:l<r)(h:¬K a₀ (Pi p k)<K a₀ (Pi p ((l+r)/2))):iK a₀ p k ((l+r)/2+1) r:=
 have hm:=c7 (ym q) M.vA;have z:h9 a₀ (Pi p ((l+r)/2)) (Pi p k):=h9.NY h (by rw[y];exact j.2 _ hm)
 ⟨ym q,M.vA,λi ε=>(tO (i5 ε)).elim (λε=>(hs _ _ ε hm).trans z) λe=>e▸z,M.ρ⟩
theorem eX.w7(hs:eX a₀ p k)(M:iK a₀ p k l l)(z:k<p.size):eX a₀ (bubble p k (k-l)) (k+1):=by
 intro i j y v;have ζ:=M.vA;have q:=i5 v;have u:l<j->j-1<k:=λh=>c7 (rZ h) q;refine(CK i l).elim (λh=>?_) λh=>h.elim (λh=>?_) λh=>?_
 ·rw[DS z ζ h];refine(CK j l).elim (λg=>?_) λg=>g.elim (λg=>?_) λg=>?_
  ·rw[DS z ζ g];exact hs i j y (c7 g ζ)
  ·rw[g,DR z ζ];exact M.lo i h
  ·rw[w8 z ζ g q];exact hs i _ (c7 h (oa g)) (u g)
 ·rw[h] at y⊢;rw[DR z ζ,w8 z ζ y q];exact M.ρ _ (oa y) (u y)
 ·have g:=me h y;rw[w8 z ζ h (dy (c7 y q)),w8 z ζ g q];exact hs _ _ (Il (ze h) y) (u g)
theorem qeI(z:SB a₀ p st)(h0:IntKeys a₀)(ρ:i<a₀.size)(y:j<a₀.size)
 (h:Q (some (decide (K a₀ (Pi p i)<K a₀ (Pi p j)))) st):wpS (model prog w) A E s (ltAt' (0+i) (0+j)) Q st:=by
 rw[hr,hr];exact yZ z h0 ρ y h
def P5(a₀:Array Keyed)(n k:Nat)(c:Option Bool×Unit)(st:SortSt):Prop:=c=(none,())/\∃p,SB a₀ p st/\Pre a₀ p (min k n)/\eX a₀ p (min k n)
def P6(a₀:Array Keyed)(n:Nat)(c:Option Bool×Unit)(st:SortSt):Prop:=c=(none,())/\∃p,SB a₀ p st/\eX a₀ p n
def P2(a₀:Array Keyed)(p:Array Nat)(z:SortSt)(k x:Nat)(c:Option Bool×Nat×Nat)(st:SortSt):Prop:=st=z/\∃l r,c=(none,l,r)/\r-l<=k-x/\iK a₀ p k l r
def P4(a₀:Array Keyed)(p:Array Nat)(z:SortSt)(k:Nat)(c:Option Bool×Nat×Nat)(st:SortSt):Prop:=st=z/\∃l,c=(none,l,l)/\iK a₀ p k l l
theorem qeE(h0:IntKeys a₀)(H:n<=a₀.size)(Z:ok<=n)(P:1<=ok)(N:SB a₀ p st)(F:Pre a₀ p ok)(hs:eX a₀ p ok)
 (h:∀z y,SB a₀ z y->eX a₀ z n->Q true y):wpS (model prog w) A E s (binarySort' 0 n ok) Q st:=by
 rw[binarySort'_eq];have ag:max ok 1=ok:=Nat.max_eq_left P;refine gd (wpS_mono (wa (P5 a₀ n) (Q:=P6 a₀ n) ?step ?fin ?init) ?post)
 case post=>
  intro c y q;refine ν q.2 λz r=>?_;rw[q.1];exact iE (h z y r.1 r.2)
 case init=>
  rw[ag];exact⟨rfl,p,N,(m' Z).symm▸F,(m' Z).symm▸hs⟩
 case fin=>
  intro c y q;rw[ag,vX Z] at q;exact⟨q.1,ν q.2 λz r=>⟨z,r.1,pq n▸r.2.2⟩⟩
 case step=>
  intro k c y γ f q;refine ν q.2 λz u=>?_;have j:=c7 f H;have T:min k n=k:=m' (dy f);have a:Pre a₀ z k:=T▸u.2.1;have t:eX a₀ z k:=T▸u.2.2;have U:k<z.size:=u.1.size.symm▸j;have O:Pi z k=k:=a.1 k (a7 _) j;refine gd (wpS_mono (wa (P2 a₀ z y k) (Q:=P4 a₀ z y k) ?Ye ?XT ?XU) ?X4)
  case XU=>exact⟨rfl,0,k,rfl,a7 _,eM _,a7 _,λi ρ=>absurd ρ (qJ i),λi ε I=>absurd I (e7.mpr ε)⟩
  case XT=>
   intro c V q;refine⟨q.1,ai q.2 λl r q=>cu q λκ hm M=>?_⟩;rw[vX (eM k),Nat.sub_self] at hm;have e:=mn (Ik (wd.mp hm)) M.Gk;exact⟨l,by rw[κ,e],e▸M⟩
  case Ye=>
   intro x c V γ L q;refine ai q.2 λl r g=>cu g λκ hm M=>?_;rw[q.1,κ];refine kB (λW=>iE ?_) λW=>?_
   ·have e:r=l:=mn W M.Gk;exact⟨rfl,l,by rw[e],e▸M⟩
   ·have v:=n9.mp W;refine gd (qeI u.1 h0 j (me (c7 (ym v) M.vA) j) (kB (λY=>iE ?_) λY=>iE ?_))
    ·exact⟨rfl,l,(l+r)/2,rfl,Ze hm v,M.down t v (cU Y)⟩
    ·exact⟨rfl,(l+r)/2+1,r,rfl,mid_up hm v,M.up t a O v λe=>Y (cA e)⟩
  case X4=>
   intro c V q;refine ν q.2 λl g=>?_;rw[q.1,g.1];show wpS _ _ _ _ (do moveDown' (0+k) (0+l);pure (ForInStep.yield (none,()))) _ _;rw[moveDown'_eq,hr,hr];have R:min (k+1) n=k+1:=m' f;exact gd (wpS_modify (iE ⟨rfl,_,u.1.w7 j (m3 k l),R.symm▸a.w7 j g.2.vA U,R.symm▸t.w7 g.2 U⟩))
theorem eX.more(hs:eX a₀ p x)(u:Pre a₀ p x)(ε:1<=x)(f:x<a₀.size)(h:¬K a₀ (Pi p x)<K a₀ (Pi p (x-1))):eX a₀ p (x+1):=λi j z v=>by
 by_cases y:j<x
 ·exact hs i j z y
 ·have e:=mn (i5 v) (e7.mp y);rw[e] at z⊢;have g:x-1<x:=rZ ε;have ζ:h9 a₀ (Pi p (x-1)) (Pi p x):=h9.NY h (by rw[u.1 x (a7 _) f];exact u.2 _ g);exact(tO (oa z)).elim (λq=>(hs i _ q g).trans ζ) λq=>q▸ζ
def P0(a₀:Array Keyed)(p:Array Nat)(st:SortSt)(x:Nat)(c:AscSt)(z:SortSt):Prop:=z=st/\c=(none,x)/\eX a₀ p x/\Pre a₀ p x
theorem PU{a nrem:Nat}{Q:AscSt->SortSt->Prop}(h0:IntKeys a₀)(Y:nrem<=a₀.size)(Z:1<=a)(f:a<=nrem)(l:SB a₀ p st)(W:Pre a₀ p a)
 (hs:eX a₀ p a)
 (h:∀n,a<=n->n<=nrem->eX a₀ p n->Pre a₀ p n->(n=nrem∨K a₀ (Pi p n)<K a₀ (Pi p (n-1)))->Q (none,n) st):
 wpS (model prog w) A E s (ascLoop a nrem) Q st:=by
 unfold ascLoop;refine wa (P0 a₀ p st) (λx c i r t q=>b2 q λu g y z=>?_) (λc i q=>?_) ⟨rfl,rfl,hs,W⟩
 ·rw[u,g];have j:=c7 t Y;refine gd (yZ l h0 j (e6 (m3 x 1) j) (kB (λv=>iE ?_) λv=>iE ?_))
  ·exact h x r (dy t) y z (.inr (cU v))
  ·exact⟨rfl,rfl,y.more z (aJ Z r) j λe=>v (cA e),z.more j⟩
 ·rw[vX f] at q;refine b2 q λu g y z=>?_;rw[u,g];exact h nrem f (a7 _) y z (.inl rfl)
theorem oi.Hg(hs:oi a₀ p n)(y:n<=p.size):eX a₀ (mirror p 0 n ((n-0)/2)) n:=λi j q z=>by
 have ρ:=me q z;rw[nk y (eM _) ρ,nk y (eM _) z];exact hs _ _ (Gz q z) (o6 (eM _) ρ)
theorem eX.Hg(hs:eX a₀ p n)(y:n<=p.size):oi a₀ (mirror p 0 n ((n-0)/2)) n:=λi j q z=>by
 have ρ:=me q z;rw[nk y (eM _) ρ,nk y (eM _) z];exact hs _ _ (Gz q z) (o6 (eM _) ρ)
theorem PW{n nrem:Nat}{Q:Option Nat->SortSt->Prop}(h0:IntKeys a₀)(q:nrem<=a₀.size)(ε:1<=n)(y:n<=nrem)(u:SB a₀ p st)(x:Pre a₀ p n)
 (hs:oi a₀ p n) (h:∀m z v,SB a₀ z v->1<=m->m<=nrem->eX a₀ z m->Pre a₀ z m->Q (some m) v):
 wpS (model prog w) A E s (tail3 n nrem) Q st:=by
 unfold tail3;have g:n<=p.size:=u.size.symm▸aJ y q;have e:=u.rev (i:=0) (j:=n) (aJ y q);exact gd (wpS_reverse (gd (PU h0 q ε y e (x.rev (a7 _) g) (hs.Hg g) λm l r t f γ=>iE (h m _ _ e (aJ ε l) r t f))))
structure j6(a₀:Array Keyed)(p:Array Nat)(x ew:Nat):Prop where
 le:ew+1<=x
 desc:∀i j,i<j->j<x->i<x-(ew+1)->h9 a₀ (Pi p j) (Pi p i)
 eq:∀i,x-(ew+1)<=i->i<x->K a₀ (Pi p i)=K a₀ (Pi p (x-1))
 asc:∀i j,x-(ew+1)<=i->i<j->j<x->Pi p i<Pi p j
 strict:∀i,i<x-(ew+1)->K a₀ (Pi p (x-1))<K a₀ (Pi p i)
theorem j6.Ki(H:j6 a₀ p x 0):oi a₀ p x:=λi j z y=>H.desc i j z y (c7 z (oa y))
theorem j6.of0(ε:1<=x)(H:oi a₀ p x)(z:∀i,i<x-1->K a₀ (Pi p (x-1))<K a₀ (Pi p i)):j6 a₀ p x 0:=
 ⟨ε,λi j y q γ=>H i j y q,λi a b=>by rw[mn (oa b) a],λi j a b c=>absurd (c7 b (oa c)) (e7.mpr a),z⟩
theorem j6.rev(H:j6 a₀ p x ew)(y:x<=p.size):oi a₀ (mirror p (x-(ew+1)) x ((x-(x-(ew+1)))/2)) x:=by
 intro i j q z;have ρ:=me q z
 by_cases h:x-(ew+1)<=i
 ·have g:=aJ h (dy q);rw[nk y h ρ,nk y g z];exact .inr ⟨(H.eq _ (yn z) (o6 g z)).trans (H.eq _ (yn ρ) (o6 h ρ)).symm,H.asc _ _ (yn z) (Gz q z) (o6 h ρ)⟩
 ·have h':=n9.mp h;rw[sf (k:=i) y λc=>h c.1]
  by_cases g:x-(ew+1)<=j
  ·rw[nk y g z];exact H.desc _ _ (c7 h' (yn z)) (o6 g z) h'
  ·rw[sf y λc=>g c.1];exact H.desc _ _ q z h'
theorem j6.more(hf:j6 a₀ p x ew)(r:Pre a₀ p x)(q:Pi p x=x)(he:K a₀ (Pi p x)=K a₀ (Pi p (x-1))):j6 a₀ p (x+1) (ew+1):=by
 have e:x+1-(ew+1+1)=x-(ew+1):=Nat.add_sub_add_right x 1 (ew+1);have last:∀{j},j<x+1->¬j<x->j=x:=λh g=>mn (i5 h) (e7.mp g);refine⟨tS hf.le,?_,?_,?_,?_⟩<;>rw[e]
 ·intro i j v f ρ
  by_cases z:j<x
  ·exact hf.desc i j v z ρ
  ·rw[last f z];exact .inl (by rw[he];exact hf.strict i ρ)
 ·intro i ε y;show _=K a₀ (Pi p x)
  by_cases z:i<x
  ·rw[he];exact hf.eq i ε z
  ·rw[last y z]
 ·intro i j ε y u
  by_cases z:j<x
  ·exact hf.asc i j ε y z
  ·have e:=last u z;rw[e,q];exact r.2 i (e▸y)
 ·intro i ρ;show K a₀ (Pi p x)<_;rw[he];exact hf.strict i ρ
theorem oi.more(u:oi a₀ q x)(ζ:K a₀ (Pi q x)<K a₀ (Pi q (x-1)))(ε:1<=x):j6 a₀ q (x+1) 0:=
 have lt:∀i,i<x->K a₀ (Pi q x)<K a₀ (Pi q i):=λi ρ=>(tO (oa ρ)).elim (λg=>IE ζ (u i _ g (rZ ε)).le) λe=>e▸ζ
 j6.of0 (tS (eM x)) (λi j z v=>by
  by_cases y:j<x
  ·exact u i j z y
  ·have e:=mn (i5 v) (e7.mp y);rw[e] at z⊢;exact .inl (lt i z)) lt
def P9(a₀:Array Keyed)(x:Nat)(c:DescSt)(st:SortSt):Prop:=∃ew p,c=(none,x,ew)/\SB a₀ p st/\Pre a₀ p x/\j6 a₀ p x ew
theorem qeH{n nrem:Nat}{Q:DescSt->SortSt->Prop}(h0:IntKeys a₀)(R:nrem<=a₀.size)(ε:1<=n)(t:n<=nrem)(V:SB a₀ p st)(P:Pre a₀ p n)
 (hf:j6 a₀ p n 0)
 (h:∀m ew z u,SB a₀ z u->n<=m->m<=nrem->Pre a₀ z m->j6 a₀ z m ew->Q (none,m,ew) u):
 wpS (model prog w) A E s (descLoop n nrem) Q st:=by
 unfold descLoop;refine wa (P9 a₀) (λx c u l Z q=>ai q λew z q=>b2 q λκ y g hf=>?_) (λc u q=>?_) ⟨0,p,rfl,V,P,hf⟩
 ·rw[κ];have j:=c7 Z R;have i:=e6 (m3 x 1) j;have v:x<=z.size:=y.size.symm▸dy j;have W:=g.1 x (a7 _) j;have g1:=aJ ε l;refine gd (yZ y h0 j i (kB (λf=>kB (λY=>?_) λY=>?_) λf=>?_))
  ·have T:Pi (mirror z (x-(ew+1)) x ((x-(x-(ew+1)))/2)) x=Pi z x:=sf v λc=>lz _ c.2;have r:x-1<x:=rZ g1;have a:x-(ew+1)<=x-1:=Iw (tS (eM ew)) x;have U:K a₀ (Pi (mirror z (x-(ew+1)) x ((x-(x-(ew+1)))/2)) (x-1))=K a₀ (Pi z (x-1)):=by rw[nk v a r];exact hf.eq _ (yn r) (o6 a r)
   exact gd (wpS_reverse (iE ⟨0,_,rfl,y.rev (dy j),(g.rev (a7 _) v).more j,(hf.rev v).more (by rw[T,U];exact cU f) g1⟩))
  ·have e:ew=0:=wd.mp (e7.mp Y);rw[e] at hf;exact iE ⟨0,z,rfl,y,g.more j,hf.Ki.more (cU f) g1⟩
  ·refine gd (yZ y h0 i j (kB (λζ=>iE ?_) λζ=>iE ?_))
   ·exact h x ew z u y l (dy Z) g hf
   ·exact⟨ew+1,z,rfl,y,g.more j,hf.more g W (Int.le_antisymm (gu.mp λe=>ζ (cA e)) (gu.mp λe=>f (cA e)))⟩
 ·rw[vX t] at q;refine ai q λew z q=>b2 q λκ y g hf=>?_;rw[κ];exact h nrem ew z u y t (a7 _) g hf
theorem PV{n nrem:Nat}{Q:Option Nat->SortSt->Prop}(h0:IntKeys a₀)(y:nrem<=a₀.size)(r:n+1<=nrem)(f:SB a₀ p st)(l:Pre a₀ p (n+1))
 (hf:j6 a₀ p (n+1) 0) (h:∀m z j,SB a₀ z j->1<=m->m<=nrem->eX a₀ z m->Pre a₀ z m->Q (some m) j):
 wpS (model prog w) A E s (descPart n nrem) Q st:=by
 unfold descPart;refine gd (wpS_lift (qL ⟨rfl,?_⟩));refine gd (qeH h0 y (tS (eM n)) r f l hf λm ew z j q t g v hf=>?_);have hm:=aJ g y;have g1:1<=m:=ze t;have u:m<=z.size:=q.size.symm▸hm;refine kB (λe=>?_) λe=>?_
 ·exact gd (wpS_reverse (PW h0 y g1 g (q.rev hm) (v.rev (a7 _) u) (hf.rev u) h))
 ·rw[show ew=0 from wd.mp (e7.mp e)] at hf;exact PW h0 y g1 g q v hf.Ki h
theorem eX.flat(hs:eX a₀ p n)(h:¬K a₀ (Pi p 0)<K a₀ (Pi p (n-1))) k (z:k<n):K a₀ (Pi p k)=K a₀ (Pi p (n-1)):=
 have le:∀i j,i<=j->j<n->K a₀ (Pi p i)<=K a₀ (Pi p j):=λi j y g=>(tO y).elim (λq=>(hs i j q g).le) λe=>e▸Int.le_refl _
 Int.le_antisymm (le k _ (oa z) (rZ z)) (kF (gu.mp h) (le 0 k (eM k) z))
theorem qeG(h0:IntKeys a₀)(f:nrem<=a₀.size)(ε:1<=nrem)(z:SB a₀ p st)(O:Pre a₀ p 1)
 (h:∀m t V,SB a₀ t V->1<=m->m<=nrem->eX a₀ t m->Pre a₀ t m->Q (some m) V):
 wpS (model prog w) A E s (countRun' 0 nrem) Q st:=by
 rw[countRun0_eq];refine gd (PU h0 f (a7 1) ε z O (λi j l Z=>absurd (c7 l (i5 Z)) (qJ i)) λn q a u g R=>?_);refine kB (λx=>iE (h n p st z q a u g)) λx=>?_;have U:K a₀ (Pi p n)<K a₀ (Pi p (n-1)):=R.resolve_left λe=>x (h5.mpr e);have r:n+1<=nrem:=tP a λe=>x (h5.mpr e);have y:=c7 r f;have v:n<=p.size:=z.size.symm▸dy y;refine kB (λY=>?_) λY=>?_
 ·refine gd (yZ z h0 (ze y) (e6 (m3 n 1) y) (kB (λW=>iE (h n p st z q a u g)) λW=>?_));have θ:=u.flat λe=>W (cA e);have T:n-1<n:=rZ q;have P:K a₀ (Pi (mirror p 0 n ((n-0)/2)) n)<K a₀ (Pi (mirror p 0 n ((n-0)/2)) (n-1)):=by
   rw[sf v λc=>lz _ c.2,nk v (eM _) T,θ _ (o6 (eM _) T)];exact U
  exact gd (wpS_reverse (PV h0 f r (z.rev (dy y)) ((g.rev (a7 _) v).more y) ((u.Hg v).more P q) h))
 ·refine PV h0 f r z (g.more y) (oi.more (λi j l Z=>?_) U q) h;exact absurd (c7 (e6 (eM i) l) (i5 (c7 Z (aJ (e7.mp Y) (a7 1))))) (lz 0)
def Dm(a₀:Array Keyed)(st:SortSt):Prop:=failedOf st=none/\pendingOf st= #[(0,a₀.size,0)]/\∃p,SB a₀ p (setPending st #[])/\eX a₀ p a₀.size
theorem SB.done(z:SB a₀ p st)(hs:eX a₀ p a₀.size):Dm a₀ (setPending st ((pendingOf st).push (0,a₀.size,0))):=
 ⟨z.base.failed,by show(pendingOf st).push _=_;rw[z.base.pend];rfl,p,⟨⟨z.base.perm,z.base.kind,z.base.failed,rfl⟩,z.ao,z.idx⟩,hs⟩
theorem SB.start(z:SBase a₀ st)(y:arrOf st=a₀):SB a₀ (Array.range a₀.size) st:=
 ⟨z,Array.Perm.refl _,λi ρ=>by rw[y];unfold Pi;rw[Iu];simp [ρ]⟩
theorem Pre.start(z:n<=a₀.size):Pre a₀ (Array.range a₀.size) n:=by
 have e:∀i,i<a₀.size->Pi (Array.range a₀.size) i=i:=λi ρ=>by unfold Pi;rw[Iu];simp [ρ]
 exact⟨λi γ ρ=>e i ρ,λi ρ=>by rw[e i (c7 ρ z)];exact ρ⟩
theorem qeF(e:f=a₀.size)(h0:IntKeys a₀)(g:ok<=a₀.size)(j:1<=ok)(q:SB a₀ p st)(u:Pre a₀ p ok)(hs:eX a₀ p ok)
 (h:∀z y,SB a₀ z y->eX a₀ z a₀.size->Q true y):wpS (model prog w) A E s (binarySort' 0 f ok) Q st:=e▸qeE h0 (a7 _) g j q u hs h
def I_(z:SortSt)(γ:Nat)(c:Option Unit×Unit)(st:SortSt):Prop:=st=z/\c=(none,())
def I'(a₀:Array Keyed)(st:SortSt)(x:Nat)(c:Option Unit×Nat)(z:SortSt):Prop:=(x=0/\c=(none,0)/\z=st)∨(1<=x/\c=(none,a₀.size)/\Dm a₀ z)
def QK(a₀:Array Keyed)(c:Option Unit×Nat)(z:SortSt):Prop:=c=(none,a₀.size)/\Dm a₀ z
theorem SB.fin(z:SB a₀ p st)(hs:eX a₀ p a₀.size)(e:n=a₀.size):I' a₀ y (x+1) (none,0+n) (setPending st ((pendingOf st).push (0,n,0))):=
 .inr ⟨tS (eM x),by rw[e,hr],by rw[e];exact z.done hs⟩
theorem Zp(h:n<64):minRun' n n 0=n:=by
 cases n with
 |zero=>rfl
 |succ f=>rw[minRun'_succ,au h]
theorem qeJ(h0:IntKeys a₀)(U:SBase a₀ st)(Z:arrOf st=a₀)(P:2<=a₀.size)(T:a₀.size<64)
 (h:∀p z,failedOf z=none->(arrOf z).Perm a₀->p.Perm (Array.range a₀.size)->(∀i,i<a₀.size->(arrOf z)[i]? =a₀[Pi p i]?)->eX a₀ p a₀.size->Q () z):wpS (model prog w) A E s sortRuns' Q st:=by
 rw[sortRuns'_eq];refine gd (wpS_get ?_);have eS:0<a₀.size:=ze P;rw[Z];have f:=Zp T;refine gd (wpS_mono (wa (I' a₀ st) (Q:=QK a₀) ?step ?fin (.inl ⟨rfl,rfl,rfl⟩)) ?post)
 case fin=>
  intro c z q;exact q.elim (λq=>absurd (vX (eM a₀.size)▸q.1) (i7 eS)) λq=>q.2
 case step=>
  intro x c z γ O q;refine q.elim (λq=>?_) λq=>?_
  ·rw[q.2.1,q.2.2];refine kB (λe=>absurd e (n9.mpr eS)) λe=>?_;refine gd (qeG (nrem:=a₀.size) h0 (a7 _) eS (SB.start U Z) (Pre.start eS) λm la g j R n a W=>?_);refine kB (λl=>?_) λl=>?_
   ·refine gd (wpS_lift (qL ⟨rfl,?_⟩));have v:min (a₀.size-0) (minRun' a₀.size a₀.size 0)=a₀.size:=by rw[f];exact pq _
    refine gd (qeF v h0 n R j W a λvo u t V=>?_);refine kB (λe=>absurd e zd) λγ=>?_;refine gd (wpS_get ?_);rw[show(pendingOf u).back? =none by rw[t.base.pend];rfl];exact gd (wpS_modify (iE (t.fin V v)))
   ·have em:m=a₀.size:=mn n (e7.mp (f▸l));refine gd (wpS_get ?_);rw[show(pendingOf g).back? =none by rw[j.base.pend];rfl];exact gd (wpS_modify (iE (j.fin (em▸a) em)))
  ·rw[q.2.1];exact kB (λe=>iE ⟨rfl,q.2.2⟩) λe=>absurd (a7 _) e
 case post=>
  intro c z q;rw[q.1];refine gd (wpS_mono (wa (I_ z) (Q:=I_ z 0) (λx c Y γ γ y=>?_) (λγ γ bq=>bq) ⟨rfl,rfl⟩) λc Y y=>?_)
  ·rw[y.1];refine gd (wpS_get (kB (λγ=>iE ⟨rfl,rfl⟩) λe=>absurd (by rw[q.2.2.1];exact a7 1) e))
  ·rw[y.1,y.2];exact ν q.2.2.2 λp r=>iE (h p _ q.2.1 r.1.base.perm r.1.ao r.1.idx r.2)
end
section
variable{α β:Type}
noncomputable def k0(p:Int×α):List (Int×α)->List (Int×α)
 |[]=>[p]
 |q::r=>if decide (p.1<q.1) then p::q::r else q::k0 p r
def hl(l:List (Int×α)):List (Int×α):=l.foldl (λacc p=>k0 p acc) []
theorem X2(f:α->β) p:∀l,k0 (p.1,f p.2) (l.map λq=>(q.1,f q.2))=(k0 p l).map λq=>(q.1,f q.2):=by
 intro y
 induction y with
 |nil=>
  exact rfl
 |cons q r z=>
  unfold k0;rw[bN];dsimp only;split
  ·rfl
  ·rw[z];rfl
theorem Vm(f:α->β):∀(l acc:List (Int×α)),(l.map λq=>(q.1,f q.2)).foldl (λacc p=>k0 p acc) (acc.map λq=>(q.1,f q.2))=(l.foldl (λacc p=>k0 p acc) acc).map λq=>(q.1,f q.2):=by
 intro y
 induction y with
 |nil=>
  intro acc;exact rfl
 |cons p l z=>
  intro acc;rw[bN,i6,i6,X2];exact z _
theorem OP(f:α->β) l:hl (l.map λq=>(q.1,f q.2))=(hl l).map λq=>(q.1,f q.2):=Vm f l []
theorem F1 p:∀l:List (Int×α),(k0 p l).Perm (p::l):=by
 intro y
 induction y with
 |nil=>
  exact List.Perm.refl _
 |cons q r z=>
  unfold k0;split
  ·exact List.Perm.refl _
  ·exact((z).cons q).trans (List.Perm.swap p q r)
theorem Vn:∀(l acc:List (Int×α)),(l.foldl (λacc p=>k0 p acc) acc).Perm (l++acc):=by
 intro y
 induction y with
 |nil=>
  intro acc;exact List.Perm.refl _
 |cons p l z=>
  intro acc;rw[i6];exact(z _).trans (((F1 p acc).append_left l).trans List.perm_middle)
theorem BZ(l:List (Int×α)):(hl l).Perm l:=by simpa [hl] using Vn l []
def nj(a b:Int×Nat):Prop:=a.1<b.1∨(a.1=b.1/\a.2<b.2)
theorem X1:∀{l},l.Pairwise nj->(∀q∈l,q.2<p.2)->(k0 p l).Pairwise nj:=by
 intro v
 induction v with
 |nil=>
  intro γ γ;simp [k0]
 |cons q r u=>
  intro h ω;unfold k0;rw[qF] at h;split
  ·rename_i hd;have j:p.1<q.1:=cU hd;refine qF.mpr ⟨λx z=>?_,qF.mpr h⟩;rcases cn.mp z with rfl|z
   ·exact .inl j
   ·have:=h.1 x z;exact .inl (this.elim (wb j) λe=>e.1▸j)
  ·rename_i hd;have j:¬p.1<q.1:=λe=>hd (cA e);refine qF.mpr ⟨λx z=>?_,u h.2 λy g=>ω y (b3 _ g)⟩;rcases cn.mp ((F1 p r).mem_iff.mp z) with rfl|z
   ·have:=ω q bH;exact(CH (gu.mp j)).elim .inl λe=>.inr ⟨e,this⟩
   ·exact h.1 x z
theorem Vl:∀{l acc:List (Int×Nat)},l.Pairwise (λa b=>a.2<b.2)->acc.Pairwise nj->(∀a∈acc,∀b∈l,a.2<b.2)->(l.foldl (λacc p=>k0 p acc) acc).Pairwise nj:=by
 intro u
 induction u with
 |nil=>
  intro acc γ h γ;exact h
 |cons p l g=>
  intro acc ζ h j;rw[i6];rw[qF] at ζ;replace ζ:=ζ;refine g ζ.2 (X1 h λq v=>j q v p bH) λa z b y=>?_;rcases cn.mp ((F1 p acc).mem_iff.mp z) with rfl|z
  ·exact ζ.1 b y
  ·exact j a z b (b3 _ y)
theorem OO(h:l.Pairwise (λa b=>a.2<b.2)):(hl l).Pairwise nj:=Vl h List.Pairwise.nil λγ h=>nomatch h
theorem qfk(kz:List Int):(kz.zip (List.range kz.length)).Pairwise (λa b=>a.2<b.2):=by
 rw[List.pairwise_iff_getElem];intro i j ρ y z
 simpa using z
theorem nj.asymm(ε:nj a b)(z:nj b a):False:=
 ε.elim (λx=>z.elim (λy=>Int.lt_asymm x y) λy=>CZ _ (y.1▸x)) λx=>z.elim (λy=>CZ _ (x.1▸y)) λy=>Nat.lt_asymm x.2 y.2
theorem H5{l:List α}{m:List β}(ε:i<l.length)(z:i<m.length):i<(l.zip m).length:=by rw[mq];exact Nat.lt_min.mpr ⟨ε,z⟩
theorem H4{l:List α}{m:List β}(h:¬i<l.length):(l.zip m).length<=i:=by rw[mq];exact aJ (n4 _ _) (e7.mp h)
theorem qbL{kz:List Int}(y:t.Perm (kz.zip (List.range kz.length)))(hs:t.Pairwise nj):t=hl (kz.zip (List.range kz.length)):=
 List.Perm.eq_of_pairwise (le:=nj) (λa b γ γ ε z=>(ε.asymm z).elim) hs (OO (qfk kz)) (y.trans (BZ _).symm)
theorem Hn(kz:List Int) d (vs:List α) (ζ:vs.length=kz.length):hl (kz.zip vs)=(hl (kz.zip (List.range kz.length))).map λq=>(q.1,(vs[q.2]?).getD d):=by
 rw[<-OP (λi=>(vs[i]?).getD d)]
 congr 1
 apply List.ext_getElem?;intro i;rw[m8]
 by_cases ρ:i<kz.length
 ·have z:i<vs.length:=ζ.symm▸ρ;have ε:(kz.zip vs)[i]? =some (kz[i],vs[i]):=by rw[fi (H5 ρ z)];simp
  have y:(kz.zip (List.range kz.length))[i]? =some (kz[i],i):=by rw[fi (H5 ρ (hZ.symm▸ρ))];simp
  rw[ε,y];have:vs[i]? =some vs[i]:=fi z;simp [this]
 ·rw[qM (H4 ρ),qM (H4 ρ)];rfl
theorem OV{keys:Array Value}(a:IntsAre keys.toList kz)(hlen:kz.length=vs.length){xs:Array Keyed}
 (l:xs.size=(keys.zip vs.toArray).size) (v:p.Perm (Array.range (keys.zip vs.toArray).size)) (r:∀i,i<(keys.zip vs.toArray).size->xs[i]? =(keys.zip vs.toArray)[Pi p i]?) (hs:eX (keys.zip vs.toArray) p (keys.zip vs.toArray).size):
 (xs.map (·.2)).toList=(hl (kz.zip vs)).map (·.2):=by
 have h:keys.size=vs.length:=by
  have ε:=a.length;rw[vT] at ε;exact ε.trans hlen
 have u:(keys.zip vs.toArray).size=vs.length:=by rw[Array.size_zip,h,gp,pq]
 rw[u] at v r hs l;have z:p.toList.length=vs.length:=by rw[vT,v.size_eq,Array.size_range]
 have x:p.toList.Perm (List.range vs.length):=by
  have:=Array.perm_iff_toList_perm.mp v
  simpa using this
 have t:∀i,i<vs.length->K (keys.zip vs.toArray) i=(kz[i]?).getD 0:=λi ρ=>by
  have ε:i<(keys.zip vs.toArray).size:=u.symm▸ρ;unfold K;rw[tY _ i ε,Array.getElem_zip];have V:kz=keys.toList.map numOf:=a.nums.symm;rw[V,m8,Cv,tY keys i (h.symm▸ρ)];rfl
 have f:p.size=vs.length:=z
 have y:∀i,i<vs.length->Pi p i<vs.length:=λi ρ=>by
  have:p.toList[i]'(z.symm▸ρ)∈List.range vs.length:=x.mem_iff.mp (vZ _);rw[ek] at this;unfold Pi;rw[tY p i (f.symm▸ρ)]
  simpa using this
 have key:(p.toList.map λi=>((kz[i]?).getD 0,i))=hl (kz.zip (List.range kz.length)):=by
  refine qbL ?_ ?_
  ·have e:kz.zip (List.range kz.length)=(List.range vs.length).map λi=>((kz[i]?).getD 0,i):=by
    apply List.ext_getElem?;intro i;rw[m8]
    by_cases ρ:i<kz.length
    ·rw[fi (H5 ρ (hZ.symm▸ρ)),Iz (hlen▸ρ)];simp [fi ρ]
    ·rw[qM (H4 ρ),qM (by rw[hZ,<-hlen];exact e7.mp ρ)];rfl
   rw[e];exact x.map _
  ·rw[List.pairwise_iff_getElem];intro i j ρ g Z;simp only[bt] at ρ g;have W:i<vs.length:=z▸ρ;have n:j<vs.length:=z▸g;rw[CQ,CQ];have ε:=hs i j Z n;have q:Pi p i=p.toList[i]:=by unfold Pi;rw[tY p i (by simpa using ρ)];rfl
   have Y:Pi p j=p.toList[j]:=by unfold Pi;rw[tY p j (by simpa using g)];rfl
   unfold h9 at ε;rw[t _ (y i W),t _ (y j n),q,Y] at ε;exact ε
 rw[Hn kz Value.none vs hlen.symm,<-key,cP,cP];apply List.ext_getElem?;intro i;rw[Array.toList_map,m8,m8]
 by_cases ρ:i<vs.length
 ·rw[Cv,r i ρ,tY _ _ (u.symm▸y i ρ),Array.getElem_zip];have q:p.toList[i]? =some (Pi p i):=by
   unfold Pi;rw[Cv,tY p i (f.symm▸ρ)];rfl
  rw[q];have:=y i ρ;simp [fi this]
 ·rw[qM (by rw[vT,l];exact e7.mp ρ),qM (z.symm▸e7.mp ρ)];rfl
variable{C:aE}{F:bc}{h:Heap}{B:Addr->Prop}
theorem bA.places{kz:List Int}(H:bA C F h B ds vs)(ζ:ds.length=kz.length):bA C F h B ((hl (kz.zip ds)).map (·.2)) ((hl (kz.zip vs)).map (·.2)):=by
 rw[Hn kz D.none ds ζ,Hn kz Value.none vs (by rw[H.length,ζ]),cP,cP];have z:∀q∈hl (kz.zip (List.range kz.length)),q.2<ds.length:=λq g=>by
  have:=(v5 ((BZ _).mem_iff.mp g)).2;rw[ek] at this;exact ζ.symm▸this
 generalize hl (kz.zip (List.range kz.length))=l at z
 induction l with
 |nil=>simp [bA]
 |cons q r y=>
  obtain⟨v,j,hd⟩:=H.get (fi (z q bH));refine⟨v,_,?_,?_,y λx u=>z x (b3 _ u)⟩
  ·simp [j]
  ·have:=fi (z q bH)
   simpa [this] using hd
end
inductive aC where
 |val (d:D)
 |own (d:D)
 |gn (ks:List Int)
 deriving Inhabited
noncomputable def aC.d(v:aC):Option D:=aC.casesOn v some some λγ=>none
noncomputable abbrev Γ:=List (Str×Option aC)
noncomputable abbrev Kinds:=List (Str×NameKind)
noncomputable def Γ.get(σ:Γ)(x:Str):Option aC:=(σ.lookup x).bind id
noncomputable def Γ.set(σ:Γ)(x:Str)(v:aC):Γ:=match σ with
 |[]=>[]
 |p::r=>if p.1==x then(p.1,some v)::r else p::Γ.set r x v
noncomputable def cz(k:Int):Str:=⟨#[0,k.toNat]⟩
noncomputable def i0(x:Str):Bool:=x.cps[0]? ==some 0
noncomputable def Γ.gQ(σ:Γ)(x:Str):Option aC:=match i0 x with
 |true=>none
 |false=>σ.get x
def Γ.freeze(σ:Γ):Γ:=σ.map λp=>(p.1,p.2.bind λv=>v.d.map .val)
inductive fT where
 |int (i:Int)
 |tab (l:List (Str×Int))
 |fn
 |bi (id:String)
 |ty (n:String)
structure dH where
 G:List (Str×fT)
 C2:Str->List D->Option D
 zx:Str->D->List D->Option D
 N:Nat
noncomputable def dE(n:Nat):Bool:=Nat.ble n 16777216
noncomputable def Ar(n:Int):Bool:=decide (n.natAbs<2^1023)
noncomputable def cj(a b:Int):UInt64:=Float64.ofFrac (decide (a<0) !=decide (b<0)) a.natAbs b.natAbs
noncomputable def no{α β:Type}(γ:β):Option α:=none
def dv(d:D):Option Int:=D.casesOn d none no some no no no no no
def hv(d:D):Option UInt64:=D.casesOn d none no no some no no no no
def fX(d:D):Option (List D):=D.casesOn d none no no no no no some no
def lG(d:D):Option (List D):=D.casesOn d none no no no no some no no
def kN(d:D):Option Str:=D.casesOn d none no no no some no no no
def so(d:D):Option Bool:=D.casesOn d none some no no no no no no
def q1(d:D):Option (List (Int×D)):=D.casesOn d none no no no no no no some
noncomputable def allOf{α:Type}(p:D->Option α):List D->Option (List α)
 |[]=>some []
 |d::r=>(p d).bind λx=>(allOf p r).bind λl=>some (x::l)
def intsOf(l:List D):Option (List Int):=allOf dv l
def strsOf(l:List D):Option (List Str):=allOf kN l
noncomputable def two{α β z:Type}(p:D->Option α)(q:D->Option β)(f:α->β->Option z)(a b:D):Option z:=(p a).bind λx=>(q b).bind λy=>f x y
noncomputable def alt{α:Type}(a b:Option α):Option α:=match a with
 |some x=>some x
 |none=>b
noncomputable def aS{α:Type}(c:Bool)(a:Option α):Option α:=match c with
 |true=>a
 |false=>none
def x8(f:Int->Int->Option D)(a b:D)(o:Option D):Option D:=alt (two dv dv f a b) o
def Au(f:UInt64->UInt64->Option D)(a b:D)(o:Option D):Option D:=alt (two hv hv f a b) o
def binop(op:Operator)(a b:D):Option D:=Operator.casesOn op
 (x8 (λx y=>some (.int (x+y))) a b (Au (λx y=>some (.υ (Float64.add x y))) a b (alt (two fX fX (λx y=>aS (dE (x++y).length) (some (.lst (x++y)))) a b)
   (alt (two lG lG (λx y=>aS (!x.isEmpty&& !y.isEmpty&&dE (x++y).length) (some (.tup (x++y)))) a b)
   (alt (two hv dv (λx y=>aS (Ar y) (some (.υ (Float64.add x (Float64.ofInt y))))) a b) (two kN kN (λx y=>aS (dE (x.length+y.length)) (some (.str (x++y)))) a b))))))
 (x8 (λx y=>some (.int (x-y))) a b (Au (λx y=>some (.υ (Float64.sub x y))) a b (two hv dv (λx y=>aS (Ar y) (some (.υ (Float64.sub x (Float64.ofInt y))))) a b)))
 (x8 (λx y=>aS (decide (x.natAbs<2^64)) (some (.int (x*y)))) a b (Au (λx y=>some (.υ (Float64.mul x y))) a b (two hv dv (λx y=>aS (Ar y) (some (.υ (Float64.mul x (Float64.ofInt y))))) a b)))
 none
 (x8 (λx y=>aS (!(y==0)&& !(Float64.isInf (cj x y))) (some (.υ (cj x y)))) a b (Au (λx y=>aS (!(Float64.isZero y)) (some (.υ (Float64.div x y)))) a b
   (two hv dv (λx y=>aS (!(Float64.isInf (Float64.ofInt y))&& !(Float64.isZero (Float64.ofInt y))) (some (.υ (Float64.div x (Float64.ofInt y))))) a b)))
 (x8 (λx y=>aS (!(y==0)) (some (.int (Int.fmod x y)))) a b (two hv hv (λx y=>aS (!(Float64.isZero y)) (some (.υ (Float64.divmod x y).2))) a b))
 none
 none
 none
 none
 none
 none
 (two dv dv (λx y=>aS (!(y==0)&&decide (y.natAbs<2^64)) (some (.int (Int.fdiv x y)))) a b)
noncomputable def ke(f:D->D->Option Bool):List D->List D->Option Bool
 |[],b=>aS b.isEmpty (some true)
 |a::r,b=>match b with
  |[]=>none
  |b::q=>(f a b).bind λx=>(ke f r q).bind λy=>some (x&&y)
noncomputable def pS(f:D->D->Option Bool)(q:List (Int×D)):List (Int×D)->Option Bool
 |[]=>some true
 |p::r=>match q.lookup p.1 with
  |none=>(pS f q r).bind λγ=>some false
  |some b=>(f p.2 b).bind λx=>(pS f q r).bind λy=>some (x&&y)
def S8(f:D->D->Option Bool)(a b:D):Option Bool:=match a with
 |.none=>none
 |.bool a=>(so b).bind λb=>some (a==b)
 |.int a=>(dv b).bind λb=>some (a==b)
 |.υ a=>(hv b).bind λb=>aS (!(Float64.isNaN a)&& !(Float64.isNaN b)) (some (Float64.cmp a b==some .eq))
 |.str a=>(kN b).bind λb=>some (a==b)
 |.tup a=>(lG b).bind λb=>ke f a b
 |.lst a=>(fX b).bind λb=>if a.length==b.length then ke f a b else some false
 |.aX a=>(q1 b).bind λb=>if a.length==b.length then pS f b a else some false
noncomputable def gg:Nat->D->D->Option Bool
 |0,_,_=>none
 |n+1,a,b=>S8 (gg n) a b
abbrev nE:D->D->Option Bool:=gg 8
noncomputable def isIn(x:D):List D->Option Bool
 |[]=>some false
 |y::r=>(nE y x).bind λa=>(isIn x r).bind λb=>some (a||b)
def e'(op:CmpOp)(a b:D):Option Bool:=CmpOp.casesOn op
 (nE a b)
 ((nE a b).bind λx=>some !x)
 (two dv dv (λa b=>some (decide (a<b))) a b)
 (two hv hv (λa b=>some (Float64.cmp a b==some .lt||Float64.cmp a b==some .eq)) a b)
 (two dv dv (λa b=>some (decide (b<a))) a b)
 (two dv dv (λa b=>some (decide (b<=a))) a b)
 (two so so (λa b=>some (a==b)) a b)
 none
 (alt (two dv q1 (λk l=>some (l.any λp=>p.1==k)) a b) (alt ((lG b).bind λl=>isIn a l) ((fX b).bind λl=>isIn a l)))
 (alt ((lG b).bind λl=>(isIn a l).bind λb=>some !b) ((fX b).bind λl=>(isIn a l).bind λb=>some !b))
noncomputable def uk(l:List D)(i:Int):Option D:=
 if 0<=i then l[i.toNat]? else if 0<=i+l.length then l[(i+l.length).toNat]? else none
def Hj(l:List D)(i:Int):Option D:=aS (decide (i.natAbs<2^62)) (uk l i)
def index(d j:D):Option D:=(dv j).bind λi=>D.casesOn d none no no no (λs=>aS (fitsSsize i&&(Txt.charAt s i).isSome) (some (.str (Txt.item s i)))) (λl=>Hj l i) (λl=>Hj l i) (λl=>l.lookup i)
def Aa(lo ρ:Option Int)(n:Nat):Option (Nat×Nat):=Option.casesOn lo (ρ.bind λb=>aS (decide (0<=b)&&decide (b<2^62)) (some (0,b.toNat))) λa=>Option.casesOn ρ (aS (decide (0<=a)&&decide (a<2^62)) (some (a.toNat,n))) no
def slice(d:D)(lo ρ:Option Int):Option D:=alt ((fX d).bind λl=>aS (dE l.length) ((Aa lo ρ l.length).bind λc=>some (.lst ((l.take c.2).drop c.1))))
 ((kN d).bind λs=>aS (dE s.length) (some (.str (Txt.slice s lo ρ))))
noncomputable def mI(better:UInt64->UInt64->Bool):UInt64->List UInt64->UInt64
 |m,[]=>m
 |m,x::r=>mI better (if better x m then x else m) r
noncomputable def kT(better:Int->Int->Bool):Int->List Int->Int
 |m,[]=>m
 |m,x::r=>kT better (if better x m then x else m) r
noncomputable def unlike(ns:List Int):Nat:=(firstMet (λi=>ns.getD i 0) ns.length).length
noncomputable def stored(l:List (Int×D))(k:Int)(v:D):List (Int×D):=
 if l.any (λp=>p.1=k) then l.map (λp=>if p.1=k then(p.1,v) else p) else l++[(k,v)]
end Internal
namespace Internal
noncomputable def asName(e:Expr):Option Str:=if h:e.ctorIdx=23 then Expr.Name.elim (motive_1:=λγ=>Option Str) e h λx γ=>some x else none
noncomputable def kL(e:Expr):Option (Expr×List Expr×List Keyword):=if h:e.ctorIdx=16 then Expr.Call.elim (motive_1:=λγ=>Option (Expr×List Expr×List Keyword)) e h λf as ks γ=>some (f,as,ks) else none
noncomputable def hR(e:Expr):Option (List Expr):=if h:e.ctorIdx=25 then Expr.Tuple.elim (motive_1:=λγ=>Option (List Expr)) e h λes γ γ=>some es else none
noncomputable def DD(e:Expr):Option (Expr×List Comprehension×Scope):=if h:e.ctorIdx=11 then Expr.GeneratorExp.elim (motive_1:=λγ=>Option (Expr×List Comprehension×Scope)) e h λx gs sc γ=>some (x,gs,sc) else none
noncomputable def zT(e:Expr):Option (Arguments×Expr×Scope):=if h:e.ctorIdx=4 then Expr.Lambda.elim (motive_1:=λγ=>Option (Arguments×Expr×Scope)) e h λao b sc γ=>some (ao,b,sc) else none
noncomputable def oy(e:Expr):Option (Expr×Str×Pos):=if h:e.ctorIdx=20 then Expr.Attribute.elim (motive_1:=λγ=>Option (Expr×Str×Pos)) e h λo m p=>some (o,m,p) else none
def O6(c:Const):Option Str:=Const.casesOn c none no no no (λγ γ=>none) some no none
def wW(e:Expr):Option Str:=if h:e.ctorIdx=19 then Expr.Constant.elim (motive_1:=λγ=>Option Str) e h λc γ γ=>O6 c else none
noncomputable def nx(e:Expr):Option (Expr×Expr):=if h:e.ctorIdx=21 then Expr.Subscript.elim (motive_1:=λγ=>Option (Expr×Expr)) e h λv i γ=>some (v,i) else none
def jB(e:Expr):Option (Option Expr×Option Expr):=if h:e.ctorIdx=26 then Expr.Slice.elim (motive_1:=λγ=>Option (Option Expr×Option Expr)) e h λlo ρ st γ=>aS st.isNone (some (lo,ρ)) else none
def dV{α:Type}:List α->Option α
 |[]=>none
 |x::r=>aS r.isEmpty (some x)
def mC{α:Type}:List α->Option (α×α)
 |[]=>none
 |x::r=>(dV r).bind λy=>some (x,y)
def wY{α:Type}:List α->Option (α×α×α)
 |[]=>none
 |x::r=>(mC r).bind λy=>some (x,y)
noncomputable def nv{α:Type}:List α->Option (α×List α)
 |[]=>none
 |x::r=>some (x,r)
noncomputable def insI(x:Int):List Int->List Int
 |[]=>[x]
 |y::r=>cond (decide (x<y)) (x::y::r) (y::insI x r)
def sortI(l:List Int):List Int:=l.foldl (λacc x=>insI x acc) []
def DL(z:Int->Int->Bool)(ds:List D):Option D:=(dV ds).bind λd=>(fX d).bind λl=>(intsOf l).bind λns=>(nv ns).bind λc=>some (.int (kT z c.1 c.2))
def uo(id:String)(ds:List D):Option D:=
 alt (aS (id=="len") ((dV ds).bind λd=>alt ((fX d).bind λl=>aS (dE l.length) (some (.int l.length))) ((kN d).bind λs=>aS (dE s.length) (some (.int s.length)))))
 (alt (aS (id=="sum") ((dV ds).bind λd=>(fX d).bind λl=>aS (dE l.length) ((intsOf l).bind λns=>some (.int ns.sum))))
 (alt (aS (id=="max") (alt ((allOf hv ds).bind λl=>(wY l).bind λt=>some (.υ (mI Float64.gt t.1 [t.2.1,t.2.2]))) (DL (λx m=>decide (m<x)) ds)))
 (alt (aS (id=="min") (alt ((intsOf ds).bind λl=>(mC l).bind λt=>some (.int (if decide (t.2<t.1) then t.2 else t.1))) (alt ((allOf hv ds).bind λl=>(wY l).bind λt=>some (.υ (mI Float64.lt t.1 [t.2.1,t.2.2]))) (DL (λx m=>decide (x<m)) ds))))
 (alt (aS (id=="chr") ((dV ds).bind λd=>(dv d).bind λi=>aS (decide (0<=i)&&decide (i<128)) (some (.str ⟨#[i.toNat]⟩))))
 (alt (aS (id=="sorted") ((dV ds).bind λd=>(fX d).bind λl=>aS (decide (l.length<64)) ((intsOf l).bind λns=>some (.lst ((sortI ns).map .int)))))
 (alt (aS (id=="abs") ((dV ds).bind λd=>(dv d).bind λi=>some (.int i.natAbs)))
 (aS (id=="ord") ((dV ds).bind λd=>(kN d).bind λs=>(dV s.cps.toList).bind λc=>some (.int c)))))))))
def truncF(x:UInt64):Option D:=Float64.Num.casesOn (Float64.decode x) none no λs m e=>some (.int (Float64.truncOf s m e))
def rT(n:String)(ds:List D):Option D:=alt (aS (n=="int") ((dV ds).bind λd=>(hv d).bind truncF)) (aS (n=="list") ((dV ds).bind λd=>(fX d).bind λl=>aS (dE l.length) (some (.lst l))))
noncomputable def jF(x:Int):List Int->Option Nat
 |[]=>none
 |y::r=>match y==x with
  |true=>some 0
  |false=>(jF x r).bind λi=>some (i+1)
def M1(name:Str)(o:D)(ds:List D):Option D:=(fX o).bind λl=>(dV ds).bind λd=>(dv d).bind λx=>(intsOf l).bind λns=>
 alt (aS (name==("count" :Str)) (some (.int (ns.count x:Nat)))) (aS (name==("index" :Str)&&dE ns.length) ((jF x ns).bind λj=>some (.int (j:Nat))))
def dictGet(name:Str)(o:D)(ds:List D):Option D:=aS (name==("get" :Str)) ((q1 o).bind λl=>(mC ds).bind λc=>(dv c.1).bind λk=>some ((l.lookup k).getD c.2))
def Nm(name:Str)(o:D)(ds:List D):Option D:=alt (M1 name o ds) (dictGet name o ds)
noncomputable def hg(o:Expr)(ap p:Pos):Bool:= !(Nat.beq o.ctorIdx 16)&& !(Nat.beq o.ctorIdx 22)&&ap.endLine==p.line
def K_(g:fT):Option Int:=fT.casesOn g some no none no no
def K'(g:fT):Option (List (Str×Int)):=fT.casesOn g no some none no no
def Lb(g:fT):Option String:=fT.casesOn g no no none no some
noncomputable def yi(v:aC):Option D:=aC.casesOn v some no no
noncomputable def tj(v:aC):Option D:=aC.casesOn v no some no
noncomputable def orElse{α β:Type}(o:Option α)(f:α->Option β)(b:Option β):Option β:=match o with
 |some a=>f a
 |none=>b
section
variable(S:dH)
def glob(K:Kinds)(σ:Γ)(x:Str):Option fT:=aS ((σ.get x).isNone&&K.lookup x==some .globalImplicit) (S.G.lookup x)
def oP(K:Kinds)(σ:Γ)(x:Str):Option String:=(glob S K σ x).bind Lb
def ET(K:Kinds)(σ:Γ)(x:Str):Option (List (Str×Int)):=(glob S K σ x).bind K'
def operand(ev:Kinds->Expr->Γ->Option D)(K:Kinds)(e:Expr)(σ:Γ):Option D:=orElse ((asName e).bind σ.gQ) (λv=>v.d) (ev K e σ)
noncomputable def yk(op:CmpOp):Bool:=Nat.ble 8 op.ctorIdx
def u5(ev:Kinds->Expr->Γ->Option D)(K:Kinds)(op:CmpOp)(e:Expr)(σ:Γ):Option D:=match yk op with
 |true=>ev K e σ
 |false=>operand ev K e σ
noncomputable def each(f:Expr->Option D):List Expr->Option (List D)
 |[]=>some []
 |e::r=>(f e).bind λd=>(each f r).bind λds=>some (d::ds)
def w6(f:Expr->Option D):Option Expr->Option (Option Int)
 |none=>some none
 |some e=>(f e).bind λd=>(dv d).bind λi=>some (some i)
noncomputable def vp(f:Expr->Option D):List (Option Expr)->List Expr->Option (List (Int×D))
 |[],vs=>aS vs.isEmpty (some [])
 |k::ks,vs=>k.bind λk=>(nv vs).bind λv=>(f k).bind λd=>(dv d).bind λi=>(f v.1).bind λd=>(vp f ks v.2).bind λr=>some ((i,d)::r)
noncomputable def storeAll(l:List (Int×D)):List (Int×D)->List (Int×D)
 |[]=>l
 |(k,v)::r=>storeAll (stored l k v) r
def Kc(c:Const):Option D:=Const.casesOn c (some .none) (λb=>some (.bool b)) (λi=>some (.int i)) (λx=>some (.υ x)) (λγ γ=>none) (λs=>some (.str s)) no none
noncomputable def rN(lo ρ step:Int):List D:=(List.range (Builtin.Range.rangeSize lo ρ step).toNat).map λ(k:Nat)=>.int (lo+(k:Int)*step)
def qaK(ns:List Int):Option (List D):=
 alt ((dV ns).bind λb=>aS (decide (b.natAbs<2^40)) (some (rN 0 b 1)))
 (alt ((mC ns).bind λt=>aS (decide (t.2.natAbs<2^40)&&decide (t.1.natAbs<2^40)) (some (rN t.1 t.2 1)))
 ((wY ns).bind λt=>aS (decide (t.2.1.natAbs<2^40)&&decide (t.1.natAbs<2^40)&&(t.2.2== -1||t.2.2==2)) (some (rN t.1 t.2.1 t.2.2))))
def Oc(ds:List D):Option (List D):=(intsOf ds).bind qaK
noncomputable def kc(n:Int):List D->List D
 |[]=>[]
 |d::r=>.tup [.int n,d]::kc (n+1) r
def itemsOf(d:D):Option (List D):=alt (fX d) (alt (lG d) ((q1 d).bind λl=>some (l.map λp=>D.int p.1)))
noncomputable def pairD:List D->List D->List D
 |a::r,b::q=>.tup [a,b]::pairD r q
 |_,_=>[]
def eY(e:Expr):Option (Str×List Expr):=(kL e).bind λc=>aS c.2.2.isEmpty ((asName c.1).bind λg=>some (g,c.2.1))
noncomputable def pP(e:Expr):Pos:=if h:e.ctorIdx=16 then Expr.Call.elim (motive_1:=λγ=>Pos) e h λγ γ γ p=>p else⟨0,0,0,0⟩
def zW(e:Expr):Option (Expr×Str):=(kL e).bind λc=>(oy c.1).bind λa=>aS (c.2.2.isEmpty&&c.2.1.isEmpty&&hg a.1 a.2.2 (pP e)) (some (a.1,a.2.1))
def dj(ev:Kinds->Expr->Γ->Option D)(K:Kinds)(e:Expr)(σ:Γ):Option (List D):=
 alt ((eY e).bind λc=>(oP S K σ c.1).bind λn=>alt (aS (n=="range") ((each (λa=>ev K a σ) c.2).bind Oc))
  (alt (aS (n=="enumerate" &&c.1==("enumerate" :Str)) ((dV c.2).bind λa=>(operand ev K a σ).bind λd=>(fX d).bind λl=>aS (dE l.length) (some (kc 0 l))))
  (aS (n=="zip" &&c.1==("zip" :Str)) ((mC c.2).bind λa=>(ev K a.1 σ).bind λd=>(fX d).bind λl=>(ev K a.2 σ).bind λd=>(fX d).bind λm=>some (pairD l m)))))
 (alt ((zW e).bind λc=>(operand ev K c.1 σ).bind λd=>(q1 d).bind λl=>alt (aS (c.2==("items" :Str)) (some (l.map λp=>.tup [.int p.1,p.2]))) (aS (c.2==("values" :Str)) (some (l.map λp=>p.2))))
 ((operand ev K e σ).bind itemsOf))
noncomputable def jV:Str:="mates"
def eU(x:Str):Bool:= !(x==("__debug__" :Str))&& !(x==("__classdict__" :Str))&& !(i0 x)
def storeOk(K:Kinds)(x:Str):Bool:=eU x&&(K.lookup x==some .local||K.lookup x==some .cell)
noncomputable def isTup(e:Expr):Bool:=Nat.beq e.ctorIdx 25
def NC(e:Expr):Bool:=match kL e with
 |some c=>(match asName c.1 with|some f=>f==("enumerate" :Str)||f==("zip" :Str)|none=>(match oy c.1 with|some a=>a.2.1==("items" :Str)|none=>false))
 |none=>false
def lb(e t:Expr):Bool:= !(NC e)||isTup t
noncomputable def bindNames(K:Kinds):List Expr->List D->Γ->Option Γ
 |[],ds,σ=>aS ds.isEmpty (some σ)
 |t::ba,ds,σ=>(asName t).bind λx=>(nv ds).bind λd=>aS (storeOk K x) (bindNames K ba d.2 (σ.set x (.val d.1)))
def iR(K:Kinds)(t:Expr)(d:D)(σ:Γ):Option Γ:=
 alt ((asName t).bind λx=>aS (storeOk K x) (some (σ.set x (.val d)))) ((hR t).bind λba=>(lG d).bind λds=>bindNames K ba ds σ)
def targetNames(t:Expr):List Str:=match asName t with
 |some x=>[x]
 |none=>(match hR t with|some ba=>ba.filterMap asName|none=>[])
noncomputable def tD(z:Expr->Γ->Option Bool)(σ:Γ):List Expr->Option Bool
 |[]=>some true
 |c::cs=>(z c σ).bind λb=>match b with|true=>tD z σ cs|false=>some false
noncomputable def lQ(z:Expr->Γ->Option Bool)(K:Kinds)(t:Expr)(ifs:List Expr)(k:Γ->Option (List D))(σ:Γ):List D->Option (List D)
 |[]=>some []
 |d::ds=>(iR K t d σ).bind λσ'=>(tD z σ' ifs).bind λb=>match b with
  |false=>lQ z K t ifs k σ ds
  |true=>(k σ').bind λout=>(lQ z K t ifs k σ ds).bind λrest=>some (out++rest)
noncomputable def freeNames(σ:Γ)(xs:List Str):Bool:=xs.all λx=>(σ.get x).isNone
def nB(σ:Γ)(g:Comprehension):Bool:=freeNames σ (targetNames g.target)&&g.is_async==0&&lb g.iter g.target
noncomputable def uA(it:Expr->Γ->Option (List D))(z:Expr->Γ->Option Bool)(K:Kinds)(elt:Γ->Option (List D)):List Comprehension->Γ->Option (List D)
 |[],σ=>elt σ
 |g::gs,σ=>aS (nB σ g) ((it g.iter σ).bind λitems=>lQ z K g.target g.ifs (uA it z K elt gs) σ items)
def fH(names:Kinds)(σ:Γ):Γ:=names.filterMap λp=>match p.2 with
 |.local|.cell=>some (p.1,none)
 |.free=>some (p.1,σ.gQ p.1)
 |_=>none
noncomputable def Bd:Str:=Str.ofString "<lambda>"
def rH(K:Kinds):Bool:= !(K.any λp=>p.1==Bd)
def lY(names:Kinds):Kinds:=names++[(Bd,.globalExplicit)]
def closes(K names:Kinds):Bool:=rH K&&names.all λp=>match p.2 with
 |.free=>K.lookup p.1==some .cell||K.lookup p.1==some .free
 |_=>true
noncomputable def mX(sc:Scope):Bool:=sc.kind==.function&& !sc.isCoroutine&&sc.names.all λp=>sc.names.lookup p.1==some p.2
end
end Internal
namespace Internal
section
variable(S:dH)
def DA(e:Expr):Option (Expr×Expr):=if h:e.ctorIdx=2 then Expr.BinOp.elim (motive_1:=λγ=>Option (Expr×Expr)) e h λl op r γ=>aS (Nat.beq op.ctorIdx 0) (some (l,r)) else none
def O'(e:Expr):Option (Str×Str):=(DA e).bind λc=>(asName c.1).bind λa=>(asName c.2).bind λb=>aS (eU a&&eU b) (some (a,b))
noncomputable def rX:List Int->List Int->List D
 |a::r,b::q=>.int (a+b)::rX r q
 |_,_=>[]
def keyOf(ev:Kinds->Expr->Γ->Option D)(names:Kinds)(x:Str)(body:Expr)(σ:Γ)(d:D):Option Int:=
 (ev names body ((fH names σ).set x (.val d))).bind dv
noncomputable def keyed(f:D->Option Int):List D->Option (List (Int×D))
 |[]=>some []
 |d::r=>(f d).bind λk=>(keyed f r).bind λq=>some ((k,d)::q)
def DB(ao:Arguments):Option Str:=aS (ao.posonlyargs.isEmpty&&ao.vararg.isNone&&ao.kwonlyargs.isEmpty&&ao.kw_defaults.isEmpty&&ao.kwarg.isNone&&ao.defaults.isEmpty)
 ((dV ao.args).bind λa=>aS a.annotation.isNone (some a.arg))
def YB(K:Kinds)(key a:Str)(sc:Scope):Bool:=key==("key" :Str)&&closes K sc.names&&mX sc&& !sc.isGenerator&&a==("k" :Str)&&sc.names.lookup a==some .local&&sc.names.all (λp=> !(p.2==.cell))&& !(sc.names.any λp=>p.1==Bd)
def K9(g:fT):Option String:=fT.casesOn g no no none some no
def MQ(ev:Kinds->Expr->Γ->Option D)(K:Kinds)(σ:Γ)(f key:Str)(x:Expr)(a:Str)(body:Expr)(sc:Scope):Option D:=
 (glob S K σ f).bind λg=>(K9 g).bind λid=>aS (id=="sorted" &&YB K key a sc) ((operand ev K x σ).bind λd=>(fX d).bind λl=>aS (decide (l.length<64)) ((keyed (keyOf ev (lY sc.names) a body σ) l).bind λks=>some (.lst ((hl ks).map (·.2)))))
def MP(ev:Kinds->Expr->Γ->Option D)(K:Kinds)(σ:Γ)(f:Expr)(args:List Expr)(kw:Keyword)(z:List Keyword):Option D:=
 aS z.isEmpty ((asName f).bind λg=>(dV args).bind λx=>kw.arg.bind λkey=>(zT kw.value).bind λl=>(DB l.1).bind λa=>MQ S ev K σ g key x a l.2.1 l.2.2)
def DF(l:List Expr):Option (Str×Expr):=(dV l).bind λe=>(eY e).bind λc=>(dV c.2).bind λx=>some (c.1,x)
def JE(l:List Expr):Option (Expr×Str):=(mC l).bind λc=>(asName c.2).bind λg=>some (c.1,g)
def asPair(e:Expr):Option (Str×Str):=(hR e).bind λes=>(mC es).bind λc=>(asName c.1).bind λa=>(asName c.2).bind λb=>some (a,b)
def JI(e:Expr):Option (Str×Expr×Expr):=(eY e).bind λc=>(mC c.2).bind λd=>some (c.1,d.1,d.2)
def Jz(l:List Expr):Option (Expr×Str×Str×Str×Expr×Expr×Scope):=(dV l).bind λe=>(DD e).bind λc=>(dV c.2.1).bind λg=>
 aS (g.ifs.isEmpty&&g.is_async==0) ((asPair g.target).bind λu=>(JI g.iter).bind λw=>some (c.1,u.1,u.2,w.1,w.2.1,w.2.2,c.2.2))
def KZ(ev:Kinds->Expr->Γ->Option D)(K:Kinds)(σ:Γ)(f:Str)(args:List Expr):Option D:=aS (!args.isEmpty) ((each (λa=>ev K a σ) args).bind λds=>S.C2 f ds)
def BW(ev:Kinds->Expr->Γ->Option D)(K:Kinds)(σ:Γ)(args:List Expr):Option D:=(DF args).bind λc=>(oP S K σ c.1).bind λn=>aS (n=="set") ((operand ev K c.2 σ).bind λd=>(fX d).bind λl=>aS (decide (l.length+1<4096)) ((intsOf l).bind λns=>some (.int (unlike ns))))
noncomputable def ME(d:D):Option Bool:=D.casesOn d none no (λγ=>some false) no no (λγ=>some true) no no
def Mz(ev:Kinds->Expr->Γ->Option D)(K:Kinds)(σ:Γ)(args:List Expr):Option D:=(JE args).bind λc=>(oP S K σ c.2).bind λn=>aS (n=="tuple") ((ev K c.1 σ).bind λd=>(ME d).bind λb=>some (.bool b))
def Pz(K:Kinds)(a b:Str)(elt:Expr)(sc:Scope):Bool:=rH K&&O' elt==some (a,b)&& !(a==b)&&sc.names.lookup a==some .local&&sc.names.lookup b==some .local&&sc.names.lookup (".0" :Str)==some .local&&mX sc&&sc.names.all (λp=>p.2==.local)
def HH(ev:Kinds->Expr->Γ->Option D)(K:Kinds)(σ:Γ)(args:List Expr):Option D:=(Jz args).bind λc=>(oP S K σ c.2.2.2.1).bind λz=>aS (z=="zip" &&Pz K c.2.1 c.2.2.1 c.1 c.2.2.2.2.2.2)
 ((ev K c.2.2.2.2.1 σ).bind λd=>(lG d).bind λl=>(ev K c.2.2.2.2.2.1 σ).bind λd=>(lG d).bind λm=>(intsOf l).bind λns=>(intsOf m).bind λms=>aS (dE ns.length&&Nat.beq ns.length ms.length) (some (.tup (rX ns ms))))
def Si(ev:Kinds->Expr->Γ->Option D)(K:Kinds)(σ:Γ)(f:Str)(args:List Expr)(g:fT):Option D:=fT.casesOn g no no
 (KZ S ev K σ f args)
 (λid=>alt (aS (id=="len") (BW S ev K σ args)) (alt (aS (id=="isinstance") (Mz S ev K σ args)) ((each (λa=>operand ev K a σ) args).bind λds=>uo id ds)))
 (λn=>alt (aS (n=="tuple") (HH S ev K σ args)) ((each (λa=>operand ev K a σ) args).bind λds=>rT n ds))
def w_(ev:Kinds->Expr->Γ->Option D)(K:Kinds)(σ:Γ)(f:Str)(args:List Expr):Option D:=(glob S K σ f).bind (Si S ev K σ f args)
def Pg(ev:Kinds->Expr->Γ->Option D)(K:Kinds)(σ:Γ)(o:Expr)(args:List Expr):Option D:=(asName o).bind λg=>(ET S K σ g).bind λt=>(each (λa=>ev K a σ) args).bind λds=>(mC ds).bind λc=>(kN c.1).bind λx=>
 some (match t.lookup x with|some i=>.int i|none=>c.2)
def OR(ev:Kinds->Expr->Γ->Option D)(K:Kinds)(σ:Γ)(o:Expr)(args:List Expr):Option D:=(wW o).bind λs=>(dV args).bind λa=>(ev K a σ).bind λd=>(kN d).bind λy=>
 aS (!(y.length==0)&&dE s.length&&dE (Builtin.Str.partsBetween s (Builtin.Str.occurrences s y 0 s.length (s.length+1)) y.length).length) (some (.lst ((Txt.split s y).map D.str)))
def MH(ev:Kinds->Expr->Γ->Option D)(K:Kinds)(σ:Γ)(o:Expr)(args:List Expr):Option D:=(wW o).bind λs=>(dV args).bind λa=>(operand ev K a σ).bind λd=>(fX d).bind λl=>(strsOf l).bind λxs=>aS (JoinOk s xs) (some (.str (Txt.join s xs)))
def N8(ev:Kinds->Expr->Γ->Option D)(K:Kinds)(σ:Γ)(o:Expr)(m:Str)(args:List Expr):Option D:=(operand ev K o σ).bind λa=>(each (λa=>ev K a σ) args).bind λds=>Nm m a ds
def Bj(ev:Kinds->Expr->Γ->Option D)(K:Kinds)(σ:Γ)(o:Expr)(m:Str)(ap:Pos)(args:List Expr)(p:Pos):Option D:=aS (hg o ap p&&decide (args.length<20))
 (alt (aS (m==("get" :Str)) (Pg S ev K σ o args)) (alt (aS (m==("split" :Str)) (OR ev K σ o args)) (alt (aS (m==("join" :Str)) (MH ev K σ o args)) (N8 ev K σ o m args))))
def Ny(K:Kinds)(x:Str)(σ:Γ):Option D:=orElse (σ.gQ x) yi ((glob S K σ x).bind λg=>(K_ g).bind λi=>some (.int i))
def Mq(op:CmpOp)(K:Kinds)(r:Expr)(σ:Γ)(a:D):Option D:=aS (Nat.beq op.ctorIdx 8) ((asName r).bind λg=>(ET S K σ g).bind λt=>(kN a).bind λx=>some (.bool (t.any λp=>p.1==x)))
def xa(ev:Kinds->Expr->Γ->Option D)(K:Kinds)(l:Expr)(op:CmpOp)(r:Expr)(σ:Γ):Option D:=(u5 ev K op l σ).bind λa=>alt (Mq S op K r σ a) ((operand ev K r σ).bind λb=>(e' op a b).bind λx=>some (.bool x))
noncomputable def nC{α:Type}(c:Bool)(a b:Option α):Option α:=match c with
 |true=>a
 |false=>b
def B4(ev:Kinds->Expr->Γ->Option D)(K:Kinds)(v i:Expr)(σ:Γ):Option D:=(operand ev K v σ).bind λd=>orElse (jB i)
 (λc=>(w6 (λa=>ev K a σ) c.1).bind λa=>(w6 (λa=>ev K a σ) c.2).bind λb=>slice d a b) ((ev K i σ).bind λj=>index d j)
def jc(ev:Kinds->Expr->Γ->Option D)(y:Kinds->Expr->Γ->Option Bool)(K:Kinds)(elt:Γ->Option (List D))(gens:List Comprehension)(sc:Scope)(σ:Γ):Option (List D):=
 (nv gens).bind λg=>aS (closes K sc.names&&mX sc&&nB (fH sc.names σ) g.1) ((dj S ev K g.1.iter σ).bind λitems=>
   (lQ (λc z=>y sc.names c z) sc.names g.1.target g.1.ifs (uA (λe z=>dj S ev sc.names e z) (λc z=>y sc.names c z) sc.names elt g.2) (fH sc.names σ) items).bind λout=>aS (dE out.length) (some out))
noncomputable def xh(ev:Kinds->Expr->Γ->Option D)(K:Kinds)(e:Expr)(z:Γ):Option (List D):=(ev K e z).bind λd=>some [d]
def pR(ev:Kinds->Expr->Γ->Option D)(K:Kinds)(k v:Expr)(z:Γ):Option (List D):=(ev K k z).bind λd=>(dv d).bind λi=>(ev K v z).bind λd=>some [.tup [.int i,d]]
def pairOf(p:D):Option (Int×D):=(lG p).bind λl=>(mC l).bind λc=>(dv c.1).bind λi=>some (i,c.2)
def Ux(ev:Kinds->Expr->Γ->Option D)(z:Kinds->Expr->Γ->Option Bool)(K:Kinds)(e:Expr)(σ:Γ):Option D:=Expr.casesOn e
 (λγ γ γ=>none) (λγ γ γ=>none)
 (λl op r γ=>(operand ev K l σ).bind λa=>(operand ev K r σ).bind λb=>binop op a b)
 (λop x γ=>aS (Nat.beq op.ctorIdx 3) ((ev K x σ).bind λd=>(dv d).bind λi=>some (.int (-i))))
 (λγ γ γ γ=>none)
 (λt b o γ=>(z K t σ).bind λc=>nC c (ev K b σ) (ev K o σ))
 (λks vs γ=>aS (decide (ks.length<=15)) ((vp (λa=>ev K a σ) ks vs).bind λao=>some (.aX (storeAll [] ao))))
 (λγ γ γ=>none)
 (λelt gens sc γ=>(jc S ev z K (xh ev sc.names elt) gens sc σ).bind λout=>some (.lst out))
 (λγ γ γ γ=>none)
 (λk v gens sc γ=>(jc S ev z K (pR ev sc.names k v) gens sc σ).bind λout=>some (.aX (storeAll [] (out.filterMap pairOf))))
 (λγ γ γ γ=>none) (λγ γ=>none) (λγ γ=>none) (λγ γ=>none)
 (λl ops rs γ=>(dV ops).bind λop=>(dV rs).bind λr=>xa S ev K l op r σ)
 (λf args y p=>match y with
   |[]=>alt ((asName f).bind λx=>w_ S ev K σ x args) ((oy f).bind λa=>Bj S ev K σ a.1 a.2.1 a.2.2 args p)
   |kw::y=>MP S ev K σ f args kw y)
 (λγ γ γ γ=>none) (λγ γ=>none)
 (λc γ γ=>Kc c)
 (λγ γ γ=>none)
 (λv i γ=>B4 ev K v i σ)
 (λγ γ=>none)
 (λx γ=>Ny S K x σ)
 (λes γ=>(each (λa=>ev K a σ) es).bind λds=>aS (dE ds.length) (some (.lst ds)))
 (λes γ γ=>(each (λa=>ev K a σ) es).bind λds=>aS (dE ds.length) (some (.tup ds)))
 (λγ γ γ γ=>none)
noncomputable def pJ(e:Expr):Option (BoolOp×List Expr):=if h:e.ctorIdx=0 then Expr.BoolOp.elim (motive_1:=λγ=>Option (BoolOp×List Expr)) e h λop es γ=>some (op,es) else none
def qcX(ev:Kinds->Expr->Γ->Option D)(al:BoolOp->List Expr->Kinds->Γ->Option Bool)(K:Kinds)(e:Expr)(σ:Γ):Option Bool:=
 orElse (pJ e) (λc=>al c.1 c.2 K σ) (aS (!(Nat.beq e.ctorIdx 5)&& !(Nat.beq e.ctorIdx 3)) ((ev K e σ).bind so))
mutual
noncomputable def μ:Nat->Kinds->Expr->Γ->Option D
 |0,_,_,_=>none
 |n+1,K,e,σ=>Ux S (μ n) (b9 n) K e σ
noncomputable def b9:Nat->Kinds->Expr->Γ->Option Bool
 |0,_,_,_=>none
 |n+1,K,e,σ=>qcX (μ n) (λop es=>sl op es n) K e σ
noncomputable def sl(op:BoolOp)(es:List Expr):Nat->Kinds->Γ->Option Bool
 |0,_,_=>none
 |n+1,K,σ=>aS (Nat.beq op.ctorIdx 1) (match es with
  |[]=>some false
  |x::r=>(b9 n K x σ).bind λb=>nC b (some true) (sl op r n K σ))
end
end
end Internal
namespace Internal
section
variable(S:dH)
inductive cw where
 |next
 |ret (d:D)
 deriving Inhabited
noncomputable def fresh(e:Expr):Bool:=Nat.beq e.ctorIdx 24||Nat.beq e.ctorIdx 6||Nat.beq e.ctorIdx 8||Nat.beq e.ctorIdx 10
def uJ(K:Kinds)(σ:Γ)(e:Expr):Bool:=fresh e||(eY e).bind (λc=>oP S K σ c.1)==some "list"
def ui(own:List Str)(K:Kinds)(σ:Γ)(x:Str)(e:Expr)(d:D):Option aC:=nC (own.contains x) (aS (uJ S K σ e) (some (.own d))) (some (.val d))
noncomputable def gf(n:Nat)(own:List Str)(K:Kinds)(σ:Γ):List Expr->List Expr->Option (List (Str×aC))
 |[],es=>aS es.isEmpty (some [])
 |t::ba,es=>(asName t).bind λx=>(nv es).bind λe=>aS (storeOk K x) ((μ S n K e.1 σ).bind λd=>(gf n own K σ ba e.2).bind λr=>(ui S own K σ x e.1 d).bind λlv=>some ((x,lv)::r))
noncomputable def ez(σ:Γ):List (Str×aC)->Γ
 |[]=>σ
 |(x,v)::r=>ez (σ.set x v) r
noncomputable def oF:List Str->Bool
 |[]=>true
 |x::r=> !r.contains x&&oF r
def putAt(d:D)(i:D)(v:D):Option D:=(dv i).bind λk=>alt ((fX d).bind λl=>aS (decide (k.natAbs<2^62)&&decide (0<=k)&&decide (k.toNat<l.length)) (some (.lst (l.set k.toNat v))))
 ((q1 d).bind λl=>aS (dE (l.length+1)) (some (.aX (stored l k v))))
noncomputable def mc(t:Γ->Option Bool)(b:Γ->Option (Γ×cw)):Nat->Γ->Option (Γ×cw)
 |0,_=>none
 |n+1,σ=>(t σ).bind λc=>nC c ((b σ).bind λr=>match r.2 with
   |.next=>mc t b n r.1
   |.ret _=>some r) (some (σ,.next))
noncomputable def ec(K:Kinds)(t:Expr)(b:Γ->Option (Γ×cw)):List D->Γ->Option (Γ×cw)
 |[],σ=>some (σ,.next)
 |d::ds,σ=>(iR K t d σ).bind λσ'=>(b σ').bind λr=>match r.2 with
   |.next=>ec K t b ds r.1
   |.ret _=>some r
def Aw(σ:Γ)(x:Str):Γ:=match(σ.gQ x).bind tj with
 |some d=>σ.set x (.val d)
 |none=>σ
def ed(σ:Γ)(e:Expr):Γ:=match asName e with
 |some x=>Aw σ x
 |none=>σ
noncomputable def noOwn(σ:Γ):Γ:=σ.map λp=>(p.1,p.2.bind λv=>(yi v).bind λd=>some (.val d))
noncomputable def next(σ:Γ):Option (Γ×cw):=some (σ,.next)
def p1(σ:Γ)(x:Str):Option D:=(σ.gQ x).bind tj
def Li(σ:Γ)(x:Str):Option D:=(σ.gQ x).bind yi
def KO(n:Nat)(own:List Str)(K:Kinds)(x:Str)(e:Expr)(σ:Γ):Option (Γ×cw):=aS (storeOk K x) ((μ S n K e σ).bind λd=>(ui S own K σ x e d).bind λlv=>next (σ.set x lv))
def ts(vs:List (Str×aC))(es:List Expr):Bool:=oF (vs.map (·.1))&&decide (2<=vs.length)&&dE vs.length&&(!es.all (constantsAlone 8)||es.all (foldedForSure 8))
def KP(n:Nat)(own:List Str)(K:Kinds)(ba es:List Expr)(σ:Γ):Option (Γ×cw):=(gf S n own K σ ba es).bind λvs=>aS (ts vs es) (next (ez σ vs))
def KR(n:Nat)(own:List Str)(K:Kinds)(t e:Expr)(σ:Γ):Option (Γ×cw):=(μ S n K e σ).bind λd=>(iR K t d σ).bind λσ'=>aS ((targetNames t).all (λx=> !own.contains x)) (next σ')
def KQ(n:Nat)(K:Kinds)(x:Str)(i e:Expr)(σ:Γ):Option (Γ×cw):=(μ S n K e σ).bind λv=>(p1 σ x).bind λd=>(μ S n K i σ).bind λj=>(putAt d j v).bind λd'=>next (σ.set x (.own d'))
def UB(n:Nat)(own:List Str)(K:Kinds)(x:Str)(e:Expr)(σ:Γ):Option (Γ×cw):=aS (storeOk K x&& !own.contains x) ((Li σ x).bind λd=>(dv d).bind λa=>(μ S n K e σ).bind λd=>(dv d).bind λb=>next (σ.set x (.val (.int (a+b)))))
def KN(n:Nat)(K:Kinds)(x:Str)(i e:Expr)(σ:Γ):Option (Γ×cw):=(p1 σ x).bind λd=>(μ S n K i σ).bind λj=>(index d j).bind λc=>(dv c).bind λa=>(μ S n K e σ).bind λc=>(dv c).bind λb=>
 (putAt d j (.int (a+b))).bind λd'=>next (σ.set x (.own d'))
def Am(n:Nat)(K:Kinds)(x:Str)(e:Expr)(σ:Γ):Option (Γ×cw):=(p1 σ x).bind λd=>(fX d).bind λl=>(μ S n K e σ).bind λd=>aS (dE (l.length+1)) (next (σ.set x (.own (.lst (l++[d])))))
def Ez(n:Nat)(K:Kinds)(x:Str)(e:Expr)(σ:Γ):Option (Γ×cw):=(p1 σ x).bind λd=>(fX d).bind λl=>(μ S n K e σ).bind λd=>(fX d).bind λm=>aS (dE (l.length+m.length)) (next (σ.set x (.own (.lst (l++m)))))
noncomputable def F5(g:fT):Bool:=Nat.beq g.ctorIdx 2
def Ey(n:Nat)(K:Kinds)(f:Str)(args:List Expr)(σ:Γ):Option (Γ×cw):=(nv args).bind λa=>(asName a.1).bind λx=>(p1 σ x).bind λd=>(glob S K σ f).bind λg=>aS (F5 g) ((each (λe=>μ S n K e σ) a.2).bind λds=>(S.zx f d ds).bind λd'=>next (σ.set x (.own d')))
noncomputable def ue(e:Expr):Option (Expr×Expr×List Comprehension×Scope):=if h:e.ctorIdx=10 then Expr.DictComp.elim (motive_1:=λγ=>Option (Expr×Expr×List Comprehension×Scope)) e h λk v gs sc γ=>some (k,v,gs,sc) else none
noncomputable def zU(e:Expr):Option (List Expr):=if h:e.ctorIdx=24 then Expr.List.elim (motive_1:=λγ=>Option (List Expr)) e h λes γ=>some es else none
def uF(d:D):Bool:=match fX d with
 |some l=>l.isEmpty
 |none=>false
def Br(out:List D):Option (List Int):=let l:=storeAll [] (out.filterMap pairOf);aS (l.all λp=>uF p.2) (some (l.map (·.1)))
def yp:Nat->Kinds->Γ->Expr->Option (List Int)
 |0,_,_,_=>none
 |n+1,K,σ,e=>(ue e).bind λc=>(zU c.2.1).bind λes=>aS es.isEmpty ((jc S (μ S n) (b9 S n) K (pR (μ S n) c.2.2.2.names c.1 c.2.1) c.2.2.1 c.2.2.2 σ).bind Br)
noncomputable def MB(v:aC):Bool:=Nat.beq v.ctorIdx 2
def GO(σ:Γ):Bool:=σ.all λp=> !(p.2.any MB)
def p8(ks:List Int):List (Str×aC):=ks.map λk=>(cz k,.own (.lst []))
def Ao(n:Nat)(own:List Str)(K:Kinds)(ba es:List Expr)(σ:Γ):Option (Γ×cw):=(nv ba).bind λt=>(asName t.1).bind λx=>aS (x==jV&&storeOk K x&&GO σ) ((nv es).bind λe=>(yp S n K σ e.1).bind λks=>
 aS ((ks.all λk=>decide (0<=k)&&own.contains (cz k))&&oF ((p8 ks).map (·.1))) ((gf S n own K σ t.2 e.2).bind λvs=>aS (ts ((x,.gn ks)::vs) es) (next (ez σ (p8 ks++(x,.gn ks)::vs)))))
def yh(v:aC):Option (List Int):=aC.casesOn v no no some
noncomputable def BO(σ:Γ):List Int->Option (List (Int×D))
 |[]=>some []
 |k::r=>((σ.get (cz k)).bind tj).bind λd=>(BO σ r).bind λq=>some ((k,d)::q)
def sG(σ:Γ):Γ:=σ.map λp=>(p.1,if i0 p.1 then none else p.2)
def ph(σ:Γ):Option Γ:=match(σ.gQ jV).bind yh with
 |none=>some σ
 |some ks=>(BO σ ks).bind λl=>some ((sG σ).set jV (.val (.aX l)))
def q2(e:Expr):Option (Str×Expr):=(nx e).bind λc=>(asName c.1).bind λx=>some (x,c.2)
def jA(e:Expr):Option (Str×Expr):=(kL e).bind λc=>(oy c.1).bind λa=>(asName a.1).bind λx=>(dV c.2.1).bind λy=>aS (c.2.2.isEmpty&&a.2.1==("append" :Str)&&hg a.1 a.2.2 (pP e)) (some (x,y))
def j_(e:Expr):Option (Str×Expr):=(kL e).bind λc=>(oy c.1).bind λa=>(asName a.1).bind λx=>(dV c.2.1).bind λy=>aS (c.2.2.isEmpty&&a.2.1==("extend" :Str)&&hg a.1 a.2.2 (pP e)) (some (x,y))
def zX(e:Expr):Option (Str×Expr×Expr):=(kL e).bind λc=>(oy c.1).bind λa=>(q2 a.1).bind λs=>(dV c.2.1).bind λy=>aS (c.2.2.isEmpty&&a.2.1==("append" :Str)&&hg a.1 a.2.2 (pP e)) (some (s.1,s.2,y))
def EA(n:Nat)(K:Kinds)(x:Str)(i y:Expr)(σ:Γ):Option (Γ×cw):=((σ.gQ x).bind yh).bind λks=>(μ S n K i σ).bind λd=>(dv d).bind λk=>aS (ks.contains k) (((σ.get (cz k)).bind tj).bind λd=>(fX d).bind λl=>(μ S n K y σ).bind λd=>aS (dE (l.length+1)) (next (σ.set (cz k) (.own (.lst (l++[d]))))))
def xi(n:Nat)(own:List Str)(K:Kinds)(t e:Expr)(σ:Γ):Option (Γ×cw):=orElse (asName t) (λx=>KO S n own K x e σ)
 (orElse (hR t) (λba=>orElse (hR e) (λes=>alt (Ao S n own K ba es σ) ((ph σ).bind λσ=>KP S n own K ba es σ)) (KR S n own K t e σ)) ((q2 t).bind λc=>KQ S n K c.1 c.2 e σ))
def An(n:Nat)(own:List Str)(K:Kinds)(t:Expr)(op:Operator)(e:Expr)(σ:Γ):Option (Γ×cw):=aS (Nat.beq op.ctorIdx 0) (alt ((asName t).bind λx=>UB S n own K x e σ) ((q2 t).bind λc=>KN S n K c.1 c.2 e σ))
def EC(n:Nat)(y:List Str->Kinds->List Stmt->Γ->Option (Γ×cw))(own:List Str)(K:Kinds)(st:Stmt)(σ:Γ):Option (Γ×cw):=Stmt.casesOn st
 (λγ γ γ γ γ γ γ γ γ γ=>none) (λγ γ γ γ γ γ γ γ γ γ=>none) (λγ γ γ γ γ γ γ γ γ γ γ=>none)
 (λe γ=>e.bind λe=>(μ S n K e σ.freeze).bind λd=>some (σ,.ret d))
 (λγ γ=>none)
 (λba e γ=>(dV ba).bind λt=>xi S n own K t e σ)
 (λγ γ γ γ γ γ γ=>none)
 (λt op e γ=>An S n own K t op e σ)
 (λγ γ γ γ γ=>none)
 (λt e b o γ=>aS o.isEmpty ((dj S (μ S n) K e (noOwn (ed σ e))).bind λitems=>aS ((targetNames t).all (λx=> !own.contains x)&&lb e t) (ec K t (λz=>y own K b z) items (ed σ e))))
 (λγ γ γ γ γ=>none)
 (λt b o γ=>aS o.isEmpty (mc (λz=>b9 S n K t z) (λz=>y own K b z) S.N σ))
 (λt b o γ=>(b9 S n K t σ).bind λc=>nC c (y own K b σ) (y own K o σ))
 (λγ γ γ=>none) (λγ γ γ=>none) (λγ γ γ=>none) (λγ γ γ=>none) (λγ γ γ γ γ=>none) (λγ γ γ γ γ=>none)
 (λγ γ γ=>none) (λγ γ=>none) (λγ γ γ γ=>none) (λγ γ=>none) (λγ γ=>none)
 (λe γ=>alt ((jA e).bind λc=>Am S n K c.1 c.2 σ) (alt ((j_ e).bind λc=>Ez S n K c.1 c.2 σ) (alt ((eY e).bind λc=>Ey S n K c.1 c.2 σ) ((zX e).bind λc=>EA S n K c.1 c.2.1 c.2.2 σ))))
 no
 no
 no
mutual
noncomputable def aK:Nat->List Str->Kinds->Stmt->Γ->Option (Γ×cw)
 |0,_,_,_,_=>none
 |n+1,own,K,st,σ=>EC S n (bw n) own K st σ
noncomputable def bw:Nat->List Str->Kinds->List Stmt->Γ->Option (Γ×cw)
 |0,_,_,_,_=>none
 |n+1,own,K,z,σ=>match z with
  |[]=>next σ
  |st::r=>(aK n own K st σ).bind λx=>match x.2 with
   |.next=>bw n own K r x.1
   |.ret _=>some x
end
def LQ:List Str:=(List.range 10).map λ(k:Nat)=>cz k
noncomputable def names0(K:Kinds):Γ:=K.filterMap λp=>match p.2 with|.local|.cell=>some (p.1,none)|_=>none
def sL(K:Kinds):Γ:=names0 K++if(names0 K).any (λp=>p.1==jV) then LQ.map λx=>(x,none) else[]
noncomputable def jX:cw->Option D
 |.ret d=>some d
 |.next=>none
def vB(own:List Str)(K:Kinds)(params:List Str)(body:List Stmt)(ds:List D):Option D:=
 aS (params.length==ds.length&&params.all (λx=>storeOk K x&& !own.contains x))
  ((bw S 60 own K body (ez (sL K) ((params.zip ds).map λp=>(p.1,.val p.2)))).bind λr=>jX r.2)
noncomputable def MA:cw->Bool
 |.next=>true
 |.ret _=>false
def BS(K:Kinds)(params:List Str)(body:List Stmt)(d:D)(ds:List D):Option D:=(nv params).bind λp=>
 aS (p.2.length==ds.length&&params.all (λx=>storeOk K x))
  ((bw S 60 [] K body (ez (sL K) ((p.1,.own d)::(p.2.zip ds).map λq=>(q.1,.val q.2)))).bind λr=>aS (MA r.2) (p1 r.1 p.1))
end
end Internal
namespace Internal
open PySem.SeqAt
section
variable{C:aE}{A:Around}{B:Addr->Prop}{F F':bc}{s:Shared}{k:Nat}
def fW(C:aE)(F:bc)(h:Heap)(B:Addr->Prop)(d:D):Addr->Prop:=D.casesOn d (λγ=>False) (λγ γ=>False) (λγ γ=>False) (λγ γ=>False) (λγ γ=>False) (λγ γ=>False) (λds a=>∃vs,h.PlainList a (List.toArray vs)/\bA C F h B ds vs)
 λds a=>(a==sysModules)=false/\∃us,h.DictOf C.dR a us/\cL C F h B ds us
def cf(C:aE)(F:bc)(h:Heap)(B:Addr->Prop)(d:D)(v:Value):Prop:=Den C F h B d v∨∃a,v=.ref a/\fW C F h B d a
variable{h h':Heap}{B':Addr->Prop}{v:Value}
theorem fW.grow(G:dt F h B F' h' B')(y:∀o,h.get? a=some o->h'.get? a=some o)(H:fW C F h B d a):fW C F' h' B' d a:=by
 cases d with
 |lst ds=>obtain⟨vs,ε,z⟩:=H;exact⟨vs,ε.at y,z.grow G⟩
 |aX ds=>obtain⟨h0,us,ε,z⟩:=H;exact⟨h0,us,tf ε y,z.grow G⟩
 |_=>exact H.elim
theorem Den.o(H:Den C F h B d v):cf C F h B d v:=.inl H
theorem cf.step(X:C.Step F s F' s')(K:C.dZ B s)(z:∀a,v=.ref a->a∉C.bo)(H:cf C F s.heap B d v):cf C F' s'.heap B d v:=by
 rcases H with H|⟨a,e,H⟩
 ·exact .inl (H.grow (X.grow K))
 ·exact .inr ⟨a,e,H.grow (X.grow K) λo aB=>X.keep a o (z a e) aB⟩
theorem cf.int(H:cf C F h B (.int i) v):∃t,v=.int i t:=H.elim id λ⟨_,_,f⟩=>f.elim
theorem cf.υ(H:cf C F h B (.υ i) v):∃t,v=.float i t/\F t=some i:=H.elim id λ⟨_,_,f⟩=>f.elim
theorem cf.str(H:cf C F h B (.str i) v):∃t,v=.str i t:=H.elim id λ⟨_,_,f⟩=>f.elim
theorem cf.bool(H:cf C F h B (.bool i) v):v=.bool i:=H.elim id λ⟨_,_,f⟩=>f.elim
theorem cf.none(H:cf C F h B .none v):v=.none:=H.elim id λ⟨_,_,f⟩=>f.elim
theorem cf.tup(H:cf C F h B (.tup ds) v):∃a vs,v=.ref a/\pD h a (List.toArray vs)/\bA C F h B ds vs:=
 H.elim (λ⟨a,vs,e,_,r⟩=>⟨a,vs,e,r⟩) λ⟨_,_,f⟩=>f.elim
theorem cf.lst(H:cf C F h B (.lst ds) v):∃a vs,v=.ref a/\h.PlainList a (List.toArray vs)/\bA C F h B ds vs:=
 H.elim (λ⟨a,vs,e,_,r⟩=>⟨a,vs,e,r⟩) λ⟨a,e,vs,r⟩=>⟨a,vs,e,r⟩
theorem cf.aX(H:cf C F h B (.aX ds) v):∃a us,v=.ref a/\(a==sysModules)=false/\h.DictOf C.dR a us/\cL C F h B ds us:=
 H.elim (λ⟨a,us,e,_,r⟩=>⟨a,us,e,r⟩) λ⟨a,e,h0,us,r⟩=>⟨a,us,e,h0,r⟩
theorem oO(ok:C.Ok F s) t (z:s.toks<=n:=by exact c9 _):∃F',C.Step F s F' {s with toks:=n}/\Den C F' s.heap B (.int i) (.int i t):=⟨F,.tok ok z,t,rfl⟩
theorem ES(ok:C.Ok F s) t (z:s.toks<=n:=by exact c9 _):∃F',C.Step F s F' {s with toks:=n}/\Den C F' s.heap B (.str i) (.str i t):=⟨F,.tok ok z,t,rfl⟩
theorem nH(ok:C.Ok F s)(z:s.toks<n:=by exact iH _):∃F',C.Step F s F' {s with toks:=n}/\Den C F' s.heap B (.υ i) (.float i s.toks):=
 ⟨_,.υ ok i z,_,rfl,Y3 _ _ _⟩
theorem lP(ok:C.Ok F s):∃F',C.Step F s F' s/\Den C F' s.heap B (.bool i) (.bool i):=⟨F,.refl ok,rfl⟩
theorem iw:dE n=true↔n<=sizeLine:=by unfold dE;rw[zv];exact Iff.rfl
theorem Lk(K:C.dZ B s)(ok:C.Ok F s)(ζ:bA C F s.heap B ds vs)(z:s.toks<=n:=by exact a7 _):
 ∃F',C.Step F s F' {s with heap:=s.heap.push {cls:=.type "tuple",data:=.seq vs.toArray},toks:=n}/\
  Den C F' (s.heap.push {cls:=.type "tuple",data:=.seq vs.toArray}) B (.tup ds) (.ref s.heap.objs.size):=by
 have X:C.Step F s F {s with heap:=s.heap.push {cls:=.type "tuple",data:=.seq vs.toArray},toks:=n}:=.heap ok z λb o e=>dn _ e;exact⟨F,X,_,vs,rfl,K.fresh (a7 _),⟨0,eW _ rfl⟩,ζ.grow (X.grow K)⟩
theorem AA(K:C.dZ B s)(ok:C.Ok F s)(ζ:bA C F s.heap B ds vs)(z:s.toks<=n:=by exact a7 _):
 ∃F',C.Step F s F' {s with heap:=s.heap.push {cls:=.type "list",data:=.seq vs.toArray},toks:=n}/\
  Den C F' (s.heap.push {cls:=.type "list",data:=.seq vs.toArray}) B (.lst ds) (.ref s.heap.objs.size):=by
 have X:C.Step F s F {s with heap:=s.heap.push {cls:=.type "list",data:=.seq vs.toArray},toks:=n}:=.heap ok z λb o e=>dn _ e;exact⟨F,X,_,vs,rfl,K.fresh (a7 _),⟨0,eW _ rfl⟩,ζ.grow (X.grow K)⟩
theorem noPylong(h:b.natAbs<2^64):Builtin.divisionGoesByPylong a b=false:=by
 unfold Builtin.divisionGoesByPylong;have:(if(b==0)=true then 0 else b.natAbs.log2/30+1)<=3:=by
  split
  ·lia
  ·have h0:b.natAbs.log2<64:=by
    rcases Nat.eq_zero_or_pos b.natAbs with h0|h0
    ·rw[h0];decide
    ·exact(Nat.log2_lt .l).mpr h
   lia
 simp only[Bool.and_eq_false_iff,Ib];left;lia
theorem intBits_le(h:a.natAbs<2^64):Builtin.Int.intBits a<=64:=by
 unfold Builtin.Int.intBits;split
 ·lia
 ·rename_i h0;have:a.natAbs.log2<64:=(Nat.log2_lt (by simpa using h0)).mpr h;lia
theorem YQ(a b:List Value):a.toArray.size+b.toArray.size=(a++b).length:=by simp
theorem π{f:α->Option β}{G:Prop}(h:x.bind f=some r)(k:∀a,f a=some r->x=some a->G):G:=by
 cases x with
 |none=>exact aQ h
 |some a=>exact k a h rfl
theorem dT(h:some a=some d)(k:Gives C A B F t a s):Gives C A B F t d s:=ae h▸k
theorem b'{G:Prop}(h:alt a b=some r)(k:a=some r->G)(l:b=some r->G):G:=by
 cases a with
 |none=>exact l h
 |some x=>exact k h
theorem aP{G:Prop}(h:aS c a=some r)(k:a=some r->c=true->G):G:=by
 cases c with
 |true=>exact k h rfl
 |false=>exact aQ h
theorem D4{G:Prop}(h:nC c a b=some r)(k:a=some r->c=true->G)(l:b=some r->c=false->G):G:=by
 cases c with
 |true=>exact k h rfl
 |false=>exact l h rfl
theorem rM{G:Prop}(h:orElse o f b=some r)(k:∀a,f a=some r->o=some a->G)(l:b=some r->o=none->G):G:=by
 cases o with
 |some a=>exact k a h rfl
 |none=>exact l h rfl
theorem eO{α:Type}[Decidable c]{f:c->Option α}{r:α}{G:Prop}(h:(if q:c then f q else none)=some r)(k:c->G):G:=by
 by_cases q:c
 ·exact k q
 ·rw[dif_neg q] at h;exact aQ h
theorem gx(h:dV l=some x):l=[x]:=by
 cases l with
 |nil=>exact aQ h
 |cons y r=>exact aP h λh q=>by rw[ae h,gq.mp q]
theorem q3(h:mC l=some x):l=[x.1,x.2]:=by
 cases l with
 |nil=>exact aQ h
 |cons y r=>exact π h λz h q=>by rw[gx q,<-ae h]
theorem JD(h:wY l=some x):l=[x.1,x.2.1,x.2.2]:=by
 cases l with
 |nil=>exact aQ h
 |cons y r=>exact π h λz h q=>by rw[q3 q,<-ae h]
theorem mB(h:nv l=some x):l=x.1::x.2:=by
 cases l with
 |nil=>exact aQ h
 |cons y r=>rw[<-ae h]
theorem gH(h:asName e=some x):∃p,e=.Name x p:=
 eO h λq=>Expr.Name.elim (motive_1:=λe=>asName e=some x->∃p,e=.Name x p) e q (λy p h=>⟨p,by rw[<-ae h]⟩) h
theorem wU{x}(h:kL e=some x):∃p,e=.Call x.1 x.2.1 x.2.2 p:=
 eO h λq=>Expr.Call.elim (motive_1:=λe=>kL e=some x->∃p,e=.Call x.1 x.2.1 x.2.2 p) e q (λγ γ γ p h=>⟨p,by rw[<-ae h]⟩) h
theorem wZ{x}(h:hR e=some x):∃k p,e=.Tuple x k p:=
 eO h λq=>Expr.Tuple.elim (motive_1:=λe=>hR e=some x->∃k p,e=.Tuple x k p) e q (λγ k p h=>⟨k,p,by rw[<-ae h]⟩) h
theorem Rv{x}(h:DD e=some x):∃p,e=.GeneratorExp x.1 x.2.1 x.2.2 p:=
 eO h λq=>Expr.GeneratorExp.elim (motive_1:=λe=>DD e=some x->∃p,e=.GeneratorExp x.1 x.2.1 x.2.2 p) e q (λγ γ γ p h=>⟨p,by rw[<-ae h]⟩) h
theorem Rx{x}(h:zT e=some x):∃p,e=.Lambda x.1 x.2.1 x.2.2 p:=
 eO h λq=>Expr.Lambda.elim (motive_1:=λe=>zT e=some x->∃p,e=.Lambda x.1 x.2.1 x.2.2 p) e q (λγ γ γ p h=>⟨p,by rw[<-ae h]⟩) h
theorem wO{x}(h:oy e=some x):e=.Attribute x.1 x.2.1 x.2.2:=
 eO h λq=>Expr.Attribute.elim (motive_1:=λe=>oy e=some x->e=.Attribute x.1 x.2.1 x.2.2) e q (λγ γ p h=>by rw[<-ae h]) h
theorem qcb(h:O6 c=some x):c=.str x:=by
 cases c<;>first|exact aQ h|exact ae h▸rfl
theorem JA{x}(h:wW e=some x):∃k p,e=.Constant (.str x) k p:=
 eO h λq=>Expr.Constant.elim (motive_1:=λe=>wW e=some x->∃k p,e=.Constant (.str x) k p) e q (λγ k p h=>⟨k,p,by rw[qcb h]⟩) h
theorem JC{x}(h:nx e=some x):∃p,e=.Subscript x.1 x.2 p:=
 eO h λq=>Expr.Subscript.elim (motive_1:=λe=>nx e=some x->∃p,e=.Subscript x.1 x.2 p) e q (λγ γ p h=>⟨p,by rw[<-ae h]⟩) h
theorem RD{x}(h:jB e=some x):∃p,e=.Slice x.1 x.2 none p:=
 eO h λq=>Expr.Slice.elim (motive_1:=λe=>jB e=some x->∃p,e=.Slice x.1 x.2 none p) e q (λγ γ st p h=>aP h λh k=>⟨p,by rw[<-ae h,vR.mp k]⟩) h
theorem Rr{x}(h:pJ e=some x):∃p,e=.BoolOp x.1 x.2 p:=
 eO h λq=>Expr.BoolOp.elim (motive_1:=λe=>pJ e=some x->∃p,e=.BoolOp x.1 x.2 p) e q (λγ γ p h=>⟨p,by rw[<-ae h]⟩) h
theorem oz(h:dv d=some i):d=.int i:=by
 cases d<;>first|exact aQ h|exact ae h▸rfl
theorem zS(h:hv d=some i):d=.υ i:=by
 cases d<;>first|exact aQ h|exact ae h▸rfl
theorem lF(h:fX d=some i):d=.lst i:=by
 cases d<;>first|exact aQ h|exact ae h▸rfl
theorem wX(h:lG d=some i):d=.tup i:=by
 cases d<;>first|exact aQ h|exact ae h▸rfl
theorem DE(h:kN d=some i):d=.str i:=by
 cases d<;>first|exact aQ h|exact ae h▸rfl
theorem Rq(h:so d=some i):d=.bool i:=by
 cases d<;>first|exact aQ h|exact ae h▸rfl
theorem DC(h:q1 d=some i):d=.aX i:=by
 cases d<;>first|exact aQ h|exact ae h▸rfl
section
variable{h:Heap}{v:Value}{d:D}
theorem cf.hI(H:cf C F h B d v)(q:dv d=some i):∃t,v=.int i t:=(oz q▸H).int
theorem cf.vx(H:cf C F h B d v)(q:hv d=some i):∃t,v=.float i t/\F t=some i:=(zS q▸H).υ
theorem cf.qo(H:cf C F h B d v)(q:kN d=some i):∃t,v=.str i t:=(DE q▸H).str
theorem cf.fg(H:cf C F h B d v)(q:so d=some i):v=.bool i:=(Rq q▸H).bool
theorem cf.vy(H:cf C F h B d v)(q:lG d=some ds):∃a vs,v=.ref a/\pD h a (List.toArray vs)/\bA C F h B ds vs:=(wX q▸H).tup
theorem cf.kp(H:cf C F h B d v)(q:fX d=some ds):∃a vs,v=.ref a/\h.PlainList a (List.toArray vs)/\bA C F h B ds vs:=(lF q▸H).lst
theorem cf.vw(H:cf C F h B d v)(q:q1 d=some ds):∃a us,v=.ref a/\(a==sysModules)=false/\h.DictOf C.dR a us/\cL C F h B ds us:=(DC q▸H).aX
end
def oo(op:Operator)(a b d:D):Prop:=∀(C:aE) (A:Around) (B:Addr->Prop) (F:bc) (s:Shared) (u v:Value),C.Ok F s->C.dZ B s->cf C F s.heap B a u->cf C F s.heap B b v->Gives C A B F (binaryOp op u v) d s
theorem vM{f:α->β->Option D}(h:two p q f a b=some d)(P:α->D)(Q:β->D)(u:∀{d x},p d=some x->d=P x)(j:∀{d x},q d=some x->d=Q x)
 (k:∀x y,f x y=some d->oo op (P x) (Q y) d):oo op a b d:=
 π h λx h g=>π h λy h z=>u g▸j z▸k x y h
theorem ii(h:two dv dv f a b=some d)
 (k:∀x y,f x y=some d->∀(C:aE) (A:Around) (B:Addr->Prop) (F:bc) (s:Shared) (t z:Tok),C.Ok F s->Gives C A B F (binaryOp op (.int x t) (.int y z)) d s):oo op a b d:=
 vM h .int .int oz oz λx y h C A B F s u v ok K j q=>ν j.int λt e=>ν q.int λz aB=>e▸aB▸k x y h C A B F s t z ok
theorem xm(h:two hv hv f a b=some d)
 (k:∀x y,f x y=some d->∀(C:aE) (A:Around) (B:Addr->Prop) (F:bc) (s:Shared) (t z:Tok),C.Ok F s->Gives C A B F (binaryOp op (.float x t) (.float y z)) d s):oo op a b d:=
 vM h .υ .υ zS zS λx y h C A B F s u v ok K j q=>ν j.υ λt e=>ν q.υ λz aB=>e.1▸aB.1▸k x y h C A B F s t z ok
theorem uG(h:two hv dv f a b=some d)
 (k:∀x y,f x y=some d->∀(C:aE) (A:Around) (B:Addr->Prop) (F:bc) (s:Shared) (t z:Tok),C.Ok F s->Gives C A B F (binaryOp op (.float x t) (.int y z)) d s):oo op a b d:=
 vM h .υ .int zS oz λx y h C A B F s u v ok K j q=>ν j.υ λt e=>ν q.int λz aB=>e.1▸aB▸k x y h C A B F s t z ok
theorem kO(h:(!b)=true):¬b=true:=λq=>by rw[q] at h;exact jo h
theorem band(h:(a&&b)=true):a=true/\b=true:=j0.mp h
theorem bne{y:Int}(h:(!(y==0))=true):y≠0:=λq=>kO h (by rw[q];rfl)
theorem Kh(H:bA C F h B ds vs)(q:(!ds.isEmpty)=true):¬vs.toArray.isEmpty=true:=by
 cases ds with
 |nil=>exact jo q
 |cons d ds=>obtain⟨v,r,rfl,_⟩:=H;simp
theorem seq_size(jP:bA C F h B x us)(jQ:bA C F h B y ws)(κ:dE (x++y).length=true):us.toArray.size+ws.toArray.size<=sizeLine:=by
 rw[YQ,(jP.append jQ).length];exact iw.mp κ
theorem Rh(h:binop .Add a b=some d):oo .Add a b d:=by
 refine b' h (λh=>ii h λx y h C A B F s t r ok=>dT h λγ=>(add_int (oO ok _))) λh=>?_;refine b' h (λh=>xm h λx y h C A B F s t r ok=>dT h λγ=>(add_float (nH ok))) λh=>?_
 refine b' h (λh=>vM h .lst .lst lF lF λx y h C A B F s u v ok K g f=>?_) λh=>b' h (λh=>vM h .tup .tup wX wX λx y h C A B F s u v ok K g f=>?_) λh=>
  b' h (λh=>uG h λx y h C A B F s t r ok=>aP h λh κ=>dT h λγ=>(add_fi_fits (cU κ) (nH ok))) λh=>
  vM h .str .str DE DE λx y h C A B F s u v ok K g f=>aP h λh κ=>dT h λγ=>ν g.str λt e=>ν f.str λr aB=>e▸aB▸h1 (a7 s.toks) (PySem.SB.add (λbP k i=>⟨F,.tok ok i,bP,rfl⟩) (iw.mp κ))
 ·refine aP h λh κ=>dT h λE=>?_;refine ai g.lst λp us q=>cu q λe j jP=>ν j λn j=>?_;refine ai f.lst λq ws q=>cu q λaB z jQ=>ν z λl z=>?_;refine e▸aB▸P.add_list j z ?_ (seq_size jP jQ κ);rw[CD];exact AA K ok (jP.append jQ)
 ·refine aP h λh κ=>dT h λE=>?_;refine bL (band κ) λκ ζ=>bL (band κ) λZ Y=>?_;refine ai g.tup λp us q=>cu q λe j jP=>ν j λn j=>?_;refine ai f.tup λq ws q=>cu q λaB z jQ=>ν z λl z=>?_;refine e▸aB▸P.add_tuple j z (Kh jP Z) (Kh jQ Y) ?_ (seq_size jP jQ ζ);rw[CD];exact Lk K ok (jP.append jQ)
theorem qcg(h:binop .Sub a b=some d):oo .Sub a b d:=
 b' h (λh=>ii h λx y h C A B F s t z ok=>dT h λγ=>(AutoIntOps.sub_0 (oO ok _))) λh=>
 b' h (λh=>xm h λx y h C A B F s t z ok=>dT h λγ=>(sub_float (nH ok))) λh=>
 uG h λx y h C A B F s t z ok=>aP h λh κ=>dT h λγ=>(sub_fi_fits (cU κ) (nH ok))
theorem Zs(h:binop .Mult a b=some d):oo .Mult a b d:=
 b' h (λh=>ii h λx y h C A B F s t z ok=>aP h λh κ=>dT h λγ=>(AutoIntOps.mul_0 (oO ok _) (IntMulOk.of_left (intBits_le (cU κ))))) λh=>
 b' h (λh=>xm h λx y h C A B F s t z ok=>dT h λγ=>(mul_float (nH ok))) λh=>
 uG h λx y h C A B F s t z ok=>aP h λh κ=>dT h λγ=>(mul_fi_fits (cU κ) (nH ok))
theorem Te(h:binop .Div a b=some d):oo .Div a b d:=
 b' h (λh=>ii h λx y h C A B F s t j ok=>aP h λh κ=>bL (band κ) λε z=>dT h λγ=>(AutoIntOps.truediv_2 (kO ε) (kO z) (nH ok))) λh=>
 b' h (λh=>xm h λx y h C A B F s t j ok=>aP h λh κ=>dT h λγ=>(AutoFloatOps.truediv_1 (kO κ) (nH ok))) λh=>
 uG h λx y h C A B F s t j ok=>aP h λh κ=>bL (band κ) λε z=>dT h λγ=>(AutoFloatOps.truediv_fi_2 (kO ε) (kO z) (nH ok))
theorem R1(h:binop op a b=some d):oo op a b d:=by
 cases op with
 |Add=>exact Rh h
 |Sub=>exact qcg h
 |Mult=>exact Zs h
 |FloorDiv=>exact ii h λx y h C A B F s t z ok=>aP h λh κ=>bL (band κ) λε j=>dT h λγ=>(floordiv_int (bne ε) (oO ok _) (.inl (noPylong (cU j))))
 |Mod=>
  exact b' h (λh=>ii h λx y h C A B F s t z ok=>aP h λh κ=>dT h λγ=>(mod_int' (bne κ) (oO ok _))) λh=>
   xm h λx y h C A B F s t z ok=>aP h λh κ=>dT h λγ=>(AutoFloatOps.mod_1 (kO κ) (nH ok))
 |Div=>exact Te h
 |_=>exact aQ h
theorem R2(h:binop op a b=some d)(ok:C.Ok F s)(K:C.dZ B s)(z:cf C F s.heap B a u)(y:cf C F s.heap B b v):
 Gives C A B F (binaryOp op u v) d s:=R1 h C A B F s u v ok K z y
end
section
variable{C:aE}{A:Around}{B B':Addr->Prop}{F F':bc}{s:Shared}{h:Heap}
theorem qar(H:Pairs (intKind P w) es us):Pairs (intKind q j) es us:=by
 induction H with
 |nil=>exact .nil
 |cons ε y _ z=>exact .cons ε y z
theorem Ac(H:h.DictOf (intKind P w) a us):h.DictOf (intKind y z) a us:=
 cN H λo es ep q=>⟨o,es,ep,q.1,q.2.1,q.2.2.1,q.2.2.2.1,qar q.2.2.2.2.1,q.2.2.2.2.2⟩
theorem qau(H:Pairs C.dR es us):∀{z},Pairs C.dR es z->us=z:=by
 induction H with
 |nil=>intro z K;cases K;rfl
 |cons ε u _ y=>
  intro z K;cases K with
  |cons q j g=>exact congr (bp List.cons (Prod.ext (C.dR.inj _ _ _ ε q) (u.symm.trans j))) (y g)
theorem EG(z:Float64.isNaN x=false):Float64.cmp x x=some .eq:=by
 unfold Float64.isNaN at z;unfold Float64.cmp;cases hd:Float64.decode x with
 |nan=>rw[hd] at z;exact dk z
 |inf a=>simp
 |fin a m e=>simp [Float64.align]
theorem D9:∀{ds} {us},cL C F h B ds us->ds.map (·.1)=us.map (·.1):=by
 intro y
 induction y with
 |nil=>
  intro γ H;rw[H];rfl
 |cons j ds z=>
  obtain⟨k,d⟩:=j;intro γ q;obtain⟨v,r,e,_,ζ⟩:=q;rw[e,bN,bN,z ζ]
noncomputable def f5:D->Nat
 |.none=>0
 |.bool _=>1
 |.int _=>2
 |.υ _=>3
 |.str _=>4
 |.tup _=>5
 |.lst _=>6
 |.aX _=>7
noncomputable def F8(v:Value):Nat:=Value.casesOn v 7 7 7 (λγ=>7) (λγ γ=>7) (λγ γ=>7) (λγ γ=>7) (λγ γ=>7) (λn=>if n="tuple" then 5 else if n="list" then 6 else 7) (λγ=>7) (λγ=>7)
def rz(h:Heap)(v:Value):Nat:=Value.casesOn v 0 9 9 (λγ=>1) (λγ γ=>2) (λγ γ=>3) (λγ γ=>4) (λγ γ=>9) (λγ=>9) (λγ=>9) (λa=>((h.get? a).map λo=>F8 o.cls).getD 8)
theorem F9(e:h.get? a=some o)(c:o.cls=.type n):rz h (.ref a)=F8 (.type n):=by
 show((h.get? a).map λo=>F8 o.cls).getD 8=_;rw[e,<-c];rfl
theorem Den.kind(H:Den C F h B d v):rz h v=f5 d:=by
 cases d with
 |none=>exact bp (rz h) H
 |bool b=>exact bp (rz h) H
 |int i=>exact ν H λt e=>bp (rz h) e
 |υ x=>exact ν H λt e=>bp (rz h) e.1
 |str x=>exact ν H λt e=>bp (rz h) e
 |tup l=>exact ai H λa vs q=>b2 q λe γ g γ=>ν g λn g=>e▸(F9 g rfl).trans rfl
 |lst l=>exact ai H λa vs q=>b2 q λe γ g γ=>ν g λn g=>e▸(F9 g rfl).trans rfl
 |aX l=>exact ai H λa us q=>b2 q λe γ γ g=>ν g.1 λo g=>ai g λes ep g=>e▸(F9 g.1 g.2.1.1).trans rfl
theorem GN{P:Prop}(h:a=b)(k:Nat.beq a b=false):P:=absurd h (Nat.ne_of_beq_eq_false k)
theorem Yu(h:f5 d=5):∃l,d=.tup l:=by cases d<;>first|exact⟨_,rfl⟩|exact GN h rfl
theorem Yt(h:f5 d=6):∃l,d=.lst l:=by cases d<;>first|exact⟨_,rfl⟩|exact GN h rfl
theorem Ys(h:f5 d=7):∃l,d=.aX l:=by cases d<;>first|exact⟨_,rfl⟩|exact GN h rfl
def mW(v:Value):Option D:=Value.casesOn v (some .none) none none (λb=>some (.bool b)) (λi γ=>some (.int i)) (λi γ=>some (.υ i)) (λi γ=>some (.str i)) (λγ γ=>none) no no no
theorem Den.mW{d:D}{v:Value}(H:Den C F h B d v):mW v=if f5 d<5 then some d else none:=by
 cases d with
 |none=>exact bp Internal.mW H
 |bool b=>exact bp Internal.mW H
 |int i=>exact ν H λt e=>bp Internal.mW e
 |υ x=>exact ν H λt e=>bp Internal.mW e.1
 |str x=>exact ν H λt e=>bp Internal.mW e
 |tup l=>exact ai H λa vs q=>bp Internal.mW q.1
 |lst l=>exact ai H λa vs q=>bp Internal.mW q.1
 |aX l=>exact ai H λa us q=>bp Internal.mW q.1
theorem Hd{v:Value}(h:v=.ref a)(k:v=.ref b):a=b:=kE (h.symm.trans k)
theorem Pt{a b:List Value}(h:a.toArray=b.toArray):a=b:=bp Array.toList h
theorem OB{g:Heap}(h:g.get? a=some o)(k:g.get? a=some bf)(c:o.data=.seq x n)(d:bf.data=.seq y m):x=y:=
 (Data.seq.inj (c.symm.trans ((bp Obj.data (ae (h.symm.trans k))).trans d))).1
theorem qdu{v:Value}{vs us:List Value}(ε:v=.ref a)(z:v=.ref b)(g:pD h a vs.toArray)(k:pD h b us.toArray):us=vs:=by
 rw[Hd z ε] at k;exact ν g λn g=>ν k λy k=>Pt (OB k g rfl rfl)
theorem Y1{v:Value}{vs us:List Value}(ε:v=.ref a)(z:v=.ref b)(g:h.PlainList a vs.toArray)(k:h.PlainList b us.toArray):us=vs:=by
 rw[Hd z ε] at k;exact ν g λn g=>ν k λy k=>Pt (OB k g rfl rfl)
theorem Eb{v:Value}(j:v=.ref b)(y:v=.ref a)(K:h.DictOf C.dR b g)(H:h.DictOf C.dR a us):us=g:=by
 rw[Hd j y] at K;refine cN H λo es ep q=>cN K λbf u p z=>?_;have e:es=u:=(Data.dict.inj (q.2.2.1.symm.trans ((bp Obj.data (ae (q.1.symm.trans z.1))).trans z.2.2.1))).1;exact qau q.2.2.2.2.1 (e▸z.2.2.2.2.1)
theorem yg(h:b=a)(k:Nat.ble 5 b=false):a<5:=by
 rw[<-h];exact Nat.lt_of_not_le λq=>by rw[zv.mpr q] at k;exact dk k
theorem yI(H:Den C F h B d v)(K:Den C F h B' d' v)(q:f5 d<5):d=d':=by
 have s1:=H.mW;have s2:=K.mW;rw[au q] at s1;rw[au (K.kind.symm.trans H.kind▸q)] at s2;exact ae (s1.symm.trans s2)
theorem Den.unique:∀{d' v},Den C F h B d v->Den C F h B' d' v->d=d':=
 D.rec (motive_1:=λd=>∀{d' v},Den C F h B d v->Den C F h B' d' v->d=d') (motive_2:=λds=>∀{es vs},bA C F h B ds vs->bA C F h B' es vs->ds=es)
  (motive_3:=λds=>∀{es vs},cL C F h B ds vs->cL C F h B' es vs->ds=es) (motive_4:=λp=>∀{d' v},Den C F h B p.2 v->Den C F h B' d' v->p.2=d')
  (λ{_ _} H K=>yI H K (yg rfl rfl)) (λ_ {_ _} H K=>yI H K (yg rfl rfl)) (λ_ {_ _} H K=>yI H K (yg rfl rfl)) (λ_ {_ _} H K=>yI H K (yg rfl rfl)) (λ_ {_ _} H K=>yI H K (yg rfl rfl))
  (λ_ z {_ _} H K=>ν (Yu (K.kind.symm.trans H.kind)) λl e=>ai H λa vs q=>b2 q λj γ g ζ=>by
    subst e;exact ai K λi us k=>b2 k λu γ y f=>bp D.tup (z ζ (qdu j u g y▸f)))
  (λ_ z {_ _} H K=>ν (Yt (K.kind.symm.trans H.kind)) λl e=>ai H λa vs q=>b2 q λj γ g ζ=>by
    subst e;exact ai K λi us k=>b2 k λu γ y f=>bp D.lst (z ζ (Y1 j u g y▸f)))
  (λ_ z {_ _} H K=>ν (Ys (K.kind.symm.trans H.kind)) λl e=>ai H λa vs q=>b2 q λj γ γ q=>bL q λg ζ=>by
    subst e;exact ai K λi us k=>b2 k λu γ γ k=>bL k λy f=>bp D.aX (z ζ (Eb j u g y▸f)))
  (λ{es _} H K=>by cases es with
    |nil=>rfl
    |cons _ _=>exact ai K λγ γ k=>nomatch H.symm.trans k.1)
  (λ_ _ b_ b5 {es _} H K=>by cases es with
    |nil=>exact ai H λγ γ k=>nomatch K.symm.trans k.1
    |cons d' es=>exact ai H λv r q=>ai K λZ x k=>bL (n6 (k.1.symm.trans q.1)) λag t=>congr (bp List.cons (b_ q.2.1 (ag▸k.2.1))) (b5 q.2.2 (t▸k.2.2)))
  (λ{es _} H K=>by cases es with
    |nil=>rfl
    |cons _ _=>exact ai K λγ γ k=>nomatch H.symm.trans k.1)
  (λ_ _ b_ b5 {es _} H K=>by cases es with
    |nil=>exact ai H λγ γ k=>nomatch K.symm.trans k.1
    |cons d' es=>exact ai H λv r q=>ai K λZ x k=>bL (n6 (k.1.symm.trans q.1)) λag t=>bL (kC ag) λn ag=>congr (bp List.cons (Prod.ext n.symm (b_ q.2.1 (ag▸k.2.1)))) (b5 q.2.2 (t▸k.2.2)))
  (λ_ _ z=>z) d
theorem KD:∀{ds} {vs} {b},bA C F h B ds vs->(∀d v b,Den C F h B d v->f d d=some b->b=true)->ke f ds ds=some b->b=true:=by
 intro g
 induction g with
 |nil=>
  intro γ b γ γ e;exact(ae e).symm
 |cons d ds j=>
  intro γ b H hf e
  exact π e λx e u=>π e λy e z=>ai H λv r q=>cu q λq hd ζ=>by
   rw[<-ae e,hf _ _ _ hd u,j ζ hf z];rfl
theorem T1:∀{r} {us} {b},cL C F h B r us->(∀d v b,Den C F h B d v->f d d=some b->b=true)->(∀p∈r,q.lookup p.1=some p.2)->
 pS f q r=some b->b=true:=by
 intro t
 induction t with
 |nil=>
  intro γ b γ γ γ e;exact(ae e).symm
 |cons l r g=>
  obtain⟨k,d⟩:=l;intro γ b H hf z e;unfold pS at e;rw[z _ bH] at e
  exact π e λx e i=>π e λy e j=>ai H λv u q=>cu q λγ hd ζ=>by
   rw[<-ae e,hf _ _ _ hd i,g ζ hf (λp n=>z p (b3 _ n)) j];rfl
theorem ti{X:Type}{l:List (Int×X)}:(l.map (·.1)).Nodup->∀p∈l,l.lookup p.1=some p.2:=by
 induction l with
 |nil=>exact λ_ p y=>nomatch y
 |cons q l g=>
  intro z p y;have z:=h2.mp z;rw[fP];cases j:p.1==q.1 with
  |false=>exact g z.2 p ((cn.mp y).elim (λe=>by rw[e,hq] at j;exact dk j) id)
  |true=>exact(cn.mp y).elim (λe=>e▸rfl) λe=>(z.1 (by show q.1∈_;rw[<-eq_of_beq j];exact pw e)).elim
theorem S_ n:∀d v b,Den C F h B d v->gg n d d=some b->b=true:=by
 induction n with
 |zero=>exact λd v b γ e=>aQ e
 |succ n z=>
  intro d v b H e;cases d with
  |none=>exact aQ e
  |bool a=>exact ae e▸hq a
  |int a=>exact ae e▸hq a
  |str a=>exact ae e▸hq a
  |υ a=>
   refine aP e λe κ=>?_;rw[<-ae e,EG ((lx _).mp (band κ).1)];rfl
  |tup a=>exact ai H λx vs q=>KD q.2.2.2 z e
  |lst a=>exact ai H λx vs q=>KD q.2.2.2 z ((au (hq a.length)).symm.trans e)
  |aX a=>exact ai H λx us q=>T1 q.2.2.2.2 z (ti (D9 q.2.2.2.2▸cN q.2.2.2.1 λγ γ γ q=>q.2.2.2.2.2)) ((au (hq a.length)).symm.trans e)
theorem S' n d d' v b (H:Den C F h B d v) (K:Den C F h B' d' v) (e:gg n d d'=some b):b=true:=
 S_ n d v b H ((Den.unique H K).symm▸e)
theorem TZ(ok:C.Ok F s)(G:C.Good)(ω:F t=some x)(j:F u=some y)(g:Float64.isNaN x=false):
 EqAt A s (.float x t) (.float y u) (Float64.cmp x y==some .eq):=by
 intro prog w E Q z
 have behind:wpAny (model prog w) A (richCompare .Eq (.float x t) (.float y u)>>=λr=>truthOfDropped r) Q E s:=
  aR (AutoFloatOps.eq_0 (Q:=λv s'=>wpAny (model prog w) A (truthOfDropped v) Q E s') (b7 z))
 unfold eqBool;refine n5 ?_;refine wpAny_ite_split (λq=>?_) (λq=>?_)
 ·have e:x=y:=by have:=eq_of_beq q;injection this
  subst e;rw[EG g] at z;exact aR (qL (b7 z))
 ·have ag:=ok.θ _ _ ω;have f:=ok.θ _ _ j;have l:(t==0||u==0)=false:=by
   simp only[Bool.or_eq_false_iff,gU];exact⟨i7 ag.1,i7 f.1⟩
  have i:(t==u)=false:=by
   cases n:t==u with
   |false=>rfl
   |true=>
    have:=eq_of_beq n;subst this;rw[ω] at j;cases j;simp at q
  refine aR ?_;show wpAny _ A (isSame.created (x==y&& !Float64.isNaN x) t u) _ _ _;unfold isSame.created;rw[l,i];simp only[px,n_];refine wpAny_ite_split (λκ=>?_) (λκ=>?_)
  ·refine b7 ?_;simp only[px,n_];exact behind
  ·have p:x=y:=by
    simp only[lx,Bool.not_eq_false,pl,h5] at κ;exact κ.1
   subst p;refine aR (wpAny_sharingNotTold_none (ok.yq G) ?_);simp only[px,n_];refine aR (wpAny_sharingNotTold_none (ok.yq G) ?_);simp only[px,n_];refine aR (qL (aR (wpAny_askSetting (b7 ?_))));split
   ·rw[EG g] at z;exact b7 z
   ·exact behind
end
section
variable{C:aE}{A:Around}{B B':Addr->Prop}{F F':bc}{s:Shared}{h:Heap}{u v:Value}
noncomputable def uD(f:D->D->Option Bool)(ds es:List D)(j:Nat):Bool:=match ds[j]?,es[j]? with
 |some x,some y=>(f x y).getD true
 |_,_=>true
theorem Et:∀{ds es} {b},ke f ds es=some b->
 ds.length=es.length/\b=(List.range ds.length).all (uD f ds es)/\∀(j:Nat) x y,ds[j]? =some x->es[j]? =some y->∃c,f x y=some c:=by
 intro r
 induction r with
 |nil=>
  intro es b e
  exact aP e λe κ=>by
   rw[gq.mp κ];exact⟨rfl,(ae e).symm,λj x y z=>nomatch z⟩
 |cons d ds p=>
  intro es b e;cases es with
  |nil=>exact aQ e
  |cons d' es=>
   refine π e λx e z=>π e λy e g=>cu (p g) λε l t=>⟨bp (· +1) ε,?_,λj a c q κ=>?_⟩
   ·rw[dG,Cs,List.all_cons,List.all_map,<-ae e,l];exact bp (· &&_) (show x=(f d d').getD true by rw[z];rfl)
   ·cases j with
    |zero=>cases q;cases κ;exact⟨x,z⟩
    |succ j=>exact t j a c q κ
def QA(A:Around)(s:Shared)(vs us:List Value)(e:Nat->Bool):Prop:=
 ∀j (ε:j<vs.toArray.size) (z:j<us.toArray.size),EqAt A s vs.toArray[j] us.toArray[j] (e j)
theorem MG(hf:∀d d' u v b,f d d'=some b->Den C F s.heap B d u->Den C F s.heap B' d' v->EqAt A s u v b)
 (H:bA C F s.heap B ds vs) (K:bA C F s.heap B' es us) (e:ke f ds es=some b):QA A s vs us (uD f ds es):=by
 intro j ε y;have g1:vs[j]? =some vs.toArray[j]:=fi ε;have g2:us[j]? =some us.toArray[j]:=fi y;refine ν (H.get' g1) λd q=>ν (K.get' g2) λd' z=>ν ((Et e).2.2 j d d' q.1 z.1) λc κ=>?_;rw[show uD f ds es j=c by unfold uD;rw[q.1,z.1];exact bp (Option.getD · true) κ];exact hf _ _ _ _ _ κ q.2 z.2
theorem Yw(hf:∀d d' u v b,f d d'=some b->Den C F s.heap B d u->Den C F s.heap B' d' v->EqAt A s u v b)
 (K:cL C F s.heap B' q g):∀{r} {j} {b},cL C F s.heap B r j->pS f q r=some b->KeqHits A s g j b:=by
 intro l
 induction l with
 |nil=>
  intro γ b H e;rw[H,<-ae e];exact .nil
 |cons n r t=>
  obtain⟨k,d⟩:=n;intro γ b H e;refine ai H λv j h=>cu h λag hd ζ=>?_;rw[ag];unfold pS at e;have L:=cL.lookup k K;cases p:q.lookup k with
  |none=>
   rw[p] at e L;exact π e λy e Z=>ae e▸ .miss L
  |some d'=>
   rw[p] at e L;exact ν L λy L=>π e λx e a=>π e λz e i=>ae e▸ .hit L.1 (hf _ _ _ _ _ a hd L.2) (t ζ i)
def Dk(A:Around)(s:Shared)(u v:Value)(b:Bool):Prop:=RcAt A s u v b/\RcNeAt A s u v (!b)
theorem yL(h:some a=some b)(k:Dk A s u v a):Dk A s u v b:=ae h▸k
theorem Hy(ζ:bA C F h B ds vs)(z:bA C F h B' es us)(q:ds.length=es.length):vs.toArray.size=us.toArray.size:=ζ.length.trans (q.trans z.length.symm)
theorem YO(ζ:cL C F h B ds vs)(z:cL C F h B' es us):(vs.length==us.length)=(ds.length==es.length):=by rw[ζ.length,z.length]
theorem Od n (ok:C.Ok F s) (G:C.Good) (R:A.units+n<cLine)
 (f:∀d d' u v b,gg (n-1) d d'=some b->Den C F s.heap B d u->Den C F s.heap B' d' v->EqAt A.in1 s u v b)
 (e:gg n d d'=some b) (H:cf C F s.heap B d u) (K:cf C F s.heap B' d' v):Dk A s u v b:=by
 have g:A.units<cLine:=e6 (c8 _ _) R;cases n with
 |zero=>exact aQ e
 |succ n=>
  cases d with
  |none=>exact aQ e
  |bool a=>exact π e λc e he=>yL e (H.bool▸K.fg he▸⟨RcAt.bool_bool _ _,RcNeAt.bool_bool _ _⟩)
  |int a=>exact π e λc e he=>yL e (ν H.int λt q=>ν (K.hI he) λl z=>q▸z▸⟨RcAt.int_int _ _ _ _,RcNeAt.int_int _ _ _ _⟩)
  |str a=>exact π e λc e he=>yL e (ν H.str λt q=>ν (K.qo he) λl z=>q▸z▸⟨RcAt.str_str _ _ _ _,RcNeAt.str_str _ _ _ _⟩)
  |υ a=>exact π e λc e he=>aP e λe γ=>yL e (ν H.υ λt q=>ν (K.vx he) λl z=>q.1▸z.1▸⟨λprog w E Q h=>AutoFloatOps.eq_0 h,λprog w E Q h=>AutoFloatOps.ne_0 h⟩)
  |tup ds=>
   refine π e λes e he=>ai H.tup λa vs q=>cu q λq ε ζ=>ai (K.vy he) λi us z=>cu z λz j y=>?_;have I:=MG f ζ y e;have Q:=Et e;have p:=Hy ζ y Q.1
   have key:((List.range (min vs.toArray.size us.toArray.size)).all (uD (gg n) ds es)&&vs.toArray.size==us.toArray.size)=b:=by
    rw[p,pq,hq,Bool.and_true,Q.2.1,<-p,gp,ζ.length]
   exact q▸z▸⟨key▸RcAt.tuples ε.lX j.lX g I,key▸RcNeAt.tuples ε.lX j.lX g I⟩
  |lst ds=>
   refine π e λes e he=>ai H.lst λa vs q=>cu q λq ε ζ=>ai (K.kp he) λi us z=>cu z λz j y=>q▸z▸?_;cases κ:ds.length==es.length with
   |true=>
    rw[κ] at e;have I:=MG f ζ y e;have Q:=Et e
    have key:((List.range vs.toArray.size).all (uD (gg n) ds es))=b:=by
     rw[Q.2.1,gp,ζ.length]
    exact⟨key▸RcAt.lists ε.isList j.isList (Hy ζ y Q.1) g I,key▸RcNeAt.lists ε.isList j.isList (Hy ζ y Q.1) g I⟩
   |false=>
    rw[κ] at e
    have p:(vs.toArray.size !=us.toArray.size)=true:=by
     show(!(vs.length==us.length))=true;rw[ζ.length,y.length,κ];rfl
    exact yL e ⟨RcAt.lists_lengths ε.isList j.isList p g,RcNeAt.lists_lengths ε.isList j.isList p g⟩
  |aX ds=>
   refine π e λes e he=>ai H.aX λa vs q=>b2 q λq x ε ζ=>ai (K.vw he) λi us z=>b2 z λz r j y=>q▸z▸?_;have L:=YO ζ y
   have I:(vs.length==us.length)=true->KeqHits A.in1 s us vs b:=λq=>by
    rw[show(ds.length==es.length)=true from L.symm.trans q] at e;exact Yw f y ζ e
   have key:(vs.length==us.length&&b)=b:=by
    cases κ:vs.length==us.length with
    |true=>exact Bool.true_and b
    |false=>
     rw[show(ds.length==es.length)=false from L.symm.trans κ] at e;exact ae e
   exact⟨λprog w E Q h=>keq_eq (knd:=intKind prog w) x r (Ac ε) (Ac j) g (λq=>I (h5.mpr q)) (by rw[key];exact h),
    λprog w E Q h=>keq_ne (knd:=intKind prog w) x r (Ac ε) (Ac j) g (λq=>I (h5.mpr q)) (by rw[key];exact h)⟩
theorem someE(h:some a=some b)(k:EqAt A s u v a):EqAt A s u v b:=ae h▸k
theorem KA(ok:C.Ok F s)(G:C.Good) n:∀A d d' u v b,A.units+n<cLine->gg n d d'=some b->
 Den C F s.heap B d u->Den C F s.heap B' d' v->EqAt A s u v b:=by
 induction n with
 |zero=>exact λγ γ γ γ γ γ γ e=>aQ e
 |succ n p=>
  intro A d d' u v b R e H K
  have ref:∀{a y:Addr},u=.ref a->v=.ref y->EqAt A s u v b:=λ{a y} r f=>by
   rw[r] at H⊢;rw[f] at K⊢
   by_cases q:a=y
   ·rw[<-q] at K⊢;rw[S' (n+1) d d' (.ref a) b H K e];exact EqAt.same _
   ·exact EqAt.of_refs q (Od (n+1) ok G R (λd d' u v b aB l g=>p A.in1 d d' u v b (lu _ _ _▸R) aB l g) e H.o K.o).1
  cases d with
  |none=>exact aQ e
  |bool a=>exact π e λc e he=>someE e (H.o.bool▸K.o.fg he▸EqAt.bool_bool _ _)
  |int a=>exact π e λc e he=>someE e (ν H.o.int λt q=>ν (K.o.hI he) λj z=>q▸z▸EqAt.int_int _ _ _ _)
  |str a=>exact π e λc e he=>someE e (ν H.o.str λt q=>ν (K.o.qo he) λj z=>q▸z▸EqAt.str_str _ _ _ _)
  |υ a=>exact π e λc e he=>aP e λe κ=>someE e (ν H.o.υ λt q=>ν (K.o.vx he) λj z=>q.1▸z.1▸TZ ok G q.2 z.2 ((lx _).mp (band κ).1))
  |tup ds=>exact π e λes e he=>ai H.o.tup λa vs q=>ai (K.o.vy he) λy us z=>ref q.1 z.1
  |lst ds=>exact π e λes e he=>ai H.o.lst λa vs q=>ai (K.o.kp he) λy us z=>ref q.1 z.1
  |aX ds=>exact π e λes e he=>ai H.o.aX λa vs q=>ai (K.o.vw he) λy us z=>ref q.1 z.1
end
section
variable{C:aE}{A:Around}{B B':Addr->Prop}{F F':bc}{s:Shared}{h:Heap}{u v:Value}{k:Nat}
theorem X9:∀{l} {vs} {b},bA C F h B l vs->isIn x l=some b->
 (∀d w c,Den C F h B d w->nE d x=some c->e w=c)->b=vs.any e:=by
 intro j
 induction j with
 |nil=>
  intro γ b H q γ;rw[H];exact(ae q).symm
 |cons d l y=>
  intro γ b H q he
  exact ai H λw r k=>cu k λk hd ζ=>π q λc q g=>π q λp q z=>by
   rw[k,List.any_cons,he d w c hd g,<-y ζ z he];exact(ae q).symm
theorem X_:∀{l} {vs} {b},bA C F h B l vs->isIn x l=some b->∀w∈vs,∃d c,Den C F h B d w/\nE d x=some c:=by
 intro j
 induction j with
 |nil=>
  intro γ b H q w hw;rw[H] at hw;exact nomatch hw
 |cons d l y=>
  intro γ b H q w hw
  exact ai H λf r k=>cu k λk hd ζ=>π q λc q g=>π q λp q z=>by
   rw[k] at hw;exact(cn.mp hw).elim (λe=>⟨d,c,e▸hd,g⟩) λhw=>y ζ z w hw
open Classical in
theorem A_(ok:C.Ok F s)(G:C.Good)(R:a_ A (k+1))(H:bA C F s.heap B l vs)(K:Den C F s.heap B' x v)(e:isIn x l=some b):
 ∃p,(∀y,y∈vs.toArray->EqAt A.in1 s y v (p y))/\vs.toArray.any p=b:=by
 have z:∀{d w c},Den C F s.heap B d w->nE d x=some c->decide (∃d,Den C F s.heap B d w/\nE d x=some true)=c:=λ{d w c} hd κ=>by
  cases c with
  |true=>exact cA ⟨d,hd,κ⟩
  |false=>exact gE λ⟨d',f,j⟩=>by rw[<-Den.unique hd f,κ] at j;exact dk (ae j).symm
 refine⟨λy=>decide (∃d,Den C F s.heap B d y/\nE d x=some true),λy g=>?_,?_⟩
 ·refine ai (X_ H e y (by simpa using g)) λd c q=>?_;show EqAt A.in1 s y v (decide _);rw[z q.1 q.2];exact KA ok G 8 A.in1 d x y v c (by have:=R.units;show A.units+1+8<_;lia) q.2 q.1 K
 ·rw[List.any_toArray];exact(X9 H e λd w c hd κ=>z hd κ).symm
theorem lookup_isSome(l:List (Int×D)) k:(l.any λp=>p.1==k)=(l.lookup k).isSome:=by
 induction l with
 |nil=>rfl
 |cons p l z=>
  rw[List.any_cons,fP];cases h:k==p.1 with
  |true=>rw[eq_of_beq h];simp
  |false=>
   have:(p.1==k)=false:=by
    cases y:p.1==k with
    |false=>rfl
    |true=>rw[eq_of_beq y] at h;simp at h
   rw[this,Bool.false_or,z]
theorem qeb(K:cL C F h B ds us) k:(valueAt us k).isSome=(ds.any λp=>p.1==k):=by
 rw[lookup_isSome];have L:=cL.lookup k K;cases z:ds.lookup k with
 |none=>rw[z] at L;exact bp Option.isSome L
 |some d=>rw[z] at L;exact ν L λv q=>bp Option.isSome q.1
theorem qt(h:some a=some b)(k:Gives C A B F t (.bool a) s):Gives C A B F t (.bool b) s:=ae h▸k
theorem HI(H:cf C F s.heap B a u)(K:cf C F s.heap B d v)(e:two dv dv f a d=some b)
 (k:∀x y t z,f x y=some b->Gives C A B F (compareOp op (.int x t) (.int y z)) (.bool b) s):Gives C A B F (compareOp op u v) (.bool b) s:=
 π e λx e p=>π e λy e j=>ν (H.hI p) λt q=>ν (K.hI j) λz g=>q▸g▸k x y t z e
theorem Ss(e:e' op a d=some b)(ok:C.Ok F s)(G:C.Good)(R:a_ A (k+1))(H:cf C F s.heap B a u)(K:cf C F s.heap B d v)
 (f:op=.In∨op=.NotIn->Den C F s.heap B a u):Gives C A B F (compareOp op u v) (.bool b) s:=by
 have rc:=λ{c:Bool} (e:nE a d=some c)=>Od (u:=u) (v:=v) 8 ok G (A:=A) (by have:=R.units;lia) (λd d' u v b aB Z n=>KA ok G 7 A.in1 d d' u v b (by have:=R.units;show A.units+1+7<_;lia) aB Z n) e H K;cases op with
 |Eq=>exact λE=>(rc e).1 _ _ E _ (lP ok)
 |NotEq=>exact π e λc e κ=>qt e λE=>(rc κ).2 _ _ E _ (lP ok)
 |Lt=>exact HI H K e λx y t i e=>qt e λE=>lt_int (lP ok)
 |Gt=>exact HI H K e λx y t i e=>qt e λE=>gt_int (lP ok)
 |GtE=>exact HI H K e λx y t i e=>qt e λE=>ge_int (lP ok)
 |LtE=>exact π e λx e g=>π e λy e z=>qt e (ν (H.vx g) λt q=>ν (K.vx z) λi j=>q.1▸j.1▸λE=>AutoFloatOps.le_0 (lP ok))
 |Is=>exact π e λx e g=>π e λy e z=>qt e (H.fg g▸K.fg z▸λE=>is_bool (lP ok))
 |In=>
  refine b' e (λe=>π e λx e g=>π e λy e z=>qt e (ν (H.hI g) λt q=>ai (K.vw z) λa us j=>b2 j λj h0 hd ζ=>q▸j▸λE=>?_)) λe=>
   b' e (λe=>π e λl e ζ=>ai (K.vy ζ) λx us q=>cu q λq hd ζ=>ν (A_ ok G R ζ (f (.inl rfl)) e) λp r=>q▸λE=>in_tupleAt p hd.lX r.1 (r.2.symm▸lP ok)) λe=>
   π e λl e ζ=>ai (K.kp ζ) λx us q=>cu q λq hd ζ=>ν (A_ ok G R ζ (f (.inl rfl)) e) λp r=>q▸λE=>in_listAt p hd.isList r.1 (r.2.symm▸lP ok)
  refine wpAny_in_of (knd:=C.dR) (r' _ _ _ _) h0 hd.mapOf ?_;rw[qeb ζ];exact⟨F,.tok ok (c9 _),rfl⟩
 |NotIn=>
  exact b' e (λe=>π e λl e ζ=>π e λc e κ=>qt e (ai (K.vy ζ) λx us q=>cu q λq hd ζ=>ν (A_ ok G R ζ (f (.inr rfl)) κ) λp r=>q▸λE=>notIn_tupleAt p hd.lX r.1 (r.2.symm▸lP ok))) λe=>
   π e λl e ζ=>π e λc e κ=>qt e (ai (K.kp ζ) λx us q=>cu q λq hd ζ=>ν (A_ ok G R ζ (f (.inr rfl)) κ) λp r=>q▸λE=>notIn_listAt p hd.isList r.1 (r.2.symm▸lP ok))
 |_=>exact aQ e
end
def jy(h:Heap)(env:Env)(x:Str)(v:Value):Prop:=i0 x=true∨
 (env.kindOf x=some .local/\∃m,h.Ns env.locals m/\m x=some v)∨
 ((env.kindOf x=some .cell∨env.kindOf x=some .free)/\∃c,env.cells.lookup x=some c/\h.IsCell c (some v))
def iJ(C:aE)(F:bc)(h:Heap)(B:Addr->Prop)(α:Str->Addr)(x:Str):aC->Value->Prop
 |.val d,v=>Den C F h B d v
 |.own d,v=>v=.ref (α x)/\fW C F h B d (α x)
 |.gn ks,v=>v=.ref (α x)/\¬B (α x)/\(α x==sysModules)=false/\h.DictOf C.dR (α x) (ks.map λk=>(k,.ref (α (cz k))))
structure St(C:aE)(B:Addr->Prop)(K:Kinds)(env:Env)(α:Str->Addr)(F:bc)(σ:Γ)(s:Shared):Prop where
 ok:C.Ok F s
 bad:C.dZ B s
 kind:env.scope.kind=.function
 glob:env.globals=mainGlobals
 blt:env.builtins=builtinsNs
 code:rH K=true->∃q∈C.T,env.code=.ref q.1
 gh:∀x,K.lookup x=some .globalImplicit->env.kindOf x=some .globalImplicit
 cells:∀x,(K.lookup x=some .cell∨K.lookup x=some .free)->(∃c w,env.cells.lookup x=some c/\s.heap.IsCell c w)/\(env.kindOf x=some .cell∨env.kindOf x=some .free)
 nm:∀x lv,σ.get x=some lv->i0 x=false->eU x=true
 vars:∀x lv,σ.get x=some lv->∃v,jy s.heap env x v/\iJ C F s.heap B α x lv v
def C6(C:aE)(Ω:Nat)(a:Addr)(f:List D->Option D):Prop:=
 ∀(A:Around) (F:bc) (B:Addr->Prop) (s:Shared) (vs:List Value) (ds:List D) (d:D),a_ A Ω->C.Ok F s->C.dZ B s->bA C F s.heap B ds vs->f ds=some d->
  Run C A F (call (.ref a) vs) (h6 C B d) s
def C5(C:aE)(Ω:Nat)(a:Addr)(f:D->List D->Option D):Prop:=
 ∀(A:Around) (ay:bc) (s0:Shared) (F:bc) (s:Shared) (B:Addr->Prop) (m:Addr) (vs:List Value) (ds:List D) (d d':D),a_ A Ω->C.Ok ay s0->C.Step ay s0 F s->C.dZ (λb=>B b∨b=m) s->s0.heap.get? m=none->¬B m->(∀b∈C.bo,B b)->
  fW C F s.heap (λb=>B b∨b=m) d m->bA C F s.heap (λb=>B b∨b=m) ds vs->f d ds=some d'->
  ∀E,wpAny C.M A (call (.ref a) (.ref m::vs)) (λv s'=>v=.none/\∃F',C.Ok F' s'/\(∀b o,b∉C.bo->b≠m->s.heap.get? b=some o->s'.heap.get? b=some o)/\s'.os=s.os/\(∀t x,F t=some x->F' t=some x)/\s.toks<=s'.toks/\fW C F' s'.heap (λb=>B b∨b=m) d' m) E s
noncomputable def wC:List (Str×Int)->List (Str×Value)->Prop
 |[],us=>us=[]
 |(x,i)::r,us=>∃t q,us=(x,.int i t)::q/\wC r q
def IT(C:aE)(S:dH)(Ω:Nat)(x:Str):fT->Value->Prop
 |.int i,v=>∃t,v=.int i t
 |.tab l,v=>∃a us,v=.ref a/\(a==sysModules)=false/\C.fU.DictOf (strKind C.prog C.w) a us/\wC l us
 |.fn,v=>∃a o fd,v=.ref a/\C.fU.get? a=some o/\o.data=.func fd/\C6 C Ω a (S.C2 x)/\C5 C Ω a (S.zx x)
 |.bi id,v=>v=.builtin id
 |.ty n,v=>v=.type n
def IW(C:aE)(x:Str)(v:Value):Prop:=C.c0 x=some v∨(C.c0 x=none/\C.bM x=some v)
def dA(C:aE)(S:dH)(Ω:Nat):Prop:=∀x f9,S.G.lookup x=some f9->∃v,IW C x v/\IT C S Ω x f9 v/\(x==("__debug__" :Str))=false
section
variable{C:aE}{S:dH}{A:Around}{B B':Addr->Prop}{F F':bc}{s s':Shared}{h h':Heap}{u v:Value}{k Ω:Nat}{K:Kinds}{env:Env}{α:Str->Addr}{σ:Γ}
theorem aE.Ok.kn(H:C.Ok F s)(e:s.heap.get? b=some o)(hd:∀ao,o.data≠ .fields ao):b∉C.bo:=λz=>
 ν (bV.mp z) λq k=>ν (H.tabs q k.1) λao h=>hd ao (by rw[<-k.2] at e;rw[ae (e.symm.trans h.2.2)])
theorem aE.Step.get(X:C.Step F s F' s')(ok:C.Ok F s)(e:s.heap.get? b=some o)(hd:∀ao,o.data≠ .fields ao):s'.heap.get? b=some o:=
 X.keep b o (ok.kn e hd) e
theorem aE.Step.ns(X:C.Step F s F' s')(ok:C.Ok F s)(z:s.heap.Ns b m):s'.heap.Ns b m:=
 cN z λo es ep q=>⟨o,es,ep,X.get ok q.1 (λao=>by rw[q.2.1];nofun),q.2⟩
theorem aE.Step.cell(X:C.Step F s F' s')(ok:C.Ok F s){w:Option Value}(z:s.heap.IsCell b w):s'.heap.IsCell b w:=
 ν z λo q=>⟨o,X.get ok q.1 (λao=>by rw[q.2];nofun),q.2⟩
theorem kr(H:fW C F h B d a):∃o,h.get? a=some o/\∀ao,o.data≠ .fields ao:=by
 cases d with
 |lst ds=>exact ν H λvs q=>ν q.1 λn g=>⟨_,g,λao=>nofun⟩
 |aX ds=>exact ν H.2 λus q=>cN q.1 λo es ep g=>⟨o,g.1,λao=>by rw[g.2.2.1];nofun⟩
 |_=>exact H.elim
theorem OE(H:fW C F h B d a)(K:h.get? a=none){P:Prop}:P:=ν (kr H) λo q=>jq (q.1.symm.trans K)
theorem aE.Step.eh(X:C.Step F s F' s')(ok:C.Ok F s)(K:C.dZ B s)(H:fW C F s.heap B d a):fW C F' s'.heap B d a:=
 ν (kr H) λo q=>H.grow (X.grow K) λbf e=>X.get ok e (ae (q.1.symm.trans e)▸q.2)
theorem jy.to(H:jy h env x v)(z:∀m,h.Ns env.locals m->h'.Ns env.locals m)(κ:∀c w,env.cells.lookup x=some c->h.IsCell c w->h'.IsCell c w):jy h' env x v:=
 H.imp id λH=>mj H (λq=>.inl ⟨q.1,ν q.2 λm k=>⟨m,z m k.1,k.2⟩⟩) λq=>.inr ⟨q.1,ν q.2 λc k=>⟨c,k.1,κ c _ k.1 k.2⟩⟩
theorem Ad(H:h.DictOf C.dR a us):∃o,h.get? a=some o/\∀ao,o.data≠ .fields ao:=cN H λo es ep g=>⟨o,g.1,λao=>by rw[g.2.2.1];nofun⟩
theorem iJ.to{lv:aC}(G:dt F h B F' h' B')(k:∀d,lv=.own d->∀o,h.get? (α x)=some o->h'.get? (α x)=some o)(H:iJ C F h B α x lv v):iJ C F' h' B' α x lv v:=by
 cases lv with
 |val d=>exact Den.grow G H
 |own d=>exact⟨H.1,H.2.grow G (k d rfl)⟩
 |gn ks=>exact⟨H.1,ν (Ad H.2.2.2) λo q=>G.bad _ _ H.2.1 q.1,H.2.2.1,tf H.2.2.2 λo e=>G.keep _ o H.2.1 e⟩
theorem iJ.adr(ε:cI x=α x)(z:∀ks,lv=.gn ks->∀k∈ks,cI (cz k)=α (cz k))(H:iJ C F h B α x lv v):iJ C F h B cI x lv v:=by
 cases lv with
 |val d=>exact H
 |own d=>exact⟨ε▸H.1,ε▸H.2⟩
 |gn ks=>exact⟨ε▸H.1,ε▸H.2.1,ε▸H.2.2.1,by rw[ε,m5 λk y=>by rw[z ks rfl k y]];exact H.2.2.2⟩
theorem iJ.step(X:C.Step F s F' s')(ok:C.Ok F s)(G:dt F s.heap B F' s'.heap B')(H:iJ C F s.heap B α x lv v):iJ C F' s'.heap B' α x lv v:=
 H.to G λd e o g=>X.get ok g (by rw[e] at H;exact ν (kr H.2) λbf q=>ae (q.1.symm.trans g)▸q.2)
theorem jy.step(X:C.Step F s F' s')(ok:C.Ok F s)(H:jy s.heap env x v):jy s'.heap env x v:=H.to (λm=>X.ns ok) λc w γ=>X.cell ok
theorem St.step(H:St C B K env α F σ s)(X:C.Step F s F' s'):St C B K env α F' σ s':=
 ⟨X.ok,H.bad.step X,H.kind,H.glob,H.blt,H.code,H.gh,λx e=>⟨ai (H.cells x e).1 λc w q=>⟨c,w,q.1,X.cell H.ok q.2⟩,(H.cells x e).2⟩,H.nm,λx lv e=>ν (H.vars x lv e) λv q=>⟨v,q.1.step X H.ok,q.2.step X H.ok (X.grow H.bad)⟩⟩
theorem St.Z'(H:St C B K env α F σ s)(e:σ.get x=some lv)(hd:lv.d=some d):∃v,jy s.heap env x v/\cf C F s.heap B d v:=
 ν (H.vars x lv e) λv q=>⟨v,q.1,by
  have q:=q.2;cases lv with
  |val d=>exact ae hd▸ .inl q
  |own d=>exact ae hd▸ .inr ⟨_,q.1,q.2⟩
  |gn ks=>exact jq hd.symm⟩
theorem G5(h:eU x=true):(x==("__debug__" :Str))=false/\(x==("__classdict__" :Str))=false:=⟨(lx _).mp (band (band h).1).1,(lx _).mp (band (band h).1).2⟩
theorem BJ(h:eU x=true):i0 x=false:=(lx _).mp (band h).2
theorem AN k:i0 (cz k)=true:=rfl
theorem AO(h:eU x=true) k:cz k≠x:=λe=>dk ((AN k).symm.trans (e▸BJ h))
theorem lg(h:σ.gQ x=some lv):σ.get x=some lv/\i0 x=false:=by
 unfold Γ.gQ at h;cases e:i0 x with
 |true=>rw[e] at h;exact aQ h
 |false=>rw[e] at h;exact⟨h,rfl⟩
theorem St.plain(H:St C B K env α F σ s)(h:σ.gQ x=some lv):eU x=true:=H.nm x lv (lg h).1 (lg h).2
theorem jy.plain(H:jy h env x v)(z:eU x=true):(env.kindOf x=some .local/\∃m,h.Ns env.locals m/\m x=some v)∨
 ((env.kindOf x=some .cell∨env.kindOf x=some .free)/\∃c,env.cells.lookup x=some c/\h.IsCell c (some v)):=H.elim (λq=>dk (q.symm.trans (BJ z))) id
theorem n2{Q:cg}(y:env.scope.kind=.function)(H:jy s.heap env x v)
 (z:eU x=true) (h:Q v s):wpAny C.M A (eval (.Name x pos) env) Q E s:=
 wpAny_Name (mj (H.plain z) (λq=>ν q.2 λm k=>wpAny_loadName_local y q.1 k.1 k.2 h) λq=>ν q.2 λc k=>q.1.elim (λε=>wpAny_loadName_cell y ε k.1 k.2 h) λε=>wpAny_loadName_free y ε k.1 k.2 h (G5 z).2) (G5 z).1
theorem qeA(G:C.Good)(H:St C B K env α F σ s){x:Str}{E:cg}{Q:cg}(z:env.kindOf x=some .globalImplicit)(g:IW C x v)(h:Q v s):
 wpAny C.M A (loadName env x) Q E s:=by
 rw[loadName_read H.kind z];unfold loadGlobal;rw[H.glob,H.blt];refine aR (wpAny_nsGet (H.ok.ns G G.g) ?_);refine mj g (λg=>?_) λg=>?_
 ·rw[g];exact b7 h
 ·rw[g.1];refine aR (wpAny_nsGet (H.ok.ns G G.b) ?_);rw[g.2];exact b7 h
end
abbrev On(C:aE)(B:Addr->Prop)(d:D):Value->bc->el:=λv F s=>cf C F s.heap B d v
abbrev QD(C:aE)(B:Addr->Prop)(ds:List D):List Value->bc->el:=λvs F s=>bA C F s.heap B ds vs
section
variable{C:aE}{S:dH}{A:Around}{B B':Addr->Prop}{F F' a0:bc}{s s' av:Shared}{h h':Heap}{u v:Value}{k Ω n:Nat}{K:Kinds}{env:Env}{α:Str->Addr}{σ:Γ}
theorem Run.e4(h:Run C A F t P s)(H:St C B K env α F σ s)
 (k:∀v a0 av,C.Step F s a0 av->St C B K env α a0 σ av->P v a0 av->z v av):wpAny C.M A t z E s:=
 Run.seq h λv a0 av X p=>k v a0 av X (H.step X) p
def cH(C:aE)(S:dH)(Ω n:Nat):Prop:=∀(K:Kinds) (e:Expr) (σ:Γ) (d:D),μ S n K e σ=some d->
 ∀(A:Around) (env:Env) (α:Str->Addr) (B:Addr->Prop) (F:bc) (s:Shared),a_ A (Ω+n)->St C B K env α F σ s->Gives C A B F (eval e env) d s
abbrev wg(b:Bool):Bool->bc->el:=λv γ γ=>v=b
def iO(C:aE)(S:dH)(Ω n:Nat):Prop:=∀(K:Kinds) (e:Expr) (σ:Γ) (b:Bool),b9 S n K e σ=some b->
 ∀(A:Around) (env:Env) (α:Str->Addr) (B:Addr->Prop) (F:bc) (s:Shared),a_ A (Ω+n)->St C B K env α F σ s->
  Run C A F (isTrue e env (eval e env)) (wg b) s
theorem cf.tB(X:C.Step F s F' s')(ok:C.Ok F s)(z:C.dZ B s)(H:cf C F s.heap B d v):cf C F' s'.heap B d v:=
 H.elim (λH=>.inl (H.grow (X.grow z))) λH=>ν H λa q=>.inr ⟨a,q.1,X.eh ok z q.2⟩
theorem qm(aw:cH C S Ω n)(R:a_ A (Ω+n))(H:St C B K env α F σ s)(h:operand (μ S n) K e σ=some d):
 Run C A F (eval e env) (On C B d) s:=
 rM h (λlv h q=>π q λx z q=>ν (gH q) λp ag=>λE=>by
  rw[ag];exact ν (H.Z' (lg z).1 h) λv q=>n2 H.kind q.1 (H.plain z) ⟨F,.refl H.ok,q.2⟩) λh γ E=>Run.seq (aw K e σ d h A env α B F s R H) λv a0 av X D=>⟨a0,X,.inl D⟩
def Plain(e:Expr):Prop:=∀rest env,starEach (e::rest) env=(false,eval e env)::starEach rest env
theorem N9 e (h:Nat.beq e.ctorIdx 22=false):Plain e:=by
 cases e with
 |Starred e p=>exact dk h
 |_=>exact λγ γ=>rfl
theorem N_ e (h:(∃x p,e=.Starred x p)->False):Plain e:=by
 cases z:Nat.beq e.ctorIdx 22 with
 |false=>exact N9 e z
 |true=>exact(h (Expr.Starred.elim (motive_1:=λe=>∃x p,e=.Starred x p) e (n' z) λx p=>⟨x,p,rfl⟩)).elim
theorem eJ(h:μ S n K e σ=some d):Plain e:=N_ e λq=>ai q λx p q=>by
 rw[q] at h;cases n<;>exact aQ h
theorem oI(h:each f (e::r)=some ds):∃d q,f e=some d/\each f r=some q/\ds=d::q:=
 π h λd h ε=>π h λq h z=>⟨d,q,ε,z,(ae h).symm⟩
theorem sI(aw:cH C S Ω n)(R:a_ A (Ω+n)):∀{es} {ds} {F} {s},each (λa=>μ S n K a σ) es=some ds->St C B K env α F σ s->
 Run C A F (spliced (backTo pos (starEach es env))) (QD C B ds) s:=by
 intro g
 induction g with
 |nil=>
  intro ds F s h H;exact λE=>r7 ⟨F,.refl H.ok,by rw[<-ae h];rfl⟩
 |cons e r j=>
  intro ds F s h H
  exact ai (oI h) λd q k=>λE=>
   ob (Run.e4 (aw K e σ d k.1 A env α B F s R H) H λv a0 av y z f=>Run.post (j k.2.1 z) y λvs l aN p t=>by
    rw[k.2.2];exact⟨v,vs,rfl,f.grow (p.grow z.bad),t⟩) (eJ k.1 _ _)
theorem T7(h:Kc c=some d)(H:St C B K env α F σ s):Gives C A B F (eval (.Constant c z p) env) d s:=by
 cases c with
 |none=>exact dT h λE=>wpAny_Constant_none ⟨F,.refl H.ok,rfl⟩
 |bool b=>exact dT h λE=>wpAny_Constant_bool (lP H.ok)
 |int i=>exact dT h λE=>wpAny_Constant_int (oO H.ok _)
 |float x=>exact dT h λE=>AutoFloatOps.wpAny_Constant_float (nH H.ok)
 |str x=>exact dT h λE=>IA (ES H.ok _)
 |_=>exact aQ h
theorem V5(h:glob S K σ x=some f9)(H:St C B K env α F σ s):env.kindOf x=some .globalImplicit/\S.G.lookup x=some f9:=
 aP h λh q=>⟨H.gh x (eq_of_beq (band q).2),h⟩
theorem md(G:C.Good)(O:dA C S Ω)(H:St C B K env α F σ s){x:Str}{p:Pos}{f9:fT}(h:glob S K σ x=some f9){E:cg}{Q:cg}
 (q:∀v,IT C S Ω x f9 v->Q v s):wpAny C.M A (eval (.Name x p) env) Q E s:=
 bL (V5 h H) λε z=>ν (O x f9 z) λv g=>wpAny_Name (qeA G H ε g.1 (q v g.2.1)) g.2.2
theorem VN(h:K_ g=some i):g=.int i:=by cases g<;>first|exact aQ h|exact ae h▸rfl
theorem La{i}(h:K' g=some i):g=.tab i:=by cases g<;>first|exact aQ h|exact ae h▸rfl
theorem VO(h:Lb g=some i):g=.ty i:=by cases g<;>first|exact aQ h|exact ae h▸rfl
theorem VM(h:K9 g=some i):g=.bi i:=by cases g<;>first|exact aQ h|exact ae h▸rfl
theorem Gn(h:yi g=some d):g=.val d:=by cases g<;>first|exact aQ h|exact ae h▸rfl
theorem Gm(h:tj g=some d):g=.own d:=by cases g<;>first|exact aQ h|exact ae h▸rfl
theorem Ub(G:C.Good)(O:dA C S Ω)(H:St C B K env α F σ s)(h:Ny S K x σ=some d):Gives C A B F (eval (.Name x p) env) d s:=
 rM h (λlv h z E=>ν (H.vars x (.val d) (Gn h▸(lg z).1)) λv q=>n2 H.kind q.1 (H.plain z) ⟨F,.refl H.ok,q.2⟩)
  λh γ=>π h λg h y=>π h λi h ρ=>dT h λE=>md (f9:=.int i) G O H (VN ρ▸y) λv j=>⟨F,.refl H.ok,j⟩
theorem Ue(aw:cH C S Ω n)(R:a_ A (Ω+n))(H:St C B K env α F σ s)(h:μ S (n+1) K (.Tuple es c p) σ=some d):
 Gives C A B F (eval (.Tuple es c p) env) d s:=
 π (x:=each (λa=>μ S n K a σ) es) h λds h ε=>aP h λh ζ=>dT h λE=>wpAny_Tuple (Run.e4 (sI aw R ε H) H λvs a0 av z j y=>
  ⟨y.length▸iw.mp ζ,ν (Lk j.bad z.ok y) λg q=>⟨g,z.trans q.1,q.2⟩⟩)
theorem T'(aw:cH C S Ω n)(R:a_ A (Ω+n))(H:St C B K env α F σ s)(h:μ S (n+1) K (.List es p) σ=some d):
 Gives C A B F (eval (.List es p) env) d s:=
 π (x:=each (λa=>μ S n K a σ) es) h λds h ε=>aP h λh ζ=>dT h λE=>wpAny_List (Run.e4 (sI aw R ε H) H λvs a0 av z j y=>
  ⟨y.length▸iw.mp ζ,ν (AA j.bad z.ok y) λg q=>⟨g,z.trans q.1,q.2⟩⟩)
theorem qdC(aw:cH C S Ω n)(R:a_ A (Ω+n))(H:St C B K env α F σ s)(ε:operand (μ S n) K l σ=some a)(t:operand (μ S n) K r σ=some b)
 {Q:Value->cg} (q:∀u v F' s',C.Step F s F' s'->St C B K env α F' σ s'->cf C F' s'.heap B a u->cf C F' s'.heap B b v->Q u v s'):
 wpAny C.M A (eval l env) (λa av=>wpAny C.M A (eval r env) (λb aN=>Q a b aN) E av) E s:=
 Run.e4 (qm aw R H ε) H λu a0 av j z p=>Run.e4 (qm aw R z t) z λv g aN y e f=>
  q u v g aN (j.trans y) e (p.tB y z.ok z.bad) f
theorem T4(aw:cH C S Ω n)(R:a_ A (Ω+n))(H:St C B K env α F σ s)(h:μ S (n+1) K (.BinOp l op r p) σ=some d):
 Gives C A B F (eval (.BinOp l op r p) env) d s:=
 π (f:=λa=>(operand (μ S n) K r σ).bind λb=>binop op a b) h λa h ε=>π h λb h g=>λE=>
  wpAny_BinOp (qdC aw R H ε g λu v a0 av y z j q=>Run.on (R2 h z.ok z.bad j q) y)
theorem Ug(aw:cH C S Ω n)(R:a_ A (Ω+n))(H:St C B K env α F σ s)(h:μ S (n+1) K (.UnaryOp op x p) σ=some d):
 Gives C A B F (eval (.UnaryOp op x p) env) d s:=by
 cases op with
 |USub=>
  refine π (x:=μ S n K x σ) h λc h ε=>π h λi h ρ=>dT h λE=>?_;exact wpAny_UnaryOp (Run.seq (aw K x σ _ ε A env α B F s R H) λv a0 av z j=>ν (j.o.hI ρ) λt e=>e▸PySem.P.neg_int (ν (oO (B:=B) (i:= -i) z.ok av.toks) λy q=>⟨y,z.trans q.1,q.2⟩))
 |_=>exact aQ h
theorem T9(aw:cH C S Ω n)(j:iO C S Ω n)(R:a_ A (Ω+n))(H:St C B K env α F σ s)(h:μ S (n+1) K (.IfExp t b o p) σ=some d):
 Gives C A B F (eval (.IfExp t b o p) env) d s:=
 π (f:=λc=>nC c (μ S n K b σ) (μ S n K o σ)) h λc h ε=>λE=>wpAny_IfExp (Run.e4 (j K t σ c ε A env α B F s R H) H λv a0 av y z e=>by
  rw[e];cases c with
  |true=>exact Run.on (aw K b σ _ h A env α B a0 av R z) y
  |false=>exact Run.on (aw K o σ _ h A env α B a0 av R z) y)
end
section
variable{C:aE}{S:dH}{A:Around}{B B':Addr->Prop}{F F':bc}{s s':Shared}{h h':Heap}{u v:Value}{k Ω n:Nat}{K:Kinds}{env:Env}{α:Str->Addr}{σ:Γ}
abbrev P7(C:aE)(B:Addr->Prop)(op:CmpOp)(d:D):Value->bc->el:=λv F s=>cf C F s.heap B d v/\(yk op=true->Den C F s.heap B d v)
theorem MV(aw:cH C S Ω n)(R:a_ A (Ω+n))(H:St C B K env α F σ s)(h:u5 (μ S n) K op e σ=some d):
 Run C A F (eval e env) (P7 C B op d) s:=by
 intro E;unfold u5 at h;cases hm:yk op with
 |true=>rw[hm] at h;exact Run.seq (aw K e σ d h A env α B F s R H) λv a0 av X D=>⟨a0,X,.inl D,λγ=>D⟩
 |false=>rw[hm] at h;exact Run.seq (qm aw R H h) λv a0 av X D=>⟨a0,X,D,λq=>dk (q.symm.trans hm)⟩
theorem Z8(h:operand (μ S n) K e σ=some d):behindInMarks op e=false:=by
 have key:∀e:Expr,Nat.beq e.ctorIdx 7=false->behindInMarks op e=false:=λe q=>by
  cases e with
  |Set es c p=>exact dk q
  |_=>rfl
 cases z:Nat.beq e.ctorIdx 7 with
 |false=>exact key e z
 |true=>exact Expr.Set.elim (motive_1:=λe=>operand (μ S n) K e σ=some d->behindInMarks op e=false) e (n' z) (λx k p h=>by cases n<;>exact aQ h) h
theorem Ph:∀{l:List (Str×Int)} {us:List (Str×Value)} (x:Str),wC l us->
 (match l.lookup x with|none=>valueAt us x=none|some i=>∃t,valueAt us x=some (.int i t)):=by
 intro g
 induction g with
 |nil=>
  intro us x H;rw[show us=[] from H];rfl
 |cons a r j=>
  obtain⟨y,i⟩:=a;intro us x Z;obtain⟨t,q,e,ζ⟩:=Z;rw[e,fP];cases z:x==y with
  |true=>
   refine⟨t,?_⟩;unfold valueAt;rw[Ih (by rw[eq_of_beq z];simp)];rfl
  |false=>
   have f:y≠x:=λq=>by rw[q] at z;simp at z
   have p:valueAt ((y,.int i t)::q) x=valueAt q x:=by
    unfold valueAt;rw[Ii (by simpa using f)]
   rw[p];exact j x ζ
theorem qcM{l:List (Str×Int)} x:(l.any λp=>p.1==x)=(l.lookup x).isSome:=by
 induction l with
 |nil=>rfl
 |cons p r j=>
  obtain⟨y,i⟩:=p;rw[List.any_cons,fP,j];cases z:x==y with
  |true=>have e:=eq_of_beq z;subst e;simp
  |false=>
   have q:(y==x)=false:=by
    cases g:y==x with
    |false=>rfl
    |true=>have e:=eq_of_beq g;subst e;simp at z
   simp [q]
theorem qcQ x (H:wC l us):(valueAt us x).isSome=(l.any λp=>p.1==x):=by
 rw[qcM];have L:=Ph x H;cases z:l.lookup x with
 |none=>rw[z] at L;simp only at L;rw[L];rfl
 |some d=>rw[z] at L;obtain⟨v,e⟩:=L;rw[e];rfl
theorem aE.Ok.Ea(ok:C.Ok F s)(G:C.Good)(H:C.fU.DictOf (strKind C.prog C.w) a us):s.heap.DictOf (strKind C.prog C.w) a us:=by
 obtain⟨o,es,ep,e,hd,he,r⟩:=H;exact⟨o,es,ep,ok.base a o (G.kn e λao=>by rw[he];nofun) e,hd,he,r⟩
theorem Y'(h:op=.In∨op=.NotIn):yk op=true:=h.elim (λe=>e▸rfl) λe=>e▸rfl
theorem X8{op:CmpOp}(h:Nat.beq op.ctorIdx 8=true):op=.In:=by cases op<;>first|rfl|exact jo h
theorem J_(G:C.Good)(O:dA C S Ω)(aw:cH C S Ω n)(R:a_ A (Ω+n+1))(H:St C B K env α F σ s)
 (h:xa S (μ S n) K l op r σ=some d):behindInMarks op r=false/\∃b,d=.bool b/\∀E,
   wpAny C.M A (eval l env) (λa av=>wpAny C.M A (eval r env) (λc aN=>wpAny C.M A (compareOp op a c) (jx C F s λv γ γ=>v=.bool b) E aN) E av) E s:=by
 have f:=R.mono (c9 (Ω+n));refine π h λa h ε=>b' h (λh=>aP h λh Y=>π h λg h W=>π h λt h ω=>π h λx h P=>?_) λh=>π h λb h i=>π h λx h V=>?_
 ·refine ν (gH W) λq e=>π ω λf9 ω Z=>?_;rw[e,X8 Y];refine⟨rfl,_,(ae h).symm,λE=>Run.e4 (MV aw f H ε) H λu a0 av p z j=>md (f9:=.tab t) G O z (La ω▸Z) λv Q=>?_⟩;refine ν (j.1.qo P) λa' T=>ai Q λa us g=>b2 g λe h0 hd ζ=>?_;rw[T,e];refine wpAny_in_of (knd:=strKind C.prog C.w) (strKind_is _ _ _ _) h0 (z.ok.Ea G hd).mapOf ?_;rw[qcQ x ζ];exact⟨a0,p.trans (.tok z.ok (c9 _)),rfl⟩
 ·refine⟨Z8 i,x,(ae h).symm,λE=>Run.e4 (MV aw f H ε) H λu a0 av p z j=>Run.e4 (qm aw f z i) z λv N aN y L U=>?_⟩;exact Run.on (Ss (k:=Ω+n) (B:=B) V y.ok G R (j.1.tB y z.ok z.bad) U λc=>(j.2 (Y' c)).grow (y.grow z.bad)) (p.trans y)
theorem T6(G:C.Good)(O:dA C S Ω)(aw:cH C S Ω n)(R:a_ A (Ω+n+1))(H:St C B K env α F σ s)
 (h:xa S (μ S n) K l op r σ=some d):Gives C A B F (eval (.Compare l [op] [r] p) env) d s:=
 bL (J_ G O aw R H h) λhm q=>ν q λb q=>by
  rw[q.1];exact λE=>wpAny_Compare1 (q.2 E) hm
theorem wM(h:i.natAbs<2^62): -(2^63)<=i/\i<2^63:=
 have g:((i.natAbs:Nat):Int)<2^63:=IE (hL.mpr h) (by decide:((2^62:Nat):Int)<=2^63)
 ⟨Int.neg_le_of_neg_le (kF C0 (by rw[Int.natAbs_neg];exact h3 g)),zc C0 g⟩
theorem JO(h:uk l i=some d):∃j,seqIndex? i l.length=some j/\l[j]? =some d/\(0<=i->j=i.toNat)/\(i<0-> -(l.length:Int)<=i/\j=(i+l.length).toNat):=by
 unfold uk at h;unfold seqIndex?;split at h
 ·rename_i h0;have ζ:i.toNat<l.length:=by
   rcases Nat.lt_or_ge i.toNat l.length with q|q
   ·exact q
   ·rw[qM q] at h;exact aQ h
  refine⟨i.toNat,?_,h,λγ=>rfl,λz=>absurd h0 (zw.mpr z)⟩;have y:(if i<0 then i+(l.length:Int) else i)=i:=ar (gu.mpr h0);simp only[y];rw[au (j0.mpr ⟨cA h0,cA ((Int.toNat_lt h0).mp ζ)⟩)]
 ·rename_i h0;have z:=zw.mp h0;split at h
  ·rename_i ε;refine⟨(i+l.length).toNat,?_,h,λz=>absurd z h0,λγ=>⟨Int.le_of_sub_nonneg (by rw[Int.sub_neg];exact ε),rfl⟩⟩;have y:(if i<0 then i+(l.length:Int) else i)=i+l.length:=au z;simp only[y];have g:=Int.add_lt_add_right z (l.length:Int);rw[mg] at g;rw[au (j0.mpr ⟨cA ε,cA g⟩)]
  ·exact aQ h
theorem XZ(h:index d j=some r)(H:cf C F s.heap B d u):∃T id,s.TypeIs u T/\typeLookup (.type T) "__getitem__" =pure (some (.builtin id)):=
 π h λi h γ=>by
  cases d with
  |lst l=>exact ai H.lst λa us q=>⟨_,_,q.1▸q.2.1.isList.typeIs,slot_list_getitem.lookup⟩
  |tup l=>exact ai H.tup λa us q=>ν q.2.1 λm hd=>⟨_,_,q.1▸⟨_,hd,rfl⟩,PySem.F.slot_tuple_getitem.lookup⟩
  |aX l=>exact ai H.aX λa us q=>⟨_,_,q.1▸q.2.2.1.typeIs,slot_dict_getitem.lookup⟩
  |str x=>exact ν H.str λt q=>⟨_,_,q▸tZ _ _ _,PySem.F.slot_str_getitem.lookup⟩
  |_=>exact aQ h
theorem Mt(h:index d j=some r)(ok:C.Ok F s)(H:cf C F s.heap B d u)(J:Den C F s.heap B j v):Run C A F (getItem u v) (h6 C B r) s:=
 λE=>π h λi h ρ=>ν (J.o.hI ρ) λt e=>by
  rw[e];cases d with
  |lst l=>
   refine aP h λh z=>ai H.lst λa us q=>cu q λq hd ζ=>ν (JO h) λy k=>b2 k λε p f bu=>ν (ζ.get p) λv k=>?_;have z:=cU z;have g:us.toArray[y]? =some v:=(y6 ..).trans k.1;rw[q]
   by_cases h0:0<=i
   ·exact wpAny_getItem_list hd.isList h0 (wM z).2 (f h0▸g) ⟨F,.refl ok,k.2⟩
   ·have Z:=zw.mp h0;have bu:=bu Z;have e:us.toArray.size=l.length:=ζ.length;exact wpAny_getItem_list_neg hd.isList Z (by rw[e];exact bu.1) (wM z).1 (by rw[e,<-bu.2];exact g) ⟨F,.refl ok,k.2⟩
  |tup l=>
   refine aP h λh z=>ai H.tup λa us q=>cu q λq hd ζ=>ν (JO h) λy k=>b2 k λε p f bu=>ν (ζ.get p) λv k=>ν hd λm hd=>?_;have z:=cU z;have e:us.toArray.size=l.length:=ζ.length;have g:us.toArray[y]? =some v:=(y6 ..).trans k.1;rw[q];exact PySem.P.getItem_tuple hd (wM z).1 (wM z).2 (by rw[e];exact ε) g ⟨F,.refl ok,k.2⟩
  |aX l=>
   refine ai H.aX λa us q=>b2 q λq γ hd ζ=>?_;have L:=cL.lookup i ζ;rw[show l.lookup i=some r from h] at L;rw[q];exact ν L λv k=>wpAny_getItem_of (knd:=C.dR) (r' _ _ _ _) hd.mapOf k.1 ⟨F,.tok ok (c9 _),k.2⟩
  |str x=>
   refine aP h λh z=>ν H.str λY q=>?_;rw[q,<-ae h];exact SB.getItem (band z).1 (band z).2 (ES ok _)
  |_=>exact aQ h
theorem OK e:jB e=none->(∀o i,subscripted e false o i=operate [o,i] (getItem o i)):=by
 cases e with
 |Slice a b c p=>cases c with
  |none=>exact λh=>jq h
  |some c=>exact λγ γ γ=>rfl
 |_=>exact λγ γ γ=>rfl
theorem T_(aw:cH C S Ω n)(R:a_ A (Ω+n))(H:St C B K env α F σ s)(ρ:jB i=none)
 (ε:operand (μ S n) K x σ=some a) (h:((μ S n K i σ).bind λj=>index a j)=some d):Gives C A B F (eval (.Subscript x i p) env) d s:=
 π h λj h t=>λE=>Subscript_ (Run.e4 (qm aw R H ε) H λu a0 av e z f=>Run.e4 (aw K i σ j t A env α B a0 av R z) z λv l aN y Z r=>by
  have g:=f.tB y z.ok z.bad;exact ai (XZ h g) λT id q=>tail_any q.1 q.2 (Run.on (Mt h y.ok g r) (e.trans y)) (OK i ρ u v))
def we(o:Option Int)(v:Value):Prop:=match o with|none=>v=.none|some i=>∃t,v=.int i t
theorem we.part(H:we o v):IsPart v o:=by
 cases o with
 |none=>rw[show v=.none from H];exact .none
 |some i=>exact ν H λt e=>e▸ .int _ _
theorem JW(aw:cH C S Ω n)(R:a_ A (Ω+n))(H:St C B K env α F σ s)(h:w6 (λa=>μ S n K a σ) o=some b):
 Run C A F (evalPart o env) (λv γ γ=>we b v) s:=by
 intro E;cases o with
 |none=>exact b7 ⟨F,.refl H.ok,ae h▸rfl⟩
 |some e=>exact π (x:=μ S n K e σ) h λc h ε=>π h λi h ρ=>Run.seq (aw K e σ _ ε A env α B F s R H) λv a0 av X D=>⟨a0,X,ae h▸D.o.hI ρ⟩
theorem Kq(vs:List Value) a b:(vs.drop (min a vs.length)).take (min b vs.length-min a vs.length)=(vs.take b).drop a:=by
 rw[List.drop_take]
 by_cases j:a<=vs.length
 ·rw[m' j]
  by_cases q:b<=vs.length
  ·rw[m' q]
  ·have y:=dy (n9.mp q);rw[tT y,tM (gV zl),tM (by rw[zl];exact Cw y a)]
 ·have z:=dy (n9.mp j);rw[tT z,List.drop_eq_nil_of_le (a7 _),List.drop_eq_nil_of_le z,zp,zp]
theorem J8(h:(decide (0<=i)&&decide (i<2^62))=true):clipAt k i=min i.toNat k:=
 ν (Int.eq_ofNat_of_zero_le (cU (band h).1)) λm q=>by rw[q];exact clipAt_nat _ _
theorem qbD{lo ρ:Option Int}{vs:List Value}(h:Aa lo ρ vs.length=some c):slicePick vs.toArray lo ρ none=((vs.take c.2).drop c.1).toArray:=by
 rw[slicePick_plain];refine bp List.toArray ?_;show((vs.drop (lo.elim 0 (clipAt vs.length))).take _)=_;cases lo with
 |none=>
  cases ρ with
  |none=>exact aQ h
  |some b=>
   refine aP h λh z=>?_;rw[<-ae h];have:=Kq vs 0 b.toNat;rw[Nat.zero_min] at this;rw[<-this];show List.take (clipAt vs.length b-0) _=_;rw[J8 z];rfl
 |some a=>
  cases ρ with
  |none=>
   refine aP h λh z=>?_;rw[<-ae h,<-Kq vs a.toNat vs.length,pq];show List.take (vs.length-clipAt vs.length a) (vs.drop (clipAt vs.length a))=_;rw[J8 z]
  |some b=>exact aQ h
def qav(o:Option Int)(v:Value):Prop:=∃q:Option (Int×Tok),v=partValue q/\o=q.map (·.1)
theorem we.of(H:we o v):qav o v:=by
 cases o with
 |none=>exact⟨none,H,rfl⟩
 |some i=>exact ν H λt e=>⟨some (i,t),e,rfl⟩
theorem Uc(aw:cH C S Ω n)(R:a_ A (Ω+n))(H:St C B K env α F σ s){lo ρ:Option Expr}
 (ε:operand (μ S n) K x σ=some a) (η:w6 (λa=>μ S n K a σ) lo=some l) (az:w6 (λa=>μ S n K a σ) ρ=some b) (h:slice a l b=some d):
 Gives C A B F (eval (.Subscript x (.Slice lo ρ none q) p) env) d s:=λE=>
 Subscript_ (Run.e4 (qm aw R H ε) H λu a0 av aG j bx=>wpAny_Slice (Run.e4 (JW aw R j η) j λcC aN bX N g wq=>Run.e4 (JW aw R g az) g λT f z Z Y Q=>by
  rw[evalPart_none];refine b7 ?_
  have r:C.Step f z f {z with heap:=z.heap.push {cls:=.type "slice",data:=.fields #[cC,T,.none]}}:=
   .heap Z.ok (n:=z.toks) (a7 _) λb o e=>dn _ e
  have P:=((bx.tB N j.ok j.bad).tB Z g.ok g.bad).tB r Y.ok Y.bad;have X:=((aG.trans N).trans Z).trans r;have W:=Y.step r
  refine b' h (λh=>π h λL h c'=>aP h λh i=>π h λc h κ=>ai (P.kp c') λad us q=>cu q λe hd ζ=>?_) λh=>π h λy h aH=>aP h λh i=>ν (P.qo aH) λt e=>
   ν wq.of λV I=>ν Q.of λU O=>?_
  ·rw[<-ζ.length] at κ;rw[e,<-ae h];refine tail_any hd.isList.typeIs slot_list_getitem.lookup (ops:=[.ref z.heap.objs.size,.ref ad]) ?_ rfl;refine wpAny_getItem_list_slice hd.isList (Heap.IsSliceOf.new _ _ _ _) wq.part Q.part .none nofun ?_ (by rw[gp,ζ.length];exact iw.mp i)
   rw[qbD κ];exact ν (AA W.bad W.ok ((ζ.take c.2).drop c.1)) λDf q=>⟨Df,X.trans q.1,q.2⟩
  ·rw[e,<-ae h];refine tail_any (tZ _ _ _) PySem.F.slot_str_getitem.lookup (ops:=[.ref z.heap.objs.size,.str _ t]) ?_ rfl;refine wpAny_getItem_str_slice (l:=V) (u:=U) (st:=none) ⟨_,eW _ rfl,rfl,by rw[I.1,O.1];rfl⟩ rfl ?_;have hle:=Txt.slice_le y l b;unfold sliceMade;unfold Txt.slice at hle⊢;rw[I.2,O.2] at hle⊢;unfold slicePicked;simp only[Option.map_none,Option.getD_none];split
   ·exact⟨f,X,t,rfl⟩
   ·rename_i κ;rw[ar κ] at hle;exact⟨aJ hle (iw.mp i),f,X.trans (.tok W.ok (c9 _)),_,rfl⟩))
theorem Ud(aw:cH C S Ω n)(R:a_ A (Ω+n))(H:St C B K env α F σ s)(h:B4 (μ S n) K x i σ=some d):Gives C A B F (eval (.Subscript x i p) env) d s:=
 π h λa h ε=>rM h (λc h κ=>π h λl h y=>π h λb h z=>ν (RD κ) λq e=>by rw[e];exact Uc aw R H ε y z h) λh κ=>T_ aw R H κ ε h
theorem cL.any(H:cL C F h B ds us) k:(us.any λp=>p.1=k)=(ds.any λp=>p.1=k):=by
 have e:∀{X:Type} (l:List (Int×X)),(l.any λp=>p.1=k)=((l.map (·.1)).any λq=>q=k):=λl=>by rw[List.any_map];rfl
 rw[e us,e ds,D9 H]
theorem cL.put{k:Int}(j:Den C F h B d v){ds}:∀{us},cL C F h B ds us->
 cL C F h B (ds.map λp=>if p.1=k then(p.1,d) else p) (us.map λp=>if p.1=k then(p.1,v) else p):=by
 induction ds with
 |nil=>exact λH=>by rw[show _=[] from H];rfl
 |cons p ds y=>
  intro us H;refine ai H λw r q=>?_;rw[q.1,bN,bN]
  by_cases z:p.1=k
  ·rw[au z,au (id z)];exact⟨v,_,rfl,j,y q.2.2⟩
  ·rw[ar z,ar (id z)];exact⟨w,_,rfl,q.2.1,y q.2.2⟩
theorem cL.append{ds}:∀{es} {vs us},cL C F h B ds vs->cL C F h B es us->cL C F h B (ds++es) (vs++us):=by
 induction ds with
 |nil=>exact λH K=>by rw[show _=[] from H];exact K
 |cons p ds z=>exact λH K=>ai H λv r q=>⟨v,_,by rw[q.1];rfl,q.2.1,z q.2.2 K⟩
theorem cL.stored{ds:List (Int×D)}{us:List (Int×Value)}{k:Int}{d:D}(H:cL C F h B ds us)(z:Den C F h B d v):cL C F h B (stored ds k d) (PySem.stored us k v):=by
 unfold Internal.stored PySem.stored;rw[H.any k];split
 ·exact H.put z
 ·exact H.append ⟨v,[],rfl,z,rfl⟩
theorem cL.merged{ao}:∀{ds} {us ws},cL C F h B ds us->cL C F h B ao ws->cL C F h B (storeAll ds ao) (PySem.merged us ws):=by
 induction ao with
 |nil=>exact λH K=>by rw[show _=[] from K];exact H
 |cons p ao z=>exact λH K=>ai K λv r q=>by rw[q.1];exact z (ws:=r) (H.stored (k:=p.1) (v:=v) q.2.1) q.2.2
structure aE.et(C:aE)(M:Addr->Prop):Prop where
 hG:∀a,M a->C.fU.get? a=none
 o8:∀a,M a->∀q∈C.T,a≠q.1/\a≠q.2
theorem aE.Ok.there(ok:C.Ok F s)(z:q∈C.T):(∃o,s.heap.get? q.1=some o)/\(∃o,s.heap.get? q.2=some o):=
 ν (ok.tabs q z) λao k=>⟨ai k.2.1 λo vs g=>⟨o,g.1⟩,_,k.2.2⟩
theorem qab(e:h'.get? b=h.get? b)(x:asItWas h₀ h b o):asItWas h₀ h' b o:=by
 unfold asItWas at x⊢;rw[e];exact x.imp id (Or.imp id λq=>⟨q.1,q.2.1,q.2.2.1,λkey=>by rw[OldK.staticOf_congr (q.1▸e) key];exact q.2.2.2 key⟩)
theorem codeB(ag:h'.get? a=h.get? a)(z:h'.get? b=h.get? b)(x:h.IsCode a b ao):h'.IsCode a b ao:=by
 unfold Heap.IsCode at x⊢;rw[ag,z];exact x
theorem Pk(ag:h'.get? a=h.get? a)(z:h'.get? b=h.get? b)(x:h.TableAt a b ao):h'.TableAt a b ao:=by
 unfold Heap.TableAt at x⊢;rw[ag,z];exact x
theorem aE.Ok.vc(H:C.Ok F s)(f:C.et W)(p:∀b,W b->∀o,s.heap.get? b=some o->d1 o)(y:∀b o,¬W b->s.heap.get? b=some o->h'.get? b=some o)(hm:s.toks<=m):C.Ok F {s with heap:=h',toks:=m}:=by
 have ne:∀b o,C.fU.get? b=some o->¬W b:=λb o e q=>by rw[f.hG b q] at e;exact aQ e
 have at_:∀b,¬W b->(∃o,s.heap.get? b=some o)->h'.get? b=s.heap.get? b:=λb n e=>ν e λo e=>(y b o n e).trans e.symm;have ag:∀q∈C.T,h'.get? q.1=s.heap.get? q.1:=λq z=>at_ _ (λw=>(f.o8 _ w q z).1 rfl) (H.there z).1;have j:∀q∈C.T,h'.get? q.2=s.heap.get? q.2:=λq z=>at_ _ (λw=>(f.o8 _ w q z).2 rfl) (H.there z).2
 exact⟨λb o g e=>y b o (ne b o e) (H.base b o g e),λq z=>ν (H.tabs q z) λao k=>⟨ao,codeB (ag q z) (j q z) k.1,Pk (ag q z) (j q z) k.2⟩,
  ⟨λb o e=>qab (at_ b (ne b o e) (H.old.there b o e)) (H.old.old b o e),λb o e=>ν (H.old.there b o e) λbf aB=>⟨bf,y b bf (ne b o e) aB⟩⟩,H.gens,c7 H.pos hm,λt x e=>⟨(H.θ t x e).1,c7 (H.θ t x e).2 hm⟩,
  H.u3 (λq z ao t=>Pk (ag q z) (j q z) t) λb o e κ=>y b o (λq=>κ (p b q o e)) e⟩
theorem aE.Ok.mut(H:C.Ok F s)(z:s.heap.get? a=some o)(hd:∀ao,o.data≠ .fields ao)(h0:C.fU.get? a=none)(j:Heap.ExtBut a s.heap h')(hm:s.toks<=m):
 C.Ok F {s with heap:=h',toks:=m}:=by
 refine H.vc (W:=λb=>b=a) ⟨λb e=>e▸h0,λb e q y=>ν (H.tabs q y) λao k=>⟨λaB=>ai k.2.1 λbf vs g=>hd vs ?_,λaB=>hd ao ?_⟩⟩ (λb e bf aB=>?_) j hm
 ·rw[<-aB,e,z] at g;rw[ae g.1];exact g.2.2.1
 ·have g:=k.2.2;rw[<-aB,e,z] at g;rw[ae g]
 ·rw[e,z] at aB;exact ae aB▸ .vk hd
theorem aE.Ok.NH(H:C.Ok F s)(z:s.heap.objs.size<=a)(y:a∉C.bo):C.fU.get? a=none:=by
 cases e:C.fU.get? a with
 |none=>rfl
 |some o=>exact absurd (dz (H.base a o y e)) (e7.mpr z)
theorem aE.Ok.qdq(H:C.Ok F s)(h:a∈C.bo):a<s.heap.objs.size:=by
 obtain⟨q,z,rfl⟩:=bV.mp h;obtain⟨ao,_,_,g⟩:=H.tabs q z;exact dz g
theorem aE.Ok.vh(H:C.Ok F s)(z:s.heap.objs.size<=a):a∉C.bo:=λh=>absurd (H.qdq h) (e7.mpr z)
theorem aE.dZ.add(y:C.dZ B s)(H:C.Ok F s)(X:C.Step F s F' s'){a:Addr}(j:s.heap.objs.size<=a){o:Obj}(g:s'.heap.get? a=Option.some o):C.dZ (λb=>B b∨b=a) s' where
 bo:=λb z=>.inl (y.bo b z)
 some:=λb z=>z.elim ((y.step X).some b) λe=>⟨o,by rw[e];exact g⟩
 new:=λb z p=>z.elim (λq=>y.new b q p) λe=>e▸H.NH j (H.vh j)
theorem dt.add(X:C.Step F s F' s')(y:C.dZ B s)(j:s.heap.objs.size<=a):dt F s.heap B F' s'.heap (λb=>B b∨b=a):=
 ⟨X.θ,λb o z e=>X.keep b o (λω=>z (y.bo b ω)) e,λb o z e q=>q.elim z λaB=>absurd (dz e) (e7.mpr (aB▸j))⟩
theorem St.add(H:St C B K env α F σ s)(X:C.Step F s F' s')(z:s.heap.objs.size<=a)(y:s'.heap.get? a=some o):St C (λb=>B b∨b=a) K env α F' σ s':=
 have j:=H.step X
 ⟨X.ok,H.bad.add H.ok X z y,H.kind,H.glob,H.blt,H.code,H.gh,j.cells,H.nm,λx lv e=>ν (H.vars x lv e) λv q=>⟨v,q.1.step X H.ok,q.2.step X H.ok (dt.add X H.bad z)⟩⟩
theorem Step.Zu(H:C.Ok F s)(G:C.Good)(X:C.Step F s F' s')(z:s.heap.objs.size<=a)(j:s'.heap.get? a=some o)(hd:∀ao,o.data≠ .fields ao)
 (y:Heap.ExtBut a s'.heap h') (hm:s'.toks<=m):C.Step F s F' {s' with heap:=h',toks:=m}:=
 ⟨X.ok.mut j hd (H.NH z (H.vh z)) y hm,λb bf g e=>y b bf (λq=>absurd (dz e) (e7.mpr (q▸z))) (X.keep b bf g e),X.os,X.θ,aJ X.toks hm⟩
theorem qaq:∀{ks} {vs} {ao},vp f ks vs=some ao->ks.all (·.isSome)=true/\ks.length=vs.length/\ao.length=ks.length:=by
 intro y
 induction y with
 |nil=>
  intro vs ao h;exact aP h λh q=>by rw[gq.mp q,<-ae h];exact⟨rfl,rfl,rfl⟩
 |cons k ks z=>
  intro vs ao h
  exact π h λk' h p=>π h λv h g=>π h λd h γ=>π h λi h γ=>π h λd' h γ=>π h λr h j=>cu (z j) λa b c=>by
   rw[p,mB g,<-ae h];exact⟨a,bp (· +1) b,bp (· +1) c⟩
theorem qat(aw:cH C S Ω n)(R:a_ A (Ω+n)):∀{ks} {vs} {ao} {F} {s},
 vp (λa=>μ S n K a σ) ks vs=some ao->St C B K env α F σ s->
 Run C A F (evalPairs (pairTrees ks vs env pos)) (λws F' s'=>∃kvs,Carries C.dR ws kvs/\cL C F' s'.heap B ao kvs) s:=by
 intro p
 induction p with
 |nil=>
  intro vs ao F s h H
  exact aP h λh q=>by
   rw[gq.mp q,<-ae h];exact λE=>pairTrees_nil_walk ⟨F,.refl H.ok,[],trivial,rfl⟩
 |cons k ks g=>
  intro vs ao F s h H
  exact π h λk' h U=>π h λv h Z=>π h λd h ε=>π h λi h ρ=>π h λd' h V=>π h λr h f=>by
   rw[U,mB Z,<-ae h]
   exact λE=>pairTrees_cons_walk (Run.e4 (aw K k' σ _ ε A env α B F s R H) H λO a0 av j z x=>Run.e4 (aw K v.1 σ _ V A env α B a0 av R z) z λξ T aN l y Y=>
    Run.post (g f y) (j.trans l) λws P Q W q=>ν q λkvs q=>⟨(i,ξ)::kvs,⟨ν (x.o.hI ρ) λt e=>e▸r' _ _ _ _,rfl,q.1⟩,ξ,kvs,rfl,Y.grow (W.grow y.bad),q.2⟩)
theorem aE.Ok.sys(H:C.Ok F s)(G:C.Good):sysModules<s.heap.objs.size:=by
 obtain⟨o,es,ep,e,_⟩:=H.ns G G.g;exact e6 .d (dz e)
theorem Kl(G:C.Good)(aw:cH C S Ω n)(R:a_ A (Ω+n))(H:St C B K env α F σ s)(hlen:ks.length<=15)
 (ε:vp (λa=>μ S n K a σ) ks vs=some ao):Run C A F (eval (.Dict ks vs p) env) (λv F' s'=>v=.ref s.heap.objs.size/\∃us,s'.heap.DictOf C.dR s.heap.objs.size us/\cL C F' s'.heap (λb=>B b∨b=s.heap.objs.size) (storeAll [] ao) us) s:=by
 intro E;have z:C.Step F s F {s with heap:=s.heap.push {cls:=.type "dict",data:=.dict #[]}}:=.heap H.ok (n:=s.toks) (a7 _) λb o e=>dn _ e;have y:(s.heap.push {cls:=.type "dict",data:=.dict #[]}).get? s.heap.objs.size=some {cls:=.type "dict",data:=.dict #[]}:=eW _ rfl;have eh:=qaq ε;cases ks with
 |nil=>
  rw[show ao=[] from pv.mp eh.2.2,show vs=[] from pv.mp eh.2.1.symm];exact wpAny_Dict_empty ⟨F,z,rfl,[],Heap.DictOf.new _,rfl⟩
 |cons k ks=>
  have fU:=H.add z (a7 _) y;refine wpAny_Dict_walk (knd:=C.dR) eh.1 eh.2.1 nofun hlen (Run.seq (qat aw R ε fU) λws a0 av f q=>ν q λkvs q=>?_)
  have g:av.heap.get? s.heap.objs.size=some {cls:=.type "dict",data:=.dict #[]}:=f.get fU.ok y (λao=>nofun)
  exact⟨kvs,q.1,tf (C:=C) (Heap.DictOf.new s.heap) λo e=>g.trans (y.symm.trans e),λh' t r=>⟨a0,Step.Zu H.ok G (z.trans f) (a7 _) g (λao=>nofun) r.extBut (c8 _ _),rfl,_,t,
   (cL.merged (ds:=[]) rfl q.2).grow ⟨λγ γ e=>e,λb o j e=>r.extBut b o (λq=>j (.inr q)) e,λγ γ j γ=>j⟩⟩⟩
theorem Hx(G:C.Good)(ok:C.Ok F s):(s.heap.objs.size==sysModules)=false:=gU.mpr (i7 (ok.sys G))
theorem T8(G:C.Good)(aw:cH C S Ω n)(R:a_ A (Ω+n))(H:St C B K env α F σ s)
 (h:μ S (n+1) K (.Dict ks vs p) σ=some d):Gives C A B F (eval (.Dict ks vs p) env) d s:=
 aP (c:=decide (ks.length<=15)) h λh ζ=>π h λao h ε=>dT h λE=>Run.seq (Kl G aw R H (cU ζ) ε) λv a0 av X q=>
  ⟨a0,X,ν q.2 λus k=>⟨_,us,q.1,H.bad.fresh (a7 _),Hx G H.ok,k.1,k.2.grow ⟨λγ γ e=>e,λγ γ γ e=>e,λb o z γ q=>z (.inl q)⟩⟩⟩
theorem MC{op:BoolOp}(h:Nat.beq op.ctorIdx 1=true):op=.Or:=by cases op<;>first|rfl|exact jo h
theorem Rk n:(∀m,m<n->iO C S Ω m)->∀{es} {b} {F} {s},a_ A (Ω+n)->sl S op es n K σ=some b->St C B K env α F σ s->
 Run C A F (allTrue op es env) (wg b) s:=by
 induction n with
 |zero=>exact λ_ es b F s R h=>aQ h
 |succ n p=>
  refine λj es b F s R h H=>aP h λh q=>?_;rw[MC q];cases es with
  |nil=>exact λE=>wpAny_allTrue_Or_nil ⟨F,.refl H.ok,ae h⟩
  |cons x r=>
   have y:=R.mono (c9 (Ω+n));refine π (x:=b9 S n K x σ) h λc h ε=>λE=>wpAny_allTrue_Or_cons (Run.e4 (j n (iH _) K x σ c ε A env α B F s y H) H λv a0 av z g e=>?_);rw[show v=c from e];cases c with
   |true=>exact⟨a0,z,ae h⟩
   |false=>exact Run.on (MC q▸p (λm hm=>j m (j3 hm)) y h g) z
def QN(e:Expr):Prop:=∀env w,isTrue e env w=(do let v<-w;standAt e.pos;holding [v] (truthy v))
theorem qdb e (h:(Nat.beq e.ctorIdx 0||Nat.beq e.ctorIdx 5||Nat.beq e.ctorIdx 3||Nat.beq e.ctorIdx 15)=false):QN e:=by
 cases e with
 |BoolOp|IfExp|UnaryOp|Compare=>exact dk h
 |_=>exact λγ γ=>rfl
theorem bor(z:a=false)(y:b=false):(a||b)=false:=by rw[z,y];rfl
theorem Bp(h:(!a)=true):a=false:=(lx a).mp h
theorem qdc(G:C.Good)(O:dA C S Ω)(i:∀m,m<=n->cH C S Ω m)(y:a_ A (Ω+n))(H:St C B K env α F σ s)
 (κ:μ S n K (.Compare l ops rs p) σ=some d) (z:so d=some b):Run C A F (isTrue (.Compare l ops rs p) env (eval (.Compare l ops rs p) env)) (wg b) s:=by
 cases n with
 |zero=>exact aQ κ
 |succ n=>
  refine π (x:=dV ops) κ λop h ε=>π h λr h Z=>bL (J_ G O (i n (c9 n)) y H h) λhm q=>ν q λf q=>?_;rw[gx ε,gx Z];have e:f=b:=by rw[q.1] at z;exact ae z
  exact λE=>wpAny_isTrue_Compare1 (b8 (q.2 E) (λa av j=>b8 j (λc aN t=>b8 t (λv Y k=>ν k λg k=>by
   rw[k.2];exact wpAny_truthy_bool ⟨g,k.1,e⟩) λγ γ x=>x) λγ γ x=>x) λγ γ x=>x) hm
theorem qdf(G:C.Good)(O:dA C S Ω)(y:∀m,m<=n->cH C S Ω m)(t:∀m,m<=n->iO C S Ω m):iO C S Ω (n+1):=by
 intro K e σ b h A env α B F s R H;have z:=R.mono (c9 (Ω+n));refine rM (o:=pJ e) h (λc h κ=>?_) λh i=>aP h λh j=>π h λd h hd=>?_
 ·refine ν (Rr κ) λp ag=>?_;rw[ag];exact λE=>wpAny_isTrue_BoolOp (Rk n (λm hm=>t m (dy hm)) z h H E)
 ·cases q:Nat.beq e.ctorIdx 15 with
  |true=>exact Expr.Compare.elim (motive_1:=λe=>μ S n K e σ=some d->Run C A F (isTrue e env (eval e env)) (wg b) s) e (n' q) (λl ops rs p hd=>qdc G O y z H hd h) hd
  |false=>
   have h0:Nat.beq e.ctorIdx 0=false:=by
    cases f:Nat.beq e.ctorIdx 0 with
    |false=>rfl
    |true=>exact Expr.BoolOp.elim (motive_1:=λe=>pJ e=none->true=false) e (n' f) (λγ γ γ h=>jq h) i
   intro E;refine wpAny_isTrue_value (Run.seq (y n (a7 _) K e σ _ hd A env α B F s z H) λv a0 av g r=>?_) (qdb e (bor (bor (bor h0 (Bp (band j).1)) (Bp (band j).2)) q) env _);rw[r.o.fg h];exact wpAny_truthy_bool ⟨a0,g,rfl⟩
noncomputable def jw(C:aE)(F:bc)(h:Heap)(B:Addr->Prop):List D->List Value->Prop
 |[],vs=>vs=[]
 |d::ds,vs=>∃v r,vs=v::r/\cf C F h B d v/\jw C F h B ds r
abbrev QH(C:aE)(B:Addr->Prop)(ds:List D):List Value->bc->el:=λvs F s=>jw C F s.heap B ds vs
theorem nS(h:operand (μ S n) K e σ=some d):Plain e:=N_ e λq=>ai q λx p q=>by
 rw[q] at h;cases n<;>exact aQ h
theorem Ek(aw:cH C S Ω n)(R:a_ A (Ω+n)):∀{es} {ds} {F} {s},each (λa=>operand (μ S n) K a σ) es=some ds->St C B K env α F σ s->
 Run C A F (spliced (backTo pos (starEach es env))) (QH C B ds) s:=by
 intro g
 induction g with
 |nil=>
  intro ds F s h H;exact λE=>r7 ⟨F,.refl H.ok,by rw[<-ae h];rfl⟩
 |cons e r j=>
  intro ds F s h H
  exact ai (oI h) λd q k=>λE=>
   ob (Run.e4 (qm aw R H k.1) H λv a0 av y z f=>Run.post (j k.2.1 z) y λvs l aN p t=>by
    rw[k.2.2];exact⟨v,vs,rfl,f.tB p z.ok z.bad,t⟩) (nS k.1 _ _)
theorem TK:∀{es} {ds},each f es=some ds->es.length=ds.length:=by
 intro y
 induction y with
 |nil=>
  intro ds h;rw[<-ae h];rfl
 |cons e r z=>
  intro ds h;exact ai (oI h) λd q k=>by rw[k.2.2,dG,dG,z k.2.1]
theorem sm(hs:∀e d,f e=some d->Plain e):∀{es} {ds},each f es=some ds->(backTo pos (starEach es env)).any (·.1)=false:=by
 intro y
 induction y with
 |nil=>
  intro γ γ;exact rfl
 |cons e r z=>
  intro ds h
  exact ai (oI h) λd q k=>by
   rw[hs e d k.1];exact z k.2.1
theorem bA.o{ds}:∀{vs},bA C F h B ds vs->jw C F h B ds vs:=by
 induction ds with
 |nil=>exact id
 |cons d ds z=>exact λH=>ai H λv r q=>⟨v,r,q.1,q.2.1.o,z q.2.2⟩
theorem zR:∀{ds} {xs} {vs},allOf p ds=some xs->jw C F h B ds vs->∀(i:Nat) v,vs[i]? =some v->∃d x,p d=some x/\cf C F h B d v/\xs[i]? =some x:=by
 intro y
 induction y with
 |nil=>
  intro xs vs e H i v ρ;rw[show vs=[] from H] at ρ;exact nomatch ρ
 |cons d ds z=>
  intro xs vs e H i v ρ
  exact π e λx e j=>π e λl e ζ=>ai H λw r q=>by
   rw[q.1] at ρ;rw[<-ae e];cases i with
   |zero=>exact⟨d,x,j,ae ρ▸q.2.1,rfl⟩
   |succ i=>exact z ζ q.2.2 i v ρ
theorem Dx:∀{ds} {xs},allOf p ds=some xs->xs.length=ds.length:=by
 intro y
 induction y with
 |nil=>
  intro xs e;rw[<-ae e];rfl
 |cons d ds z=>
  intro xs e;exact π e λx e j=>π e λl e ζ=>by rw[<-ae e];exact bp (· +1) (z ζ)
theorem Lf{X:Type}{l:List X}{x d:X}(h:l[i]? =some x):l.getD i d=x:=by rw[hJ,h];rfl
theorem x9(ε:intsOf ds=some ns)(H:bA C F h B ds vs) i (v:Value) (ρ:vs.toArray[i]? =some v):∃t,v=.int (ns.getD i 0) t:=
 ai (zR ε H.o i v ((y6 ..).symm.trans ρ)) λd x q=>by rw[Lf q.2.2];exact q.2.1.hI q.1
theorem x_(h:intsOf ds=some ns):ns.length=ds.length:=Dx h
theorem qaA(ns:List Int):preSum (λi=>ns.getD i 0) ns.length=ns.sum:=by
 have key:∀k,k<=ns.length->preSum (λi=>ns.getD i 0) k=(ns.take k).sum:=by
  intro k
  induction k with
  |zero=>intro _;simp [preSum]
  |succ k z=>
   intro y
   have e:ns.take (k+1)=ns.take k++[ns.getD k 0]:=by
    rw[List.take_add_one,fi (show k<ns.length by lia)];simp [List.getD,fi (show k<ns.length by lia)]
   rw[preSum,z .l,e,List.sum_append,f6,List.sum_nil,h4]
 rw[key _ (a7 _),List.take_length]
theorem va{a b x:Addr}{P:Prop}(h:x∈[a,b])(k:x=a->P)(l:x=b->P):P:=(cn.mp h).elim k λh=>l (fj.mp h)
theorem Sl(R:a_ A 1)(ok:C.Ok F s)(hd:s.heap.PlainList a vs.toArray)(ζ:bA C F s.heap B ds vs)(y:intsOf ds=some ns):
 Gives C A B F (call (.builtin "sum") [.ref a]) (.int ns.sum) s:=λE=>call_sum_walkAnyS (wpAny_pyIter_list hd.isList (ν (id hd) λm j=>by
 have lt:=dz j;have p:(s.heap.push {cls:=.type "list_iterator",data:=.fields #[.ref a,.int 0 0]}).objs.size=s.heap.objs.size+1:=hK ..
 refine⟨_,[_,a],[_],_,_,_,_,λi=>ns.getD i 0,rfl,(Walks.list (A:=A.in1) R.handled s.heap.objs.size a (fQ lt) vs.toArray).toS,
  ⟨⟨_,eW _ rfl,rfl,rfl⟩,hd.isList.push _⟩,λd g=>p▸va g (λe=>e▸iH _) λe=>e▸j3 lt,λi v=>x9 y ζ i v,λs' q hm=>?_⟩
 rw[show vs.toArray.size=ns.length from ζ.length.trans (x_ y).symm,qaA];exact⟨F,.of ok (λb o z=>hm.heap b o (λf=>lz _ (fj.mp f▸dz z)) (dn _ z)) hm.gens hm.os hm.toks,q,rfl⟩))
theorem CmpOf.Ve(val:Nat->UInt64)(z:∀i v,P i v->∃t,v=.float (val i) t):
 CmpOf prog w A .Gt P (λi j=>Float64.gt (val i) (val j)):=λi j y q s Q E ρ g h=>ν (z i y ρ) λt e=>ν (z j q g) λu aB=>e▸aB▸AutoFloatOps.gt_0 h
theorem CmpOf.Vf(val:Nat->UInt64)(z:∀i v,P i v->∃t,v=.float (val i) t):
 CmpOf prog w A .Lt P (λi j=>Float64.lt (val i) (val j)):=λi j y q s Q E ρ g h=>ν (z i y ρ) λt e=>ν (z j q g) λu aB=>e▸aB▸AutoFloatOps.lt_0 h
theorem qdg z a b c:[a,b,c].getD (argBest (λi j=>z ([a,b,c].getD i 0) ([a,b,c].getD j 0)) 2) 0=mI z a [b,c]:=by
 have step:∀(p:Nat->Nat->Bool) k,argBest p (k+1)=if p (k+1) (argBest p k)=true then k+1 else argBest p k:=λγ γ=>rfl
 have e:∀(p:Prop) [Decidable p] (i j:Nat),[a,b,c].getD (if p then i else j) 0=if p then[a,b,c].getD i 0 else[a,b,c].getD j 0:=λp γ i j=>by by_cases h:p<;>simp only[h,if_true,n_]
 rw[step,step,e,e];rfl
abbrev t8(F:bc)(l:List UInt64)(i:Nat)(v:Value):Prop:=∃t,v=.float (l.getD i 0) t/\F t=some (l.getD i 0)
theorem Pq(R:a_ A 1){a b c:UInt64}{v u x:Value}(Z:∀i w,[v,u,x][i]? =some w->t8 F [a,b,c] i w) op z
 (r:∀{P:Nat->Value->Prop} (val:Nat->UInt64),(∀i v,P i v->∃t,v=.float (val i) t)->CmpOf C.prog C.w A.in1 op P (λi j=>z (val i) (val j))) {E:cg} {Q:cg}
 (l:∀v h' a',(∃g,v=.float (mI z a [b,c]) g/\F g=some (mI z a [b,c]))->(∀b o,s.heap.get? b=some o->h'.get? b=some o)->Q v {s with heap:=h',toks:=a'}):
 wpAny C.M A.in1 (pyIter (.ref s.heap.objs.size)) (λit aN=>∃I cQ wr n P St z,it=.ref I/\Walks C.prog C.w A.in1 I cQ wr n P St/\St 0 aN.heap/\(∀b∈cQ,b<aN.heap.objs.size)/\0<n/\CmpOf C.prog C.w A.in1 op P z/\
  ∀v h' a',P (argBest z (n-1)) v->(∀b o,b∉wr->aN.heap.get? b=some o->h'.get? b=some o)->Q v {aN with heap:=h',toks:=a'}) E
  {s with heap:=s.heap.push {cls:=.type "tuple",data:=.seq #[v,u,x]}}:=by
 have p:(s.heap.push {cls:=.type "tuple",data:=.seq #[v,u,x]}).IsTuple s.heap.objs.size #[v,u,x]:=⟨_,eW _ rfl,rfl,0,rfl⟩;have y:(s.heap.push {cls:=.type "tuple",data:=.seq #[v,u,x]}).objs.size=s.heap.objs.size+1:=hK ..;have f:∀(i:Nat) (w:Value),(#[v,u,x])[i]? =some w->t8 F [a,b,c] i w:=λi w ρ=>Z i w ((y6 ..).symm.trans ρ)
 refine CF p ⟨_,[_,s.heap.objs.size],[_],_,_,_,_,rfl,Walks.tuple (A:=A.in1) R.handled _ s.heap.objs.size (y▸fQ (iH _)) #[v,u,x],
  ⟨⟨_,eW _ rfl,rfl,rfl⟩,p.push _⟩,λd hd=>?_,r_ _,r (λi=>[a,b,c].getD i 0) (λi w ρ=>ν (f i w ρ) λt q=>⟨t,q.1⟩),λw h' a' Y W=>
    l w h' a' (qdg z a b c▸f _ _ Y) λd o e=>W d o (λhm=>?_) (dn _ (dn _ e))⟩
 ·show d<((s.heap.push _).push _).objs.size;rw[hK,y];exact va hd (λe=>e▸y▸iH _) λe=>e▸j3 (iH _)
 ·have:=dz e;rw[fj.mp hm,y] at this;exact lz _ (vW this)
theorem Y8(R:a_ A 1)(ok:C.Ok F s)(z:∀i w,[v,u,x][i]? =some w->t8 F [a,b,c] i w):
 Gives C A B F (call (.builtin "max") [v,u,x]) (.υ (mI Float64.gt a [b,c])) s:=λE=>
 h1 (a7 s.toks) (call_max_three (Pq (Q:=λv s'=>s.toks<=s'.toks->jx C F s (h6 C B (.υ (mI Float64.gt a [b,c]))) v s') R z .Gt Float64.gt (λval z=>CmpOf.Ve val z) λv h' a' q j y=>⟨F,.heap ok y j,q⟩))
theorem Zj(R:a_ A 1)(ok:C.Ok F s)(z:∀i w,[v,u,x][i]? =some w->t8 F [a,b,c] i w):
 Gives C A B F (call (.builtin "min") [v,u,x]) (.υ (mI Float64.lt a [b,c])) s:=λE=>
 h1 (a7 s.toks) (call_min_three (Pq (Q:=λv s'=>s.toks<=s'.toks->jx C F s (h6 C B (.υ (mI Float64.lt a [b,c]))) v s') R z .Lt Float64.lt (λval z=>CmpOf.Vf val z) λv h' a' q j y=>⟨F,.heap ok y j,q⟩))
theorem Vo gt:∀l m x,kT gt m (l++[x])=if gt x (kT gt m l) then x else kT gt m l:=by
 intro j
 induction j with
 |nil=>
  intro γ γ;exact rfl
 |cons y l z=>
  intro m x;exact z (if gt y m then y else m) x
theorem Vq gt m r:∀k,k<=r.length->(m::r).getD (argBest (λi j=>gt ((m::r).getD i 0) ((m::r).getD j 0)) k) 0=kT gt m (r.take k):=by
 intro k
 induction k with
 |zero=>intro _;rfl
 |succ k z=>
  intro y;have z:=z (dy y);have e:r.take (k+1)=r.take k++[r.getD k 0]:=by rw[List.take_add_one,hJ,fi y];rfl
  rw[e,Vo,<-z,argBest]
  by_cases c:gt ((m::r).getD (k+1) 0) ((m::r).getD (argBest (λi j=>gt ((m::r).getD i 0) ((m::r).getD j 0)) k) 0)=true
  ·rw[au c];exact(au c).symm
  ·rw[ar c];exact(ar c).symm
theorem M4(R:a_ A 1){a:Addr}{ds:List D}{vs:List Value}{m:Int}{r:List Int}(hd:s.heap.PlainList a vs.toArray)(ζ:bA C F s.heap B ds vs)(g:intsOf ds=some (m::r)) op z
 (f:∀{P:Nat->Value->Prop} (val:Nat->Int),(∀i v,P i v->∃t,v=.int (val i) t)->CmpOf C.prog C.w A.in1 op P (λi j=>z (val i) (val j))) {E:cg} {Q:cg}
 (x:∀v h' a',(∃y,v=.int (kT z m r) y)->(∀b o,s.heap.get? b=some o->h'.get? b=some o)->Q v {s with heap:=h',toks:=a'}):
 wpAny C.M A.in1 (pyIter (.ref a)) (λit aN=>∃I cQ wr n P St z,it=.ref I/\Walks C.prog C.w A.in1 I cQ wr n P St/\St 0 aN.heap/\(∀b∈cQ,b<aN.heap.objs.size)/\0<n/\CmpOf C.prog C.w A.in1 op P z/\
  ∀v h' a',P (argBest z (n-1)) v->(∀b o,b∉wr->aN.heap.get? b=some o->h'.get? b=some o)->Q v {aN with heap:=h',toks:=a'}) E s:=
 wpAny_pyIter_list hd.isList (ν (id hd) λq l=>by
  have lt:=dz l;have Y:(s.heap.push {cls:=.type "list_iterator",data:=.fields #[.ref a,.int 0 0]}).objs.size=s.heap.objs.size+1:=hK ..;have e:vs.toArray.size=r.length+1:=ζ.length.trans (x_ g).symm
  refine⟨_,[_,a],[_],_,_,_,_,rfl,Walks.list (A:=A.in1) R.handled s.heap.objs.size a (fQ lt) vs.toArray,
   ⟨⟨_,eW _ rfl,rfl,rfl⟩,hd.isList.push _⟩,λd Z=>Y▸va Z (λe=>e▸iH _) λe=>e▸j3 lt,e▸r_ _,f (λi=>(m::r).getD i 0) λi v=>x9 g ζ i v,λv h' a' W U=>
     x v h' a' (ν (x9 g ζ _ v W) λy ag=>⟨y,?_⟩) λb o p=>U b o (λV=>lz _ (fj.mp V▸dz p)) (dn _ p)⟩
  rw[e,Nat.add_sub_cancel,Vq z m r _ (a7 _),List.take_length] at ag;exact ag)
theorem Y7(R:a_ A 1)(ok:C.Ok F s)(hd:s.heap.PlainList a vs.toArray)(ζ:bA C F s.heap B ds vs)(j:intsOf ds=some (m::r)):
 Gives C A B F (call (.builtin "max") [.ref a]) (.int (kT (λx m=>decide (m<x)) m r)) s:=λE=>
 h1 (a7 s.toks) (call_max_walk (M4 (Q:=λv s'=>s.toks<=s'.toks->jx C F s (h6 C B (.int (kT (λx m=>decide (m<x)) m r))) v s') R hd ζ j .Gt (λx m=>decide (m<x)) (λval z=>CmpOf.ints_gt val z) λv h' a' q g y=>⟨F,.heap ok y g,q⟩))
theorem Zi(R:a_ A 1)(ok:C.Ok F s)(hd:s.heap.PlainList a vs.toArray)(ζ:bA C F s.heap B ds vs)(j:intsOf ds=some (m::r)):
 Gives C A B F (call (.builtin "min") [.ref a]) (.int (kT (λx m=>decide (x<m)) m r)) s:=λE=>
 h1 (a7 s.toks) (call_min_walk (M4 (Q:=λv s'=>s.toks<=s'.toks->jx C F s (h6 C B (.int (kT (λx m=>decide (x<m)) m r))) v s') R hd ζ j .Lt (λx m=>decide (x<m)) (λval z=>CmpOf.ints_lt val z) λv h' a' q g y=>⟨F,.heap ok y g,q⟩))
theorem jw.one(H:jw C F h B [d] vs):∃v,vs=[v]/\cf C F h B d v:=
 ai H λv r q=>⟨v,by rw[q.1,show r=[] from q.2.2],q.2.1⟩
theorem jw.length{ds}:∀{vs},jw C F h B ds vs->vs.length=ds.length:=by
 induction ds with
 |nil=>exact λH=>by rw[show _=[] from H];rfl
 |cons d ds z=>exact λH=>ai H λv r q=>by rw[q.1];exact bp (· +1) (z q.2.2)
theorem MY(h:dE m=true):m<=16777216:=ps▸iw.mp h
theorem ER(ok:C.Ok F s) t (z:s.toks<=n) (e:j=i):∃F',C.Step F s F' {s with toks:=n}/\Den C F' s.heap B (.int i) (.int j t):=by
 subst e;exact⟨F,.tok ok z,t,rfl⟩
theorem o9(h:dV ds=some d)(H:jw C F s.heap B ds vs):∃v,vs=[v]/\cf C F s.heap B d v:=jw.one (gx h▸H)
theorem YN{X:Type}{vs:List X}(h:vs.length=3):∃v u x,vs=[v,u,x]:=by
 cases vs with
 |nil=>exact absurd h nofun
 |cons v r=>cases r with
  |nil=>exact absurd h nofun
  |cons u r=>cases r with
   |nil=>exact absurd h nofun
   |cons x r=>exact⟨v,u,x,by rw[pv.mp (m2 (m2 (m2 h)))]⟩
theorem YM{X:Type}{vs:List X}(h:vs.length=2):∃v u,vs=[v,u]:=by
 cases vs with
 |nil=>exact absurd h nofun
 |cons v r=>cases r with
  |nil=>exact absurd h nofun
  |cons u r=>exact⟨v,u,by rw[pv.mp (m2 (m2 h))]⟩
theorem Po(H:jw C F s.heap B ds vs)(ε:allOf hv ds=some l)(z:wY l=some t):
 ∃v u x,vs=[v,u,x]/\∀i w,[v,u,x][i]? =some w->t8 F [t.1,t.2.1,t.2.2] i w:=by
 have e:=JD z;rw[e] at ε;refine cN (YN (H.length.trans (Dx ε).symm)) λv u x q=>⟨v,u,x,q,λi w ρ=>?_⟩
 exact ai (zR ε H i w (q▸ρ)) λd y k=>by
  unfold t8;rw[Lf k.2.2];exact k.2.1.vx k.1
theorem Zh(R:a_ A 1)(ok:C.Ok F s):Gives C A B F (call (.builtin "min") [.int a t,.int b j]) (.int (if decide (b<a) then b else a)) s:=λE=>by
 refine h1 (a7 s.toks) (min_two_ints R.handled λh' a' y z=>⟨F,.heap ok z y,?_⟩)
 by_cases κ:b<a
 ·rw[au κ,au (cA κ)];exact⟨_,rfl⟩
 ·rw[ar κ,ar (λq=>κ (cU q))];exact⟨_,rfl⟩
theorem qac{x:Str}(h:dV x.cps.toList=some c):x=⟨#[c]⟩:=bp (λl:List Nat=>(⟨l.toArray⟩:Str)) (gx h)
theorem abs_eq a:(if a<0 then-a else a)=(a.natAbs:Int):=by
 by_cases h:a<0
 ·rw[au h,Int.ofNat_natAbs_of_nonpos (h3 h)]
 ·rw[ar h,Cy (gu.mp h)]
theorem JR{id:String}(h:DL z ds=some d)(H:jw C F s.heap B ds vs)
 (k:∀{a:Addr} {ds:List D} {vs:List Value} {m:Int} {r:List Int},s.heap.PlainList a vs.toArray->bA C F s.heap B ds vs->intsOf ds=some (m::r)->Gives C A B F (call (.builtin id) [.ref a]) (.int (kT z m r)) s):Gives C A B F (call (.builtin id) vs) d s:=
 π h λc h ε=>π h λl h ζ=>π h λns h y=>π h λc h κ=>ν (o9 ε H) λv q=>ai (q.2.kp ζ) λa us k'=>cu k' λe hd ζ=>by
  rw[q.1,e];exact dT h (k hd ζ (mB κ▸y))
theorem x':∀{ds} {ns} {vs},intsOf ds=some ns->bA C F h B ds vs->IntsAre vs ns:=by
 intro y
 induction y with
 |nil=>
  intro ns vs e H;rw[<-ae e,show vs=[] from H];exact .nil
 |cons d ds z=>
  intro ns vs e H
  exact π e λx e j=>π e λl e ζ=>ai H λv r q=>ν (q.2.1.o.hI j) λt k=>by
   rw[q.1,k,<-ae e];exact .cons _ _ (z ζ q.2.2)
theorem Mu x y r:insI x (y::r)=if x<y then x::y::r else y::insI x r:=by
 show cond (decide (x<y)) (x::y::r) (y::insI x r)=_
 by_cases h:x<y
 ·rw[au h,cA h];rfl
 ·rw[ar h,gE h];rfl
theorem insI_perm x:∀l,(insI x l).Perm (x::l):=by
 intro j
 induction j with
 |nil=>
  exact .refl _
 |cons y r z=>
  rw[Mu]
  by_cases h:x<y
  ·rw[au h]
  ·rw[ar h];exact((z).cons y).trans (.swap x y r)
theorem Vj(l:List Int):∀acc:List Int,(l.foldl (λacc x=>insI x acc) acc).Perm (l++acc):=by
 induction l with
 |nil=>exact λacc=>.refl _
 |cons x l z=>exact λacc=>(z _).trans (((insI_perm x acc).append_left l).trans List.perm_middle)
theorem sortI_perm l:(sortI l).Perm l:=(Vj l []).trans (by rw[nd])
theorem X0 x:∀{l},l.Pairwise (· <=·)->(insI x l).Pairwise (· <=·):=by
 intro g
 induction g with
 |nil=>
  intro γ;exact List.pairwise_singleton _ _
 |cons y r q=>
  intro h;have h':=qF.mp h;rw[Mu]
  by_cases c:x<y
  ·rw[au c];exact qF.mpr ⟨λz j=>(cn.mp j).elim (λe=>e▸h3 c) λj=>kF (h3 c) (h'.1 z j),h⟩
  ·rw[ar c];exact qF.mpr ⟨λz j=>(cn.mp ((insI_perm x r).mem_iff.mp j)).elim (λe=>e▸gu.mp c) (h'.1 z),q h'.2⟩
theorem Vk(l:List Int):∀{acc},acc.Pairwise (· <=·)->(l.foldl (λacc x=>insI x acc) acc).Pairwise (· <=·):=by
 induction l with
 |nil=>exact id
 |cons x l z=>exact λh=>z (X0 x h)
theorem qbK(y:t.Perm l)(hs:t.Pairwise (· <=·)):t=sortI l:=
 List.Perm.eq_of_pairwise (le:=(· <=·)) (λa b _ _ ε z=>Int.le_antisymm ε z) hs (Vk l List.Pairwise.nil) (y.trans (sortI_perm l).symm)
theorem Kg:∀{vs} {ns},IntsAre vs ns->bA C F h B (ns.map D.int) vs
 |_,_,.nil=>rfl
 |_,_,.cons n t h=>⟨_,_,rfl,⟨t,rfl⟩,Kg h⟩
theorem qbO(ok:C.Ok F s)(z:C.dZ B s)(hd:s.heap.PlainList a vs.toArray)(ζ:bA C F s.heap B ds vs)(p:intsOf ds=some ns)(y:ds.length<64):
 Gives C A B F (call (.builtin "sorted") [.ref a]) (.lst ((sortI ns).map .int)) s:=λE=>
 PyProof.Rows.sorted_ints hd.isList (x' p ζ) (ζ.length▸y) λout j a1 a2 g=>by
  have X:C.Step F s F {s with heap:=sortedAll s.heap vs out}:=.heap ok (n:=s.toks) (a7 _) λb o e=>sortedAll_old e;refine⟨F,X,s.heap.objs.size+1,out.toList,rfl,z.fresh (c9 _),ν (sortedAll_at s.heap vs out) λe q=>⟨e,?_⟩,?_⟩
  ·rw[It];exact q
  ·rw[<-qbK a2 g];exact Kg a1
theorem RQ{id:String}(h:uo id ds=some d)(R:a_ A 1)(ok:C.Ok F s)(f:C.dZ B s)(H:jw C F s.heap B ds vs):
 Gives C A B F (call (.builtin id) vs) d s:=
 b' h (λh=>aP h λh cz=>π h λc h ε=>ν (o9 ε H) λv q=>by
  rw[eq_of_beq cz,q.1];refine b' h (λh=>π h λl h ζ=>aP h λh z=>dT h λE=>ai (q.2.kp ζ) λa us k=>cu k λe hd ζ=>?_) λh=>π h λx h y=>aP h λh z=>dT h λE=>ν (q.2.qo y) λt e=>?_
  ·have:=MY z;rw[e];exact Calls.call_len_list hd.isList (by rw[gp,ζ.length];lia) (ER ok _ .l (by rw[gp,ζ.length]))
  ·have:=MY z;rw[e];exact PySem.P.len_str .l (ER ok _ .l rfl)) λh=>
 b' h (λh=>aP h λh cz=>π h λc h ε=>π h λl h ζ=>aP h λh z=>π h λns h j=>ν (o9 ε H) λv q=>ai (q.2.kp ζ) λa us k=>cu k λe hd ζ=>by
  rw[eq_of_beq cz,q.1,e];exact dT h (Sl R ok hd ζ j)) λh=>
 b' h (λh=>aP h λh cz=>by
  rw[eq_of_beq cz];exact b' h (λh=>π h λl h ζ=>π h λt h ω=>cN (Po H ζ ω) λv u x q=>by
   rw[q.1];exact dT h (Y8 R ok q.2)) λh=>JR h H (Y7 R ok)) λh=>
 b' h (λh=>aP h λh cz=>by
  rw[eq_of_beq cz];exact b' h (λh=>π h λl h ζ=>π h λt h ω=>by
   rw[q3 ω] at ζ;refine ai (YM (H.length.trans (Dx ζ).symm)) λv u q=>?_;refine ai (zR ζ H 0 v (q▸rfl)) λZ x0 k=>ai (zR ζ H 1 u (q▸rfl)) λY r k'=>ν (k.2.1.hI k.1) λt0 e=>ν (k'.2.1.hI k'.1) λt1 aB=>?_;rw[q,e,aB,<-ae k.2.2,<-ae k'.2.2];exact dT h (Zh R ok)) λh=>b' h (λh=>π h λl h ζ=>π h λt h ω=>cN (Po H ζ ω) λv u x q=>by
    rw[q.1];exact dT h (Zj R ok q.2)) λh=>JR h H (Zi R ok)) λh=>
 b' h (λh=>aP h λh cz=>π h λc h ε=>π h λi h ρ=>aP h λh g=>ν (o9 ε H) λv q=>ν (q.2.hI ρ) λt e=>by
  rw[eq_of_beq cz,q.1,e];refine dT h λE=>PySem.P.chr_of_int ?_ (ES ok _);have ε:=cU (band g).1;have W:=cU (band g).2;rw[Bool.or_eq_false_iff,Ib,Ib];lia) λh=>
 b' h (λh=>aP h λh cz=>π h λc h ε=>π h λl h ζ=>aP h λh z=>π h λns h j=>ν (o9 ε H) λv q=>ai (q.2.kp ζ) λa us k=>cu k λe hd ζ=>by
  rw[eq_of_beq cz,q.1,e];exact dT h (qbO ok f hd ζ j (cU z))) λh=>
 b' h (λh=>aP h λh cz=>π h λc h ε=>π h λi h ρ=>ν (o9 ε H) λv q=>ν (q.2.hI ρ) λt e=>by
  rw[eq_of_beq cz,q.1,e];exact dT h λE=>h1 (a7 s.toks) (call_abs_int λu a' p=>abs_eq i▸ER ok _ p rfl)) λh=>
 aP h λh cz=>π h λc h ε=>π h λx h y=>π h λi h ρ=>ν (o9 ε H) λv q=>ν (q.2.qo y) λt e=>by
  rw[eq_of_beq cz,q.1,e,qac ρ];exact dT h λE=>PySem.P.ord_of_char (oO ok _)
theorem M3(ok:C.Ok F s){a:Addr}{ds:List D}{vs:List Value}(hd:s.heap.PlainList a vs.toArray)(ζ:bA C F s.heap B ds vs)(z:dE ds.length=true){E:cg}{Q:cg}
 (y:∀h',C.Step F s F {s with heap:=h'}->h'.PlainList s.heap.objs.size vs.toArray->Q (.ref s.heap.objs.size) {s with heap:=h'}):wpAny C.M A (call (.type "list") [.ref a]) Q E s:=
 ν hd λn e=>call_list_seq a (.inl rfl) e rfl rfl (λh' c j aB=>y h' (.heap ok (n:=s.toks) (a7 _) j) ⟨c,aB⟩) (by rw[gp,ζ.length];exact iw.mp z)
theorem qdF{id:String}(h:rT id ds=some d)(ok:C.Ok F s)(z:C.dZ B s)(H:jw C F s.heap B ds vs):
 Gives C A B F (call (.type id) vs) d s:=
 b' h (λh=>aP h λh cz=>π h λc h ε=>π h λx h j=>ν (o9 ε H) λv q=>ν (q.2.vx j) λt e=>by
  rw[eq_of_beq cz,q.1,e.1];unfold truncF at h;cases hd:Float64.decode x with
  |fin sg m e=>rw[hd] at h;exact dT h λE=>call_int_float hd (oO ok _)
  |_=>rw[hd] at h;exact aQ h) λh=>
 aP h λh cz=>π h λc h ε=>π h λl h ζ=>aP h λh y=>ν (o9 ε H) λv q=>ai (q.2.kp ζ) λa us k=>cu k λe hd ζ=>by
  rw[eq_of_beq cz,q.1,e];exact dT h λE=>M3 ok hd ζ y λh' X g=>⟨F,X,_,us,rfl,z.fresh (a7 _),g,ζ.grow (X.grow z)⟩
theorem qce:∀{ds} {ns} {vs},strsOf ds=some ns->bA C F h B ds vs->∃l,vs=strValues l/\l.map (·.1)=ns:=by
 intro y
 induction y with
 |nil=>
  intro ns vs e H;exact⟨[],H,ae e⟩
 |cons d ds z=>
  intro ns vs e H
  exact π e λx e g=>π e λl e ζ=>ai H λv r q=>ν (q.2.1.o.qo g) λt k=>ν (z ζ q.2.2) λj m=>
   ⟨(x,t)::j,by rw[q.1,k,m.1];rfl,by rw[<-ae e,<-m.2];rfl⟩
theorem bA.one(H:bA C F h B [d] vs):∃v,vs=[v]/\Den C F h B d v:=
 ai H λv r q=>⟨v,by rw[q.1,show r=[] from q.2.2],q.2.1⟩
theorem bA.two(H:bA C F h B [d,d'] vs):∃v u,vs=[v,u]/\Den C F h B d v/\Den C F h B d' u:=
 ai H λv r q=>ν q.2.2.one λu k=>⟨v,u,by rw[q.1,k.1],q.2.1,k.2⟩
theorem Zb o (h:Nat.beq o.ctorIdx 16=false) m w:attributeBase o m env w=w:=by
 cases o with
 |Call x y z p=>exact dk h
 |_=>rfl
theorem Za(h:hg o ap p=true) m w:attributeBase o m env w=w:=Zb o (Bp (band (band h).1).1) m w
theorem Zc(h:hg o ap p=true):(ap.endLine==p.line)=true:=(band h).2
theorem U8(ε:(backTo p (starEach args env)).any (·.1)=false)(y:args.length<20):
 ((backTo p (starEach args env)).all (λx=> !x.1)&&(backToKw p (keywordEach [] env)).all (λx=>x.1.isSome)
   &&decide (args.length+([]:List Keyword).length+(if([]:List Keyword).isEmpty then 0 else 1)<30))=true:=by
 have e:(backTo p (starEach args env)).all (λx=> !x.1)=true:=by
  rw[er];intro x z;rw[List.any_eq_false] at ε
  simpa using ε x z
 rw[e,show(backToKw p (keywordEach [] env)).all (λx=>x.1.isSome)=true from rfl];simp;lia
theorem vb{id:String}
 (z:(backTo p (starEach (e::r) env)).any (·.1)=false) (he:starEach (e::r) env=(false,eval e env)::starEach r env)
 (h:wpAny C.M A (spliced (backTo p (starEach (e::r) env))) (λvs av=>wpAny C.M A (call (.builtin id) (self::vs)) Q E av) E s):
 wpAny C.M A (callWith p (.builtin id) [self] (backTo p (starEach (e::r) env)) []) Q E s:=by
 refine callWith_method1 (b8 h (λvs av y=>y) λγ γ x=>x) he ?_;rw[he] at z;have:(false||(backTo p (starEach r env)).any (·.1))=false:=z
 simpa using this
theorem Kw{f:Expr->Option D}{args:List Expr}{ds:List D}{d:D}(h:each f args=some ds)(ε:dV ds=some d):∃e,args=[e]/\f e=some d:=by
 rw[gx ε] at h;cases args with
 |nil=>exact nomatch ae h
 |cons e r=>
   refine ai (oI h) λd' q k=>?_;have ag:=n6 k.2.2;rw[<-ag.2] at k;exact⟨e,by rw[show r=[] from pv.mp (TK k.2.1)],ag.1▸k.1⟩
theorem Kx{f:Expr->Option D}{args:List Expr}{ds:List D}{c:D×D}(h:each f args=some ds)(ε:mC ds=some c):∃e aB,args=[e,aB]/\f e=some c.1/\f aB=some c.2:=by
 rw[q3 ε] at h;cases args with
 |nil=>exact nomatch ae h
 |cons e r=>
  refine ai (oI h) λd' q k=>?_;have ag:=n6 k.2.2;exact ν (Kw k.2.1 (d:=c.2) (by rw[<-ag.2];rfl)) λy z=>⟨e,y,by rw[z.1],ag.1▸k.1,z.2⟩
theorem Va{x:Int}{ns:List Int}:∀{j:Nat},jF x ns=some j->j<ns.length/\ns.getD j 0=x/\∀m,m<j->ns.getD m 0≠x:=by
 induction ns with
 |nil=>exact λh=>aQ h
 |cons y r z=>
  exact λh=>D4 (a:=some 0) (b:=(jF x r).bind λi=>some (i+1)) (show nC (y==x) _ _=some _ from h) (λh e=>by
   rw[<-ae h];exact⟨r_ _,eq_of_beq e,λm hm=>nomatch hm⟩)
   λh e=>π h λi h ρ=>cu (z ρ) λε p g=>by
    rw[<-ae h];refine⟨zk ε,p,λm hm=>?_⟩;cases m with
    |zero=>exact λq=>by rw[show y=x from q,hq] at e;exact dk e
    |succ m=>exact g m (y4 hm)
theorem isInt_at{k:Int}{ns:List Int}{vs:List Value}(ρ:IntsAre vs ns){m:Nat}(hm:m<vs.toArray.size):isInt k vs.toArray[m]=(ns.getD m 0==k):=by
 have h:∀{vs:List Value} {ns:List Int},IntsAre vs ns->∀(m:Nat) (hm:m<vs.length),isInt k vs[m]=(ns.getD m 0==k):=λρ=>by
  induction ρ with
  |nil=>exact λm hm=>absurd hm (qJ m)
  |cons n t h z=>
   intro m hm;cases m with
   |zero=>rfl
   |succ m=>exact z m (y4 hm)
 exact h ρ m hm
theorem index_list_ints{l:Addr}{vs:List Value}{ns:List Int}{k:Int}{t:Tok}{j:Nat}{Q E:cg}(ζ:s.heap.IsList l vs.toArray)(ρ:IntsAre vs ns)(e:vs.length<=sizeLine)(x:jF k ns=some j)
 (h:Q (.int (j:Nat) s.toks) {s with toks:=s.toks+1}):wpAny C.M A (call (.builtin "list.index") [.ref l,.int k t]) Q E s:=by
 obtain⟨⟨cls,r,data,i⟩,z,κ,n,hd⟩:=id ζ;simp only at κ hd;subst κ hd;refine cu (Va x) λε a f=>?_;have q:j<vs.toArray.size:=j2 ε ρ.length.symm
 refine zu PySem.F.slot_list_index ⟨_,z,rfl⟩ PySem.F.entry_list_index (PySem.F.args_list_index_2 _ _) (list_indexAt l vs.toArray n r i (.int k t) (isInt k) j q ?_ (by rw[isInt_at ρ,a,hq]) λm hm g=>by rw[isInt_at ρ,gU];exact f m g)
  ⟨z,λy p=>(eq_isInt k t ρ y (by simpa using p)).at _ _,h⟩
 exact IE (hL.mpr (c7 q e)) (by rw[ps];decide)
theorem YV{m:Str}{a d:D}{ds:List D}{args:List Expr}{p:Pos}(aw:cH C S Ω n)(R:a_ A (Ω+n))(H:St C B K env α F σ s)(h:M1 m a ds=some d)
 (he:each (λa=>μ S n K a σ) args=some ds) (Do:cf C F s.heap B a u) {E:cg} {Q:cg}
 (V:∀v s',jx C F s (h6 C B d) v s'->Q v s'):MethodOnS C.prog C.w A E m u p (backTo p (starEach args env)) Q s:=
 π h λl h ζ=>π h λc h κ=>π h λx h N=>π h λns h r=>ai (Do.kp ζ) λad us q=>cu q λe hd ζ=>ν (id hd) λz Y=>ν (Kw he κ) λy k=>by
  rw[e]
  have go:∀{id:String} (_:Slot "list" m id) (_:typeOf (.builtin id)=pure (.type "method_descriptor")) (j:Nat) (_:d=.int j)
   (_:∀{av:Shared} {t:Tok} {E Q:cg},av.heap.PlainList ad us.toArray->Q (.int j av.toks) {av with toks:=av.toks+1}->wpAny C.M A (call (.builtin id) [.ref ad,.int x t]) Q E av),MethodOnS C.prog C.w A E m (.ref ad) p (backTo p (starEach args env)) Q s:=λ{id} P ty j T call=>by
   refine⟨"list",id,Cp,P,ty,hd.isList.typeIs,λL e=>kE e▸⟨_,Y,rfl⟩,?_⟩;have f:=he;rw[k.1] at f⊢;refine vb (sm (λe d h=>eJ h) f) (eJ k.2 _ _) (Run.seq (sI aw R f H) λvs a0 av g W=>?_);rw[gx κ] at W;refine ν (bA.one W) λv q=>ν (q.2.o.hI N) λt e=>?_;rw[q.1,e];exact call ⟨z,g.get H.ok Y (λao=>nofun)⟩ (V _ _ (ν (oO (B:=B) (i:=(j:Nat)) g.ok av.toks) λU q=>⟨U,g.trans q.1,T▸q.2⟩))
  exact b' h (λh=>aP h λh hm=>eq_of_beq hm▸go (eq_of_beq hm▸PySem.F.slot_list_count) PySem.F.type_list_count _ (ae h).symm λZ q=>count_list_ints Z.isList (x' r ζ) q)
   λh=>aP h λh hm=>π h λj h O=>eq_of_beq (band hm).1▸go (eq_of_beq (band hm).1▸PySem.F.slot_list_index) PySem.F.type_list_index _ (ae h).symm λZ q=>index_list_ints Z.isList (x' r ζ) (by rw[<-(x' r ζ).length] at hm;exact iw.mp (band hm).2) O q
theorem Tb{m:Str}{a d:D}{ds:List D}{args:List Expr}{p:Pos}(aw:cH C S Ω n)(R:a_ A (Ω+n))(H:St C B K env α F σ s)(h:dictGet m a ds=some d)
 (he:each (λa=>μ S n K a σ) args=some ds) (Do:cf C F s.heap B a u) {E:cg} {Q:cg}
 (Z:∀v s',jx C F s (h6 C B d) v s'->Q v s'):MethodOnS C.prog C.w A E m u p (backTo p (starEach args env)) Q s:=
 aP h λh hm=>π h λl h ζ=>π h λc h κ=>π h λk h χ=>ai (Do.vw ζ) λad us q=>b2 q λe h0 z hle=>ai (Kx he κ) λag g hb=>cu hb λrA g1 g2=>by
  rw[eq_of_beq hm];have t:ad∉C.bo:=cN z λo es ep q=>H.ok.kn q.1 (λao=>by rw[q.2.2.1];nofun);rw[e] at Do⊢;refine⟨"dict","dict.get",Cq,PySem.F.slot_dict_get,PySem.F.type_dict_get,z.typeIs,z.mapOf.noDict,?_⟩;rw[rA,eJ g1,eJ g2];show wpAny C.M A (callWith p (.builtin "dict.get") [.ref ad] [(false,eval ag env),(false,eval g env)] []) _ E s;refine wpAny_dict_get2 (knd:=C.dR) h0 (Run.e4 (aw _ ag σ _ g1 A env α B F s R H) H λv1 a0 av i j U=>Run.e4 (aw _ g σ _ g2 A env α B a0 av R j) j λv2 Y aN W T P=>ν (U.o.hI χ) λt1 aB=>?_);rw[aB];have X:=i.trans W;refine ai ((Do.step X H.bad λb O=>kE O▸t).vw ζ) λx N V=>b2 V λjD I y r=>?_;rw[<-kE jD] at y;refine⟨k,_,r' _ _ _ _,y.mapOf,Z _ _ ⟨Y,X.trans (.tok T.ok (c9 _)),?_⟩⟩;have L:=cL.lookup k r;rw[<-ae h];cases f:l.lookup k with
  |none=>rw[f] at L;rw[show valueAt N k=none from L];exact P
  |some w=>rw[f] at L;exact ν L λvO q=>by rw[q.1];exact q.2
theorem Zd{m:Str}{a d:D}{ds:List D}{args:List Expr}{p:Pos}(aw:cH C S Ω n)(R:a_ A (Ω+n))(H:St C B K env α F σ s)(h:Nm m a ds=some d)
 (he:each (λa=>μ S n K a σ) args=some ds) (Do:cf C F s.heap B a u) {E:cg} {Q:cg}
 (z:∀v s',jx C F s (h6 C B d) v s'->Q v s'):MethodOnS C.prog C.w A E m u p (backTo p (starEach args env)) Q s:=
 b' h (λh=>YV aw R H h he Do z) λh=>Tb aw R H h he Do z
theorem qbQ:∀(l:List (Str×Tok)),bA C F h B (l.map λp=>D.str p.1) (strValues l):=by
 intro y
 induction y with
 |nil=>
  exact rfl
 |cons j l z=>
  obtain⟨x,t⟩:=j;exact⟨.str x t,strValues l,rfl,⟨t,rfl⟩,z⟩
theorem Ho(z:C.dZ B s)(ok:C.Ok F s){xs:List Str}(l:List (Str×Tok))(e:l.map (·.1)=xs){n:Nat}(y:s.toks<=n):
 ∃F',C.Step F s F' {s with heap:=s.heap.push {cls:=.type "list",data:=.seq (strValues l).toArray},toks:=n}/\
  Den C F' (s.heap.push {cls:=.type "list",data:=.seq (strValues l).toArray}) B (.lst (xs.map D.str)) (.ref s.heap.objs.size):=by
 have g:bA C F s.heap B (xs.map D.str) (strValues l):=by rw[<-e,cP];exact qbQ l
 exact AA z ok g y
theorem qbP{x y:Str}{t u:Tok}(ok:C.Ok F s)(q:C.dZ B s)(g:(y.length==0)=false)(p:x.length<=sizeLine)(e:(Builtin.Str.partsBetween x (Builtin.Str.occurrences x y 0 x.length (x.length+1)) y.length).length<=sizeLine){E:cg}{Q:cg}
 (j:∀v s',(∃F',C.Step F s F' s'/\Den C F' s'.heap B (.lst ((Txt.split x y).map D.str)) v)->Q v s'):
 wpAny C.M A (call (.builtin "str.split") [.str x t,.str y u]) Q E s:=by
 refine h1 (a7 s.toks) ?_;cases ε:(decide (x.length<y.length)||decide (Builtin.Str.strKind x<Builtin.Str.strKind y))
 ·cases hf:(Builtin.Str.occurrences x y 0 x.length (x.length+1)).isEmpty
  ·refine zu Cr (tZ _ _ _) Ic (H_ _ _) (meets_str_split_sep x y t u ε g hf p e) ?_;show wants _ _ _ {s with toks:=_,heap:=s.heap.push {cls:=.type "list",data:=.seq (strsFrom s.toks (Builtin.Str.partsBetween x (Builtin.Str.occurrences x y 0 x.length (x.length+1)) y.length)).toArray}};rw[strsFrom_eq];intro z;exact j _ _ (Ho q ok (numbered s.toks _) ((numbered_texts _ _).trans ((ar (Iv ε)).trans (ar (Iv hf))).symm) z)
  ·refine zu Cr (tZ _ _ _) Ic (H_ _ _) (meets_str_split_not_found x y t u ε g hf) ?_;intro z;exact j _ _ (Ho q ok [(x,t)] ((ar (Iv ε)).trans (au hf)).symm z)
 ·refine zu Cr (tZ _ _ _) Ic (H_ _ _) (meets_str_split_cannot_occur x y t u ε) ?_;intro z;exact j _ _ (Ho q ok [(x,t)] (au ε).symm z)
theorem rF(hm:hg o ap p=true)(y:args.length<20)(z:(backTo p (starEach args env)).any (·.1)=false)
 (h:wpAny C.M A (eval o env) (λu av=>MethodOnS C.prog C.w A E m u p (backTo p (starEach args env)) Q av) E s):wpAny C.M A (eval (.Call (.Attribute o m ap) args [] p) env) Q E s:=
 wpAny_Call_method_lateS (Za hm m _) (U8 z y) (Zc hm) h
theorem Us(aw:cH C S Ω n)(R:a_ A (Ω+n))(H:St C B K env α F σ s)(hm:hg o ap p=true)(r:args.length<20)
 (h:N8 (μ S n) K σ o m args=some d):Gives C A B F (eval (.Call (.Attribute o m ap) args [] p) env) d s:=
 π h λa h ε=>π h λds h z=>λE=>rF hm r (sm (λe d h=>eJ h) z) (Run.e4 (qm aw R H ε) H λu a0 av j y f=>
  Zd aw R y h z f λv s' q=>ν q λg q=>⟨g,j.trans q.1,q.2⟩)
theorem Ul(G:C.Good)(O:dA C S Ω)(aw:cH C S Ω n)(R:a_ A (Ω+n))(H:St C B K env α F σ s)(hm:hg o ap p=true)(l:args.length<20)
 (h:Pg S (μ S n) K σ o args=some d):Gives C A B F (eval (.Call (.Attribute o ("get" :Str) ap) args [] p) env) d s:=
 π h λg h T=>π h λt h ω=>π h λds h W=>π h λc h κ=>π h λx hf ι=>ν (gH T) λq e=>π ω λf9 ω V=>ai (Kx W κ) λag y k=>cu k λrA g1 g2=>by
  have r:=sm (pos:=p) (env:=env) (λe d h=>eJ h) W;rw[rA] at r l⊢;rw[e,<-ae hf];refine λE=>rF (e▸hm) l r (md (f9:=.tab t) G O H (La ω▸V) λv sO=>ai sO λa us g=>b2 g λe h0 Z ζ=>?_);have f:=H.ok.Ea G Z;rw[e];refine⟨"dict","dict.get",Cq,PySem.F.slot_dict_get,PySem.F.type_dict_get,f.typeIs,f.mapOf.noDict,?_⟩;rw[eJ g1,eJ g2];show wpAny C.M A (callWith p (.builtin "dict.get") [.ref a] [(false,eval ag env),(false,eval y env)] []) _ E s;refine wpAny_dict_get2 (knd:=strKind C.prog C.w) h0 (Run.e4 (aw K ag σ _ g1 A env α B F s R H) H λv1 a0 av U z I=>Run.e4 (aw K y σ _ g2 A env α B a0 av R z) z λv2 P aN N j dU=>ν (I.o.qo ι) λt1 aB=>?_);rw[aB];refine⟨x,_,strKind_is _ _ _ _,(j.ok.Ea G Z).mapOf,P,(U.trans N).trans (.tok j.ok (c9 _)),?_⟩;have L:=Ph x ζ;cases Y:t.lookup x with
  |none=>rw[Y] at L;rw[show valueAt us x=none from L];exact dU
  |some i=>rw[Y] at L;exact ν L λQ q=>q▸⟨Q,rfl⟩
theorem Uu(aw:cH C S Ω n)(R:a_ A (Ω+n))(H:St C B K env α F σ s)(hm:hg o ap p=true)(W:args.length<20)
 (h:OR (μ S n) K σ o args=some d):Gives C A B F (eval (.Call (.Attribute o ("split" :Str) ap) args [] p) env) d s:=
 π h λx h V=>π h λa h r=>π h λc h z=>π h λy h l=>aP h λh κ=>ai (JA V) λk q e=>by
  rw[e,gx r];have f:(backTo p (starEach [a] env)).any (·.1)=false:=by rw[eJ z];rfl
  have j:C.Step F s F {s with toks:=s.toks+1}:=.tok H.ok (c9 _);refine λE=>rF (e▸hm) (gx r▸W) f (IA ⟨"str","str.split",PySem.F.plainAttrs_str,Cr,PySem.F.type_str_split,tZ _ _ _,(λγ e=>nomatch e),vb f (eJ z _ _) ?_⟩);rw[eJ z];refine r3 (Run.e4 (aw K a σ _ z A env α B F _ R (H.step j)) (H.step j) λv U aN i g Z=>tR (ν (Z.o.qo l) λt aB=>?_));rw[aB,<-ae h];exact qbP g.ok g.bad (Bp (band (band κ).1).1) (iw.mp (band (band κ).1).2) (iw.mp (band κ).2) λv s' q=>ν q λY q=>⟨Y,(j.trans i).trans q.1,q.2⟩
theorem Uo(aw:cH C S Ω n)(R:a_ A (Ω+n))(H:St C B K env α F σ s)(hm:hg o ap p=true)(V:args.length<20)
 (h:MH (μ S n) K σ o args=some d):Gives C A B F (eval (.Call (.Attribute o ("join" :Str) ap) args [] p) env) d s:=
 π h λx h U=>π h λa h g=>π h λc h z=>π h λl h ζ=>π h λxs h f=>aP h λh κ=>ai (JA U) λk q e=>by
  rw[e,gx g];have j:(backTo p (starEach [a] env)).any (·.1)=false:=by rw[nS z];rfl
  have y:C.Step F s F {s with toks:=s.toks+1}:=.tok H.ok (c9 _);refine λE=>rF (e▸hm) (gx g▸V) j (IA ⟨"str","str.join",PySem.F.plainAttrs_str,PySem.F.slot_str_join,PySem.F.type_str_join,tZ _ _ _,(λγ e=>nomatch e),vb j (nS z _ _) ?_⟩);rw[nS z];refine r3 (Run.e4 (qm aw R (H.step y) z) (H.step y) λv t aN i Z W=>tR (ai (W.kp ζ) λad us k=>cu k λaB hd ζ=>ν (qce f ζ) λq m=>?_));rw[aB,<-ae h];exact h1 (a7 aN.toks) (SC.join (l:=q) (by rw[<-m.1];exact hd.isList) m.2 κ λr k Y=>⟨t,(y.trans i).trans (.tok Z.ok Y),r,rfl⟩)
theorem Ua(G:C.Good)(O:dA C S Ω)(aw:cH C S Ω n)(R:a_ A (Ω+n))(H:St C B K env α F σ s)
 (h:Bj S (μ S n) K σ o m ap args p=some d):Gives C A B F (eval (.Call (.Attribute o m ap) args [] p) env) d s:=
 aP h λh z=>bL (band z) λhm hf=>have hf:=cU hf
  b' h (λh=>aP h λh q=>eq_of_beq q▸Ul G O aw R H hm hf h) λh=>
  b' h (λh=>aP h λh q=>eq_of_beq q▸Uu aw R H hm hf h) λh=>
  b' h (λh=>aP h λh q=>eq_of_beq q▸Uo aw R H hm hf h) λh=>Us aw R H hm hf h
theorem Vb(hs:∀e d,f e=some d->Plain e)(ε:f e=some d)(h:each f (e::r)=some ds):(backTo p (starEach r env)).any (·.1)=false:=by
 have:=sm (pos:=p) (env:=env) hs h;rw[hs e d ε] at this;exact this
theorem Rm{id:String}(aw:cH C S Ω n)(R:a_ A (Ω+n))(H:St C B K env α F σ s)
 (h:each (λa=>operand (μ S n) K a σ) args=some ds) (h0:ds≠[])
 (q:∀vs F' s',C.Step F s F' s'->jw C F' s'.heap B ds vs->wpAny C.M A (call (.builtin id) vs) Q E s'):
 wpAny C.M A (callWith p (.builtin id) [] (backTo p (starEach args env)) []) Q E s:=by
 cases args with
 |nil=>exact(h0 (ae h).symm).elim
 |cons e r=>exact ai (oI h) λg j k=>H6 (Run.seq (Ek aw R h H) λvs a0 av z y=>q vs a0 av z y) (nS k.1 _ _) (Vb (λe d h=>nS h) k.1 h)
theorem Dz(aw:cH C S Ω n)(R:a_ A (Ω+n))(H:St C B K env α F σ s)
 (h:each (λa=>operand (μ S n) K a σ) args=some ds) (h0:ds≠[])
 (q:∀vs F' s',C.Step F s F' s'->jw C F' s'.heap B ds vs->wpAny C.M A (call (.type T) vs) Q E s'):
 wpAny C.M A (callWith p (.type T) [] (backTo p (starEach args env)) []) Q E s:=by
 cases args with
 |nil=>exact(h0 (ae h).symm).elim
 |cons e r=>
  refine ai (oI h) λt f k=>?_;have z:=sm (pos:=p) (env:=env) (λe d h=>nS h) h;have y:=Ek (pos:=p) aw R h H;rw[nS k.1] at z y⊢;exact CA z (Cz (Run.seq y λvs a0 av j g=>q vs a0 av j g))
theorem RP{id:String}(h:uo id ds=some d):ds≠[]:=λe=>by
 rw[e] at h;exact b' h (λh=>aP h λh γ=>aQ h) λh=>b' h (λh=>aP h λh γ=>aQ h) λh=>b' h (λh=>aP h λh γ=>aQ h) λh=>b' h (λh=>aP h λh γ=>aQ h) λh=>b' h (λh=>aP h λh γ=>aQ h) λh=>b' h (λh=>aP h λh γ=>aQ h) λh=>b' h (λh=>aP h λh γ=>aQ h) λh=>aP h λh γ=>aQ h
theorem qdD{id:String}(h:rT id ds=some d):ds≠[]:=λe=>by
 rw[e] at h;exact b' h (λh=>aP h λh γ=>aQ h) λh=>aP h λh γ=>aQ h
theorem qbs(R:a_ A 1)(ok:C.Ok F s)(hd:s.heap.PlainList a vs.toArray)(ζ:bA C F s.heap B l vs)(y:intsOf l=some ns)(f:l.length+1<4096)
 (r:∀v s',jx C F s (h6 C B (.int (unlike ns))) v s'->Q v s'):
 wpAny C.M A (call (.type "set") [.ref a]) (λv av=>wpAny C.M A (call (.builtin "len") [v]) Q E av) E s:=by
 refine h1 (a7 s.toks) (PySem.call_set_list R.handled hd.isList (x' y ζ) (by rw[gp,ζ.length];exact f) λh' a' nI j z=>?_);refine ai nI λo es q=>ai q λep t q=>b2 q λp hex g q=>?_;have i:es.size<4096:=q.2.2.1;refine call_len_set p hex g q.2.2.2.1 .l (r _ _ ⟨F,(aE.Step.heap ok z λb o e=>j b o (dz e) e).trans (.tok (aE.Step.heap ok z λb o e=>j b o (dz e) e).ok (show a'<=a'+1+1 from c8 _ 2)),a'+1,?_⟩);rw[q.2.2.2.2];unfold unlike;rw[x_ y,gp,ζ.length]
def zL(C:aE)(S:dH)(Ω n:Nat):Prop:=∀(K:Kinds) (σ:Γ) (elt:Expr) (a b z:Str) (q g j pt pc jW p:Pos) (kt:Nat) (ag y:Expr) (sc:Scope) (l m:List D) (ns ms:List Int),
 glob S K σ z=some (.ty "zip")->Pz K a b elt sc=true->μ S n K ag σ=some (.tup l)->μ S n K y σ=some (.tup m)->intsOf l=some ns->intsOf m=some ms->dE ns.length=true->ns.length=ms.length->
 ∀(A:Around) (env:Env) (α:Str->Addr) (B:Addr->Prop) (F:bc) (s:Shared),a_ A (Ω+n+1)->St C B K env α F σ s->
  Run C A F (callWith p (.type "tuple") [] (backTo p (starEach [.GeneratorExp elt [⟨.Tuple [.Name a q,.Name b g] kt pt,.Call (.Name z j) [ag,y] [] pc,[],0⟩] sc jW] env)) []) (h6 C B (.tup (rX ns ms))) s
def zG(C:aE)(S:dH)(Ω n:Nat):Prop:=∀(K:Kinds) (σ:Γ) (f key a:Str) (x body:Expr) (sc:Scope) (d:D) (y z q j p:Pos),MQ S (μ S n) K σ f key x a body sc=some d->
 ∀(A:Around) (env:Env) (α:Str->Addr) (B:Addr->Prop) (F:bc) (s:Shared),a_ A (Ω+n+1)->St C B K env α F σ s->
  Gives C A B F (eval (.Call (.Name f y) [x] [⟨some key,.Lambda ⟨[],[⟨a,none,z⟩],none,[],[],none,[]⟩ body sc q,j⟩] p) env) d s
theorem wR{x}(h:eY e=some x):∃p q,e=.Call (.Name x.1 q) x.2 [] p:=
 π h λc h ε=>aP h λh y=>π h λg h z=>ν (wU ε) λp e=>ν (gH z) λq aB=>⟨p,q,by rw[e,aB,gq.mp y,<-ae h]⟩
theorem RC{x}(h:DF l=some x):∃p q,l=[.Call (.Name x.1 q) [x.2] [] p]:=
 π h λc h ε=>π h λg h j=>π h λy h z=>ai (wR j) λp q e=>⟨p,q,by rw[gx ε,e,gx z,<-ae h]⟩
theorem RE{x}(h:JE l=some x):∃p,l=[x.1,.Name x.2 p]:=
 π h λc h ε=>π h λg h z=>ν (gH z) λp e=>⟨p,by rw[q3 ε,e,<-ae h]⟩
theorem RB{x}(h:asPair t=some x):∃p q k r,t=.Tuple [.Name x.1 p,.Name x.2 q] k r:=
 π h λc h ε=>π h λg h f=>π h λa h z=>π h λb h bu=>ai (wZ ε) λk r e=>ν (gH z) λp y=>ν (gH bu) λq j=>⟨p,q,k,r,by rw[e,q3 f,y,j,<-ae h]⟩
theorem RF{x}(h:JI t=some x):∃p q,t=.Call (.Name x.1 q) [x.2.1,x.2.2] [] p:=
 π h λc h ε=>π h λg h z=>ai (wR ε) λp q e=>⟨p,q,by rw[e,q3 z,<-ae h]⟩
theorem SA{g:Comprehension}(h:(g.ifs.isEmpty&&g.is_async==0)=true):g=⟨g.target,g.iter,[],0⟩:=
 match g with|⟨t,i,f,a⟩=>by rw[show f=[] from gq.mp (band h).1,show a=0 from eq_of_beq (band h).2]
theorem Rw{x}(h:Jz l=some x):∃j p kt pt z pc jW,l=[.GeneratorExp x.1 [⟨.Tuple [.Name x.2.1 j,.Name x.2.2.1 p] kt pt,.Call (.Name x.2.2.2.1 z) [x.2.2.2.2.1,x.2.2.2.2.2.1] [] pc,[],0⟩] x.2.2.2.2.2.2 jW]:=
 π h λc h ε=>π h λg h Z=>π h λy h r=>aP h λh bu=>π h λu h t=>π h λw h i=>ν (Rv Z) λjW e=>ai (RB t) λj p q=>ai q λkt pt a=>ai (RF i) λpc z f=>
  ⟨j,p,kt,pt,z,pc,jW,by rw[gx ε,e,gx r,SA bu,a,f,<-ae h]⟩
theorem xv(h:oP S K σ x=some q):glob S K σ x=some (.ty q):=π h λg h ε=>VO h▸ε
theorem ne_nil{X:Type}{l:List X}(h:(!l.isEmpty)=true):∃e r,l=e::r:=by
 cases l with
 |nil=>exact jo h
 |cons e r=>exact⟨e,r,rfl⟩
theorem Uk(G:C.Good)(O:dA C S Ω)(aw:cH C S Ω n)(R:a_ A (Ω+n+1))(H:St C B K env α F σ s)(l:glob S K σ f=some .fn)
 (h:KZ S (μ S n) K σ f args=some d):Gives C A B F (eval (.Call (.Name f q) args [] p) env) d s:=
 aP h λh x=>π h λds hf ε=>ai (ne_nil x) λY r j=>λE=>r6 (md G O H l λv Z=>cN Z λa o fd g=>b2 g λe y hd κ=>by
  rw[j] at ε⊢;rw[e];refine ai (oI ε) λV W k=>callWith_def hd (Run.e4 (sI aw (R.mono (c9 (Ω+n))) ε H) H λvs a0 av t z i=>⟨z.ok.base a o (G.kn y λao=>by rw[hd];nofun) y,?_⟩) (eJ k.1 _ _);exact Run.on (κ.1 A a0 B av vs ds d (R.mono (aJ (c8 Ω n) (c9 _))) z.ok z.bad i hf) t)
theorem Ut(G:C.Good)(O:dA C S Ω)(aw:cH C S Ω n)(R:a_ A (Ω+n))(r:a_ A 1)(H:St C B K env α F σ s)
 (h:BW S (μ S n) K σ args=some d):Run C A F (callWith p (.builtin "len") [] (backTo p (starEach args env)) []) (h6 C B d) s:=
 π h λc h i=>π h λt h ω=>aP h λh hs=>π h λw h a=>π h λl h ζ=>aP h λh y=>π h λns h Z=>ai (RC i) λao jW e=>by
  rw[e,<-ae h];refine λE=>H6 (rest:=[]) (ob (rest:=[]) (r6 (md (f9:=.ty "set") G O H (eq_of_beq hs▸xv ω) λv e=>?_)) rfl) rfl rfl;rw[show v=.type "set" from e];refine Dz aw R H (args:=[c.2]) (ds:=[w]) (by unfold each;rw[a];rfl) nofun λvs a0 av z j=>ν j.one λv q=>ai (q.2.kp ζ) λad us k=>cu k λe hd ζ=>?_
  rw[q.1,e];exact b8 (qbs (Q:=jx C F s (h6 C B (.int (unlike ns)))) r z.ok hd ζ Z (cU y) λv s' q=>ν q λg q=>⟨g,z.trans q.1,q.2⟩) (λv aN f=>r7 f) λγ γ x=>x
theorem Yd(h:ME d=some b)(ok:C.Ok F s)(D:Den C F s.heap B d u):Run C A F (call (.builtin "isinstance") [u,.type "tuple"]) (h6 C B (.bool b)) s:=by
 cases d with
 |tup l=>exact λE=>ai D λa vs q=>ν q.2.2.1 λm ω=>q.1▸ae h▸IsiPair.tuple_tuple ω rfl (lP ok)
 |int i=>exact λE=>ν D λt e=>e▸ae h▸IsiPair.int_tuple ⟨F,.tok ok (c9 _),rfl⟩
 |_=>exact aQ h
theorem Un(G:C.Good)(O:dA C S Ω)(aw:cH C S Ω n)(R:a_ A (Ω+n))(H:St C B K env α F σ s)
 (h:Mz S (μ S n) K σ args=some d):Run C A F (callWith p (.builtin "isinstance") [] (backTo p (starEach args env)) []) (h6 C B d) s:=
 π h λc h g=>π h λt h ω=>aP h λh hs=>π h λw h z=>π h λb h f=>ν (RE g) λjW e=>by
  rw[e,<-ae h];refine λE=>H6 (ob (Run.e4 (aw K c.1 σ _ z A env α B F s R H) H λv a0 av j y q=>ob (rest:=[]) (md (f9:=.ty "tuple") G O y (eq_of_beq hs▸xv ω) λw e=>r7 ?_) rfl) (eJ z _ _)) (eJ z _ _) rfl;rw[show w=.type "tuple" from e];exact Run.on (Yd f y.ok q) j
theorem T5(G:C.Good)(O:dA C S Ω)(aw:cH C S Ω n)(V:zL C S Ω n)(R:a_ A (Ω+n+1))(H:St C B K env α F σ s)
 (h:w_ S (μ S n) K σ f args=some d):Gives C A B F (eval (.Call (.Name f q) args [] p) env) d s:=
 π h λf9 h g=>by
  have j:=R.mono (c9 (Ω+n));have i:a_ A 1:=R.mono (nc 1 _);cases f9 with
  |fn=>exact Uk G O aw R H g h
  |bi id=>
   refine λE=>r6 (md G O H g λv e=>?_);rw[show v=.builtin id from e]
   exact b' h (λh=>aP h λh q=>eq_of_beq q▸Ut G O aw j i H h E) λh=>b' h (λh=>aP h λh q=>eq_of_beq q▸Un G O aw j H h E) λh=>π h λds h ε=>
    Rm aw j H ε (RP h) λvs a0 av y r=>Run.on (RQ h i y.ok (H.step y).bad r) y
  |ty nm=>
   refine λE=>r6 (md G O H g λv e=>?_);rw[show v=.type nm from e]
   refine b' h (λh=>aP h λh q=>π h λc h U=>π h λz h x=>aP h λh κ=>π h λw h ε=>π h λl h ζ=>π h λP h T=>π h λm h hm=>π h λns h Q=>π h λms h W=>aP h λh t=>?_) λh=>π h λds h ε=>
    Dz aw j H ε (qdD h) λvs a0 av y r=>Run.on (qdF h y.ok (H.step y).bad r) y
   refine cN (Rw U) λZ Y kt k=>ai k λpt a k=>ai k λpc jW e=>?_;rw[e,eq_of_beq q,<-ae h];exact V K σ c.1 c.2.1 c.2.2.1 c.2.2.2.1 Z Y a pt pc jW p kt c.2.2.2.2.1 c.2.2.2.2.2.1 c.2.2.2.2.2.2 l m ns ms (eq_of_beq (band κ).1▸xv x) (band κ).2 (wX ζ▸ε) (wX hm▸T) Q W (band t).1 (n' (band t).2) A env α B F s R H E
  |_=>exact aQ h
end
section
variable{C:aE}{S:dH}{A:Around}{B B':Addr->Prop}{M fm:Addr->Prop}{F F' fS:bc}{s s' cO:Shared}{h h':Heap}{u v:Value}{k Ω n:Nat}{K:Kinds}{env:Env}{α:Str->Addr}{σ σ':Γ}
structure aE.cV(C:aE)(M:Addr->Prop)(F:bc)(s:Shared)(F':bc)(s':Shared):Prop where
 ok:C.Ok F' s'
 keep:∀b o,b∉C.bo->¬M b->s.heap.get? b=some o->s'.heap.get? b=some o
 ex:∀b o,s.heap.get? b=some o->∃bf,s'.heap.get? b=some bf
 os:s'.os=s.os
 θ:∀t x,F t=some x->F' t=some x
 toks:s.toks<=s'.toks
theorem aE.et.of_none(ok:C.Ok F s)(h:∀a,M a->s.heap.get? a=none):C.et M where
 hG:=λa j=>by
  cases e:C.fU.get? a with
  |none=>rfl
  |some o=>
   have z:=h a j
   by_cases ω:a∈C.bo
   ·obtain⟨q,y,rfl⟩:=bV.mp ω;obtain⟨_,bf,g⟩:=ok.there y;rw[z] at g;exact aQ g
   ·have:=ok.base a o ω e;rw[z] at this;exact aQ this
 o8:=λa j q y=>by
  obtain⟨⟨tn,g1⟩,rJ,g2⟩:=ok.there y;have z:=h a j;refine⟨λe=>?_,λe=>?_⟩
  ·rw[<-e,z] at g1;exact aQ g1
  ·rw[<-e,z] at g2;exact aQ g2
theorem aE.et.or(X:C.et M)(Y:C.et fm):C.et (λb=>M b∨fm b):=
 ⟨λa h=>h.elim (X.hG a) (Y.hG a),λa h=>h.elim (X.o8 a) (Y.o8 a)⟩
theorem aE.et.bo(X:C.et M)(h:M a):a∉C.bo:=λω=>by
 obtain⟨q,z,e⟩:=bV.mp ω;exact(X.o8 a h q z).2 e.symm
theorem ys(g:h.get? a=some o)(n:d1 o):∀o,h.get? a=some o->d1 o:=λbf e=>ae (g.symm.trans e)▸n
theorem Z6(z:h.PlainList a xs):∀o,h.get? a=some o->d1 o:=ν z λn g=>ys g (.jr rfl .d)
theorem NM(z:h.DictOf C.dR a us):∀o,h.get? a=some o->d1 o:=cN z λo es ep g=>ys g.1 (.vk λvs=>by rw[g.2.2.1];nofun)
theorem Z7(H:fW C F h B d a):∀o,h.get? a=some o->d1 o:=ν (kr H) λo q=>ys q.1 (.vk q.2)
theorem Bt(z:h.Ns a m):∀o,h.get? a=some o->d1 o:=cN z λo es ep g=>ys g.1 (.vk λvs=>by rw[g.2.1];nofun)
theorem Z5(z:h.IsCell a w):∀o,h.get? a=some o->d1 o:=ν z λo g=>ys g.1 (.vk λvs=>by rw[g.2];nofun)
theorem aE.Step.m(X:C.Step F s F' s'):C.cV M F s F' s' where
 ok:=X.ok
 keep:=λb o ω γ e=>X.keep b o ω e
 ex:=λb o e=>by
  by_cases ω:b∈C.bo
  ·obtain⟨q,z,rfl⟩:=bV.mp ω;exact(X.ok.there z).2
  ·exact⟨o,X.keep b o ω e⟩
 os:=X.os
 θ:=X.θ
 toks:=X.toks
theorem aE.cV.refl(ok:C.Ok F s):C.cV M F s F s:=(aE.Step.refl ok).m
theorem aE.cV.trans(X:C.cV M F s F' s')(Y:C.cV M F' s' fS cO):C.cV M F s fS cO where
 ok:=Y.ok
 keep:=λb o ω hm e=>Y.keep b o ω hm (X.keep b o ω hm e)
 ex:=λb o e=>let ⟨bf,aB⟩:=X.ex b o e;Y.ex b bf aB
 os:=Y.os.trans X.os
 θ:=λt x e=>Y.θ t x (X.θ t x e)
 toks:=aJ X.toks Y.toks
theorem aE.cV.mono(X:C.cV M F s F' s')(h:∀b,M b->fm b):C.cV fm F s F' s':=
 ⟨X.ok,λb o ω hm e=>X.keep b o ω (λq=>hm (h b q)) e,X.ex,X.os,X.θ,X.toks⟩
theorem aE.cV.step(X:C.cV M F s F' s')(h:∀b,M b->s.heap.get? b=none):C.Step F s F' s':=
 ⟨X.ok,λb o ω e=>X.keep b o ω (λq=>by rw[h b q] at e;cases e) e,X.os,X.θ,X.toks⟩
theorem aE.cV.less(X:C.cV M F s F' s')(h:∀b,M b->fm b∨s.heap.get? b=none):C.cV fm F s F' s':=
 ⟨X.ok,λb o ω hm e=>X.keep b o ω (λq=>(h b q).elim hm λr=>by rw[r] at e;cases e) e,X.ex,X.os,X.θ,X.toks⟩
theorem aE.Ok.Zt(H:C.Ok F s)(f:C.et M)(z:M a)(j:∀o,s.heap.get? a=some o->d1 o)(y:Heap.ExtBut a s.heap h')(hm:s.toks<=m):C.Ok F {s with heap:=h',toks:=m}:=
 H.vc (W:=λb=>b=a) ⟨λb e=>e▸f.hG a z,λb e=>e▸f.o8 a z⟩ (λb e=>e▸j) y hm
theorem aE.cV.mut(X:C.cV M F s F' s')(f:C.et M)(y:M a)(g:∀o,s'.heap.get? a=some o->d1 o)(z:Heap.ExtBut a s'.heap h')(hs:∃o,h'.get? a=some o)(hm:s'.toks<=m):C.cV M F s F' {s' with heap:=h',toks:=m}:=
 ⟨X.ok.Zt f y g z hm,λb o ω j e=>z b o (λq=>j (q▸y)) (X.keep b o ω j e),λb o e=>by
   by_cases q:b=a
   ·exact q▸hs
   ·refine ν (X.ex b o e) λbf aB=>?_;exact⟨bf,z b bf q aB⟩,X.os,X.θ,aJ X.toks hm⟩
theorem aE.cV.GH(ok:C.Ok F s)(f:C.et M)(z:M a)(j:∀o,s.heap.get? a=some o->d1 o)(y:Heap.ExtBut a s.heap h')(hs:∃o,h'.get? a=some o)(hm:s.toks<=m):C.cV M F s F {s with heap:=h',toks:=m}:=
 aE.cV.mut (.refl ok) f z j y hs hm
theorem aE.dZ.GF(H:C.dZ B s)(X:C.cV M F s F' s'):C.dZ B s' where
 bo:=H.bo
 some:=λb z=>let ⟨o,e⟩:=H.some b z;X.ex b o e
 new:=H.new
theorem aE.cV.grow(X:C.cV M F s F' s')(H:C.dZ B s)(hm:∀b,M b->B b):dt F s.heap B F' s'.heap B:=
 ⟨X.θ,λb o z e=>X.keep b o (λω=>z (H.bo b ω)) (λq=>z (hm b q)) e,λγ γ z γ=>z⟩
theorem aE.cV.get(X:C.cV M F s F' s')(ok:C.Ok F s)(hm:¬M b)(e:s.heap.get? b=some o)(hd:∀ao,o.data≠ .fields ao):s'.heap.get? b=some o:=
 X.keep b o (ok.kn e hd) hm e
theorem aE.cV.eh(X:C.cV M F s F' s')(ok:C.Ok F s)(K:C.dZ B s)(hm:∀b,M b->B b)(z:¬M a)(H:fW C F s.heap B d a):fW C F' s'.heap B d a:=
 ν (kr H) λo q=>H.grow (X.grow K hm) λbf e=>X.get ok z e (ae (q.1.symm.trans e)▸q.2)
structure Frame(C:aE)(M B:Addr->Prop)(K:Kinds)(env:Env)(α:Str->Addr)(F:bc)(σ:Γ)(s:Shared):Prop extends St C B K env α F σ s where
 free:C.et M
 bM:∀a,M a->B a
 ns:∃m,s.heap.Ns env.locals m
 gO:M env.locals
 loc:∀x,K.lookup x=some .local->env.kindOf x=some .local
 fD:∀x,K.lookup x=some .cell->env.kindOf x=some .cell/\∃c,env.cells.lookup x=some c/\M c
 gI:∀x c,env.cells.lookup x=some c->∃w,s.heap.IsCell c w
 gc:∀x c,env.cells.lookup x=some c->c≠env.locals
 inj:∀x y c,K.lookup x=some .cell->env.cells.lookup x=some c->env.cells.lookup y=some c->x=y
 e3:∀x d,σ.get x=some (.own d)->α x≠env.locals/\(∀y c,env.cells.lookup y=some c->c≠α x)
def Γ.le(σ σ':Γ):Prop:=∀x lv,σ.get x=some lv->σ'.get x=some lv
theorem St.less(H:St C B K env α F σ' s)(h:Γ.le σ σ'):St C B K env α F σ s:=
 ⟨H.ok,H.bad,H.kind,H.glob,H.blt,H.code,H.gh,H.cells,λx lv e=>H.nm x lv (h x lv e),λx lv e=>H.vars x lv (h x lv e)⟩
theorem Frame.less(H:Frame C M B K env α F σ' s)(h:Γ.le σ σ'):Frame C M B K env α F σ s:=
 {H.toSt.less h with free:=H.free,bM:=H.bM,ns:=H.ns,gO:=H.gO,loc:=H.loc,fD:=H.fD,gI:=H.gI,gc:=H.gc,inj:=H.inj,e3:=λx d e=>H.e3 x d (h x _ e)}
theorem Frame.step(H:Frame C M B K env α F σ s)(X:C.Step F s F' s'):Frame C M B K env α F' σ s':=
 {H.toSt.step X with
  free:=H.free,bM:=H.bM,gO:=H.gO,loc:=H.loc,gc:=H.gc,inj:=H.inj,e3:=H.e3,fD:=H.fD
  gI:=λx c e=>let ⟨w,h⟩:=H.gI x c e;⟨w,X.cell H.ok h⟩
  ns:=let ⟨m,z⟩:=H.ns;⟨m,X.ns H.ok z⟩}
theorem Γ.jG{r:Γ}:Γ.get ((z,w)::r) y=if y=z then w else r.get y:=by
 unfold Γ.get;rw[fP]
 by_cases j:y=z
 ·rw[au j,h5.mpr j];rfl
 ·rw[ar j,gU.mpr j]
theorem Γ.get_set{v:aC}:(σ.set x v).get y=if y=x/\(σ.lookup x).isSome then some v else σ.get y:=by
 induction σ with
 |nil=>exact(ar λq=>jo q.2).symm
 |cons p r e=>
  obtain⟨z,w⟩:=p;unfold Γ.set;rw[fP]
  by_cases g:z=x
  ·rw[au (h5.mpr g),h5.mpr g.symm,Γ.jG,Γ.jG,g]
   by_cases j:y=x
   ·rw[au j,au ⟨j,rfl⟩]
   ·rw[ar j,ar λq=>j q.1,ar j]
  ·rw[ar λq=>g (eq_of_beq q),gU.mpr (gT g),Γ.jG,Γ.jG,e]
   by_cases j:y=z
   ·rw[au j,au j,ar λq=>g (j.symm.trans q.1)]
   ·rw[ar j,ar j]
theorem Γ.get_none(h:¬(σ.lookup x).isSome=true):σ.get x=none:=by
 unfold Γ.get;rw[Option.not_isSome_iff_eq_none.mp h];rfl
theorem Γ.jH{v lv:aC}(h:(σ.set x v).get y=some lv):(y=x/\lv=v)∨(y≠x/\σ.get y=some lv):=by
 rw[Γ.get_set] at h
 by_cases z:y=x
 ·by_cases hs:(σ.lookup x).isSome=true
  ·rw[au ⟨z,hs⟩] at h;exact .inl ⟨z,(ae h).symm⟩
  ·rw[ar λq=>hs q.2,z,Γ.get_none hs] at h;exact aQ h
 ·rw[ar λq=>z q.1] at h;exact .inr ⟨z,h⟩
theorem yN(h:storeOk K x=true):K.lookup x=some .local∨K.lookup x=some .cell:=(m6.mp (band h).2).imp eq_of_beq eq_of_beq
theorem qu(h:storeOk K x=true):eU x=true:=(band h).1
theorem Frame.stored(H:Frame C M B K env α F σ s)(g:eU x=true) cI (z:∀y,y≠x->cI y=α y)
 (X:C.cV M F s F' s') (i:∃m,s'.heap.Ns env.locals m)
 (j:∀y c w,env.cells.lookup y=some c->s.heap.IsCell c w->∃w,s'.heap.IsCell c w)
 (p:∀y u,y≠x->jy s.heap env y u->jy s'.heap env y u) (r:∀y d,y≠x->σ.get y=some (.own d)->∀o,s.heap.get? (α y)=some o->s'.heap.get? (α y)=some o)
 (Z:jy s'.heap env x v) (f:iJ C F' s'.heap B cI x lv v)
 (t:∀d,lv=.own d->cI x≠env.locals/\(∀y c,env.cells.lookup y=some c->c≠cI x)):Frame C M B K env cI F' (σ.set x lv) s':=
 {ok:=X.ok,bad:=H.bad.GF X,kind:=H.kind,glob:=H.glob,blt:=H.blt,code:=H.code,gh:=H.gh,free:=H.free,bM:=H.bM,ns:=i,gO:=H.gO,loc:=H.loc,gc:=H.gc,inj:=H.inj,fD:=H.fD
  cells:=λy e=>⟨ai (H.cells y e).1 λc w q=>ν (j y c w q.1 q.2) λa k=>⟨c,a,q.1,k⟩,(H.cells y e).2⟩
  gI:=λx c e=>ν (H.gI x c e) λw h=>j x c w e h
  nm:=λy l e=>(Γ.jH e).elim (λq=>q.1▸λγ=>g) λq=>H.nm y l q.2
  vars:=λy l e=>(Γ.jH e).elim (λq=>q.1▸q.2▸⟨v,Z,f⟩) λq=>ν (H.vars y l q.2) λu k=>⟨u,p y u q.1 k.1,(k.2.to (X.grow H.bad H.bM) λd e=>r y d q.1 (e▸q.2)).adr (z y q.1) λγ γ k γ=>z _ (AO g k)⟩
  e3:=λy d e=>(Γ.jH e).elim (λq=>q.1▸t d q.2.symm) λq=>z y q.1▸H.e3 y d q.2}
structure aE.i9(C:aE)(M W:Addr->Prop)(F:bc)(s:Shared)(F':bc)(s':Shared):Prop where
 ok:C.Ok F' s'
 keep:∀b o,b∉C.bo->¬M b->¬W b->s.heap.get? b=some o->s'.heap.get? b=some o
 ex:∀b o,¬W b->s.heap.get? b=some o->∃bf,s'.heap.get? b=some bf
 os:s'.os=s.os
 θ:∀t x,F t=some x->F' t=some x
 toks:s.toks<=s'.toks
theorem aE.cV.w(X:C.cV M F s F' s'):C.i9 M W F s F' s':=⟨X.ok,λb o ω hm γ e=>X.keep b o ω hm e,λb o γ e=>X.ex b o e,X.os,X.θ,X.toks⟩
theorem aE.i9.after{W:Addr->Prop}(X:C.cV M F s F' s')(Y:C.i9 M W F' s' fS cO):C.i9 M W F s fS cO where
 ok:=Y.ok
 keep:=λb o ω hm hw e=>Y.keep b o ω hm hw (X.keep b o ω hm e)
 ex:=λb o hw e=>let ⟨bf,aB⟩:=X.ex b o e;Y.ex b bf hw aB
 os:=Y.os.trans X.os
 θ:=λt x e=>Y.θ t x (X.θ t x e)
 toks:=aJ X.toks Y.toks
theorem aE.i9.m{W:Addr->Prop}(X:C.Step F s F' s')(ok:C.Ok F s)(hw:∀b,W b->s.heap.get? b=none)(Y:C.i9 M W F' s' fS cO):C.cV M F s fS cO where
 ok:=Y.ok
 keep:=λb o ω hm e=>Y.keep b o ω hm (λq=>by rw[hw b q] at e;cases e) (X.keep b o ω e)
 ex:=λb o e=>let ⟨bf,aB⟩:=(X.m (M:=M)).ex b o e;Y.ex b bf (λq=>by rw[hw b q] at e;cases e) aB
 os:=Y.os.trans X.os
 θ:=λt x e=>Y.θ t x (X.θ t x e)
 toks:=aJ X.toks Y.toks
theorem aE.i9.gone(H:C.Ok F s)(f:C.et W)(y:∀b,W b->∀o,s.heap.get? b=some o->d1 o)(z:∀b o,¬W b->s.heap.get? b=some o->h'.get? b=some o){m:Nat}(hm:s.toks<=m):C.i9 M W F s F {s with heap:=h',toks:=m}:=
 ⟨H.vc f y z hm,λb o γ γ hw e=>z b o hw e,λb o hw e=>⟨o,z b o hw e⟩,rfl,λγ γ e=>e,hm⟩
theorem St.enter{W:Addr->Prop}(H:St C B K env α F σ s)(X:C.Step F s F' s')(hw:∀b,W b->s.heap.get? b=none)(he:∀b,W b->∃o,s'.heap.get? b=some o):St C (λb=>B b∨W b) K env α F' σ s':=
 have y:=H.step X;have G:dt F s.heap B F' s'.heap (λb=>B b∨W b):=⟨X.θ,λb o z e=>X.keep b o (λω=>z (H.bad.bo b ω)) e,λb o z e q=>q.elim z λq=>aQ ((hw b q).symm.trans e)⟩
 ⟨X.ok,⟨λb z=>.inl (H.bad.bo b z),λb z=>z.elim (y.bad.some b) (he b),λb z ω=>z.elim (λq=>H.bad.new b q ω) ((aE.et.of_none H.ok hw).hG b)⟩,H.kind,H.glob,H.blt,H.code,H.gh,y.cells,H.nm,λx lv e=>ν (H.vars x lv e) λv q=>⟨v,q.1.step X H.ok,q.2.step X H.ok G⟩⟩
theorem Frame.enter{W:Addr->Prop}(H:Frame C M B K env α F σ s)(X:C.Step F s F' s')(hw:∀b,W b->s.heap.get? b=none)(he:∀b,W b->∃o,s'.heap.get? b=some o):Frame C M (λb=>B b∨W b) K env α F' σ s':=
 have z:=H.step X
 {H.toSt.enter X hw he with free:=H.free,bM:=λa y=>.inl (H.bM a y),ns:=z.ns,gO:=H.gO,loc:=H.loc,fD:=H.fD,gI:=z.gI,gc:=H.gc,inj:=H.inj,e3:=H.e3}
def Off(env:Env)(α:Str->Addr)(σ:Γ)(a:Addr):Prop:=a≠env.locals/\(∀x c,env.cells.lookup x=some c->c≠a)/\(∀x d,σ.get x=some (.own d)->α x≠a)
theorem Frame.swap{W:Addr->Prop}(H:Frame C M B K env α F σ s)(ok:C.Ok F s')(bad:C.dZ B' s')(bM:∀a,M a->B' a)(G:dt F s.heap B F s'.heap B')(z:∀b,W b->Off env α σ b)(y:∀b o,¬W b->s.heap.get? b=some o->s'.heap.get? b=some o):
 Frame C M B' K env α F σ s':=
 have cell:∀{x c w},env.cells.lookup x=some c->s.heap.IsCell c w->s'.heap.IsCell c w:=λ{x c w} κ k=>ν k λo q=>⟨o,y c o (λq=>(z c q).2.1 x c κ rfl) q.1,q.2⟩;have ns:∀m,s.heap.Ns env.locals m->s'.heap.Ns env.locals m:=λm j=>j.at' λo e=>y _ o (λq=>(z _ q).1 rfl) e
 {ok:=ok,bad:=bad,kind:=H.kind,glob:=H.glob,blt:=H.blt,code:=H.code,gh:=H.gh,cells:=λx e=>⟨ai (H.cells x e).1 λc w q=>⟨c,w,q.1,cell q.1 q.2⟩,(H.cells x e).2⟩,nm:=H.nm
  vars:=λx lv e=>ν (H.vars x lv e) λv q=>⟨v,q.1.to ns λc w=>cell,q.2.to G λd aB o g=>y _ o (λw=>(z _ w).2.2 x d (aB▸e) rfl) g⟩
  free:=H.free,bM:=bM,ns:=ν H.ns λm j=>⟨m,ns m j⟩,gO:=H.gO,loc:=H.loc,fD:=H.fD,gI:=λx c e=>ν (H.gI x c e) λw h=>⟨w,cell e h⟩,gc:=H.gc,inj:=H.inj,e3:=H.e3}
theorem Frame.leave(H:Frame C M (λb=>B b∨W b) K env α F σ s)(f:C.et W)(bo:∀b∈C.bo,B b)(bM:∀a,M a->B a)
 (j:∀b,W b->¬B b/\(∀x c,env.cells.lookup x=some c->c≠b)/\(∀x d,σ.get x=some (.own d)->α x≠b)) (g:∀b,W b->∀o,s.heap.get? b=some o->d1 o)
 (y:∀b o,¬W b->s.heap.get? b=some o->h'.get? b=some o) (hm:s.toks<=m):Frame C M B K env α F σ {s with heap:=h',toks:=m}:=
 H.swap (s':={s with heap:=h',toks:=m}) (H.ok.vc f g y hm) ⟨bo,λb z=>ν (H.bad.some b (.inl z)) λo e=>⟨o,y b o (λq=>(j b q).1 z) e⟩,λb z ω=>H.bad.new b (.inl z) ω⟩ bM
  ⟨λγ γ e=>e,λb o z e=>y b o (λq=>z (.inr q)) e,λb o z γ q=>z (.inl q)⟩ (λb w=>⟨λe=>(j b w).1 (e▸bM _ H.gO),(j b w).2⟩) y
theorem Z9(p:h.Ns a m)(j:h.Ns a y) x:m x=y x:=
 cN p λo es ep q=>cN j λbf g f z=>by
  have e:es=g:=(Data.dict.inj (q.2.1.symm.trans ((bp Obj.data (ae (q.1.symm.trans z.1))).trans z.2.1))).1;rw[<-q.2.2.2,<-z.2.2.2,e]
theorem Ns.ext(j:h.Ns a m)(y:Heap.ExtBut b h h')(z:a≠b):h'.Ns a m:=j.at' λo e=>y a o z e
theorem yY(H:Frame C M B K env α F σ s){x:Str}{lv:aC}(hs:storeOk K x=true) cI (V:∀y,y≠x->cI y=α y)
 (Y:iJ C F s.heap B cI x lv v)
 (t:∀d,lv=.own d->cI x≠env.locals/\(∀y c,env.cells.lookup y=some c->c≠cI x))
 {E:cg} {Q:Unit->el}
 (Z:∀s',C.cV M F s F s'->Frame C M B K env cI F (σ.set x lv) s'->s'.heap.objs.size=s.heap.objs.size->(∀b o,b≠env.locals->(∀c,env.cells.lookup x=some c->b≠c)->s.heap.get? b=some o->s'.heap.get? b=some o)->Q () s'):
 wpAny C.M A (storeName env x v) Q E s:=by
 have U:=qu hs;refine(yN hs).elim (λζ=>ν H.ns λm r=>?_) λκ=>ν (H.fD x κ).2 λc j=>ai (H.cells x (.inl κ)).1 λf w bu=>?_
 ·refine wpAny_storeName_local (H.loc x ζ) r (λh' l z=>?_) (by rw[H.kind];rfl);have X:C.cV M F s F {s with heap:=h',toks:=s.toks+1}:=.GH H.ok H.free H.gO (Bt r) z.extBut (cN l λo γ γ q=>⟨o,q.1⟩) (c9 _)
  refine Z _ X (H.stored U cI V X ⟨_,l⟩ (λy c w P bu=>⟨w,bu.sameBut z (H.gc y c P)⟩) (λy u g p=>?_) (λy d g e o aB=>z.extBut _ o (H.e3 y d e).1 aB) (.inr (.inl ⟨H.loc x ζ,_,l,au rfl⟩))
   (Y.to (X.grow H.bad H.bM) λd e o aB=>z.extBut _ o (t d e).1 aB) t) z.1 λb o a γ e=>z.extBut b o a e
  exact p.imp id λp=>mj p (λq=>ν q.2 λW k=>.inl ⟨q.1,_,l,(ar g).trans ((Z9 r k.1 y).trans k.2)⟩) λq=>ν q.2 λc k=>.inr ⟨q.1,c,k.1,k.2.sameBut z (H.gc y c k.1)⟩
 ·have e:f=c:=ae (bu.1.symm.trans j.1);have bu:=e▸bu.2;refine wpAny_storeName_cell H.kind (H.fD x κ).1 j.1 bu λh' i z=>?_;have X:C.cV M F s F {s with heap:=h'}:=.GH H.ok H.free j.2 (Z5 bu) z.extBut (ν i λo q=>⟨o,q.1⟩) (a7 _)
  refine Z _ X (H.stored U cI V X (ν H.ns λm r=>⟨m,r.sameBut z (gT (H.gc x c j.1))⟩) (λy f R O T=>?_) (λy u g p=>?_) (λy d g e o aB=>z.extBut _ o (gT ((H.e3 y d e).2 x c j.1)) aB) (.inr (.inr ⟨.inl (H.fD x κ).1,c,j.1,i⟩))
   (Y.to (X.grow H.bad H.bM) λd e o aB=>z.extBut _ o (gT ((t d e).2 x c j.1)) aB) t) z.1 λb o γ a e=>z.extBut b o (a c j.1) e
  ·by_cases g:f=c
   ·exact⟨_,g▸i⟩
   ·exact⟨R,T.sameBut z g⟩
  ·exact p.imp id λp=>mj p (λq=>ν q.2 λW k=>.inl ⟨q.1,W,k.1.sameBut z (gT (H.gc x c j.1)),k.2⟩) λq=>ν q.2 λf k=>.inr ⟨q.1,f,k.1,k.2.sameBut z λe=>g (H.inj x y f κ (e▸j.1) k.1).symm⟩
def qU(C:aE)(F:bc)(h:Heap)(B:Addr->Prop)(t:Expr)(d:D)(v:Value):Prop:=
 (isTup t=true/\∃ds,d=.tup ds/\∃a vs,v=.ref a/\h.IsTuple a (List.toArray vs)/\bA C F h B ds vs)∨Den C F h B d v
theorem Den.item(H:Den C F h B d v) t:qU C F h B t d v:=.inr H
theorem dt.PT(G:dt hu h₀ B' F h B')(y:∀b,B' b->B b∨h₀.get? b=none):dt hu h₀ B F h B':=
 have nb:∀b o,¬B b->h₀.get? b=some o->¬B' b:=λb o z e q=>(y b q).elim z λr=>by rw[r] at e;exact aQ e
 ⟨G.θ,λb o z e=>G.keep b o (nb b o z e) e,nb⟩
structure Iter(C:aE)(A:Around)(B:Addr->Prop)(T:Expr->Prop)(I:Addr)(cQ wr:List Addr)(ds:List D)(hu:bc)(h₀:Heap)(St:Nat->Heap->Prop):Prop where
 sub:∀b∈wr,b∈cQ
 frame:∀i h h',St i h->(∀b∈cQ,∀o,h.get? b=some o->h'.get? b=some o)->St i h'
 there:∀i h,St i h->∀b∈wr,∃o,h.get? b=some o/\d1 o
 item:∀i d t (s:Shared) F (Q:cg) E (B':Addr->Prop),(∀b,B' b->B b∨h₀.get? b=none)->T t->ds[i]? =some d->St i s.heap->dt hu h₀ B' F s.heap B'->(∀b∈wr,B' b)->
  (∀v h' a',qU C F h' B' t d v->St (i+1) h'->(∀b o,b∉wr->s.heap.get? b=some o->h'.get? b=some o)->s.toks<=a'->Q v {s with heap:=h',toks:=a'})->
  wpAny C.M A (pyNext (.ref I)) (λbE av=>∃v,bE=some v/\wpAny C.M A (letOwnedTupleGo t (.ref I) v) (λγ aN=>Q v aN) E av) E s
 done:∀(s:Shared) (Q:Option Value->el) E,St ds.length s.heap->(∀h' a',(∀b o,b∉wr->s.heap.get? b=some o->h'.get? b=some o)->s.toks<=a'->Q none {s with heap:=h',toks:=a'})->
  wpAny C.M A (pyNext (.ref I)) Q E s
 self:∀i (s:Shared) (Q:cg) E,St i s.heap->Q (.ref I) s->wpAny C.M A (pyIter (.ref I)) Q E s
section
variable{T:Expr->Prop}{I:Addr}{cQ wr:List Addr}{ds:List D}{hu:bc}{h₀:Heap}{St:Nat->Heap->Prop}
theorem Iter.ex(W:Iter C A B T I cQ wr ds hu h₀ St)(z:St i h):∀b∈wr,∃o,h.get? b=some o:=λb y=>let ⟨o,e,_⟩:=W.there i h z b y;⟨o,e⟩
theorem Iter.yr(W:Iter C A B T I cQ wr ds hu h₀ St)(z:St i h):∀b∈wr,∀o,h.get? b=some o->d1 o:=λb y o e=>by
 obtain⟨bf,aB,n⟩:=W.there i h z b y;rw[e] at aB;cases aB;exact n
end
theorem Iter.more{C:aE}{A:Around}{B:Addr->Prop}{T:Expr->Prop}{I:Addr}{cQ wr:List Addr}{ds:List D}{hu:bc}{h₀:Heap}{St:Nat->Heap->Prop}(W:Iter C A B T I cQ wr ds hu h₀ St){z:Addr->Prop}(h:∀b,z b->B b∨h₀.get? b=none):
 Iter C A z T I cQ wr ds hu h₀ St where
 sub:=W.sub
 frame:=W.frame
 there:=W.there
 item:=λi d t s F Q E B' y=>W.item i d t s F Q E B' λb j=>(y b j).elim (h b) .inr
 done:=W.done
 self:=W.self
noncomputable def owners:List String:=["enumerate","zip","dict_itemiterator","dict_reverseitemiterator","odict_iterator","itertools.zip_longest","itertools.pairwise"]
def QJ(t:Expr):Prop:=(∀a b,letOwnedTupleGo t a b=pure ())∨∀a b,letOwnedTupleGo t a b=letOwnedTupleGo (.List [] ⟨0,0,0,0⟩) a b
theorem qae t:QJ t:=by
 cases t with
 |Tuple|List=>exact .inr λγ γ=>rfl
 |_=>exact .inl λγ γ=>rfl
theorem qeD{I:Addr}{o:Obj}{nm:String}{E:cg}{Q:Unit->el}(y:s.heap.get? I=some o)(κ:o.cls=.type nm)(j:owners.contains nm=false)(z:Q () s):
 wpAny C.M A (letOwnedTupleGo t (.ref I) v) Q E s:=by
 refine(qae t).elim (λe=>?_) λe=>?_
 ·rw[e];exact b7 z
 ·rw[e];cases v with
  |ref a=>
   refine aR (wpAny_load y ?_);rw[κ];cases o.data with
   |fields vs=>
    refine wpAny_of_eq (ar λq=>?_) z;exact dk ((band q).1.symm.trans j)
   |_=>exact b7 z
  |_=>exact b7 z
theorem xt{X:Type}{l:List X}{x:X}(h:l[i]? =some x):i<l.length:=(H7.mp h).1
theorem Iter.ofWalks{I:Addr}{cQ wr:List Addr}{ds:List D}{hu:bc}{h₀:Heap}{P:Nat->Value->Prop}{St:Nat->Heap->Prop}{n:Nat}(r:n=ds.length)(W:Walks C.prog C.w A I cQ wr n P St)
 (x:∀i v d,ds[i]? =some d->P i v->Den C hu h₀ B d v) (there:∀i h,St i h->∀b∈wr,∃o,h.get? b=some o/\d1 o)
 (go:∀i h,St i h->∃o nm,h.get? I=some o/\o.cls=.type nm/\owners.contains nm=false):Iter C A B (λγ=>True) I cQ wr ds hu h₀ St where
 sub:=W.sub
 frame:=W.frame
 there:=there
 item:=λi d t s F Q E B' a γ hd j G hw y=>h1 (a7 s.toks) (W.item i s _ _ (r▸xt hd) j λv h' a' l f z g=>⟨v,rfl,ai (go _ _ f) λo nm q=>
  qeD q.1 q.2.1 q.2.2 (y v h' a' (Den.item (((x i v d hd l).grow (G.PT a)).grow ⟨λγ γ e=>e,λb o p e=>z b o (λq=>p (hw b q)) e,λγ γ p γ=>p⟩) t) f z g)⟩)
 done:=λs Q E j y=>h1 (a7 s.toks) (W.done s _ _ (r▸j) λh' a' z g=>y h' a' z g)
 self:=W.self
theorem Iter.GX{I:Addr}{cQ wr:List Addr}{ds:List D}{hu:bc}{h₀:Heap}{a:Nat->Array Value->Prop}{St:Nat->Heap->Prop}{iK:Nat->Addr->Heap->Prop}{n:Nat}(Z:n=ds.length)(W:WalksU C.prog C.w A I cQ wr n a St iK)
 (P:∀i vals d,ds[i]? =some d->a i vals->∃es,d=.tup es/\bA C hu h₀ B es vals.toList) (there:∀i h,St i h->∀b∈wr,∃o,h.get? b=some o/\d1 o):
 Iter C A B (λt=>∃ba k p,t=.Tuple ba k p) I cQ wr ds hu h₀ St where
 sub:=W.sub
 frame:=W.frame
 there:=there
 item:=λi d t s F Q E B' O ω hd r G hw f=>cN ω λba kt p e=>h1 (a7 s.toks) (W.item i s _ _ (Z▸xt hd) r λT vals h' a' Y R hm y l=>⟨.ref T,rfl,by
  rw[e];refine W.go ba kt p i T _ _ _ hm λV U j=>f _ V a' (.inl ⟨e▸rfl,ν (P i vals d hd Y) λes q=>⟨es,q.1,T,vals.toList,rfl,?_,?_⟩⟩) U (λb o z e=>j b o z (y b o z e)) l
  ·exact ν R λx g=>⟨x,j T x (W.apart _ _ _ hm) g.1,g.2⟩
  ·exact(q.2.grow (G.PT O)).grow ⟨λγ γ e=>e,λb o z e=>j b o (λq=>z (hw b q)) (y b o (λq=>z (hw b q)) e),λγ γ z γ=>z⟩⟩)
 done:=λs Q E r f=>h1 (a7 s.toks) (W.done s _ _ (Z▸r) λh' a' y l=>f h' a' y l)
 self:=W.self
theorem km{P:Addr->Prop}(h:x∈[a])(k:P a):P x:=fj.mp h▸k
theorem xd(ζ:bA C F h B ds vs){i:Nat}(hd:ds[i]? =some d)(z:vs.toArray[i]? =some v):Den C F h B d v:=
 ν (ζ.get hd) λu q=>ae (q.1.symm.trans ((y6 ..).symm.trans z))▸q.2
theorem Iter.list(bq:A.handled=none)(j:z≠I)(ζ:bA C F h B ds vs):
 Iter C A B (λγ=>True) I [I,z] [I] ds F h (λi h=>h.IsListIter I z i/\h.IsList z vs.toArray):=
 Iter.ofWalks ζ.length (Walks.list bq I z j vs.toArray) (λi v d hd y=>xd ζ hd y)
  (λi h st b g=>km (P:=λb=>∃o,h.get? b=some o/\d1 o) g (ν st.1 λo q=>⟨o,q.1,.jr q.2.1 .d⟩)) λi h st=>ν st.1 λo q=>⟨o,_,q.1,q.2.1,by decide⟩
theorem Iter.tuple(bq:A.handled=none)(j:z≠I)(ζ:bA C F h B ds vs):
 Iter C A B (λγ=>True) I [I,z] [I] ds F h (λi h=>h.IsTupleIter I z i/\h.IsTuple z vs.toArray):=
 Iter.ofWalks ζ.length (Walks.tuple bq I z j vs.toArray) (λi v d hd y=>xd ζ hd y)
  (λi h st b g=>km (P:=λb=>∃o,h.get? b=some o/\d1 o) g (ν st.1 λo q=>⟨o,q.1,.jr q.2.1 .d⟩)) λi h st=>ν st.1 λo q=>⟨o,_,q.1,q.2.1,by decide⟩
theorem Iter.range(bq:A.handled=none) a c m:
 Iter C A B (λγ=>True) I [I] [I] ((List.range m).map λ(k:Nat)=>D.int (a+k*c)) F h (λi h=>IsRangeIter h I (a+(i:Nat)*c) ((m:Int)-(i:Nat)) c):=by
 have e:m=((List.range m).map λ(k:Nat)=>D.int (a+k*c)).length:=by rw[bt,hZ]
 refine Iter.ofWalks e (Walks.range bq I a c m) (λi v d hd z=>?_) (λi h st b y=>km (P:=λb=>∃o,h.get? b=some o/\d1 o) y ⟨_,st,.jr rfl .d⟩) λi h st=>⟨_,_,st,rfl,by decide⟩;have ρ:i<m:=e▸xt hd;rw[m8,Iz ρ] at hd;exact ae hd▸z
theorem cL.get{i:Nat}(H:cL C F h B ds us):us[i]? =some p->∃d,ds[i]? =some (p.1,d)/\Den C F h B d p.2:=by
 induction ds generalizing us i with
 |nil=>rw[show us=[] from H];exact nofun
 |cons q ds z=>
  refine ai H λv r k ρ=>?_;rw[k.1] at ρ;cases i with
  |zero=>rw[<-ae ρ];exact⟨q.2,rfl,k.2.1⟩
  |succ i=>exact z k.2.2 ρ
theorem Iter.keys(bq:A.handled=none)(j:z≠I)(ζ:cL C F h B ds us) ep:
 Iter C A B (λγ=>True) I [I,z] [I] (ds.map λp=>D.int p.1) F h (λi h=>h.IsKeyIter I z i us.length ep/\h.DictAt C.dR z us ep):=by
 refine Iter.ofWalks (by rw[bt,ζ.length]) (Walks.dictKeys (knd:=C.dR) bq I z j us ep) (λi v d hd y=>ai y λk x q=>ν (ζ.get q.1) λd' g=>?_)
  (λi h st b e=>km (P:=λb=>∃o,h.get? b=some o/\d1 o) e (ν st.1 λo q=>⟨o,q.1,.jr q.2.1 .d⟩)) λi h st=>ν st.1 λo q=>⟨o,_,q.1,q.2.1,by decide⟩
 rw[m8,g.1] at hd;exact ae hd▸Value.isInt_shape q.2
theorem Iter.values(bq:A.handled=none)(j:z≠I)(ζ:cL C F h B ds us) ep:
 Iter C A B (λγ=>True) I [I,z] [I] (ds.map λp=>p.2) F h (λi h=>h.IsValIter I z i us.length ep/\h.DictAt C.dR z us ep):=by
 refine Iter.ofWalks (by rw[bt,ζ.length]) (Walks.dictValues (knd:=C.dR) bq I z j us ep) (λi v d hd y=>ν y λk f=>ν (ζ.get f) λd' g=>?_)
  (λi h st b e=>km (P:=λb=>∃o,h.get? b=some o/\d1 o) e (ν st.1 λo q=>⟨o,q.1,.jr q.2.1 .d⟩)) λi h st=>ν st.1 λo q=>⟨o,_,q.1,q.2.1,by decide⟩
 rw[m8,g.1] at hd;exact ae hd▸g.2
theorem WalksU.items{prog:Program}{w:World}{KK:Type}[DecidableEq KK]{knd:KeyKind prog w KK}(bq:A.handled=none)(I d:Addr)(r:d≠I)(kvs:List (KK×Value))(ep:Nat):
 WalksU prog w A I [I,d] [I] kvs.length (λi vals=>∃k key v,kvs[i]? =some (k,v)/\knd.is k key=true/\vals= #[key,v])
  (λi h=>(∃ok bE,IsItemIter h I d i kvs.length ep ok bE)/\h.DictAt knd d kvs ep) (λi T h=>(∃ok bE,IsItemIterOut h I d (i+1) kvs.length ep ok bE T)/\h.DictAt knd d kvs ep/\T≠I) where
 sub:=λb y=>km (P:=λb=>b∈[I,d]) y bH
 frame:=λγ γ γ st j=>⟨ai st.1 λok bE q=>⟨ok,bE,j I bH _ q⟩,st.2.at' λo e=>j d (b3 _ bH) o e⟩
 item:=λi s Q E ρ st z=>ai st.1 λok bE q=>wpAny_pyNext_items_item q st.2 (fi ρ) λkey h' t g l x j=>
  z _ #[key,kvs[i].2] h' s.toks ⟨kvs[i].1,key,kvs[i].2,fi ρ,t,rfl⟩ ⟨_,l,rfl,_,rfl⟩ ⟨⟨_,_,g⟩,st.2.at' λo e=>j d o r e,i7 (dz q)⟩ λb o y e=>j b o (λq=>y (q▸bH)) e
 go:=λelts k pos i T s Q E st z=>ai st.1 λok bE g=>wpAny_letOwnedTupleGo_items g λh' p f=>z h' ⟨⟨ok,bE,p⟩,st.2.1.extBut f.extBut r⟩ λb o y e=>f.extBut b o (λq=>y (q▸bH)) e
 apart:=λi T h st hm=>st.2.2 (fj.mp hm)
 done:=λs Q E st z=>ai st.1 λok bE q=>wpAny_pyNext_items_end bq q st.2 (qM (a7 _)) λh' p=>z h' s.toks λb o y e=>p b o (λq=>y (q▸bH)) e
 self:=λi s Q E st z=>ai st.1 λok bE q=>W.kcp_self q z
theorem D_{a b:D}{x y:Value}(z:Den C F h B a x)(j:Den C F h B b y):bA C F h B [a,b] [x,y]:=⟨x,[y],rfl,z,y,[],rfl,j,rfl⟩
theorem Iter.items(bq:A.handled=none){I z:Addr}(e:z≠I){ds:List (Int×D)}{us:List (Int×Value)}(ζ:cL C F h B ds us)(ep:Nat):
 Iter C A B (λt=>∃ba k p,t=.Tuple ba k p) I [I,z] [I] (ds.map λp=>D.tup [.int p.1,p.2]) F h (λi h=>(∃ok bE,IsItemIter h I z i us.length ep ok bE)/\h.DictAt C.dR z us ep):=by
 refine Iter.GX (by rw[bt,ζ.length]) (WalksU.items (knd:=C.dR) bq I z e us ep) (λi vals d hd j=>cN j λk key v q=>ν (ζ.get q.1) λd' g=>?_)
  (λi h st b f=>km (P:=λb=>∃o,h.get? b=some o/\d1 o) f (ai st.1 λok bE y=>⟨_,y,.jr rfl .d⟩))
 rw[m8,g.1] at hd;exact⟨_,(ae hd).symm,q.2.2▸D_ (Value.isInt_shape q.2.1) g.2⟩
theorem SG{ds:List D}{n:Int}{i:Nat}{d:D}:(kc n ds)[i]? =some d->∃x,ds[i]? =some x/\d=.tup [.int (n+i),x]:=by
 induction ds generalizing n i with
 |nil=>exact nofun
 |cons x r z=>
  intro h;cases i with
  |zero=>exact⟨x,rfl,by rw[<-ae h,Int.natCast_zero,h4]⟩
  |succ i=>exact ν (z h) λy q=>⟨y,q.1,by rw[q.2,show n+1+(i:Int)=n+((i+1:Nat):Int) by push_cast;lia]⟩
theorem SI(ds:List D):∀(n:Int),(kc n ds).length=ds.length:=by
 induction ds with
 |nil=>exact λγ=>rfl
 |cons x r z=>exact λn=>bp (· +1) (z _)
theorem Iter.enum(bq:A.handled=none){I it z:Addr}(ε:I≠it)(a:z≠I)(f:z≠it){ds:List D}{vs:List Value}(ζ:bA C F h B ds vs):
 Iter C A B (λt=>∃ba k p,t=.Tuple ba k p) I [I,it,z] [I,it] (kc 0 ds) F h
  (λi h=>(∃old,IsEnum h I it i old)/\h.IsListIter it z i/\h.IsList z vs.toArray):=by
 refine Iter.GX (ζ.length.trans (SI _ _).symm) (WalksT.enumerate bq I it z ε a f vs.toArray).toU (λi vals d hd r=>?_) (λi h st b l=>va l (λe=>?_) λe=>?_)
 ·refine ai r λt x q=>ν (SG hd) λy g=>⟨_,g.2,?_⟩;rw[q.2];exact D_ ⟨t,by rw[mg]⟩ (xd ζ g.1 q.1)
 ·exact ν st.1 λold j=>⟨_,e▸j,.jr rfl .d⟩
 ·exact ν st.2.1 λo g=>⟨o,e▸g.1,.jr g.2.1 .d⟩
theorem qal{ds es:List D}{i:Nat}{d:D}:(pairD ds es)[i]? =some d->∃x y,ds[i]? =some x/\es[i]? =some y/\d=.tup [x,y]:=by
 induction ds generalizing es i with
 |nil=>exact nofun
 |cons x r z=>
  cases es with
  |nil=>exact nofun
  |cons y q=>
   intro h;cases i with
   |zero=>exact⟨x,y,rfl,rfl,(ae h).symm⟩
   |succ i=>exact z h
theorem qam{ds es:List D}:(pairD ds es).length=min ds.length es.length:=by
 induction ds generalizing es with
 |nil=>exact(Nat.zero_min _).symm
 |cons x r z=>
  cases es with
  |nil=>exact(Nat.min_zero _).symm
  |cons y q=>exact(bp (· +1) z).trans (Nat.succ_min_succ ..).symm
theorem Gr{a b c d x:Addr}{P:Addr->Prop}(h:x∈[a,b,c,d])(y:P a)(j:P b)(pc:P c)(z:P d):P x:=
 (cn.mp h).elim (λe=>e▸y) λh=>(cn.mp h).elim (λe=>e▸j) λh=>va h (λe=>e▸pc) λe=>e▸z
abbrev Jn(z TI cB b_ b5 bU bR:Addr)(vs us:Array Value)(i:Nat)(h:Heap):Prop:=IsZip h z TI cB .none/\IsPair h TI (.ref b_) (.ref b5)/\(∃a b,IsPair h cB a b)/\h.IsListIter b_ bU i/\h.IsListIter b5 bR i/\h.IsList bU vs/\h.IsList bR us
theorem Iter.zip(bq:A.handled=none){z TI cB b_ b5 bU bR:Addr}(Z:ZipApart z TI cB b_ b5 bU bR){ds es:List D}{vs us:List Value}(ζ:bA C F h B ds vs)(hm:bA C F h B es us):
 Iter C A B (λt=>∃ba k p,t=.Tuple ba k p) z [z,TI,cB,b_,b5,bU,bR] [z,cB,b_,b5] (pairD ds es) F h (Jn z TI cB b_ b5 bU bR vs.toArray us.toArray):=by
 refine Iter.GX (by rw[qam,gp,gp,ζ.length,hm.length]) (WalksT.zip2 bq z TI cB b_ b5 bU bR Z vs.toArray us.toArray).toU (λi vals d hd j=>?_) (λi h st b e=>?_)
 ·refine ai j λx y q=>ai (qal hd) λf r g=>⟨_,g.2.2,?_⟩;rw[q.2.2];exact D_ (xd ζ g.1 q.1) (xd hm g.2.1 q.2.1)
 ·exact Gr (P:=λb=>∃o,h.get? b=some o/\d1 o) e ⟨_,st.1,.jr rfl .d⟩ (ai st.2.2.1 λa b g=>⟨_,g,.jr rfl .d⟩) (ν st.2.2.2.1 λo g=>⟨o,g.1,.jr g.2.1 .d⟩) (ν st.2.2.2.2.1 λo g=>⟨o,g.1,.jr g.2.1 .d⟩)
def Made(C:aE)(A:Around)(B:Addr->Prop)(ds:List D)(F:bc)(s:Shared)(e:Expr)(own:Addr->Prop)(it:Value)(aN:Shared):Prop:=
 ∃z I cQ wr T St,it=.ref I/\C.Step F s z aN/\Iter C A (λb=>B b∨b∈wr) T I cQ wr ds z aN.heap St/\St 0 aN.heap/\(∀t,lb e t=true->T t)/\(∀b∈wr,s.heap.get? b=none)/\
  (∀b∈cQ,∃o,aN.heap.get? b=some o)/\(∀b∈cQ,s.heap.get? b=none∨¬B b∨own b)/\(∀b∈cQ,b∉C.bo)
theorem hh(h:s.heap.objs.size<=a):s.heap.get? a=none:=by
 cases e:s.heap.get? a with
 |none=>rfl
 |some o=>exact absurd (dz e) (e7.mpr h)
theorem k3(X:C.Step F s F' s')(ok:C.Ok F s)(h:s'.heap.get? a=none):s.heap.get? a=none:=by
 cases e:s.heap.get? a with
 |none=>rfl
 |some o=>exact ν ((X.m (M:=λγ=>False)).ex a o e) λbf aB=>jq (aB.symm.trans h)
theorem xx{wr:List Addr}(y:∀b o,s.heap.get? b=some o->h'.get? b=some o)(hw:∀b∈wr,s.heap.objs.size<=b):dt F s.heap B F h' (λb=>B b∨b∈wr):=
 ⟨λγ γ e=>e,λb o γ e=>y b o e,λb o z e q=>q.elim z λq=>absurd (dz e) (e7.mpr (hw b q))⟩
theorem S6(H:Den C F h B d (.ref a)):¬B a:=by
 cases d with
 |tup l=>exact ai H λγ γ q=>kE q.1▸q.2.1
 |lst l=>exact ai H λγ γ q=>kE q.1▸q.2.1
 |aX l=>exact ai H λγ γ q=>kE q.1▸q.2.1
 |none=>exact nomatch H
 |bool b=>exact nomatch H
 |int i=>exact ν H λγ q=>nomatch q
 |υ i=>exact ν H λγ q=>nomatch q.1
 |str i=>exact ν H λγ q=>nomatch q
def se(C:aE)(F:bc)(h:Heap)(B own:Addr->Prop)(d:D)(v:Value):Prop:=Den C F h B d v∨∃a,v=.ref a/\own a
theorem se.at(H:se C F h B own d (.ref a)):¬B a∨own a:=mj H (λH=>.inl (S6 H)) λq=>.inr (ν q λb k=>kE k.1▸k.2)
theorem Made.mk'(ok:C.Ok F s){own:Addr->Prop}{e:Expr}{ds:List D}{y I:Addr}{o:Obj}{news wr:List Addr}{T:Expr->Prop}{St:Nat->Heap->Prop}(g:s.heap.get? y=some o)(hd:∀ao,o.data≠ .fields ao)(l:¬B y∨own y)
 (p:∀b o,s.heap.get? b=some o->h'.get? b=some o) (j:∀b∈news,s.heap.objs.size<=b/\∃o,h'.get? b=some o) (r:∀b∈wr,b∈news)
 (W:Iter C A (λb=>B b∨b∈wr) T I (news++[y]) wr ds F h' St) (st:St 0 h') (f:∀t,lb e t=true->T t):Made C A B ds F s e own (.ref I) {s with heap:=h'}:=
 have mem:∀{P:Addr->Prop},(∀b∈news,P b)->P y->∀b∈news++[y],P b:=λε i b z=>(fk.mp z).elim (ε b) λq=>fj.mp q▸i
 ⟨F,I,_,wr,T,St,rfl,.heap ok (n:=s.toks) (a7 _) p,W,st,f,λb z=>hh (j b (r b z)).1,mem (λb z=>(j b z).2) ⟨o,p _ _ g⟩,mem (λb z=>.inl (hh (j b z).1)) (.inr l),
   mem (λb z=>ok.vh (j b z).1) (ok.kn g hd)⟩
theorem Yh(R:A.handled=none)(ok:C.Ok F s) e (H:cf C F s.heap B d v) (y:se C F s.heap B own d v)
 (hd:itemsOf d=some ds):wpAny C.M A (pyIter v) (Made C A B ds F s e own) E s:=by
 have g:∀(o:Obj) b bf,s.heap.get? b=some bf->(s.heap.push o).get? b=some bf:=λo b bf e=>dn _ e;have r:∀(o:Obj),o.isFreed=false->∀b∈[s.heap.objs.size],s.heap.objs.size<=b/\∃bf,(s.heap.push o).get? b=some bf:=λo hf b f=>km (P:=λb=>s.heap.objs.size<=b/\∃bf,(s.heap.push o).get? b=some bf) f ⟨a7 _,_,eW _ hf⟩;have G:∀o:Obj,dt F s.heap B F (s.heap.push o) (λb=>B b∨b∈[s.heap.objs.size]):=λo=>xx (g o) λb f=>km (P:=λb=>s.heap.objs.size<=b) f (a7 _)
 refine b' hd (λhd=>ai (H.kp hd) λa us q=>cu q λq z ζ=>ν (id z) λn j=>?_) λhd=>b' hd (λhd=>ai (H.vy hd) λa us q=>cu q λq z ζ=>ν (id z) λn j=>?_) λhd=>
  π hd λl hd ζ=>ai (H.vw ζ) λa us q=>b2 q λq h0 z ζ=>ν z.dictAt λep p=>ai (id p) λo es k=>?_
 ·rw[q] at y⊢;exact wpAny_pyIter_list z.isList (Made.mk' ok j (λao=>nofun) y.at (g _) (r _ rfl) (λγ h=>h) (Iter.list R (fQ (dz j)) (ζ.grow (G _))) ⟨⟨_,eW _ rfl,rfl,rfl⟩,z.isList.push _⟩ λγ γ=>trivial)
 ·rw[q] at y⊢;exact CF z.lX (Made.mk' ok j (λao=>nofun) y.at (g _) (r _ rfl) (λγ h=>h) (Iter.tuple R (fQ (dz j)) (ζ.grow (G _))) ⟨⟨_,eW _ rfl,rfl,rfl⟩,z.lX.push _⟩ λγ γ=>trivial)
 ·rw[q] at y⊢;rw[<-ae hd];exact wpAny_pyIter_dict (knd:=C.dR) h0 p (Made.mk' ok k.1 (λao=>by rw[k.2.2.1];nofun) y.at (g _) (r _ rfl) (λγ h=>h) (Iter.keys R (fQ (dz k.1)) (ζ.grow (G _)) ep) ⟨⟨_,eW _ rfl,rfl,rfl⟩,p.push _⟩ λγ γ=>trivial)
theorem Made.after(X:C.Step F s F' s')(ok:C.Ok F s)(H:Made C A B ds F' s' e own it aN):Made C A B ds F s e own it aN:=
 cN H λy I cQ H=>cN H λwr T St h=>⟨y,I,cQ,wr,T,St,h.1,X.trans h.2.1,h.2.2.1,h.2.2.2.1,h.2.2.2.2.1,λb z=>k3 X ok (h.2.2.2.2.2.1 b z),h.2.2.2.2.2.2.1,λb z=>(h.2.2.2.2.2.2.2.1 b z).imp (k3 X ok) id,h.2.2.2.2.2.2.2.2⟩
abbrev QI(C:aE)(B own:Addr->Prop)(d:D):Value->bc->el:=λv F s=>cf C F s.heap B d v/\se C F s.heap B own d v
theorem GZ(aw:cH C S Ω n)(R:a_ A (Ω+n))(H:St C B K env α F σ s){e:Expr}{d:D}(h:operand (μ S n) K e σ=some d){own:Addr->Prop}(j:∀x d,σ.get x=some (.own d)->own (α x)):
 Run C A F (eval e env) (QI C B own d) s:=
 rM h (λlv h q E=>π q λx y q=>ν (gH q) λp ag=>ν (H.vars x lv (lg y).1) λv k=>by
  rw[ag];refine n2 H.kind k.1 (H.plain y) ⟨F,.refl H.ok,?_⟩;have z:=k.2;cases lv with
  |own d'=>exact ae h▸⟨.inr ⟨_,z.1,z.2⟩,.inr ⟨_,z.1,j x d' (lg y).1⟩⟩
  |val d'=>exact ae h▸⟨.inl z,.inl z⟩
  |gn ks=>exact aQ h) λh γ E=>Run.seq (aw K e σ d h A env α B F s R H) λv a0 av X D=>⟨a0,X,.inl D,.inl D⟩
def stepOk(c:Int):Prop:=c=1∨c= -1∨c=2
theorem Ha a b:Builtin.Range.rangeSize a b 2=if a<b then(b-a-1)/2+1 else 0:=by unfold Builtin.Range.rangeSize;rw[au .d]
theorem As{x:Int}(ε: -(2^62)<=x)(z:x<2^63):Builtin.Range.rangeFitsLong x=true:=j0.mpr ⟨cA (kF .d ε),cA z⟩
theorem OH(a b:Int):0<=Builtin.Range.rangeSize a b 2:=by
 rw[Ha];split
 ·rename_i h;exact zo (Int.ediv_nonneg (Int.le_sub_one_of_lt (Int.sub_pos_of_lt h)) .d) .d
 ·exact Int.le_refl 0
theorem qby{a b:Int}(z: -(2^62)<=a)(y:b<2^62):Builtin.Range.rangeSize a b 2<2^63:=by
 rw[Ha];split
 ·have h:b-a-1<2^63:=.l;exact zc (Ir (Int.ediv_le_ediv .d (h3 h)) 1) .d
 ·decide
theorem qbF{a b:Int}(y: -(2^62)<=a)(q:a<2^62)(j: -(2^62)<=b)(z:b<2^62):Builtin.Range.small a b 2=true:=by
 have t:(2:Int)^62<2^63:=.d;have m:= @j0;exact m.mpr ⟨m.mpr ⟨m.mpr ⟨m.mpr ⟨As y (wb q t),As j (wb z t)⟩,rfl⟩,As (kF .d (OH a b)) (qby y z)⟩,m6.mpr (.inr (As (kF j (Int.le_add_of_nonneg_right .d)) (wb (Int.add_lt_add_right z 1) .d)))⟩
theorem bd{a:Int}(h:a.natAbs<2^40): -(2^62)<=a/\a<2^62:=by
 have q:(a.natAbs:Int)<2^62:=wb (hL.mpr h) .d;exact⟨Int.neg_le_of_neg_le (kF (C0 (a:= -a)) (Int.natAbs_neg a▸h3 q)),zc C0 q⟩
theorem Pu{k:Int}{n:Nat}(h0:0<=k)(h:k.toNat<n):k<n:=tN h0▸hL.mpr h
theorem Rb{k:Int}{n:Nat}(h0:0<=k)(h:k.toNat<n):k.natAbs<n:=hL.mp ((Cy h0).symm▸Pu h0 h)
theorem qaM(z:a.natAbs<2^40)(y:b.natAbs<2^40)(κ:stepOk c):Builtin.Range.small a b c=true:=
 κ.elim (λe=>e▸small_one (bd z).1 (bd z).2 (bd y).1 (bd y).2) λe=>e.elim (λe=>e▸small_down (bd z).1 (bd z).2 (bd y).1 (bd y).2) λe=>e▸qbF (bd z).1 (bd z).2 (bd y).1 (bd y).2
theorem qaL a b c (κ:stepOk c):0<=Builtin.Range.rangeSize a b c:=
 κ.elim (λe=>by rw[e,rangeSize_one];split<;>lia) λe=>e.elim (λe=>by rw[e,rangeSize_downNat];exact m7 _) λe=>e▸OH a b
theorem Hb(R:A.handled=none)(ok:C.Ok F s){t u w:Tok} e (j:IsRange s.heap r a b c t u w) (q:a.natAbs<2^40) (z:b.natAbs<2^40) (κ:stepOk c):
 wpAny C.M A (pyIter (.ref r)) (Made C A B (rN a b c) F s e own) E s:=by
 refine wpAny_pyIter_range j (qaM q z κ) ?_;have g:((Builtin.Range.rangeSize a b c).toNat:Int)=Builtin.Range.rangeSize a b c:=tN (qaL a b c κ);have y:∀b∈[s.heap.objs.size],s.heap.get? b=none:=λb z=>km (P:=λb=>s.heap.get? b=none) z (hh (a7 _));refine⟨F,s.heap.objs.size,_,_,_,_,rfl,.heap ok (n:=s.toks) (a7 _) λb bf e=>dn _ e,Iter.range R a c (Builtin.Range.rangeSize a b c).toNat,?_,λγ γ=>trivial,y,λb z=>?_,λb z=>.inl (y b z),λb z=>?_⟩
 ·show IsRangeIter _ _ _ _ _;rw[g,Int.natCast_zero,Int.zero_mul,h4,Int.sub_zero];exact eW _ rfl
 ·exact fj.mp z▸⟨_,eW _ rfl⟩
 ·exact fj.mp z▸ok.vh (a7 _)
theorem F4(h:intsOf ds=some [])(H:bA C F h' B ds vs):vs=[]:=by
 cases ds with
 |nil=>exact H
 |cons d ds=>exact π (x:=dv d) h λx h γ=>π h λl h γ=>nomatch ae h
theorem u0(h:intsOf ds=some (m::ns))(H:bA C F h' B ds vs):∃t z r,vs=.int m t::r/\intsOf z=some ns/\bA C F h' B z r:=by
 cases ds with
 |nil=>exact nomatch ae h
 |cons d ds=>
  refine π (x:=dv d) h λx h y=>π h λl h ζ=>ai H λv r q=>ν (q.2.1.o.hI y) λt e=>?_;have k:=n6 (ae h);exact⟨t,ds,r,by rw[q.1,e,k.1],k.2▸ζ,q.2.2⟩
theorem qaJ(aw:cH C S Ω n)(R:a_ A (Ω+n))(H:St C B K env α F σ s)
 (ε:each (λa=>μ S n K a σ) args=some ds) (h:Oc ds=some out):
 wpAny C.M A (callWith p (.type "range") [] (backTo p (starEach args env)) []) (λU av=>wpAny C.M A (pyIter U) (Made C A B out F s e own) E av) E s:=by
 have l:=sm (pos:=p) (env:=env) (λe d h=>eJ h) ε;have i:=sI (pos:=p) aw R ε H;cases args with
 |nil=>exact π h λns h z=>by rw[<-ae ε] at z;rw[<-ae z] at h;exact aQ h
 |cons ag r=>
 refine ai (oI ε) λO P k=>?_;rw[eJ k.1] at l i⊢;refine CA l (Cz (Run.seq i λvs a0 av q f=>π h λns h z=>?_));have push:∀{o:Obj} {m:Nat},av.toks<=m->C.Step a0 av a0 {av with heap:=av.heap.push o,toks:=m}:=λ{o m} hm=>.heap q.ok hm λb bf e=>dn _ e;refine b' h (λh=>π h λb h Q=>aP h λh j=>?_) λh=>b' h (λh=>π h λt h ω=>aP h λh j=>?_) λh=>π h λt h ω=>aP h λh j=>?_
 ·rw[gx Q] at z;refine cN (u0 z f) λt Z r k=>?_;rw[k.1,F4 k.2.1 k.2.2,<-ae h];have y:=push (o:={cls:=.type "range",data:=.fields #[.int 0 av.toks,.int b t,.int 1 (av.toks+1)]}) (m:=av.toks+1+1) (c8 _ 2);exact call_range_1 (b8 (Hb (B:=B) (own:=own) R.handled y.ok e (IsRange.new ..) .d (cU j) (.inl rfl)) (λit aN hm=>hm.after (q.trans y) H.ok) λγ γ x=>x)
 ·rw[q3 ω] at z;refine cN (u0 z f) λt1 Z r k=>cN (u0 k.2.1 k.2.2) λbP Y V k'=>?_;rw[k.1,k'.1,F4 k'.2.1 k'.2.2,<-ae h];have y:=push (o:={cls:=.type "range",data:=.fields #[.int t.1 t1,.int t.2 bP,.int 1 av.toks]}) (m:=av.toks+1) (c9 _);exact call_range_2 (b8 (Hb (B:=B) (own:=own) R.handled y.ok e (IsRange.new ..) (cU (band j).2) (cU (band j).1) (.inl rfl)) (λit aN hm=>hm.after (q.trans y) H.ok) λγ γ x=>x)
 ·rw[JD ω] at z;refine cN (u0 z f) λt1 Z r k=>cN (u0 k.2.1 k.2.2) λbP Y V k'=>cN (u0 k'.2.1 k'.2.2) λt3 W T g=>?_;have κ:stepOk t.2.2:=.inr ((m6.mp (band j).2).imp eq_of_beq eq_of_beq);rw[k.1,k'.1,g.1,F4 g.2.1 g.2.2,<-ae h];have y:=push (o:={cls:=.type "range",data:=.fields #[.int t.1 t1,.int t.2.1 bP,.int t.2.2 t3]}) (m:=av.toks) (a7 _);exact call_range_3 (κ.elim (λe=>e▸by decide) λe=>e.elim (λe=>e▸by decide) λe=>e▸by decide) (b8 (Hb (B:=B) (own:=own) R.handled y.ok e (IsRange.new ..) (cU (band (band j).1).2) (cU (band (band j).1).1) κ) (λit aN hm=>hm.after (q.trans y) H.ok) λγ γ x=>x) (.inl (noPylong (κ.elim (λe=>e▸by decide) λe=>e.elim (λe=>e▸by decide) λe=>e▸by decide)))
theorem PB{a b n:Addr}{P:Addr->Prop}{x:Addr}(g:x∈[a,b])(j:n<=a)(q:n<=b)(z:P a)(y:P b):n<=x/\P x:=va g (λe=>e▸⟨j,z⟩) λe=>e▸⟨q,y⟩
theorem TX(R:A.handled=none)(ok:C.Ok F s)(he:∀t,lb e t=true->∃ba k p,t=.Tuple ba k p)(H:cf C F s.heap B (.lst l) v)(r:se C F s.heap B own (.lst l) v):
 wpAny C.M A (call (.type "enumerate") [v]) (λx av=>wpAny C.M A (pyIter x) (Made C A B (kc 0 l) F s e own) E av) E s:=
 ai H.lst λa us q=>cu q λq g ζ=>ν (id g) λn z=>by
  rw[q] at r⊢
  refine call_enumerate_list g.isList λh' y i Z f=>wpAny_pyIter_enum y (Made.mk' (news:=[s.heap.objs.size+1,s.heap.objs.size]) ok z (λao=>nofun) r.at f (λb j=>PB (P:=λb=>∃o,h'.get? b=some o) j (c9 _) (a7 _) ⟨_,y⟩ (ν i λo q=>⟨o,q.1⟩)) (λγ h=>h)
   (Iter.enum R (Nat.succ_ne_self _) (fQ (j3 (dz z))) (fQ (dz z)) (ζ.grow (xx f λb j=>(PB (P:=λγ=>True) j (c9 _) (a7 _) trivial trivial).1))) ⟨⟨_,y⟩,i,g.isList.at λo e=>f a o e⟩ he)
theorem PN(z:bf.isFreed=false):((s.heap.push o).push bf).get? (s.heap.objs.size+1)=some bf:=hK s.heap o▸eW _ z
theorem Yg(R:A.handled=none)(ok:C.Ok F s)(he:∀t,lb e t=true->∃ba k p,t=.Tuple ba k p)(H:cf C F s.heap B (.aX l) v)(f:se C F s.heap B own (.aX l) v):
 wpAny C.M A (call (.builtin "dict.items") [v]) (λx av=>wpAny C.M A (pyIter x) (Made C A B (l.map λp=>D.tup [.int p.1,p.2]) F s e own) E av) E s:=
 ai H.aX λa us q=>b2 q λq h0 g ζ=>ν g.dictAt λep z=>ai (id z) λo es k=>by
  rw[q] at f⊢;refine call_meetsIn PySem.F.slot_dict_items g.typeIs PySem.F.entry_dict_items (PySem.F.args_dict_items_1 _) (meets_dict_items C.dR a h0) ⟨⟨_,g⟩,?_⟩;refine wpAny_pyIter_items (knd:=C.dR) (d:=a) (kvs:=us) (ep:=ep) ⟨_,eW _ rfl,rfl,rfl⟩ (z.push _) ?_;dsimp only;rw[hK];have r:=λ(o bf:Obj) (h:bf.isFreed=false)=>PN (s:=s) (o:=o) h;have i:∀(o bf:Obj) b y,s.heap.get? b=some y->((s.heap.push o).push bf).get? b=some y:=λo bf b y e=>dn _ (dn _ e)
  exact Made.mk' (news:=[s.heap.objs.size+1]) ok k.1 (λao=>by rw[k.2.2.1];nofun) f.at (i _ _) (λb j=>km (P:=λb=>s.heap.objs.size<=b/\∃bf,((s.heap.push _).push _).get? b=some bf) j ⟨c9 _,_,r _ _ rfl⟩) (λγ h=>h)
   (Iter.items R (fQ (j3 (dz k.1))) (ζ.grow (xx (i _ _) λb j=>km (P:=λb=>s.heap.objs.size<=b) j (c9 _))) ep) ⟨⟨_,_,r _ _ rfl⟩,(z.push _).push _⟩ he
theorem qed(R:A.handled=none)(ok:C.Ok F s)(H:cf C F s.heap B (.aX l) v)(f:se C F s.heap B own (.aX l) v):
 wpAny C.M A (call (.builtin "dict.values") [v]) (λi av=>wpAny C.M A (pyIter i) (Made C A B (l.map λp=>p.2) F s e own) E av) E s:=
 ai H.aX λa us q=>b2 q λq h0 g ζ=>ν g.dictAt λep z=>ai (id z) λo es k=>by
  rw[q] at f⊢;refine call_meetsIn PySem.F.slot_dict_values g.typeIs PySem.F.entry_dict_values (PySem.F.args_dict_values_1 _) (meets_dict_values C.dR a h0) ⟨⟨_,g⟩,?_⟩;refine wpAny_pyIter_values (knd:=C.dR) (d:=a) (kvs:=us) (ep:=ep) ⟨_,eW _ rfl,rfl,rfl⟩ (z.push _) ?_;dsimp only;rw[hK];have r:=λ(o bf:Obj) (h:bf.isFreed=false)=>PN (s:=s) (o:=o) h;have t:∀(o bf:Obj) b y,s.heap.get? b=some y->((s.heap.push o).push bf).get? b=some y:=λo bf b y e=>dn _ (dn _ e)
  exact Made.mk' (news:=[s.heap.objs.size+1]) ok k.1 (λao=>by rw[k.2.2.1];nofun) f.at (t _ _) (λb j=>km (P:=λb=>s.heap.objs.size<=b/\∃bf,((s.heap.push _).push _).get? b=some bf) j ⟨c9 _,_,r _ _ rfl⟩) (λγ h=>h)
   (Iter.values R (fQ (j3 (dz k.1))) (ζ.grow (xx (t _ _) λb j=>km (P:=λb=>s.heap.objs.size<=b) j (c9 _))) ep) ⟨⟨_,r _ _ rfl,rfl,rfl⟩,(z.push _).push _⟩ λγ γ=>trivial
theorem qfi(R:A.handled=none)(ok:C.Ok F s)(he:∀t,lb e t=true->∃ba k p,t=.Tuple ba k p)(H:Den C F s.heap B (.lst l) u)(K:Den C F s.heap B (.lst m) v):
 wpAny C.M A (call (.type "zip") [u,v]) (λI av=>wpAny C.M A (pyIter I) (Made C A B (pairD l m) F s e own) E av) E s:=
 ai H λa us q=>b2 q λq nb x ζ=>ν (id x) λn g=>ai K λj N f=>b2 f λf T r O=>ν (id r) λBm i=>by
  rw[q,f];refine call_zip_2 x.isList r.isList λh' Z Y L V U γ y=>wpAny_pyIter_zip Z ?_;have a1:=dz g;have a2:=dz i;have new:∀b∈[s.heap.objs.size+4,s.heap.objs.size+3,s.heap.objs.size,s.heap.objs.size+1],s.heap.objs.size<=b:=λb z=>Gr z (c8 _ _) (c8 _ _) (a7 _) (c8 _ _);have G:=xx (B:=B) (F:=F) y new;have st:Jn (s.heap.objs.size+4) (s.heap.objs.size+2) (s.heap.objs.size+3) s.heap.objs.size (s.heap.objs.size+1) a j us.toArray N.toArray 0 h':=⟨Z,Y,⟨_,_,L⟩,V,U,x.isList.at λo e=>y a o e,r.isList.at λo e=>y j o e⟩
  have cQ:∀{P:Addr->Prop},(∀b∈[s.heap.objs.size+4,s.heap.objs.size+3,s.heap.objs.size,s.heap.objs.size+1],P b)->P (s.heap.objs.size+2)->P a->P j->∀b∈[s.heap.objs.size+4,s.heap.objs.size+2,s.heap.objs.size+3,s.heap.objs.size,s.heap.objs.size+1,a,j],P b:=λ{P} ε η Q bu b z=>
   (cn.mp z).elim (λe=>e▸ε _ bH) λz=>(cn.mp z).elim (λe=>e▸η) λz=>(cn.mp z).elim (λe=>e▸ε _ (b3 _ bH)) λz=>
     Gr z (ε _ (b3 _ (b3 _ bH))) (ε _ (b3 _ (b3 _ (b3 _ bH)))) Q bu
  have W:=Iter.zip (C:=C) (B:=λb=>B b∨b∈[s.heap.objs.size+4,s.heap.objs.size+3,s.heap.objs.size,s.heap.objs.size+1]) R (zipApart_new a1 a2) (ζ.grow G) (O.grow G);have ex:∀b∈[s.heap.objs.size+4,s.heap.objs.size+3,s.heap.objs.size,s.heap.objs.size+1],∃o,h'.get? b=some o:=W.ex st
  exact⟨F,s.heap.objs.size+4,_,_,_,_,rfl,.heap ok (n:=s.toks) (a7 _) y,W,st,he,λb z=>hh (new b z),cQ ex ⟨_,Y⟩ ⟨_,y _ _ g⟩ ⟨_,y _ _ i⟩,cQ (λb z=>.inl (hh (new b z))) (.inl (hh (c8 _ _))) (.inr (.inl nb)) (.inr (.inl T)),
   cQ (λb z=>ok.vh (new b z)) (ok.vh (c8 _ _)) (ok.kn g λao=>nofun) (ok.kn i λao=>nofun)⟩
abbrev qT(C:aE)(A:Around)(B:Addr->Prop)(ds:List D)(F:bc)(s:Shared)(e:Expr)(own:Addr->Prop)(E:cg):cg:=λz av=>wpAny C.M A (pyIter z) (Made C A B ds F s e own) E av
theorem qT.zQ(X:C.Step F s F' s')(ok:C.Ok F s)(h:wpAny C.M A t (qT C A B ds F' s' e own E) E s'):wpAny C.M A t (qT C A B ds F s e own E) E s':=
 b8 h (λj aN z=>b8 z (λit y hm=>hm.after X ok) λγ γ x=>x) λγ γ x=>x
theorem Yc(h:isTup t=true):∃ba k p,t=Expr.Tuple ba k p:=Expr.Tuple.elim (motive_1:=λt=>∃ba k p,t=Expr.Tuple ba k p) t (n' h) λba k p=>⟨ba,k,p,rfl⟩
theorem G3(z:NC e=true) t (h:lb e t=true):∃ba k p,t=Expr.Tuple ba k p:=by
 unfold lb at h;rw[z] at h;exact Yc h
theorem Rz(h:zW e=some c):∃ap p,e=.Call (.Attribute c.1 c.2 ap) [] [] p/\hg c.1 ap p=true:=
 π h λx h ε=>π h λa h y=>aP h λh z=>ν (wU ε) λp e=>by
  rw[e] at z⊢;rw[<-ae h,wO y,gq.mp (band (band z).1).1,gq.mp (band (band z).1).2];exact⟨a.2.2,p,rfl,(band z).2⟩
theorem F6(G:C.Good)(O:dA C S Ω)(aw:cH C S Ω n)(R:a_ A (Ω+n))(H:St C B K env α F σ s){own:Addr->Prop}(Y:∀x d,σ.get x=some (.own d)->own (α x)){e:Expr}{ds:List D}
 (h:dj S (μ S n) K e σ=some ds) {E:cg}:wpAny C.M A (eval e env) (qT C A B ds F s e own E) E s:=
 b' h (λh=>π h λc h κ=>π h λt h ω=>ai (wR κ) λp q ag=>by
  rw[ag];refine r6 (md (f9:=.ty t) G O H (xv ω) λv e=>?_);rw[show v=.type t from e];refine b' h (λh=>aP h λh y=>π h λas h j=>?_) λh=>b' h (λh=>aP h λh y=>π h λa h j=>π h λd h hd=>π h λl h ζ=>aP h λh γ=>?_) λh=>aP h λh y=>π h λa h j=>π h λd h hd=>π h λl h ζ=>π h λd' h Z=>π h λm h hm=>?_
  ·rw[eq_of_beq y];exact qaJ aw R H j h
  ·rw[eq_of_beq (band y).1,eq_of_beq (band y).2,gx j,nS hd,<-ae h];refine CA rfl (Cz (r3 (Run.seq (GZ aw R H hd Y) λv a0 av z D=>tR ?_)));rw[lF ζ] at D;exact qT.zQ z H.ok (TX R.handled z.ok (G3 rfl) D.1 D.2)
  ·rw[eq_of_beq (band y).1,eq_of_beq (band y).2,q3 j,<-ae h];have ag:(backTo p (starEach [a.1,a.2] env)).any (·.1)=false:=sm (ds:=[d,d']) (f:=λa=>μ S n K a σ) (λe d h=>eJ h) (by simp only[each,hd,Z,Option.bind_some]);rw[eJ hd] at ag⊢;refine CA ag (Cz ?_);refine r3 (Run.e4 (aw K a.1 σ d hd A env α B F s R H) H λu a0 av z r W=>?_);rw[eJ Z];refine r3 (Run.e4 (aw K a.2 σ d' Z A env α B a0 av R r) r λv U aN i T V=>tR ?_);rw[lF ζ] at W;rw[lF hm] at V;exact qT.zQ (z.trans i) H.ok (qfi R.handled i.ok (G3 rfl) (W.grow (i.grow r.bad)) V)) λh=>
 b' h (λh=>π h λc h κ=>π h λd h hd=>π h λl h ζ=>ai (Rz κ) λap p q=>by
  rw[q.1];refine rF q.2 .d rfl (Run.seq (GZ aw R H hd Y) λu a0 av z D=>?_);rw[DC ζ] at D;refine ai D.1.aX λa us k=>b2 k λag h0 g ζ=>?_;rw[ag] at D⊢;refine b' h (λh=>aP h λh hm=>?_) λh=>aP h λh hm=>?_
  ·rw[eq_of_beq hm,<-ae h];exact⟨"dict","dict.items",Cq,PySem.F.slot_dict_items,PySem.F.type_dict_items,g.typeIs,g.mapOf.noDict,callWith_method0 (qT.zQ z H.ok (Yg R.handled z.ok (G3 rfl) D.1 D.2))⟩
  ·rw[eq_of_beq hm,<-ae h];exact⟨"dict","dict.values",Cq,PySem.F.slot_dict_values,PySem.F.type_dict_values,g.typeIs,g.mapOf.noDict,callWith_method0 (qT.zQ z H.ok (qed R.handled z.ok D.1 D.2))⟩) λh=>
 π h λd h hd=>Run.seq (GZ aw R H hd Y) λv a0 av z D=>b8 (Yh (ds:=ds) R.handled z.ok e D.1 D.2 h) (λit aN hm=>hm.after z H.ok) λγ γ x=>x
theorem Vs e (h:Nat.beq e.ctorIdx 7=false) env x:foldedSetIterable e env x=pure x:=by
 cases e with
 |Set es c p=>exact dk h
 |_=>rfl
theorem yb(h:dj S (μ S n) K e σ=some ds) env x:foldedSetIterable e env x=pure x:=by
 cases z:Nat.beq e.ctorIdx 7 with
 |false=>exact Vs e z env x
 |true=>exact Expr.Set.elim (motive_1:=λe=>dj S (μ S n) K e σ=some ds->foldedSetIterable e env x=pure x) e (n' z) (λγ γ γ h=>by cases n<;>exact aQ h) h
noncomputable def ij(env:Env):List (Str×NameKind)->List (Str×Addr)->List (Str×Addr)
 |[],acc=>acc
 |(x,z)::r,acc=>if z==.free then ij env r ((x,(env.cells.lookup x).getD 0)::acc) else ij env r acc
theorem Sr f
 (hf:∀x z cs,f (x,z) cs=if z==.free then(do let a<-cellOf env x;pure (.yield ((x,a)::cs))) else pure (.yield cs)):
 ∀names acc,(∀p∈names,p.2=.free->∃c,env.cells.lookup p.1=some c)->forIn names acc f=pure (ij env names acc):=by
 intro g
 induction g with
 |nil=>
  intro acc γ;rw[tV];rfl
 |cons e r q=>
  obtain⟨x,z⟩:=e;intro acc h;rw[v9,hf];unfold ij
  by_cases y:(z==.free)=true
  ·rw[au y,au y];refine ν (h (x,z) bH (eq_of_beq y)) λc κ=>?_;unfold cellOf;simp only[κ,pure_bind,Option.getD_some];exact q _ λp j=>h p (b3 _ j)
  ·rw[ar y,ar y];simp only[pure_bind];exact q _ λp j=>h p (b3 _ j)
theorem z6(h:∀p∈scope.names,p.2=.free->∃c,env.cells.lookup p.1=some c):closureFor scope env=pure (ij env scope.names []):=by
 unfold closureFor
 have:=Sr (env:=env) (λ(p:Str×NameKind) cs=>do
  if p.2==.free then do let a<-cellOf env p.1;pure (.yield ((p.1,a)::cs)) else pure (.yield cs)) (λx z cs=>rfl) scope.names [] h
 simp only[bind_pure_comp] at this⊢
 first
  |exact this
  |(rw[show(forIn scope.names [] λ(p:Str×NameKind) (r:List (Str×Addr))=>_)=_ from this];rfl)
  |(refine Eq.trans (bp _ this) ?_;rfl)
  |skip
theorem Sq{env:Env}{x:Str}{r:List (Str×NameKind)}:∀{acc:List (Str×Addr)},acc.lookup x=some ((env.cells.lookup x).getD 0)->(ij env r acc).lookup x=some ((env.cells.lookup x).getD 0):=by
 induction r with
 |nil=>exact λh=>h
 |cons q r y=>
  intro acc h;obtain⟨z,kz⟩:=q;unfold ij;split
  ·refine y ?_;rw[fP];cases j:x==z with
   |true=>rw[eq_of_beq j]
   |false=>exact h
  ·exact y h
theorem J4 names:∀acc x,(x,NameKind.free)∈names->(ij env names acc).lookup x=some ((env.cells.lookup x).getD 0):=by
 induction names with
 |nil=>exact λacc x h=>nomatch h
 |cons p r z=>
  intro acc x h;obtain⟨y,j⟩:=p;unfold ij;rcases cn.mp h with e|h
  ·cases e;rw[au .d];exact Sq (by simp)
  ·split
   ·exact z _ x h
   ·exact z _ x h
theorem J5:∀names acc x c,(x,c)∈ij env names acc->(x,c)∈acc∨((x,NameKind.free)∈names/\c=(env.cells.lookup x).getD 0):=by
 intro q
 induction q with
 |nil=>
  intro acc x c h;exact .inl h
 |cons g r j=>
  obtain⟨y,f⟩:=g;intro acc x c h;unfold ij at h;split at h
  ·rename_i p;rcases j _ x c h with h|⟨ε,z⟩
   ·rcases cn.mp h with e|h
    ·cases e;exact .inr ⟨by rw[eq_of_beq p];exact bH,rfl⟩
    ·exact .inl h
   ·exact .inr ⟨b3 _ ε,z⟩
  ·rcases j _ x c h with h|⟨ε,z⟩
   ·exact .inl h
   ·exact .inr ⟨b3 _ ε,z⟩
theorem w':∀names n acc,cellsFrom n names acc=cellsFrom n names []++acc:=by
 intro y
 induction y with
 |nil=>
  intro n acc;simp [cellsFrom]
 |cons j r z=>
  obtain⟨x,q⟩:=j;intro n acc;unfold cellsFrom;split
  ·rw[z (n+1) ((x,n)::acc),z (n+1) [(x,n)]];simp
  ·exact z n acc
theorem So:∀names n x c,(x,c)∈cellsFrom n names []->(x,NameKind.cell)∈names:=by
 intro j
 induction j with
 |nil=>
  intro n x c h;simp [cellsFrom] at h
 |cons q r z=>
  obtain⟨y,p⟩:=q;intro n x c h;unfold cellsFrom at h;split at h
  ·rename_i g;rw[w'] at h;replace h:=h;rcases fk.mp h with h|h
   ·exact b3 _ (z _ x c h)
   ·obtain⟨rfl,_⟩:x=y/\c=n:=by simpa using h
    rw[eq_of_beq g];exact bH
  ·exact b3 _ (z _ x c h)
theorem Ly{x:Str}{l z:List (Str×Addr)}(h:(∃c,l.lookup x=some c)∨∃c,z.lookup x=some c):∃c,(l++z).lookup x=some c:=by
 rw[List.lookup_append];cases e:l.lookup x with
 |none=>rw[e] at h;exact h.elim (λh=>ν h λc h=>aQ h) id
 |some a=>exact⟨a,rfl⟩
theorem uw names:∀n x,(x,NameKind.cell)∈names->∃c,(cellsFrom n names []).lookup x=some c:=by
 induction names with
 |nil=>exact λn x h=>nomatch h
 |cons p r z=>
  intro n x h;obtain⟨y,j⟩:=p;unfold cellsFrom;rcases cn.mp h with e|h
  ·cases e;rw[au .d,w'];exact Ly (.inr ⟨n,by simp⟩)
  ·split
   ·rw[w'];exact Ly (.inl (z _ x h))
   ·exact z _ x h
theorem qeC{Q:Env->el}
 (h:Q {scope,locals:=s.heap.objs.size,globals:=g,cells:=cellsFrom (s.heap.objs.size+1) scope.names cl,qual,func:=none,code:=env.code,frame:=env.frame,builtins:=env.builtins}
   {s with heap:=pushCells (s.heap.push {cls:=.type "dict",data:=.dict #[]}) scope.names}):
 wpAny C.M A (newFunctionEnv scope g cl [] qual none .none (some env)) Q E s:=by
 simp only[newFunctionEnv,Option.isSome_some,if_true];refine aR (wpAny_alloc ?_);refine aR (wpAny_layCells _ (λname kind cells=>by cases z:kind==NameKind.cell<;>simp [z]) _ _ _ _ ?_);simp only[tV];refine aR (b7 (b7 ?_));rw[show({s with heap:=s.heap.push {cls:=.type "dict",data:=.dict #[]}}:Shared).heap.objs.size=s.heap.objs.size+1 from hK ..];exact h
theorem BP x:(relabel scope env).names.lookup x=
 (scope.names.lookup x).map λz=>if(z==.free&&env.scope.kind==.function&&env.kindOf x==some .cell) then .cell else z:=by
 unfold relabel;dsimp only
 induction scope.names with
 |nil=>rfl
 |cons p r g=>
  obtain⟨y,z⟩:=p;rw[bN];show List.lookup x ((if(z==NameKind.free&&env.scope.kind==.function&&env.kindOf y==some .cell)=true then(y,NameKind.cell) else(y,z))::_)=_;rw[show List.lookup x ((y,z)::r)=match x==y with|true=>some z|false=>List.lookup x r from fP ..];cases j:x==y with
  |true=>
   rw[eq_of_beq j]
   by_cases κ:(z==NameKind.free&&env.scope.kind==.function&&env.kindOf y==some .cell)=true
   ·rw[au κ];simp only[fP,hq,Option.map_some,au κ]
   ·rw[ar κ];simp only[fP,hq,Option.map_some,ar κ]
  |false=>
   have q:=g
   by_cases κ:(z==NameKind.free&&env.scope.kind==.function&&env.kindOf y==some .cell)=true
   ·rw[au κ];simp only[fP,j];exact q
   ·rw[ar κ];simp only[fP,j];exact q
theorem F0:∀{names} {x} {lv},(fH names σ).get x=some lv->(x,NameKind.free)∈names/\σ.gQ x=some lv:=by
 intro q
 induction q with
 |nil=>
  intro x lv e;exact aQ e
 |cons g r j=>
  obtain⟨y,z⟩:=g;intro x lv e;have rest:(fH r σ).get x=some lv->(x,NameKind.free)∈(y,z)::r/\σ.gQ x=some lv:=λe=>bL (j e) λa b=>⟨b3 _ a,b⟩
  have skip:Γ.get ((y,none)::fH r σ) x=some lv->(x,NameKind.free)∈(y,z)::r/\σ.gQ x=some lv:=λe=>by
   rw[Γ.jG] at e
   by_cases h:x=y
   ·rw[au h] at e;exact aQ e
   ·rw[ar h] at e;exact rest e
  cases z with
  |«local»=>exact skip e
  |cell=>exact skip e
  |free=>
   have e:Γ.get ((y,σ.gQ y)::fH r σ) x=some lv:=e;rw[Γ.jG] at e
   by_cases h:x=y
   ·rw[au h,<-h] at e;rw[h];exact⟨bH,h▸e⟩
   ·rw[ar h] at e;exact rest e
  |globalExplicit=>exact rest e
  |globalImplicit=>exact rest e
theorem A'(h:(fH names σ).get x=some lv):(x,NameKind.free)∈names/\σ.get x=some lv:=(F0 h).imp id λq=>(lg q).1
theorem vC(h:mX sc=true):sc.kind=.function/\sc.isCoroutine=false/\∀p∈sc.names,sc.names.lookup p.1=some p.2:=
 ⟨eq_of_beq (band (band h).1).1,(lx _).mp (band (band h).1).2,λp z=>eq_of_beq (er.mp (band h).2 p z)⟩
theorem J9(h:closes K names=true):rH K=true:=(band h).1
theorem sz(h:closes K names=true):∀p∈names,p.2=.free->K.lookup p.1=some .cell∨K.lookup p.1=some .free:=by
 intro p z e;have q:=er.mp (band h).2 p z;rw[e] at q;exact(m6.mp q).imp eq_of_beq eq_of_beq
def hz(n:Nat)(names:Kinds)(a:Addr):Prop:=a=n∨a=n+1∨∃x,(x,a)∈cellsFrom (n+1+1) names []
def kb(s:Shared)(sc:Scope)(env:Env):Env:=
 {scope:=relabel sc env,locals:=s.heap.objs.size+1,globals:=env.globals,cells:=cellsFrom (s.heap.objs.size+1+1) sc.names (ij env sc.names []),qual:=env.qual,func:=none,code:=env.code,frame:=env.frame,builtins:=env.builtins}
noncomputable def mD(s:Shared)(o:Obj)(sc:Scope):Heap:=pushCells ((s.heap.push o).push {cls:=.type "dict",data:=.dict #[]}) sc.names
theorem lookup_mem{α β:Type}[BEq α][LawfulBEq α]{l:List (α×β)}{x}{c}(h:l.lookup x=some c):(x,c)∈l:=by
 obtain⟨bU,bR,e,_⟩:=List.lookup_eq_some_iff.mp h;rw[e];exact Cu _ bH
theorem Gi{l z:List (Str×Addr)}:(l++z).lookup x=(l.lookup x).or (z.lookup x):=by
 induction l with
 |nil=>rfl
 |cons p l y=>
  rw[CR,fP,fP,y];cases x==p.1<;>rfl
theorem lookup_append{l z:List (Str×Addr)}(h:(l++z).lookup x=some c):l.lookup x=some c∨(l.lookup x=none/\z.lookup x=some c):=by
 rw[Gi] at h;cases e:l.lookup x with
 |none=>rw[e] at h;exact .inr ⟨rfl,h⟩
 |some d=>rw[e] at h;exact .inl h
theorem M5{l z:List (Str×Addr)}(h:l.lookup x=some c):(l++z).lookup x=some c:=by rw[Gi,h];rfl
theorem YW{l z:List (Str×Addr)}(h:l.lookup x=none):(l++z).lookup x=z.lookup x:=by rw[Gi,h];rfl
theorem Y0{l:List (Str×Addr)}(h:∀c,(x,c)∉l):l.lookup x=none:=by
 cases e:l.lookup x with
 |none=>rfl
 |some c=>exact(h c (lookup_mem e)).elim
theorem SD(H:St C B K env α F σ s)(jL:mX sc=true)(N:closes K sc.names=true)(a3:(s.heap.push o).get? s.heap.objs.size=some o)(hm:s.toks<=m):
 C.Step F s F {s with heap:=mD s o sc,toks:=m}/\Frame C (hz s.heap.objs.size sc.names) (λb=>B b∨hz s.heap.objs.size sc.names b) sc.names (kb s sc env) α F (fH sc.names σ) {s with heap:=mD s o sc,toks:=m}/\
 (∀b,hz s.heap.objs.size sc.names b->s.heap.get? b=none)/\(mD s o sc).get? s.heap.objs.size=some o/\(∀x c,(kb s sc env).cells.lookup x=some c->c≠s.heap.objs.size):=by
 obtain⟨ef,dS,Z⟩:=vC jL;have td:=sz N;have ag:((s.heap.push o).push {cls:=.type "dict",data:=.dict #[]}).objs.size=s.heap.objs.size+1+1:=by rw[hK,hK]
 have keep:∀b bf,s.heap.get? b=some bf->(mD s o sc).get? b=some bf:=λb bf e=>zm _ _ b bf (dn _ (dn _ e));have X:C.Step F s F {s with heap:=mD s o sc,toks:=m}:=.heap H.ok hm keep;have z:=cellsFrom_ok sc.names ((s.heap.push o).push {cls:=.type "dict",data:=.dict #[]}) (s.heap.objs.size+1+1) [] ⟨λγ γ hm=>(nomatch hm),List.Pairwise.nil⟩ (by rw[ag];exact a7 _);rw[ag] at z;replace z:=z;have I:(mD s o sc).get? s.heap.objs.size=some o:=zm _ _ _ _ (dn _ a3)
 have O:(mD s o sc).Ns (s.heap.objs.size+1) λγ=>none:=by
  have ax:(s.heap.push o).objs.size=s.heap.objs.size+1:=hK ..;have:=(Heap.Ns.new (s.heap.push o) (.type "dict")).keeps (h':=mD s o sc) λb bf e=>zm _ _ b bf e;rwa [ax] at this
 have U:∀b,hz s.heap.objs.size sc.names b->s.heap.get? b=none:=λb p=>by
  rcases p with rfl|rfl|⟨x,g⟩
  ·exact hh (a7 _)
  ·exact hh (c9 _)
  ·exact hh (aJ (c8 _ 2) (z.empty x b g).2)
 have U6:∀b,hz s.heap.objs.size sc.names b->∃bf,(mD s o sc).get? b=some bf:=λb p=>by
  rcases p with rfl|rfl|⟨x,g⟩
  ·exact⟨_,I⟩
  ·obtain⟨bf,_,_,e,_⟩:=O;exact⟨bf,e⟩
  ·obtain⟨bf,e,_⟩:=(z.empty x b g).1;exact⟨bf,e⟩
 have free:C.et (hz s.heap.objs.size sc.names):=aE.et.of_none H.ok U;have t:(kb s sc env).cells=cellsFrom (s.heap.objs.size+1+1) sc.names []++ij env sc.names []:=w' ..
 have T:∀x,(x,NameKind.free)∈sc.names->∃c w,env.cells.lookup x=some c/\s.heap.IsCell c w/\(kb s sc env).cells.lookup x=some c/\(env.kindOf x=some .cell∨env.kindOf x=some .free):=λx g=>by
  obtain⟨⟨c,w,ε,j⟩,f⟩:=H.cells x (td (x,.free) g rfl);refine⟨c,w,ε,j,?_,f⟩;rw[t,YW,J4 _ _ _ g,ε];rfl;refine Y0 λcM g5=>?_;have:=Z _ (So _ _ _ _ g5);have:=(Z _ g).symm.trans this;cases this
 have r:∀x c,(kb s sc env).cells.lookup x=some c->((x,c)∈cellsFrom (s.heap.objs.size+1+1) sc.names [])∨((x,NameKind.free)∈sc.names/\∃w,s.heap.IsCell c w):=λx c κ=>by
  rw[t] at κ;replace κ:=κ;rcases lookup_append κ with κ|⟨_,κ⟩
  ·exact .inl (lookup_mem κ)
  ·rcases J5 _ _ _ _ (lookup_mem κ) with Y|⟨Y,rfl⟩
   ·cases Y
   ·refine ai (T x Y) λc w q=>cu q λε j γ=>?_;exact .inr ⟨Y,w,by rw[ε];exact j⟩
 have W:∀{c w},s.heap.IsCell c w->c<s.heap.objs.size:=λκ=>κ.lt
 have loc:∀x,sc.names.lookup x=some .local->(kb s sc env).kindOf x=some .local:=λx e=>by
  show(relabel sc env).names.lookup x=_;rw[BP,e];rfl
 have R:∀x,sc.names.lookup x=some .cell->(kb s sc env).kindOf x=some .cell:=λx e=>by
  show(relabel sc env).names.lookup x=_;rw[BP,e];rfl
 have P:∀x,sc.names.lookup x=some .free->(kb s sc env).kindOf x=some .cell∨(kb s sc env).kindOf x=some .free:=λx e=>by
  show(relabel sc env).names.lookup x=_∨(relabel sc env).names.lookup x=_;rw[BP,e];simp only[Option.map_some];split
  ·exact .inl rfl
  ·exact .inr rfl
 have G:dt F s.heap B F (mD s o sc) (λb=>B b∨hz s.heap.objs.size sc.names b):=
  ⟨λγ γ e=>e,λb bf γ e=>keep b bf e,λb bf p e q=>q.elim p λq=>by rw[U b q] at e;cases e⟩
 refine⟨X,?_,U,I,λx c κ=>?_⟩
 ·refine{ok:=X.ok,bad:=⟨λb p=>.inl (H.bad.bo b p),λb p=>p.elim ((H.bad.step X).some b) (U6 b),λb p ω=>p.elim (λq=>H.bad.new b q ω) (free.hG b)⟩,kind:=ef,glob:=H.glob,blt:=H.blt,code:=λγ=>H.code (J9 N),gh:=λx e=>?_,cells:=λx e=>?_,nm:=λx lv e=>?_,vars:=λx lv e=>?_,free:=free,bM:=λa Ψ=>.inr Ψ,ns:=⟨_,O⟩,gO:=.inr (.inl rfl),loc:=loc,fD:=λx e=>?_,gI:=λx c κ=>?_,gc:=λx c κ=>?_,inj:=λx y c g ε j=>?_,e3:=λx d e=>?_}
  ·show(relabel sc env).names.lookup x=_;rw[BP,e];rfl
  ·rcases e with e|e
   ·obtain⟨c,κ⟩:=uw sc.names (s.heap.objs.size+1+1) x (lookup_mem e);exact⟨⟨c,none,by rw[t];exact M5 κ,(z.empty x c (lookup_mem κ)).1⟩,.inl (R x e)⟩
   ·refine ai (T x (lookup_mem e)) λc w q=>b2 q λε j f γ=>?_;exact⟨⟨c,w,f,X.cell H.ok j⟩,P x e⟩
  ·exact H.nm x lv (A' e).2
  ·obtain⟨g,e⟩:=F0 e;obtain⟨e,hG⟩:=lg e;obtain⟨v,ε,j⟩:=H.vars x lv e;refine ai (T x g) λc w q=>b2 q λg1 g2 g3 eH=>?_;refine⟨v,.inr (.inr ⟨(P x (Z _ g)).imp id id,c,g3,?_⟩),?_⟩
   ·rcases ε with q|⟨q,_⟩|⟨_,cM,f,bu⟩
    ·exact dk (q.symm.trans hG)
    ·rcases eH with eH|eH<;>· rw[q] at eH;cases eH
    ·rw[g1] at f;obtain rfl:=ae f;exact X.cell H.ok bu
   ·exact j.to G λγ γ bf e=>keep _ bf e
  ·obtain⟨c,κ⟩:=uw sc.names (s.heap.objs.size+1+1) x (lookup_mem e);exact⟨R x e,c,by rw[t];exact M5 κ,.inr (.inr ⟨x,lookup_mem κ⟩)⟩
  ·rcases r x c κ with κ|⟨_,w,hw⟩
   ·exact⟨none,(z.empty x c κ).1⟩
   ·exact⟨w,X.cell H.ok hw⟩
  ·show c≠s.heap.objs.size+1;rcases r x c κ with κ|⟨_,w,hw⟩
   ·exact i7 ((z.empty x c κ).2)
   ·exact fQ (j3 (W hw))
  ·have Q:(x,c)∈cellsFrom (s.heap.objs.size+1+1) sc.names []:=by
    rcases r x c ε with q|⟨q,_⟩
    ·exact q
    ·have:=g.symm.trans (Z _ q);cases this
   have E:(y,c)∈cellsFrom (s.heap.objs.size+1+1) sc.names []:=by
    rcases r y c j with q|⟨q,w,hw⟩
    ·exact q
    ·have bU:=W hw;have bR:=(z.empty x c Q).2;exact absurd (c7 bU (aJ (c8 _ 2) bR)) (lz _)
   exact name_of_addr z.apart Q E
  ·obtain⟨_,e⟩:=A' e;obtain⟨v,ε,j⟩:=H.vars x _ e;obtain⟨qft,l,hd⟩:=kr j.2;have L:=dz l;refine⟨fQ (j3 L),λy c κ q=>?_⟩;rcases r y c κ with κ|⟨_,w,ob',i,V⟩
   ·have bR:=(z.empty y c κ).2;rw[q] at bR;replace bR:=bR;exact absurd (c7 L (aJ (c8 _ 2) bR)) (lz _)
   ·rw[q,l] at i;replace i:=i;obtain rfl:=ae i;have f:=j.2;cases d with
    |lst ds=>obtain⟨vs,⟨m,bu⟩,_⟩:=f;rw[l] at bu;cases bu;cases V
    |aX ds=>obtain⟨_,us,⟨rJ,es,ep,bu,_,dx,_⟩,_⟩:=f;rw[l] at bu;cases bu;rw[dx] at V;cases V
    |_=>exact f.elim
 ·rcases r x c κ with κ|⟨_,w,hw⟩
  ·exact i7 (c7 (j3 (iH _)) (z.empty x c κ).2)
  ·exact fQ (W hw)
def Ja(C:aE)(M B:Addr->Prop)(K:Kinds)(env:Env)(α:Str->Addr)(F:bc)(σ:Γ)(s s':Shared):Prop:=
 C.cV M F s F s'/\Frame C M B K env α F σ s'/\(∀b o,b≠env.locals->(∀x c,env.cells.lookup x=some c->b≠c)->s.heap.get? b=some o->s'.heap.get? b=some o)
theorem RW:∀{ba} {ds} {σ},bindNames K ba ds σ=some σ'->(assignEach ba env).length=ds.length/\(assignEach ba env).findIdx? (·.1)=none:=by
 intro y
 induction y with
 |nil=>
  intro ds σ e;exact aP e λγ h=>by rw[gq.mp h];exact⟨rfl,rfl⟩
 |cons t ba z=>
  intro ds σ e
  exact π e λx e q=>π e λd e hd=>aP e λe hs=>ν (gH q) λp k=>bL (z e) λε j=>by
   rw[k,mB hd];refine⟨bp (· +1) ε,?_⟩;show((false,assign (.Name x p) env)::assignEach ba env).findIdx? (·.1)=none;rw[List.findIdx?_cons,j];rfl
theorem RX:∀{ba} {ds} {vs} {σ} {s},bindNames K ba ds σ=some σ'->Frame C M B K env α F σ s->bA C F s.heap B ds vs->
 ∀E,wpAny C.M A (assignInOrder ((assignEach ba env).map (·.2)) vs) (λγ s'=>Ja C M B K env α F σ' s s') E s:=by
 intro r
 induction r with
 |nil=>
  intro ds vs σ s e H ζ E
  exact aP e λe h=>by
   rw[gq.mp h] at ζ;rw[show vs=[] from ζ,<-ae e];exact b7 ⟨.refl H.ok,H,λγ γ γ γ e=>e⟩
 |cons t ba f=>
  intro ds vs σ s e H ζ E
  exact π e λx e l=>π e λd e hd=>aP e λe hs=>ν (gH l) λp k=>by
   rw[mB hd] at ζ;refine ai ζ λv z q=>cu q λq hd ζ=>?_;rw[k,q];show wpAny C.M A (do holding z (assign (.Name x p) env v);assignInOrder ((assignEach ba env).map (·.2)) z) _ E s;refine aR (n5 (CJ (yY (lv:=.val d.1) H hs α (λγ γ=>rfl) hd nofun λav y g γ k₁=>?_)));exact b8 (f e g (ζ.grow (y.grow H.bad H.bM)) E) (λγ aN q=>⟨y.trans q.1,q.2.1,λb o ε j e=>q.2.2 b o ε j (k₁ b o ε (λc κ=>j x c κ) e)⟩) λγ γ x=>x
theorem DM(R:A.handled=none)(e:iR K t d σ=some σ')(H:Frame C M B K env α F σ s)(j:qU C F s.heap B t d v):
 ∀E,wpAny C.M A (assign t env v) (λγ s'=>Ja C M B K env α F σ' s s') E s:=by
 intro E;refine b' e (λe=>π e λx e y=>aP e λe hs=>ν (gH y) λp k=>?_) λe=>π e λba e i=>π e λds e g=>ai (wZ i) λk p q=>?_
 ·rw[k] at j⊢;rw[<-ae e];exact CJ (yY (lv:=.val d) H hs α (λγ γ=>rfl) (mj j (λq=>dk q.1.symm) id) nofun λav l f γ k₁=>⟨l,f,λb o ε z e=>k₁ b o ε (λc κ=>z x c κ) e⟩)
 ·have tup:∃a vs,v=.ref a/\s.heap.IsTuple a (List.toArray vs)/\bA C F s.heap B ds vs:=mj j
   (λq=>ν q.2 λZ q=>by rw[q.1] at g;rw[<-ae g];exact q.2) λD=>ai (D.o.vy g) λa vs q=>⟨a,vs,q.1,q.2.1.lX,q.2.2⟩
  refine ai tup λa vs r=>cu r λr ω ζ=>bL (RW (env:=env) e) λε z=>?_;rw[q,r];refine wpAny_assign_Tuple R ω (by rw[ε,gp,ζ.length]) z λh' y=>?_;have X:C.Step F s F {s with heap:=h'}:=.heap H.ok (n:=s.toks) (a7 _) λb o e=>y b o (fQ (dz e)) e;exact b8 (RX e (H.step X) (ζ.grow (X.grow H.bad)) E) (λγ aN q=>⟨X.m.trans q.1,q.2.1,λb o ε z e=>q.2.2 b o ε z (y b o (fQ (dz e)) e)⟩) λγ γ x=>x
theorem RU:∀{ba} {ds} {σ},bindNames K ba ds σ=some σ'->y∉ba.filterMap asName->σ'.get y=σ.get y:=by
 intro g
 induction g with
 |nil=>
  intro ds σ e γ;exact aP e λe γ=>by rw[<-ae e]
 |cons t ba j=>
  intro ds σ e z
  exact π e λx e p=>π e λd e hd=>aP e λe hs=>by
   rw[CC,p] at z;have z:y∉x::ba.filterMap asName:=z;rw[j e λq=>z (b3 _ q),Γ.get_set];exact ar λ(q:y=x/\_)=>z (q.1▸bH)
theorem RY(e:iR K t d σ=some σ')(z:y∉targetNames t):σ'.get y=σ.get y:=by
 unfold targetNames at z;refine b' e (λe=>π e λx e g=>aP e λe hs=>?_) λe=>π e λba e j=>π e λds e f=>?_
 ·rw[g] at z;rw[<-ae e,Γ.get_set];exact ar λ(q:y=x/\_)=>z (q.1▸bH)
 ·refine ai (wZ j) λk p q=>?_;rw[q] at z;exact RU e z
theorem RZ(e:iR K t d σ=some σ')(hf:freeNames σ (targetNames t)=true):Γ.le σ σ':=by
 intro y lv z;rw[RY e,z];intro hm;have:=er.mp hf y hm;rw[z] at this;exact jo this
theorem Vt{α:Type} f (hf:∀c,f c false=pure (.yield false)):∀(l:List α),forIn l false f=(pure false:Sem Bool):=by
 intro y
 induction y with
 |nil=>
  rw[tV]
 |cons c l z=>
  rw[v9,hf,pure_bind];exact z
theorem qcW(p:iO C S Ω n)(R:a_ A (Ω+n)):∀{cs} {b} {F} {s},tD (λc j=>b9 S n K c j) σ cs=some b->St C B K env α F σ s->
 Run C A F (forIn cs true λc r=>if r=true then do let ok<-isTrue c env (eval c env);pure (ForInStep.yield ok) else pure (ForInStep.yield r)) (wg b) s:=by
 intro g
 induction g with
 |nil=>
  intro b F s h H
  exact λE=>by
   rw[tV];exact b7 ⟨F,.refl H.ok,ae h⟩
 |cons c cs q=>
  intro b F s h H
  exact λE=>π h λr h ε=>by
   rw[v9];refine aR (aR (Run.e4 (p K c σ r ε A env α B F s R H) H λv a0 av z y e=>?_));rw[show v=r from e];cases r with
   |true=>exact b7 (Run.on (q h y) z)
   |false=>
    refine b7 ?_;show wpAny C.M A (forIn cs false _) _ E av;rw[Vt _ λc=>ar nofun];exact b7 ⟨a0,z,ae h⟩
theorem RV:∀{ba} {ds} {σ},bindNames K ba ds σ=some σ'->σ'.get x=some (.own g)->σ.get x=some (.own g):=by
 intro j
 induction j with
 |nil=>
  intro ds σ e h;exact aP e λe γ=>by rw[ae e];exact h
 |cons t ba z=>
  intro ds σ e h;exact π e λy e p=>π e λd e hd=>aP e λe hs=>(Γ.jH (z e h)).elim (λq=>nomatch q.2) λq=>q.2
theorem z1(e:iR K t d σ=some σ')(h:σ'.get x=some (.own z)):σ.get x=some (.own z):=
 b' e (λe=>π e λy e j=>aP e λe hs=>(Γ.jH (x:=y) (y:=x) (v:=.val d) (lv:=.own z) (σ:=σ) (ae e▸h)).elim (λq=>nomatch q.2) λq=>q.2) λe=>π e λba e g=>π e λds e p=>RV e h
end
inductive cK where
 |list (elt:Expr)
 |dict (k v:Expr)
 |nest (k:Expr) (p:Pos) (h0:Heap)
noncomputable def cK.expr(c:cK)(gens:List Comprehension)(sc:Scope)(pos:Pos):Expr:=match c with
 |.list elt=>.ListComp elt gens sc pos
 |.dict k v=>.DictComp k v gens sc pos
 |.nest k p _=>.DictComp k (.List [] p) gens sc pos
def cK.acc(c:cK)(outs:List D):D:=match c with
 |.list _=>.lst outs
 |_=>.aX (storeAll [] (outs.filterMap pairOf))
def cK.elt(S:dH)(n:Nat)(K:Kinds)(c:cK):Γ->Option (List D):=match c with
 |.list elt=>xh (μ S n) K elt
 |.dict k v=>pR (μ S n) K k v
 |.nest k p _=>pR (μ S n) K k (.List [] p)
noncomputable def cK.emit(c:cK)(a:Addr)(env:Env):Sem Unit:=match c with
 |.list elt=>do let _<-call (.builtin "list.append") [.ref a,<-eval elt env]
 |.dict k v=>do
  let z<-eval k env
  let ξ<-holding [z] (eval v env)
  standAt {k.pos with endLine:=v.pos.endLine,endCol:=v.pos.endCol}
  holding [z,ξ] (dictSet a z ξ)
 |.nest k p _=>do
  let z<-eval k env
  let ξ<-holding [z] (eval (.List [] p) env)
  standAt {k.pos with endLine:=(Expr.List [] p).pos.endLine,endCol:=(Expr.List [] p).pos.endCol}
  holding [z,ξ] (dictSet a z ξ)
def cK.X(C:aE)(h:Heap)(a:Addr):cK->Prop
 |.nest _ _ h0=>∃us,h.DictOf C.dR a us/\(∀p∈us,∀q∈us,p.2=q.2->p.1=q.1)/\∀p∈us,∀b,p.2=.ref b->h0.get? b=none
 |_=>True
def cK.J(s:Shared):cK->Prop
 |.nest _ _ h0=>∀b o,h0.get? b=some o->∃bf,s.heap.get? b=some bf
 |_=>True
def Acc(C:aE)(F:bc)(h:Heap)(B:Addr->Prop)(c:cK)(outs:List D)(a:Addr):Prop:=fW C F h B (c.acc outs) a/\c.X C h a
section
variable{C:aE}{S:dH}{A:Around}{B B':Addr->Prop}{M fm:Addr->Prop}{F F' fS:bc}{s s' cO:Shared}{h h':Heap}{u v:Value}{k Ω n:Nat}{K:Kinds}{env:Env}{α:Str->Addr}{σ σ':Γ}
theorem cK.X.keep{c:cK}(H:c.X C h a)(k:∀o,h.get? a=some o->h'.get? a=some o):c.X C h' a:=by
 cases c with
 |nest z p h0=>exact ν H λus q=>⟨us,tf q.1 k,q.2⟩
 |_=>trivial
theorem cK.J.ex{c:cK}(H:c.J s)(k:∀b o,s.heap.get? b=some o->∃bf,s'.heap.get? b=some bf):c.J s':=by
 cases c with
 |nest z p h0=>exact λb o e=>ν (H b o e) λbf aB=>k b bf aB
 |_=>trivial
theorem Acc.grow(H:Acc C F h B c outs a)(G:dt F h B F' h' B')(k:∀o,h.get? a=some o->h'.get? a=some o):Acc C F' h' B' c outs a:=⟨H.1.grow G k,H.2.keep k⟩
theorem aE.Step.acc(X:C.Step F s F' s')(ok:C.Ok F s)(K:C.dZ B s)(H:Acc C F s.heap B c outs a):Acc C F' s'.heap B c outs a:=
 ⟨X.eh ok K H.1,H.2.keep λo e=>ν (kr H.1) λbf q=>X.get ok e (ae (q.1.symm.trans e)▸q.2)⟩
theorem Bi{p:Int×Value}(h:p∈PySem.stored us i v):p=(i,v)∨p∈us:=by
 unfold PySem.stored at h;split at h
 ·exact ν (bV.mp h) λq k=>by
   by_cases e:q.1=i
   ·rw[au e] at k;exact .inl (k.2.symm.trans (by rw[e]))
   ·rw[ar e] at k;exact .inr (k.2▸k.1)
 ·exact(fk.mp h).elim .inr λq=>.inl (fj.mp q)
theorem S7(H:Den C F h B d (.ref a)):∃o,h.get? a=some o:=by
 cases d with
 |tup l=>exact ai H λz us q=>kE q.1▸ν q.2.2.1 λn g=>⟨_,g⟩
 |lst l=>exact ai H λz us q=>kE q.1▸ν q.2.2.1 λn g=>⟨_,g⟩
 |aX l=>exact ai H λz us q=>kE q.1▸ν (Ad q.2.2.2.1) λo g=>⟨o,g.1⟩
 |none=>exact nomatch H
 |bool b=>exact nomatch H
 |int i=>exact ν H λγ q=>nomatch q
 |υ i=>exact ν H λγ q=>nomatch q.1
 |str i=>exact ν H λγ q=>nomatch q
theorem S5:∀{ds} {us},cL C F h B ds us->∀p∈us,∃d,Den C F h B d p.2:=by
 intro j
 induction j with
 |nil=>
  intro us H p z;rw[show us=[] from H] at z;exact nomatch z
 |cons g r y=>
  obtain⟨k,d⟩:=g;intro us H p z
  exact ai H λv q e=>by
   rw[e.1] at z;exact(cn.mp z).elim (λaB=>⟨d,aB▸e.2.1⟩) (y e.2.2 p)
theorem qbV(c:cK)(gens:List Comprehension)(sc:Scope)(pos:Pos)(depth:Nat)(it acc:Value):C.M.den (.compStart (c.expr gens sc pos) depth it acc env)=(do
 (do
 if(gens[depth]?).elim false (·.is_async !=0) then return<-again (.compLoop (c.expr gens sc pos) depth it acc env)
 if(<-ask).params.followText "comprehension-iter-twice" then return<-again (.compLoop (c.expr gens sc pos) depth it acc env)
 rule "comprehension.iter-twice"
 if let some g:=gens[depth]? then standAt g.iter.pos
 again (.compLoop (c.expr gens sc pos) depth (<-pyIter it) acc env)).onRaise (λx=>do noteFrame x env;standAt theWindowsPlace):Sem Fin):=by
 cases c<;>rfl
theorem qdV(c:cK) gens sc pos depth it acc:A.under (.compStart (c.expr gens sc pos) depth it acc env)=A:=by cases c<;>rfl
theorem qdU(c:cK) gens sc pos depth it acc:A.under (.compLoop (c.expr gens sc pos) depth it acc env)=A:=by cases c<;>rfl
theorem Ka{c:cK}(y:gens[depth]? =some g)(j:g.is_async=0)
 (h0:codeAny C.M A (.compLoop (c.expr gens sc pos) depth it acc env) R s)
 (h:wpAny C.M A (pyIter it) (λz s'=>codeAny C.M A (.compLoop (c.expr gens sc pos) depth z acc env) R s') (notedBy C.M A env λx s'=>R (.error x) s') s):
 codeAny C.M A (.compStart (c.expr gens sc pos) depth it acc env) R s:=by
 refine codeAny_of_tree ?_;rw[qbV,qdV];refine wpAny_notedAt ?_;simp only[y,Option.elim,j,bne_self_eq_false,px,n_];refine aR (wpAny_askSetting (wpAny_ite ?_));split
 ·first
   |exact aR (b7 (b7 (And.intro rfl h0)))
   |exact b7 (And.intro rfl h0)
 ·refine aR (qL ?_);exact aR (v_ (aR (b8 h (λz s' h'=>b7 (And.intro rfl h')) λγ γ x=>x)))
theorem Frame.change(H:Frame C M B K env α F σ s)(f:C.et W)(j:∀b,W b->B b/\Off env α σ b)(y:∀b,W b->∀o,s.heap.get? b=some o->d1 o)(z:∀b o,¬W b->s.heap.get? b=some o->h'.get? b=some o)(he:∀b,W b->∃o,h'.get? b=some o)(hm:s.toks<=m):
 Frame C M B K env α F σ {s with heap:=h',toks:=m}/\C.cV (λb=>M b∨W b) F s F {s with heap:=h',toks:=m}:=
 have X:C.cV (λb=>M b∨W b) F s F {s with heap:=h',toks:=m}:=⟨H.ok.vc f y z hm,λb o γ y e=>z b o (λq=>y (.inr q)) e,λb o e=>by
  by_cases q:W b
  ·exact he b q
  ·exact⟨o,z b o q e⟩,rfl,λγ γ e=>e,hm⟩
 ⟨H.swap X.ok (H.bad.GF X) H.bM (X.grow H.bad λb g=>g.elim (H.bM b) λq=>(j b q).1) (λb w=>(j b w).2) z,X⟩
theorem Frame.GG(H:Frame C M B K env α F σ s)(z:M a)(off:Off env α σ a)(g:∀o,s.heap.get? a=some o->d1 o)
 (q:Heap.ExtBut a s.heap h') (he:∃o,h'.get? a=some o) (hm:s.toks<=m):C.cV M F s F {s with heap:=h',toks:=m}/\Frame C M B K env α F σ {s with heap:=h',toks:=m}:=
 bL (H.change (W:=λb=>b=a) ⟨λb e=>e▸H.free.hG a z,λb e=>e▸H.free.o8 a z⟩ (λb e=>e▸⟨H.bM a z,off⟩) (λb e=>e▸g) q (λb e=>e▸he) hm) λy X=>⟨X.mono λb j=>j.elim id λe=>e▸z,y⟩
theorem O1 l r (k:Int) (d:D):storeAll l (r++[(k,d)])=stored (storeAll l r) k d:=by
 induction r generalizing l with
 |nil=>rfl
 |cons p r z=>exact z _
theorem O5 l k d:(stored l k d).length<=l.length+1:=by
 unfold stored;split
 ·rw[bt];exact c9 _
 ·rw[eL];exact a7 _
theorem O0:∀r l,(storeAll l r).length<=l.length+r.length:=by
 intro y
 induction y with
 |nil=>
  intro l;exact a7 _
 |cons q r z=>
  obtain⟨j,x⟩:=q;intro l;exact aJ (z (stored l j x)) (by have:=O5 l j x;rw[dG];lia)
abbrev IQ(C:aE)(M B:Addr->Prop)(K:Kinds)(env:Env)(α:Str->Addr)(F:bc)(σ:Γ)(s:Shared)(c:cK)(outs:List D)(a:Addr):el:=λs'=>∃F',C.cV M F s F' s'/\Frame C M B K env α F' σ s'/\Acc C F' s'.heap B c outs a
theorem TN(aw:cH C S Ω n)(R:a_ A (Ω+n))(he:c.elt S n K σ=some out)(H:Frame C M B K env α F σ s)
 (Ψ:M a) (off:Off env α σ a) (N:Acc C F s.heap B c outs a) (ik:c.J s) (O:outs.length<=sizeLine):
 ∀E,wpAny C.M A (c.emit a env) (λγ=>IQ C M B K env α F σ s c (outs++out) a) E s:=by
 intro E;cases c with
 |list elt=>
  refine π (x:=μ S n K elt σ) he λd he ε=>aR (Run.seq (aw K elt σ d ε A env α B F s R H.toSt) λv a0 av z V=>ν (z.eh H.ok H.bad N.1) λvs q=>bL q λj Y=>?_);have y:=H.step z;refine aR (Ia j (λh' Z W=>ν (id Z) λq r=>?_) (by rw[gp,Y.length];exact O));refine bL (y.GG Ψ off (Z6 j) W.extBut ⟨_,r⟩ (a7 av.toks)) λf l=>?_;have G:=f.grow y.bad y.bM;refine b7 ⟨a0,z.m.trans f,l,⟨vs++[v],?_,ae he▸(Y.grow G).append ⟨v,[],rfl,V.grow G,rfl⟩⟩,trivial⟩;rw[<-List.push_toArray];exact Z
 |dict T HR=>
  refine π (x:=μ S n K T σ) he λdD he ε=>π he λi he ρ=>π he λd he Q=>aR (Run.seq (aw K T σ _ ε A env α B F s R H.toSt) λmP a0 av z V=>ν (V.o.hI ρ) λt oJ=>?_);have y:=H.step z;refine aR (n5 (Run.seq (aw K HR σ _ Q A env α B a0 av R y.toSt) λv bX aN f L=>aR (v_ (n5 ?_))));have l:=y.step f;refine bL (f.eh y.ok y.bad (z.eh H.ok H.bad N.1)) λh0 q=>ν q λus q=>bL q λj Y=>?_;have nM:us.length<=sizeLine:=Y.length▸aJ (O0 _ []) (by rw[v8,hr];exact aJ (H' _ _) O);rw[oJ];refine wpAny_dictSet_pairs (knd:=C.dR) (r' _ _ _ _) j (λh' Z W=>cN (id Z) λo es ep r=>?_) nM;refine bL (l.GG Ψ off (NM j) W.extBut ⟨_,r.1⟩ (c9 aN.toks)) λU I=>?_;have G:=U.grow l.bad l.bM;refine⟨bX,(z.trans f).m.trans U,I,⟨h0,_,Z,?_⟩,trivial⟩;rw[<-ae he,List.filterMap_append];exact O1 [] _ i d▸(Y.grow G).stored (L.grow G)
 |nest T p Ws=>
  refine π (x:=μ S n K T σ) he λdD he ε=>π he λi he ρ=>π he λd he Q=>aR (Run.seq (aw K T σ _ ε A env α B F s R H.toSt) λmP a0 av z V=>ν (V.o.hI ρ) λt oJ=>?_);have y:=H.step z
  have El:D.lst []=d:=by
   cases n with
   |zero=>exact aQ Q
   |succ n=>exact ae Q
  refine aR (n5 (wpAny_List (r7 ⟨eM _,aR (v_ (n5 ?_))⟩)));have f:C.Step a0 av a0 {av with heap:=av.heap.push {cls:=.type "list",data:=.seq ([]:List Value).toArray}}:=.heap z.ok (n:=av.toks) (a7 _) λb o e=>dn _ e;have l:=y.step f;have VY:(av.heap.push {cls:=.type "list",data:=.seq ([]:List Value).toArray}).get? av.heap.objs.size=some {cls:=.type "list",data:=.seq ([]:List Value).toArray}:=eW _ rfl;have nb:av.heap.get? av.heap.objs.size=none:=hh (a7 _);have L:Den C a0 (av.heap.push {cls:=.type "list",data:=.seq ([]:List Value).toArray}) B d (.ref av.heap.objs.size):=by rw[<-El];exact⟨_,[],rfl,y.bad.fresh (a7 _),⟨0,VY⟩,rfl⟩
  have IH:=z.acc H.ok H.bad N;refine bL IH.1 λh0 q=>ν q λus q=>bL q λkZ rk=>ν IH.2 λgC bl=>cu bl λXh inj xp=>?_;have Ew:gC=us:=(Eb rfl rfl Xh kZ).symm;rw[Ew] at inj xp;have j:=tf (h':=av.heap.push {cls:=.type "list",data:=.seq ([]:List Value).toArray}) kZ λo e=>dn _ e;have Y:=rk.grow (f.grow y.bad);have nM:us.length<=sizeLine:=Y.length▸aJ (O0 _ []) (by rw[v8,hr];exact aJ (H' _ _) O);have new:∀q∈us,q.2≠ .ref av.heap.objs.size:=λq r e=>ν (S5 rk q r) λd k=>ν (S7 (e▸k)) λo g=>jq (g.symm.trans nb);rw[oJ];refine wpAny_dictSet_pairs (knd:=C.dR) (r' _ _ _ _) j (λh' Z W=>cN (id Z) λo es ep r=>?_) nM;refine bL (l.GG Ψ off (NM j) W.extBut ⟨_,r.1⟩ (c9 av.toks)) λU I=>?_;have G:=U.grow l.bad l.bM;refine⟨a0,(z.trans f).m.trans U,I,⟨h0,_,Z,?_⟩,_,Z,λp j q r e=>?_,λp j b e=>?_⟩
  ·rw[<-ae he,List.filterMap_append];exact O1 [] _ i d▸(Y.grow G).stored (L.grow G)
  ·refine(Bi j).elim (λep=>(Bi r).elim (λeq=>by rw[ep,eq]) λP=>?_) λmp=>(Bi r).elim (λeq=>?_) λP=>inj p mp q P e
   ·rw[ep] at e;exact(new q P e.symm).elim
   ·rw[eq] at e;exact(new p mp e).elim
  ·refine(Bi j).elim (λep=>?_) λmp=>xp p mp b e;rw[ep] at e;rw[<-kE e];cases eQ:Ws.get? av.heap.objs.size with
   |none=>rfl
   |some o=>exact ν (ik _ o eQ) λbf aB=>ν ((z.m (M:=λγ=>False)).ex _ bf aB) λo'' Tj=>jq (Tj.symm.trans nb)
theorem Frame.off(H:Frame C M B K env α F σ s)(h:s.heap.get? a=none):Off env α σ a/\¬B a:=
 ⟨⟨λq=>ν H.ns λm y=>cN y λo γ γ k=>jq ((q▸k.1).symm.trans h),λx c κ q=>ν (H.gI x c κ) λw k=>ν k λo k=>jq ((q▸k.1).symm.trans h),λx d z q=>ν (H.vars x _ z) λv k=>OE k.2.2 (q▸h)⟩,
   λq=>ν (H.bad.some a q) λo e=>jq (e.symm.trans h)⟩
theorem aE.i9.Ju{W:Addr->Prop}(X:C.cV (λb=>M b∨W b) F s F' s')(Y:C.i9 M W F' s' fS cO):C.i9 M W F s fS cO where
 ok:=Y.ok
 keep:=λb o ω hm hw e=>Y.keep b o ω hm hw (X.keep b o ω (λq=>q.elim hm hw) e)
 ex:=λb o hw e=>let ⟨bf,aB⟩:=X.ex b o e;Y.ex b bf hw aB
 os:=Y.os.trans X.os
 θ:=λt x e=>Y.θ t x (X.θ t x e)
 toks:=aJ X.toks Y.toks
theorem dt.trans(X:dt F j B F' q B)(Y:dt F' q B fS y B):dt F j B fS y B:=
 ⟨λt x e=>Y.θ t x (X.θ t x e),λb o z e=>Y.keep b o z (X.keep b o z e),λγ γ z γ=>z⟩
theorem Iter.F_{St:Nat->Heap->Prop}(W:Iter C A B T I cQ wr ds hu h₀ St)(j:St i s.heap)(X:C.cV M F s F' s')
 (z:∀b∈cQ,¬M b/\b∉C.bo):St i s'.heap:=W.frame i _ _ j λb y o e=>X.keep b o (z b y).2 (z b y).1 e
def t5(C:aE)(A:Around)(c:cK)(sc:Scope)(pos:Pos)(gens:List Comprehension)(depth:Nat)(y:Addr)(env:Env)(Q:el)(E:cg)(s:Shared):Prop:=match gens[depth+1]? with
 |some z=>z.is_async=0/\(∀x,foldedSetIterable z.iter env x=pure x)/\wpAny C.M A (eval z.iter env) (λx q=>wpAny C.M A (pyIter x) (λit g=>wpAny C.M A (runOwn (.compStart (c.expr gens sc pos) (depth+1) it (.ref y) env) env) (λγ j=>Q j) E g) E q) E s
 |none=>wpAny C.M A (c.emit y env) (λγ s'=>Q s') E s
def TurnPost(N:el)(P:cg)(r:Option Value)(s:Shared):Prop:=match r with
 |none=>N s
 |some v=>P v s
theorem Iter.turn{T:Expr->Prop}{I:Addr}{cQ wr:List Addr}{hu:bc}{h₀:Heap}{St:Nat->Heap->Prop}(W:Iter C A B T I cQ wr ds hu h₀ St){i:Nat}{d:D}{t:Expr}(ω:T t)(hd:ds[i]? =some d)(z:St i s.heap)
 (y:dt hu h₀ B F s.heap B) (hw:∀b∈wr,B b) {E:cg} {N:el} {P:cg}
 (h:∀v h' a',qU C F h' B t d v->St (i+1) h'->(∀b o,b∉wr->s.heap.get? b=some o->h'.get? b=some o)->s.toks<=a'->P v {s with heap:=h',toks:=a'}):
 wpAny C.M A (pyNext (.ref I)) (TurnPost N λv av=>wpAny C.M A (letOwnedTupleGo t (.ref I) v) (λγ aN=>P v aN) E av) E s:=
 b8 (W.item i d t s F P E B (λb j=>.inl j) ω hd z y hw h) (λbE av q=>ν q λv q=>by rw[q.1];exact q.2) λγ γ x=>x
def PA(c:cK)(gens:List Comprehension)(sc:Scope)(pos:Pos)(depth:Nat)(it:Value)(y:Addr)(env:Env):Sem PySem.Fin:=do
 let some g:=gens[depth]? |unsupported "internal:comprehension-depth"
 standAt (if g.is_async !=0 then(c.expr gens sc pos).pos else g.iter.pos)
 match<-if g.is_async !=0 then asyncNext it else pyNext it with
 |none=>pure (.done .next)
 |some v=>
  letOwnedTupleGo g.target it v
  assign g.target env v
  let mut ok:=true
  for c in g.ifs do
   if ok then ok<-isTrue c env (eval c env)
  if ok then
   match gens[depth+1]? with
   |some z=>
    let x<-eval z.iter env
    standAt z.iter.pos
    let x<-if z.is_async !=0 then foldedIterable z.iter x else foldedSetIterable z.iter env x
    let _<-runOwn (.compStart (c.expr gens sc pos) (depth+1) (<-holding [x] (if z.is_async !=0 then asyncIter x else pyIter x)) (.ref y) env) env
   |none=>c.emit y env
  again (.compLoop (c.expr gens sc pos) depth it (.ref y) env)
theorem qdx c gens sc pos depth it z:C.M.den (.compLoop (c.expr gens sc pos) depth it (.ref z) env)=
 (PA c gens sc pos depth it z env).onRaise (λx=>do noteFrame x env;theTreesLotGoes x):=by cases c<;>rfl
abbrev t'(C:aE)(A:Around)(env:Env)(R:Result->el):cg:=notedBy C.M A env λe s'=>R (.error e) s'
theorem Kb{gens:List Comprehension}{depth:Nat}{g:Comprehension}{I y:Addr}{R:Result->el}(Z:gens[depth]? =some g)(W:g.is_async=0)
 (h:wpAny C.M A (pyNext (.ref I)) (TurnPost (λav=>R (.ok .next) av) λv av=>wpAny C.M A (letOwnedTupleGo g.target (.ref I) v) (λγ aN=>wpAny C.M A (assign g.target env v) (λγ p=>
   wpAny C.M A (forIn g.ifs true λc r=>if r=true then do let ok<-isTrue c env (eval c env);pure (ForInStep.yield ok) else pure (ForInStep.yield r)) (λok s₄=>
    if ok=true then t5 C A c sc pos gens depth y env (λj=>codeAny C.M A (.compLoop (c.expr gens sc pos) depth (.ref I) (.ref y) env) R j) (t' C A env R) s₄
    else codeAny C.M A (.compLoop (c.expr gens sc pos) depth (.ref I) (.ref y) env) R s₄) (t' C A env R) p) (t' C A env R) aN) (t' C A env R) av) (t' C A env R) s):
 codeAny C.M A (.compLoop (c.expr gens sc pos) depth (.ref I) (.ref y) env) R s:=by
 refine codeAny_of_tree ?_;rw[qdx,qdU];refine wpAny_noted ?_;unfold PA;rw[Z];dsimp only;rw[show(g.is_async !=0)=false by rw[W];rfl];refine aR (v_ (aR (b8 h (λr av t=>?_) λγ γ x=>x)));cases r with
 |none=>exact b7 t
 |some v=>
  refine aR (b8 t (λγ aN Y=>aR (b8 Y (λγ p l=>aR (b8 l (λok s₄ z=>?_) λγ γ x=>x)) λγ γ x=>x)) λγ γ x=>x);cases ok with
  |false=>exact b7 ⟨rfl,z⟩
  |true=>
   have z:t5 C A c sc pos gens depth y env (λj=>codeAny C.M A (.compLoop (c.expr gens sc pos) depth (.ref I) (.ref y) env) R j) (t' C A env R) s₄:=z;unfold t5 at z;show wpAny C.M A (match gens[depth+1]? with|some e=>_|none=>_) _ _ s₄;cases f:gens[depth+1]? with
   |none=>
    rw[f] at z;exact aR (b8 z (λγ j q=>b7 ⟨rfl,q⟩) λγ γ x=>x)
   |some e=>
    rw[f] at z;dsimp only;rw[show(e.is_async !=0)=false by rw[z.1];rfl];exact aR (b8 z.2.2 (λx j q=>aR (v_ (aR (wpAny_of_eq (z.2.1 x) (aR (n5 (b8 q (λit U i=>aR (b8 i (λγ V a=>b7 ⟨rfl,a⟩) λγ γ x=>x)) λγ γ x=>x))))))) λγ γ x=>x)
abbrev Hf(S:dH)(n:Nat)(K:Kinds)(c:cK)(gs:List Comprehension):Γ->Option (List D):=uA (λe z=>dj S (μ S n) K e z) (λc z=>b9 S n K c z) K (c.elt S n K) gs
abbrev AB(S:dH)(n:Nat)(K:Kinds)(c:cK)(g:Comprehension)(gs:List Comprehension):Γ->List D->Option (List D):=lQ (λc z=>b9 S n K c z) K g.target g.ifs (Hf S n K c gs)
def BodyOk(C:aE)(S:dH)(Ω n:Nat)(M:Addr->Prop)(K:Kinds)(env:Env)(α:Str->Addr)(c:cK)(sc:Scope)(pos:Pos)(gens:List Comprehension)(z:Addr)(gs:List Comprehension)(depth:Nat):Prop:=
 ∀(A:Around) (B:Addr->Prop) (σ:Γ) (F:bc) (s:Shared) (outs out:List D),a_ A (Ω+n)->Hf S n K c gs σ=some out->Off env α σ z->(∀x d,σ.get x=some (.own d)->¬M (α x))->
  Frame C M B K env α F σ s->Acc C F s.heap B c outs z->c.J s->outs.length+out.length<=sizeLine->∀(E:cg) (Q:el),
    (∀s',IQ C M B K env α F σ s c (outs++out) z s'->Q s')->t5 C A c sc pos gens depth z env Q E s
theorem uz(h:nB σ g=true):freeNames σ (targetNames g.target)=true/\g.is_async=0/\lb g.iter g.target=true:=⟨(band (band h).1).1,eq_of_beq (band (band h).1).2,(band h).2⟩
theorem drop_cons{X:Type}{l r:List X}{x:X}(h:l.drop i=x::r):l[i]? =some x/\l.drop (i+1)=r:=by
 have e:=List.getElem?_drop (xs:=l) (i:=i) (j:=0);rw[h] at e;exact⟨e.symm,by rw[<-List.drop_drop,h];rfl⟩
theorem J7(eB:iO C S Ω n)(aI:gens[depth]? =some g)
 (bQ:BodyOk C S Ω n M K env α c sc pos gens y gs depth) (κ:nB σ g=true) (t:Off env α σ y) (fc:∀x d,σ.get x=some (.own d)->¬M (α x))
   {St:Nat->Heap->Prop}
 (R:a_ A (Ω+n)) (W:Iter C A (λb=>B b∨b∈wr) T I cQ wr L hu h₀ St) (cW:T g.target) (mK:∀b∈cQ,¬M b/\b∉C.bo) (sT:C.et (λb=>b∈wr)) (uV:∀b∈C.bo,B b) (xP:∀a,M a->B a)
 (r:∀b∈wr,¬B b/\Off env α σ b/\b≠y):
 ∀ds i F s outs out R,
  L.drop i=ds->i<=L.length->AB S n K c g gs σ ds=some out->
  Frame C M (λb=>B b∨b∈wr) K env α F σ s->St i s.heap->dt hu h₀ (λb=>B b∨b∈wr) F s.heap (λb=>B b∨b∈wr)->Acc C F s.heap (λb=>B b∨b∈wr) c outs y->c.J s->outs.length+out.length<=sizeLine->
  (∀F' s',C.i9 M (λb=>b∈wr) F s F' s'->Frame C M B K env α F' σ s'->Acc C F' s'.heap B c (outs++out) y->R (.ok .next) s')->
  codeAny C.M A (.compLoop (c.expr gens sc pos) depth (.ref I) (.ref y) env) R s:=by
 have κ:=uz κ;intro ds
 induction ds with
 |nil=>
  intro i F s outs out e9 uO ρ he H j P dQ ik E Q;rw[mn ρ (Iq.mp uO)] at j;refine Kb aI κ.2.1 (W.done s _ _ j λh' a' p V=>Q F _ (.gone H.ok sT (W.yr j) p V) (H.leave sT uV xP (λb z=>⟨(r b z).1,(r b z).2.1.2⟩) (W.yr j) p V) ?_);rw[<-ae he,nd];exact dQ.grow ⟨λγ γ e=>e,λb o z e=>p b o (λq=>z (.inr q)) e,λb o z γ q=>z (.inl q)⟩ λo e=>p y o (λq=>(r y q).2.2 rfl) e
 |cons d ds aj=>
  intro i F s outs out e9 uO ρ he H j P dQ ik E Q;have hd:=drop_cons uO;have ee:i+1<=L.length:=xt hd.1;refine π (x:=iR K g.target d σ) he λσ' he z=>π he λb he ω=>?_;have hle:=RZ z κ.1;have Xb:Off env α σ' y:=⟨t.1,t.2.1,λx hS q=>t.2.2 x hS (z1 z q)⟩;refine Kb aI κ.2.1 (W.turn cW hd.1 j P (λb z=>.inr z) λv h' a' bz xZ p V=>?_);refine bL (H.change sT (λb z=>⟨.inr z,(r b z).2.1⟩) (W.yr j) p (W.ex xZ) V) λa4 aG=>?_;refine b8 (DM R.handled z a4 bz _) (λγ aN q=>cu q λbb Z k₂=>?_) λγ γ x=>x;have A0:St (i+1) aN.heap:=W.F_ (s:={s with heap:=h',toks:=a'}) xZ bb mK;have dU:∀o,s.heap.get? y=some o->aN.heap.get? y=some o:=λo e=>k₂ y o (t.1) (λx c κ=>gT (t.2.1 x c κ)) (p y o (λq=>(r y q).2.2 rfl) e);have Jk:C.cV (λb=>M b∨b∈wr) F s F aN:=aG.trans (bb.mono λb z=>.inl z);have p_:∀b,(M b∨b∈wr)->B b∨b∈wr:=λb z=>z.imp (xP b) id;refine Run.seq (qcW eB R ω Z.toSt) λok gX f U ag=>?_;rw[show ok=b from ag];have h7:=Z.step U;have rq:St (i+1) f.heap:=W.F_ A0 (U.m (M:=M)) mK;have O:=Jk.trans U.m;have IY:Acc C gX f.heap (λb=>B b∨b∈wr) c outs y:=U.acc Z.ok Z.bad (dQ.grow (Jk.grow H.bad p_) dU);have N:c.J f:=ik.ex O.ex;cases b with
  |false=>exact aj (i+1) gX f outs out e9 hd.2 ee he (h7.less hle) rq (P.trans (O.grow H.bad p_)) IY N E λF' s' Y=>Q F' s' (Y.Ju O)
  |true=>
   refine π (x:=Hf S n K c gs σ') he λN0 he ε=>π he λrest he η=>?_;rw[<-ae he,eL] at E;rw[au rfl];refine bQ A _ σ' gX f outs N0 R ε Xb (λx hS q=>fc x hS (z1 z q)) h7 IY N .l _ _ λs₄ q=>ν q λQu q=>cu q λou mx Qy=>?_;have Jl:=O.trans (ou.mono λb z=>Or.inl z)
   exact aj (i+1) Qu s₄ (outs++N0) rest e9 hd.2 ee η (mx.less hle) (W.F_ rq ou mK) (P.trans (Jl.grow H.bad p_)) Qy (N.ex ou.ex) (by rw[eL];lia) λF' s' Y eb wk=>
    Q F' s' (Y.Ju Jl) eb (by rw[<-ae he,<-ml];exact wk)
theorem R8(aw:cH C S Ω n){c:cK}{sc:Scope}{pos:Pos}{gens:List Comprehension}{z:Addr}(e:M z){depth:Nat}(y:gens[depth+1]? =none):BodyOk C S Ω n M K env α c sc pos gens z [] depth:=by
 intro A B σ F s outs out R he f r H p ik j E Q g;unfold t5;rw[y];exact b8 (TN aw R he H e f p ik (aJ (c8 _ _) j) E) (λγ s' q=>g s' q) λγ γ x=>x
theorem R7(G:C.Good)(O:dA C S Ω)(aw:cH C S Ω n)(eB:iO C S Ω n){c:cK}{sc:Scope}{pos:Pos}{gens:List Comprehension}{p:Addr}(f_:M p){depth:Nat}{g:Comprehension}{gs:List Comprehension}(t:gens[depth+1]? =some g)
 (bQ:BodyOk C S Ω n M K env α c sc pos gens p gs (depth+1)):BodyOk C S Ω n M K env α c sc pos gens p (g::gs) depth:=by
 intro A B σ F s outs out R he kY U H l ik N E Q L;refine aP (c:=nB σ g) he λhe κ=>π he λds he ε=>?_;have i:=uz κ;unfold t5;rw[t];refine⟨i.2.1,yb ε env,b8 (F6 (own:=λa=>∃x d,σ.get x=some (.own d)/\a=α x) G O aw R H.toSt (λx d e=>⟨x,d,e,rfl⟩) ε) (λx av gM=>b8 gM (λit aN hm=>cN hm λV I cQ hm=>cN hm λwr T St hm=>b2 hm λe X W hm=>b2 hm λZ cW j hm=>cu hm λrh P uP=>?_) λγ γ x=>x) λγ γ x=>x⟩;have cp:=H.enter X j λb z=>rh b (W.sub b z);have mK:∀b∈cQ,¬M b/\b∉C.bo:=λb z=>⟨λq=>(P b z).elim (λy=>ν (H.bad.some b (H.bM b q)) λo e=>aQ (y.symm.trans e)) λy=>y.elim (λy=>y (H.bM b q)) λy=>ai y λx d k=>U x d k.1 (k.2▸q),uP b z⟩;have zC:Acc C V aN.heap (λb=>B b∨b∈wr) c outs p:=ν (kr l.1) λo k=>l.grow ⟨X.θ,λb o z e=>X.keep b o (λω=>z (H.bad.bo b ω)) e,λb o z e q=>q.elim z λq=>aQ ((j b q).symm.trans e)⟩ λbf aB=>X.get H.ok aB (ae (k.1.symm.trans aB)▸k.2);rw[e];refine wpAny_runOwn ?_
 have loop:codeAny C.M A (.compLoop (c.expr gens sc pos) (depth+1) (.ref I) (.ref p) env) (λr s'=>match r with|.ok f=>Q s'|.error e=>cameBackBy C.M A env E e s') aN:=
  J7 eB t bQ κ kY U R W (cW _ i.2.2) mK (aE.et.of_none H.ok j) H.bad.bo H.bM (λb z=>⟨(H.off (j b z)).2,(H.off (j b z)).1,λq=>OE l.1 (q▸j b z)⟩) ds 0 V aN outs out _ rfl (eM _) he cp Z ⟨λγ γ e=>e,λγ γ γ e=>e,λγ γ z γ=>z⟩ zC (ik.ex (X.m (M:=M)).ex) N
   λF' s' Y eb wk=>L s' ⟨F',aE.i9.m X H.ok j Y,eb,wk⟩
 exact Ka t i.2.1 loop (W.self 0 aN _ _ Z loop)
theorem R6(G:C.Good)(O:dA C S Ω)(aw:cH C S Ω n)(p:iO C S Ω n){c:cK}{sc:Scope}{pos:Pos}{gens:List Comprehension}{z:Addr}(y:M z):
 ∀gs depth,gens.drop (depth+1)=gs->BodyOk C S Ω n M K env α c sc pos gens z gs depth:=by
 intro q
 induction q with
 |nil=>
  intro depth h;exact R8 aw y (qM (Iq.mp h))
 |cons g gs j=>
  intro depth h;exact R7 G O aw p y (drop_cons h).1 (j (depth+1) (drop_cons h).2)
noncomputable def cK.obj:cK->Obj
 |.list _=>{cls:=.type "list",data:=.seq ([]:List Value).toArray}
 |_=>{cls:=.type "dict",data:=.dict #[]}
noncomputable def cK.tree:cK->Sem Value
 |.list _=>newList []
 |_=>newDict
theorem qez{c:cK}{E:cg}{Q:cg}(h:Q (.ref s.heap.objs.size) {s with heap:=s.heap.push c.obj}):wpAny C.M A c.tree Q E s:=by
 cases c with
 |list _=>exact CI h
 |dict|nest=>
  show wpAny C.M A newDict Q E s;unfold newDict newObj;exact aR (wpAny_alloc (b7 h))
theorem Rc(c:cK)(h:Heap):(h.push c.obj).get? h.objs.size=some c.obj:=by
 cases c<;>exact eW _ rfl
theorem Du(z:h.get? a=some {cls:=.type "dict",data:=.dict #[]}):h.DictOf C.dR a []:=cN (Heap.DictOf.new (knd:=C.dR) h) λo es ep q=>⟨o,es,ep,z.trans (((eW h rfl).symm.trans q.1)),q.2⟩
theorem Rd(z:h.get? a=some c.obj)(hs:(a==sysModules)=false):Acc C F h B c [] a:=by
 cases c with
 |list _=>exact⟨⟨[],⟨0,z⟩,rfl⟩,trivial⟩
 |dict _ _=>exact⟨⟨hs,[],Du z,rfl⟩,trivial⟩
 |nest _ _ _=>exact⟨⟨hs,[],Du z,rfl⟩,[],Du z,λp y=>(nomatch y),λp y=>nomatch y⟩
theorem Sz(H:St C B K env α F σ s){sc:Scope}(z:closes K sc.names=true) n (h:(cellsFrom (n+1+1) sc.names (ij env sc.names [])).lookup x=some c):hz n sc.names c∨∃w,s.heap.IsCell c w:=by
 rw[w'] at h;refine(lookup_append h).elim (λh=>.inl (.inr (.inr ⟨x,lookup_mem h⟩))) λh=>(J5 _ _ _ _ (lookup_mem h.2)).elim (λq=>nomatch q) λq=>ai (H.cells x (sz z (x,.free) q.1 rfl)).1 λc w k=>.inr ⟨w,?_⟩;rw[q.2,k.1];exact k.2
theorem BD:(a∨b)∨c↔(a∨c)∨b:=⟨λq=>q.elim (λq=>q.elim (λa=>.inl (.inl a)) .inr) λc=>.inl (.inr c),λq=>q.elim (λq=>q.elim (λa=>.inl (.inl a)) .inr) λc=>.inl (.inr c)⟩
theorem D3(G:C.Good)(O:dA C S Ω)(aw:cH C S Ω n)(eB:iO C S Ω n)(R:a_ A (Ω+n))(H:St C B K env α F σ s){c:cK}{pos:Pos}{g:Comprehension}{gs:List Comprehension}{sc:Scope}{items out:List D}
 (dh:closes K sc.names=true) (jL:mX sc=true) (κ:nB (fH sc.names σ) g=true) (ε:dj S (μ S n) K g.iter σ=some items)
 (η:AB S n sc.names c g gs (fH sc.names σ) items=some out)
 (aq:out.length<=sizeLine) (ik:c.J s) {RR:Value->Addr->Result->el} {E:cg}
 (gz:∀F' s' a L (fm:Addr->Prop),C.Step F s F' s'->(∀b,fm b->s.heap.get? b=none)->(∀b,fm b->∃o,s'.heap.get? b=some o)->fm a->fm L->L≠a->(∃m,s'.heap.Ns L m)->Acc C F' s'.heap (λb=>B b∨fm b) c out a->RR (.ref a) L (.ok .next) s'):
 wpAny C.M A (eval g.iter env) (λx av=>wpAny C.M A (pyIter x) (λit aN=>wpAny C.M A c.tree (λacc dF=>
  wpAny C.M A (newFunctionEnv sc env.globals (ij env sc.names []) [] env.qual none .none (some env)) (λux s₄=>
   codeAny C.M A (.compStart (c.expr (g::gs) sc pos) 0 it acc {ux with scope:=relabel sc env}) (RR acc ux.locals) s₄) E dF) E aN) E av) E s:=by
 have g5:=uz κ;refine b8 (F6 (own:=λa=>∃x d,σ.get x=some (.own d)/\a=α x) G O aw R H (λx d e=>⟨x,d,e,rfl⟩) ε) (λx av gM=>b8 gM (λit aN hm=>cN hm λr I cQ hm=>cN hm λwr T zJ hm=>b2 hm λe X W hm=>b2 hm λbK cW p hm=>cu hm λU AL uP=>?_) λγ γ x=>x) λγ γ x=>x;have cp:=H.enter X p λb z=>U b (W.sub b z);rw[e];refine qez (qeC ?_);have dJ:(aN.heap.push c.obj).objs.size=aN.heap.objs.size+1:=hK ..;have i:=SD cp jL dh (Rc c aN.heap) (a7 aN.toks);refine cu i λt Fr i=>cu i λl Wg Wf=>?_;have p2:(λb=>(B b∨b∈wr)∨hz aN.heap.objs.size sc.names b)=(λb=>(B b∨hz aN.heap.objs.size sc.names b)∨b∈wr):=funext λb=>propext BD;rw[p2] at Fr;have Z:hz aN.heap.objs.size sc.names aN.heap.objs.size:=.inl rfl;have f:∀{P:Prop} b,hz aN.heap.objs.size sc.names b->∀o,aN.heap.get? b=some o->P:=λb z o e=>aQ ((l b z).symm.trans e);have V:∀x d,(fH sc.names σ).get x=some (.own d)->∃o,s.heap.get? (α x)=some o/\aN.heap.get? (α x)=some o:=λx d j=>ν (H.vars x _ (A' j).2) λv k=>ν (kr k.2.2) λo k=>⟨o,k.1,X.get H.ok k.1 k.2⟩;have Xc:Off (kb aN sc env) α (fH sc.names σ) aN.heap.objs.size:=⟨fQ (iH _),Wf,λx d j q=>ν (V x d j) λo k=>f _ Z o (q▸k.2)⟩;have fc:∀x d,(fH sc.names σ).get x=some (.own d)->¬hz aN.heap.objs.size sc.names (α x):=λx d j q=>ν (V x d j) λo k=>f _ q o k.2
 have Xd:∀b∈wr,¬(B b∨hz aN.heap.objs.size sc.names b)/\Off (kb aN sc env) α (fH sc.names σ) b/\b≠aN.heap.objs.size:=λb z=>ν (U b (W.sub b z)) λo y=>
  ⟨λq=>q.elim (λq=>ν (H.bad.some b q) λbf aB=>aQ ((p b z).symm.trans aB)) λq=>f b q o y,
    ⟨λq=>absurd (dz y) (e7.mpr (q▸c9 _)),λx c κ q=>(Sz H dh _ κ).elim (λhm=>f c hm o (q▸y)) λk=>ai k λw bf k=>aQ ((p b z).symm.trans (q▸k.1)),
      λx d j q=>ν (V x d j) λbf k=>aQ ((p b z).symm.trans (q▸k.1))⟩,fQ (dz y)⟩
 have mK:∀b∈cQ,¬hz aN.heap.objs.size sc.names b/\b∉C.bo:=λb z=>⟨λq=>ν (U b z) λo y=>f b q o y,uP b z⟩;have Jf:Iter C A (λb=>(B b∨hz aN.heap.objs.size sc.names b)∨b∈wr) T I cQ wr items r aN.heap zJ:=W.more λb z=>(BD.mp z).elim .inl λq=>.inr (l b q);have Q:zJ 0 (mD aN c.obj sc):=W.frame 0 _ _ bK λb z o y=>t.keep b o (uP b z) y
 have jJ:dt r aN.heap (λb=>(B b∨hz aN.heap.objs.size sc.names b)∨b∈wr) r (mD aN c.obj sc) (λb=>(B b∨hz aN.heap.objs.size sc.names b)∨b∈wr):=
  ⟨λγ γ e=>e,λb o z y=>t.keep b o (λω=>z (.inl (.inl (H.bad.bo b ω)))) y,λγ γ z γ=>z⟩
 have xB:=R6 (K:=sc.names) (env:=kb aN sc env) (α:=α) (M:=hz aN.heap.objs.size sc.names) (c:=c) (sc:=sc) (pos:=pos) (gens:=g::gs) G O aw eB Z gs 0 rfl
 have loop:=J7 eB (g:=g) (depth:=0) rfl xB κ Xc fc R Jf (cW _ g5.2.2) mK (aE.et.of_none H.ok p) (λb z=>.inl (H.bad.bo b z)) (λa Ψ=>.inr Ψ) Xd items 0 r _ [] out (RR (.ref aN.heap.objs.size) (kb aN sc env).locals) rfl (eM _) η Fr Q jJ (Rd Wg (Hx G X.ok)) ((ik.ex (X.m (M:=λγ=>False)).ex).ex (t.m (M:=λγ=>False)).ex) (aJ (gV (hr _)) aq)
  λF' s' Y N wk=>
   gz F' s' _ _ (hz aN.heap.objs.size sc.names) ((aE.i9.m (M:=hz aN.heap.objs.size sc.names) X H.ok p (aE.i9.after t.m Y)).step λb z=>k3 X H.ok (l b z)) (λb z=>k3 X H.ok (l b z)) (λb z=>N.bad.some b (.inr z)) Z (.inr (.inl rfl)) (i7 (iH _)) N.ns wk
 have ag:({scope:=relabel sc env,locals:=(aN.heap.push c.obj).objs.size,globals:=env.globals,cells:=cellsFrom ((aN.heap.push c.obj).objs.size+1) sc.names (ij env sc.names []),qual:=env.qual,func:=none,code:=env.code,frame:=env.frame,builtins:=env.builtins}:Env)=kb aN sc env:=by rw[dJ];rfl
 dsimp only;rw[ag,show(aN.heap.push c.obj).objs.size=(kb aN sc env).locals from dJ];exact Ka rfl g5.2.1 loop (Jf.self 0 _ _ _ Q loop)
theorem aE.Step.gone{W:Addr->Prop}(X:C.Step F s F' s')(ok:C.Ok F s)(hw:∀b,W b->s.heap.get? b=none)(j:∀b,W b->∀o,s'.heap.get? b=some o->d1 o)(y:∀b o,¬W b->s'.heap.get? b=some o->h'.get? b=some o){m:Nat}(hm:s'.toks<=m):C.Step F s F' {s' with heap:=h',toks:=m}:=
 (aE.i9.m (M:=λγ=>False) X ok hw (aE.i9.gone X.ok (aE.et.of_none ok hw) j y hm)).step λγ z=>z.elim
def wy(C:aE)(B:Addr->Prop)(F:bc)(s:Shared)(d:D)(v:Value)(s':Shared):Prop:=
 ∃F' a,C.Step F s F' s'/\v=.ref a/\s.heap.get? a=none/\fW C F' s'.heap (λb=>B b∨b=a) d a
def qS(C:aE)(A:Around)(B:Addr->Prop)(F:bc)(t:Sem Value)(d:D)(s:Shared):Prop:=∀E,wpAny C.M A t (wy C B F s d) E s
theorem fW.den(H:fW C F h B d a)(z:¬B a):Den C F h B d (.ref a):=by
 cases d with
 |lst ds=>exact ν H λvs q=>⟨a,vs,rfl,z,q⟩
 |aX ds=>exact ν H.2 λus q=>⟨a,us,rfl,z,H.1,q⟩
 |_=>exact H.elim
theorem wy.den(z:C.dZ B s)(H:wy C B F s d v s'):jx C F s (h6 C B d) v s':=
 ai H λF' a q=>⟨F',q.1,q.2.1▸(q.2.2.2.grow (F':=F') (B':=B) ⟨λγ γ e=>e,λγ γ γ e=>e,λb o y γ q=>y (.inl q)⟩ λγ e=>e).den λk=>ν (z.some a k) λo e=>aQ (q.2.2.1.symm.trans e)⟩
theorem qS.gives(z:C.dZ B s)(H:qS C A B F t d s):Gives C A B F t d s:=λE=>b8 (H E) (λv s' y=>y.den z) λγ γ x=>x
theorem KL(c:cK)(z:g.is_async=0):
 eval (c.expr (g::gs) sc pos) env=comprehension (c.expr (g::gs) sc pos) sc env (firstIterPos (g::gs) pos) c.tree false (eval g.iter env):=by
 obtain⟨t,it,ifs,a⟩:=g;rw[show a=0 from z];cases c with
 |list elt=>exact eval_ListComp ..
 |dict k v=>exact arm_eval_DictComp ..
 |nest k p γ=>exact arm_eval_DictComp ..
theorem DU(c:cK) gens sc pos:clausesOf (c.expr gens sc pos)=gens:=by cases c<;>rfl
theorem D1(h:jc S (μ S n) (b9 S n) K (c.elt S n sc.names) gens sc σ=some out):
 ∃g gs items,gens=g::gs/\closes K sc.names=true/\mX sc=true/\nB (fH sc.names σ) g=true/\dj S (μ S n) K g.iter σ=some items/\AB S n sc.names c g gs (fH sc.names σ) items=some out/\out.length<=sizeLine:=
 π h λg h z=>aP h λh κ=>π h λitems h ε=>π h λj h q=>aP h λh y=>by
  have e:=ae h;exact⟨g.1,g.2,items,mB z,(band (band κ).1).1,(band (band κ).1).2,(band κ).2,ε,e▸q,iw.mp (e▸y)⟩
theorem z8(G:C.Good)(O:dA C S Ω)(aw:cH C S Ω n)(Q:iO C S Ω n)(R:a_ A (Ω+n))(H:St C B K env α F σ s){c:cK}(ik:c.J s)
 (h:jc S (μ S n) (b9 S n) K (c.elt S n sc.names) gens sc σ=some out):qS C A B F (eval (c.expr gens sc pos) env) (c.acc out) s:=by
 intro E;refine cN (D1 h) λg gs items q=>b2 q λN t i q=>b2 q λκ ε I V=>?_;have k:=vC i;rw[N,KL c (uz κ).2.1];refine H9 (use:=none) (g:=g) (gs:=gs) (DU c _ _ _) (yb ε env) (z6 λp f hf=>ai (H.cells p.1 (sz t p f hf)).1 λc w q=>⟨c,q.1⟩) k.1 (λp f ζ=>by rw[k.2.2 p f,ζ]) ?_;refine D3 (RR:=λacc L=>compPost C.M A E none (wy C B F s (c.acc out)) acc L) G O aw Q R H t i κ ε I V ik λF' s' a L fm X l γ x r U P T=>ν P λm Z=>⟨m,Z,λh' y=>?_⟩
 exact⟨F',a,X.gone H.ok (W:=λb=>b=L) (λb z=>z▸l L r) (λb z=>z▸Bt Z) (λb o z j=>y.extBut b o z j) (a7 s'.toks),rfl,l a x,
  T.1.grow ⟨λγ γ e=>e,λb o z j=>y.extBut b o (λq=>z (.inr (q▸r))) j,λb o z γ q=>z (q.imp id λq=>q▸x)⟩ λo Y=>y.extBut a o (gT U) Y⟩
theorem args_eq{ao:Arguments}(h:(ao.posonlyargs.isEmpty&&ao.vararg.isNone&&ao.kwonlyargs.isEmpty&&ao.kw_defaults.isEmpty&&ao.kwarg.isNone&&ao.defaults.isEmpty)=true):ao=⟨[],ao.args,none,[],[],none,[]⟩:=by
 obtain⟨a,b,c,d,e,f,g⟩:=ao
 rw[show a=[] from gq.mp (band (band (band (band (band h).1).1).1).1).1,show c=none from vR.mp (band (band (band (band (band h).1).1).1).1).2,show d=[] from gq.mp (band (band (band (band h).1).1).1).2,
    show e=[] from gq.mp (band (band (band h).1).1).2,show f=none from vR.mp (band (band h).1).2,show g=[] from gq.mp (band h).2]
theorem Rp(h:DB ao=some a):∃q,ao=⟨[],[⟨a,none,q⟩],none,[],[],none,[]⟩:=
 aP h λh h0=>π h λy h ε=>aP h λh p=>⟨y.pos,by
  rw[args_eq h0,gx ε,<-ae h];obtain⟨j,z,g⟩:=y;rw[show z=none from vR.mp p]⟩
theorem Up(i:zG C S Ω n)(h:MP S (μ S n) K σ f args kw q=some d)(R:a_ A (Ω+n+1))(H:St C B K env α F σ s):
 Gives C A B F (eval (.Call f args (kw::q) p) env) d s:=
 aP h λh h0=>π h λg h ε=>π h λx h Z=>π h λkey h z=>π h λl h bu=>π h λa hf y=>ν (gH ε) λW ag=>ν (Rx bu) λU j=>ν (Rp y) λY t=>by
  obtain⟨r,e,V⟩:=kw;rw[ag,gx Z,gq.mp h0,show r=some key from z,show e=_ from j,t];exact i _ _ _ _ _ _ _ _ _ _ _ _ _ _ hf A env α B F s R H
theorem Uv(G:C.Good)(O:dA C S Ω)(aw:cH C S Ω n)(y:iO C S Ω n)(g:zL C S Ω n)(Z:zG C S Ω n):cH C S Ω (n+1):=by
 intro K e σ d h A env α B F s z H;have R:a_ A (Ω+n):=z.mono (c9 _);cases e with
 |Constant c U p=>exact T7 h H
 |Name x p=>exact Ub G O H h
 |Tuple es c p=>exact Ue aw R H h
 |List es p=>exact T' aw R H h
 |Dict ks vs p=>exact T8 G aw R H h
 |BinOp l op r p=>exact T4 aw R H h
 |UnaryOp op x p=>exact Ug aw R H h
 |IfExp t b o p=>exact T9 aw y R H h
 |Compare l ops rs p=>
  refine π (x:=dV ops) h λop h ε=>π h λr h W=>?_;rw[gx ε,gx W];exact T6 G O aw z H h
 |Subscript x i p=>exact Ud aw R H h
 |Call f args j p=>
  cases j with
  |nil=>
   refine b' (a:=(asName f).bind λx=>w_ S (μ S n) K σ x args) h (λh=>π h λx h V=>ν (gH V) λq e=>?_) λh=>π h λa h Y=>?_
   ·rw[e];exact T5 G O aw g z H h
   ·rw[wO Y];exact Ua G O aw R H h
  |cons kw j=>exact Up Z h z H
 |ListComp elt gens sc p=>exact π (x:=jc S (μ S n) (b9 S n) K ((cK.list elt).elt S n sc.names) gens sc σ) h λout h ε=>ae h▸(z8 (c:=.list elt) G O aw y R H trivial ε).gives H.bad
 |DictComp k v gens sc p=>exact π (x:=jc S (μ S n) (b9 S n) K ((cK.dict k v).elt S n sc.names) gens sc σ) h λout h ε=>ae h▸(z8 (c:=.dict k v) G O aw y R H trivial ε).gives H.bad
 |_=>exact aQ h
theorem Uh(G:C.Good)(O:dA C S Ω)(y:∀n,cH C S Ω n->zL C S Ω n)(j:∀n,cH C S Ω n->zG C S Ω n) n:cH C S Ω n/\iO C S Ω n:=by
 induction n using Nat.strongRecOn with
 |ind n z=>
  cases n with
  |zero=>exact⟨λK e σ d h=>aQ h,λK e σ b h=>aQ h⟩
  |succ n=>
   have ε:=z n (iH _);exact⟨Uv G O ε.1 ε.2 (y n ε.1) (j n ε.1),qdf G O (λm hm=>(z m (qG hm)).1) λm hm=>(z m (qG hm)).2⟩
theorem ZR(aw:cH C S Ω n)(R:a_ A (Ω+n))(H:St C B K env α F σ s)(h:μ S (n+1) K (.List es p) σ=some d):
 qS C A B F (eval (.List es p) env) d s:=
 π (x:=each (λa=>μ S n K a σ) es) h λds h ε=>aP h λh ζ=>λE=>wpAny_List (Run.seq (sI aw R ε H) λvs a0 av z y=>⟨y.length▸iw.mp ζ,a0,av.heap.objs.size,
  z.trans (.heap z.ok (n:=av.toks) (a7 _) λb o e=>dn _ e),rfl,k3 z H.ok (hh (a7 _)),ae h▸⟨vs,⟨0,eW _ rfl⟩,
     y.grow ⟨λγ γ e=>e,λb o γ e=>dn _ e,λb o j e q=>q.elim j λq=>lz _ (q▸dz e)⟩⟩⟩)
theorem ZQ(G:C.Good)(aw:cH C S Ω n)(R:a_ A (Ω+n))(H:St C B K env α F σ s)
 (h:μ S (n+1) K (.Dict ks vs p) σ=some d):qS C A B F (eval (.Dict ks vs p) env) d s:=
 aP (c:=decide (ks.length<=15)) h λh ζ=>π h λao h ε=>λE=>Run.seq (Kl G aw R H (cU ζ) ε) λv a0 av X q=>⟨a0,_,X,q.1,hh (a7 _),ae h▸ν q.2 λus k=>⟨Hx G H.ok,us,k.1,
  k.2⟩⟩
theorem ZS(G:C.Good)(O:dA C S Ω)(aw:cH C S Ω n)(R:a_ A (Ω+n))(H:St C B K env α F σ s)(hf:(eY e).bind (λc=>oP S K σ c.1)=some "list")(h:μ S (n+1) K e σ=some d):qS C A B F (eval e env) d s:=
 π hf λc ω κ=>ai (wR κ) λp q ag=>by
  rw[ag] at h⊢;have y:=xv ω;refine b' (a:=(asName (.Name c.1 q)).bind λx=>w_ S (μ S n) K σ x c.2) h (λh=>π (x:=glob S K σ c.1) h λf9 h r=>?_) λh=>aQ h;rw[ae (r.symm.trans y)] at h;change alt (aS (("list" :String)=="tuple") (HH S (μ S n) K σ c.2)) ((each (λa=>operand (μ S n) K a σ) c.2).bind λds=>rT "list" ds)=some d at h;refine b' h (λh=>aP h λh q=>absurd q .d) λh=>π h λds h ε=>b' (a:=aS (("list" :String)=="int") ((dV ds).bind λd=>(hv d).bind truncF)) h (λh=>aP h λh q=>absurd q .d) λh=>aP h λh γ=>π h λw h hw=>π h λl h ζ=>aP h λh g=>?_;refine λE=>r6 (md G O H y λv e=>?_);rw[show v=.type "list" from e];refine Dz aw R H ε (λe=>by rw[e] at hw;exact aQ hw) λvs a0 av z f=>ν (o9 hw f) λv q=>ai (q.2.kp ζ) λa us k=>cu k λe hd ζ=>?_;have j:=(H.step z).bad;rw[q.1,e,<-ae h];exact M3 z.ok hd ζ g λh' X i=>⟨a0,_,z.trans X,rfl,k3 z H.ok (hh (a7 _)),us,i,ζ.grow ⟨(X.grow j).θ,(X.grow j).keep,λb o t e q=>q.elim t λq=>aQ ((hh (gV q.symm)).symm.trans e)⟩⟩
theorem ZT(G:C.Good)(O:dA C S Ω)(aw:cH C S Ω n)(z:iO C S Ω n)(R:a_ A (Ω+n))(H:St C B K env α F σ s)(hf:uJ S K σ e=true)(h:μ S (n+1) K e σ=some d):qS C A B F (eval e env) d s:=by
 refine(m6.mp hf).elim (λhf=>?_) λhf=>ZS G O aw R H (eq_of_beq hf) h;cases e with
 |ListComp elt gens sc p=>exact π (x:=jc S (μ S n) (b9 S n) K ((cK.list elt).elt S n sc.names) gens sc σ) h λout h ε=>ae h▸z8 (c:=.list elt) G O aw z R H trivial ε
 |DictComp k v gens sc p=>exact π (x:=jc S (μ S n) (b9 S n) K ((cK.dict k v).elt S n sc.names) gens sc σ) h λout h ε=>ae h▸z8 (c:=.dict k v) G O aw z R H trivial ε
 |List es p=>exact ZR aw R H h
 |Dict ks vs p=>exact ZQ G aw R H h
 |_=>exact jo hf
end
section
variable{a5:List Str}{C:aE}{S:dH}{A:Around}{B B':Addr->Prop}{M fm:Addr->Prop}{F F' fS fw oj:bc}{s s' cO s1 s2:Shared}{h h':Heap}{u v:Value}{k Ω n:Nat}{K:Kinds}{env:Env}{α cI fR zy:Str->Addr}{σ σ' σ1 od:Γ}
theorem Frame.rebase(H:Frame C M B K env α F σ s)(y:∀b,B' b->B b)(bo:∀b∈C.bo,B' b)(free:C.et fm)(bM:∀a,fm a->B' a)(gO:fm env.locals)(nQ:∀x c,env.cells.lookup x=some c->fm c):Frame C fm B' K env α F σ s:=
 {ok:=H.ok,bad:=⟨bo,λb z=>H.bad.some b (y b z),λb z=>H.bad.new b (y b z)⟩,kind:=H.kind,glob:=H.glob,blt:=H.blt,code:=H.code,gh:=H.gh,cells:=H.cells,nm:=H.nm
  vars:=λx lv e=>ν (H.vars x lv e) λv q=>⟨v,q.1,q.2.to ⟨λγ γ e=>e,λγ γ γ e=>e,λb γ z γ q=>z (y b q)⟩ λγ γ γ e=>e⟩
  free:=free,bM:=bM,ns:=H.ns,gO:=gO,loc:=H.loc,fD:=λx e=>⟨(H.fD x e).1,ν (H.fD x e).2 λc q=>⟨c,q.1,nQ x c q.1⟩⟩,gI:=H.gI,gc:=H.gc,inj:=H.inj,e3:=H.e3}
def a8(env:Env)(α:Str->Addr)(σ:Γ)(a:Addr):Prop:=a=env.locals∨(∃x,env.cells.lookup x=some a)∨(∃x d,σ.get x=some (.own d)/\a=α x)
theorem a8.own(h:σ.get x=some (.own d)):a8 env α σ (α x):=.inr (.inr ⟨x,d,h,rfl⟩)
structure bF(C:aE)(aF:Addr->Prop)(K:Kinds)(env:Env)(ay:bc)(s0:Shared)(α:Str->Addr)(F:bc)(σ:Γ)(s:Shared):Prop where
 fr:Frame C (a8 env α σ) (λb=>aF b∨a8 env α σ b) K env α F σ s
 base:C.Step ay s0 F s
 new:∀b,a8 env α σ b->s0.heap.get? b=none
 dist:∀x y d e,σ.get x=some (.own d)->σ.get y=some (.own e)->x≠y->α x≠α y
 bo:∀b∈C.bo,aF b
 nb:∀b,a8 env α σ b->¬aF b
structure gY(C:aE)(a5:List Str)(env:Env)(α:Str->Addr)(F:bc)(σ:Γ)(s:Shared)(fR:Str->Addr)(fw:bc)(σ1:Γ)(s1:Shared):Prop where
 keep:∀b o,b∉C.bo->¬a8 env α σ b->s.heap.get? b=some o->s1.heap.get? b=some o
 mono:∀b,a8 env fR σ1 b->a8 env α σ b∨s.heap.get? b=none
 θ:∀t x,F t=some x->fw t=some x
 same:∀y e,σ1.get y=some (.own e)->a5.contains y=true∨(∃aB,σ.get y=some (.own aB))/\fR y=α y
def Out(C:aE)(a5:List Str)(aF:Addr->Prop)(K:Kinds)(env:Env)(ay:bc)(s0:Shared)(α:Str->Addr)(F:bc)(σ:Γ)(s:Shared)(σ':Γ)(s':Shared):Prop:=
 ∃cI F',bF C aF K env ay s0 cI F' σ' s'/\gY C a5 env α F σ s cI F' σ' s'
variable{aF B1:Addr->Prop}{ay:bc}{s0:Shared}
theorem gY.refl:gY C a5 env α F σ s α F σ s:=⟨λγ γ γ γ e=>e,λγ h=>.inl h,λγ γ e=>e,λy e q=>.inr ⟨⟨e,q⟩,rfl⟩⟩
theorem gY.trans(X:gY C a5 env α F σ s fR fw σ1 s1)(ok:C.Ok fw s1)(Y:gY C a5 env fR fw σ1 s1 zy oj od s2):gY C a5 env α F σ s zy oj od s2:=by
 refine⟨λb o ω hm e=>Y.keep b o ω (λq=>(X.mono b q).elim hm λr=>aQ (r.symm.trans e)) (X.keep b o ω hm e),λb j=>(Y.mono b j).elim (X.mono b) λq=>?_,λt x e=>Y.θ t x (X.θ t x e),λy e q=>(Y.same y e q).elim .inl λr=>ν r.1 λaB z=>(X.same y aB z).imp id λx=>⟨x.1,r.2.trans x.2⟩⟩
 by_cases hm:a8 env α σ b
 ·exact .inl hm
 ·cases e:s.heap.get? b with
  |none=>exact .inr rfl
  |some o=>
   by_cases ω:b∈C.bo
   ·exact ν (bV.mp ω) λp k=>ν (ok.there k.1).2 λbf g=>aQ (q.symm.trans (k.2▸g))
   ·exact aQ (q.symm.trans (X.keep b o ω hm e))
theorem gY.out(X:gY C a5 env α F σ s fR fw σ1 s1)(H:bF C aF K env ay s0 fR fw σ1 s1):Out C a5 aF K env ay s0 α F σ s σ1 s1:=⟨fR,fw,H,X⟩
theorem aE.Step.link(X:C.Step F s F' s'):gY C a5 env α F σ s α F' σ s':=⟨λb o ω γ e=>X.keep b o ω e,λγ h=>.inl h,X.θ,λy e q=>.inr ⟨⟨e,q⟩,rfl⟩⟩
theorem Out.trans(X:gY C a5 env α F σ s fR fw σ1 s1)(ok:C.Ok fw s1)(H:Out C a5 aF K env ay s0 fR fw σ1 s1 σ' s'):Out C a5 aF K env ay s0 α F σ s σ' s':=
 ai H λcI F' q=>(X.trans ok q.2).out q.1
theorem bF.RO(H:bF C aF K env ay s0 α F σ s):C.dZ aF s:=⟨H.bo,λb z=>H.fr.bad.some b (.inl z),λb z=>H.fr.bad.new b (.inl z)⟩
theorem bF.step(H:bF C aF K env ay s0 α F σ s)(X:C.Step F s F' s'):bF C aF K env ay s0 α F' σ s':=⟨H.fr.step X,H.base.trans X,H.new,H.dist,H.bo,H.nb⟩
theorem Out.refl(H:bF C aF K env ay s0 α F σ s):Out C a5 aF K env ay s0 α F σ s σ s:=gY.refl.out H
theorem Out.after(X:C.Step F s F' s')(H:Out C a5 aF K env ay s0 α F' σ s' σ' cO):Out C a5 aF K env ay s0 α F σ s σ' cO:=Out.trans X.link X.ok H
theorem a8.mono(h:∀x d,σ.get x=some (.own d)->∃d',σ'.get x=some (.own d'))(H:a8 env α σ b):a8 env α σ' b:=
 Or.imp id (Or.imp id λq=>ai q λx d q=>ν (h x d q.1) λd' e=>⟨x,d',e,q.2⟩) H
theorem bF.make(aY:C.Ok ay s0)(Fr:Frame C M B K env α F σ s)(z:∀b,aF b∨a8 env α σ b->B b)(base:C.Step ay s0 F s)(new:∀b,a8 env α σ b->s0.heap.get? b=none)
 (dist:∀x y d e,σ.get x=some (.own d)->σ.get y=some (.own e)->x≠y->α x≠α y) (bo:∀b∈C.bo,aF b) (nb:∀b,a8 env α σ b->¬aF b):bF C aF K env ay s0 α F σ s:=
 ⟨Fr.rebase z (λb j=>.inl (bo b j)) (aE.et.of_none aY new) (λa q=>.inr q) (.inl rfl) (λx c κ=>.inr (.inl ⟨x,κ⟩)),base,new,dist,bo,nb⟩
theorem bF.BA(H:bF C aF K env ay s0 α F σ s)(aY:C.Ok ay s0){W:Addr->Prop}(X:C.Step F s F' s')(i:∀b,W b->s.heap.get? b=none)(Y:C.cV (a8 env α σ) F' s' fS cO)(Fr:Frame C M B K env cI fS σ' cO)(O:∀b,(aF b∨a8 env α σ b)∨W b->B b)
 (p:∀y e,σ'.get y=some (.own e)->(a5.contains y=true/\W (cI y))∨(∃aB,σ.get y=some (.own aB))/\cI y=α y) (N:∀y z e aB,σ'.get y=some (.own e)->σ'.get z=some (.own aB)->y≠z->W (cI y)->W (cI z)->cI y≠cI z)
 (U:∀b,B1 b->aF b∨W b) (Z:∀b∈C.bo,B1 b) (R:∀y e,σ'.get y=some (.own e)->W (cI y)->¬B1 (cI y)):bF C B1 K env ay s0 cI fS σ' cO/\gY C a5 env α F σ s cI fS σ' cO:=
 have there:∀{P:Prop} {b},a8 env α σ b->W b->P:=λhm hw=>ν (H.fr.bad.some _ (.inr hm)) λo e=>aQ ((i _ hw).symm.trans e)
 have sub:∀b,a8 env cI σ' b->a8 env α σ b∨∃y e,σ'.get y=some (.own e)/\b=cI y/\W b:=λb j=>mj j (λq=>.inl (.inl q)) λq=>q.elim (λq=>.inl (.inr (.inl q))) λq=>ai q λy e q=>
  (p y e q.1).elim (λw=>.inr ⟨y,e,q.1,q.2,q.2▸w.2⟩) λr=>.inl (ν r.1 λaB g=>.inr (.inr ⟨y,aB,g,q.2.trans r.2⟩))
 have f:∀b,a8 env cI σ' b->a8 env α σ b∨W b:=λb j=>(sub b j).imp id λq=>ai q λγ γ q=>q.2.2
 ⟨bF.make aY Fr (λb j=>O b (j.elim (λq=>(U b q).imp .inl id) λq=>(f b q).imp .inr id)) (((H.base.trans X).m.trans Y).step H.new) (λb j=>(f b j).elim (H.new b) λq=>k3 H.base aY (i b q))
   (λy z e aB ε V T=>(p y e ε).elim (λw=>(p z aB V).elim (λL=>N y z e aB ε V T w.2 L.2) λr q=>ν r.1 λl g=>there (a8.own g) (r.2▸q▸w.2)) λr=>(p z aB V).elim (λw q=>ν r.1 λl g=>there (a8.own g) (r.2▸q▸w.2)) λQ=>
     ν r.1 λag g=>ν Q.1 λl a=>r.2▸Q.2▸H.dist y z ag l g a T) Z
   λb j q=>(sub b j).elim (λm=>(U b q).elim (H.nb b m) (there m)) λk=>ai k λy e k=>R y e k.1 (k.2.1▸k.2.2) (k.2.1▸q),
   λb o ω hm e=>Y.keep b o ω hm (X.keep b o ω e),λb j=>(f b j).imp id (i b),λt x e=>Y.θ t x (X.θ t x e),λy e q=>(p y e q).imp (λw=>w.1) id⟩
theorem bF.GY(H:bF C aF K env ay s0 α F σ s)(aY:C.Ok ay s0)(j:∀x d,σ'.get x=some (.own d)->σ.get x=some (.own d))(X:C.cV (a8 env α σ) F s F' s')(Fr:Frame C (a8 env α σ) (λb=>aF b∨a8 env α σ b) K env α F' σ' s'):Out C a5 aF K env ay s0 α F σ s σ' s':=
 bL (H.BA aY (W:=λγ=>False) (.refl H.fr.ok) (λγ q=>q.elim) X Fr (λb q=>q.elim id False.elim) (λy e q=>.inr ⟨⟨e,j y e q⟩,rfl⟩) (λγ γ γ γ γ γ γ q=>q.elim) (λγ=>.inl) H.bo λγ γ γ q=>q.elim) λz L=>L.out z
theorem VC:σ.freeze.get x=(σ.get x).bind λv=>v.d.map .val:=by
 unfold Γ.freeze
 induction σ with
 |nil=>rfl
 |cons p r z=>
  obtain⟨y,w⟩:=p;rw[bN,Γ.jG,Γ.jG]
  by_cases h:x=y
  ·rw[au h,au h]
  ·rw[ar h,ar h];exact z
theorem iJ.val{d:D}(hd:lv.d=some d)(G:dt F h B F' h' B')(k:∀o,h.get? (α x)=some o->h'.get? (α x)=some o)(z:lv=.own d->¬B' (α x))(H:iJ C F h B α x lv v):Den C F' h' B' d v:=by
 cases lv with
 |val d'=>exact ae hd▸Den.grow G H
 |own d'=>rw[ae (show some d'=some d from hd)] at z H;exact H.1▸(H.2.grow G k).den (z rfl)
 |gn ks=>exact jq hd.symm
theorem bF.frozen(H:bF C aF K env ay s0 α F σ s):St C aF K env α F σ.freeze s:=
 have G:dt F s.heap (λb=>aF b∨a8 env α σ b) F s.heap aF:=⟨λγ γ e=>e,λγ γ γ e=>e,λb γ y γ q=>y (.inl q)⟩
 have get:∀{P:Prop} {x lv},σ.freeze.get x=some lv->(∀l d,σ.get x=some l->l.d=some d->lv=.val d->P)->P:=λ{P x lv} e k=>by
  rw[VC] at e;exact π e λl e z=>ν (Option.map_eq_some_iff.mp e) λd q=>k l d z q.1 q.2.symm
 ⟨H.fr.ok,H.RO,H.fr.kind,H.fr.glob,H.fr.blt,H.fr.code,H.fr.gh,H.fr.cells,λx lv e=>get e λl d z γ γ=>H.fr.nm x l z,λx lv e=>get e λl d z hd aB=>ν (H.fr.vars x l z) λv q=>⟨v,q.1,by
   rw[aB];exact q.2.val hd G (λγ e=>e) λe=>H.nb _ (a8.own (e▸z))⟩⟩
theorem qC(q:(σ.set x (.val d)).get y=some (.own e)):y≠x/\σ.get y=some (.own e):=(Γ.jH q).elim (λq=>nomatch q.2) id
theorem bF.qdX(H:bF C aF K env ay s0 α F σ s)(aY:C.Ok ay s0)(g:σ.get x=some (.own d)):bF C aF K env ay s0 α F (σ.set x (.val d)) s:=by
 have sub:∀b,a8 env α (σ.set x (.val d)) b->a8 env α σ b:=λb j=>a8.mono (λy e q=>⟨e,(qC q).2⟩) j;have f:¬a8 env α (σ.set x (.val d)) (α x):=λq=>mj q (H.fr.e3 x d g).1 λq=>q.elim (λq=>ν q λy q=>(H.fr.e3 x d g).2 y _ q rfl) λq=>ai q λy e q=>H.dist y x e d (qC q.1).2 g (qC q.1).1 q.2.symm;have G:dt F s.heap (λb=>aF b∨a8 env α σ b) F s.heap (λb=>aF b∨a8 env α (σ.set x (.val d)) b):=⟨λγ γ e=>e,λγ γ γ e=>e,λb γ j γ q=>j (q.imp id (sub b))⟩;have fr:=H.fr
 exact⟨{ok:=fr.ok,bad:=⟨λb r=>.inl (H.bo b r),λb j=>fr.bad.some b (j.imp id (sub b)),λb j=>fr.bad.new b (j.imp id (sub b))⟩,kind:=fr.kind,glob:=fr.glob,blt:=fr.blt,code:=fr.code,gh:=fr.gh,cells:=fr.cells
        nm:=λy lv e=>(Γ.jH e).elim (λq=>q.1▸fr.nm x _ g) λq=>fr.nm y lv q.2
        vars:=λy lv e=>(Γ.jH e).elim (λq=>ν (fr.vars x _ g) λv k=>⟨v,q.1.symm▸k.1,by rw[q.1,q.2];exact k.2.val rfl G (λγ e=>e) λγ q=>q.elim (H.nb _ (a8.own g)) f⟩) λq=>ν (fr.vars y lv q.2) λv k=>⟨v,k.1,k.2.to G λγ γ γ e=>e⟩
        free:=aE.et.of_none aY λa p=>H.new a (sub a p),bM:=λa p=>.inr p,ns:=fr.ns,gO:=.inl rfl,loc:=fr.loc,fD:=λy e=>⟨(fr.fD y e).1,ν (fr.fD y e).2 λc q=>⟨c,q.1,.inr (.inl ⟨y,q.1⟩)⟩⟩,gI:=fr.gI,gc:=fr.gc,inj:=fr.inj,e3:=λy e q=>fr.e3 y e (qC q).2},
  H.base,λb j=>H.new b (sub b j),λy z e aB ε t=>H.dist y z e aB (qC ε).2 (qC t).2,H.bo,λb j=>H.nb b (sub b j)⟩
theorem bF.enter{wr:List Addr}(H:bF C aF K env ay s0 α F σ s)(aY:C.Ok ay s0)(X:C.Step F s F' s')(hw:∀b∈wr,s.heap.get? b=none)(he:∀b∈wr,∃o,s'.heap.get? b=some o):bF C (λb=>aF b∨b∈wr) K env ay s0 α F' σ s':=
 bF.make aY (H.fr.enter (W:=λb=>b∈wr) X hw he) (λb=>BD.mp) (H.base.trans X) H.new H.dist (λb y=>.inl (H.bo b y)) λb z q=>q.elim (H.nb b z) λq=>ν (H.fr.bad.some b (.inr z)) λo e=>aQ ((hw b q).symm.trans e)
theorem bF.HW{wr:List Addr}(H:bF C (λb=>aF b∨b∈wr) K env ay s0 α F σ s)(z:b∈wr):¬a8 env α σ b/\Off env α σ b:=
 have hm:¬a8 env α σ b:=λq=>H.nb b q (.inr z)
 ⟨hm,λq=>hm (.inl q),λx c κ q=>hm (.inr (.inl ⟨x,q▸κ⟩)),λx d y q=>hm (.inr (.inr ⟨x,d,y,q.symm⟩))⟩
theorem bF.moved{wr:List Addr}(H:bF C (λb=>aF b∨b∈wr) K env ay s0 α F σ s)(y:∀b∈wr,s0.heap.get? b=none)(aY:C.Ok ay s0)(q:∀b∈wr,∀o,s.heap.get? b=some o->d1 o)(j:∀b o,b∉wr->s.heap.get? b=some o->h'.get? b=some o)(he:∀b∈wr,∃o,h'.get? b=some o)(hm:s.toks<=m):
 bF C (λb=>aF b∨b∈wr) K env ay s0 α F σ {s with heap:=h',toks:=m}:=
 bL (H.fr.change (aE.et.of_none aY y) (λb z=>⟨.inl (.inr z),(H.HW z).2⟩) q j he hm) λFr X=>⟨Fr,(H.base.m.trans X).step λb z=>z.elim (H.new b) (y b),H.new,H.dist,H.bo,H.nb⟩
theorem bF.leave{wr:List Addr}(H:bF C (λb=>aF b∨b∈wr) K env ay s0 α F σ s)(g:∀b∈wr,s0.heap.get? b=none)(f:∀b∈wr,¬aF b)(bo:∀b∈C.bo,aF b)(aY:C.Ok ay s0)(e:∀b∈wr,∀o,s.heap.get? b=some o->d1 o)(p:∀b o,b∉wr->s.heap.get? b=some o->h'.get? b=some o)(hm:s.toks<=m):
 bF C aF K env ay s0 α F σ {s with heap:=h',toks:=m}:=
 have Fr:Frame C (a8 env α σ) (λb=>(aF b∨a8 env α σ b)∨b∈wr) K env α F σ s:=H.fr.rebase (λb=>BD.mp) (λb y=>.inl (.inl (bo b y))) (aE.et.of_none aY H.new) (λa j=>.inl (.inr j)) (.inl rfl) (λx c κ=>.inr (.inl ⟨x,κ⟩))
 ⟨Fr.leave (aE.et.of_none aY g) (λb y=>.inl (bo b y)) (λa j=>.inr j) (λb z=>⟨λq=>q.elim (f b z) (H.HW z).1,(H.HW z).2.2⟩) e p hm,H.base.gone aY (W:=λb=>b∈wr) g e p hm,H.new,H.dist,bo,λb z q=>H.nb b z (.inl q)⟩
end
section
variable{a5:List Str}{C:aE}{S:dH}{A:Around}{B B':Addr->Prop}{M fm:Addr->Prop}{F F' fS:bc}{s s' cO:Shared}{h h':Heap}{u v:Value}{k Ω n:Nat}{K:Kinds}{env:Env}{α:Str->Addr}{σ σ':Γ}{aF:Addr->Prop}{ay:bc}{s0:Shared}
def fx(C:aE)(a5:List Str)(aF:Addr->Prop)(K:Kinds)(env:Env)(ay:bc)(s0:Shared)(α:Str->Addr)(F:bc)(σ:Γ)(s:Shared)(θ:cw)(σ':Γ)(f:Flow)(s':Shared):Prop:=match θ with
 |.next=>f=.next/\Out C a5 aF K env ay s0 α F σ s σ' s'
 |.ret d=>∃v F',f=.ret v/\C.Step ay s0 F' s'/\Den C F' s'.heap aF d v
def De(C:aE)(S:dH)(Ω n:Nat):Prop:=∀(own:List Str) (K:Kinds) (st:Stmt) (σ σ':Γ) (θ:cw),aK S n own K st σ=some (σ',θ)->
 ∀(A:Around) (env:Env) (α:Str->Addr) (aF:Addr->Prop) (ay:bc) (s0:Shared) (F:bc) (s:Shared),a_ A (Ω+n)->C.Ok ay s0->bF C aF K env ay s0 α F σ s->
  ∀E,wpAny C.M A (exec st env) (fx C own aF K env ay s0 α F σ s θ σ') E s
def pA(C:aE)(S:dH)(Ω n:Nat):Prop:=∀(own:List Str) (K:Kinds) (z:List Stmt) (σ σ':Γ) (θ:cw),bw S n own K z σ=some (σ',θ)->
 ∀(A:Around) (env:Env) (α:Str->Addr) (aF:Addr->Prop) (ay:bc) (s0:Shared) (F:bc) (s:Shared),a_ A (Ω+n)->C.Ok ay s0->bF C aF K env ay s0 α F σ s->
  ∀E,wpAny C.M A (execs z env) (fx C own aF K env ay s0 α F σ s θ σ') E s
theorem bF.O4(H:bF C aF K env ay s0 α F σ s)(aY:C.Ok ay s0)(hs:storeOk K x=true)(z:Den C F s.heap (λb=>aF b∨a8 env α σ b) d v):
 ∀E,wpAny C.M A (storeName env x v) (λγ s'=>Out C a5 aF K env ay s0 α F σ s (σ.set x (.val d)) s') E s:=λE=>
 yY (lv:=.val d) H.fr hs α (λγ γ=>rfl) z nofun λs' X Fr γ γ=>H.GY aY (λy e q=>(qC q).2) X Fr
noncomputable def at_(α:Str->Addr)(x:Str)(a:Addr):Str->Addr:=λy=>if y=x then a else α y
theorem lI:at_ α x a x=a:=au rfl
theorem jC(h:y≠x):at_ α x a y=α y:=ar h
theorem G0(e:v=.ref a)(H:fW C F h B d a):iJ C F h B (at_ α x a) x (.own d) v:=⟨e.trans (by rw[lI]),by rw[lI];exact H⟩
theorem bF.Hs(H:bF C aF K env ay s0 α F σ s)(aY:C.Ok ay s0){x:Str}{lv:aC}{a:Addr}{W:Addr->Prop}{wr:List Addr}(hs:storeOk K x=true)(X:C.Step F s F' s')(g:∀b,W b->s.heap.get? b=none)(P:∀b,W b->∃o,s'.heap.get? b=some o)
 (i:s.heap.get? a=none) (O:iJ C F' s'.heap (λb=>(aF b∨a8 env α σ b)∨W b) (at_ α x a) x lv v) (R:∀d,lv=.own d->a5.contains x=true/\W a) (p:∀b∈wr,W b/\b≠a) {E:cg} {Q:Unit->el}
 (U:∀cI cO,bF C (λb=>aF b∨b∈wr) K env ay s0 cI F' (σ.set x lv) cO->gY C a5 env α F σ s cI F' (σ.set x lv) cO->(∀b∈wr,∀o,s'.heap.get? b=some o->cO.heap.get? b=some o)->Q () cO):wpAny C.M A (storeName env x v) Q E s':=by
 have off:=λb f=>(H.fr.off (g b f)).1;have j:=(H.fr.off i).1;refine yY (lv:=lv) (H.fr.enter (W:=W) X g P) hs (at_ α x a) (λy V=>jC V) O (λd e=>?_) λcO Y Fr γ k=>?_
 ·rw[lI];exact⟨j.1,j.2.1⟩
 have own:∀y e,(σ.set x lv).get y=some (.own e)->(y=x/\lv=.own e)∨(y≠x/\σ.get y=some (.own e)):=λy e q=>(Γ.jH q).imp (λq=>⟨q.1,q.2.symm⟩) id
 refine bL (H.BA (B1:=λb=>aF b∨b∈wr) aY X g Y Fr (λb q=>q) (λy e q=>(own y e q).imp (λq=>by rw[q.1,lI];exact R e q.2) λq=>⟨⟨e,q.2⟩,jC q.1⟩) (λy z e aB ε Z l t N=>?_) (λb q=>q.imp id λq=>(p b q).1) (λb q=>.inl (H.bo b q)) λy e q t k=>?_) λT L=>
  U _ cO T L λb f o e=>k b o (off b (p b f).1).1 (λc κ q=>(off b (p b f).1).2.1 x c κ q.symm) e
 ·refine(own y e ε).elim (λq=>(own z aB Z).elim (λr=>(l (q.1.trans r.1.symm)).elim) λr=>?_) λq=>(own z aB Z).elim (λr=>?_) λr=>?_
  ·rw[q.1,lI,jC r.1];exact λeq=>j.2.2 z aB r.2 eq.symm
  ·rw[r.1,lI,jC q.1];exact j.2.2 y e q.2
  ·rw[jC q.1,jC r.1];exact H.dist y z e aB q.2 r.2 l
 ·refine(own y e q).elim (λq=>?_) λq=>?_
  ·rw[q.1,lI] at k;exact k.elim (λk=>(H.fr.off i).2 (.inl k)) λk=>(p a k).2 rfl
  ·rw[jC q.1] at t;exact ν (H.fr.bad.some _ (.inr (a8.own q.2))) λo e=>aQ ((g _ t).symm.trans e)
theorem ZY{X:Type}{P:X->Prop}:(λb=>P b∨b∈([]:List X))=P:=funext λb=>propext ⟨λq=>q.elim id (λq=>nomatch q),.inl⟩
theorem bF.qca(H:bF C aF K env ay s0 α F σ s)(aY:C.Ok ay s0)(p:a5.contains x=true)(hs:storeOk K x=true)(f:wy C (λb=>aF b∨a8 env α σ b) F s d v s'):
 ∀E,wpAny C.M A (storeName env x v) (λγ cO=>Out C a5 aF K env ay s0 α F σ s (σ.set x (.own d)) cO) E s':=λE=>
 ai f λF' a q=>b2 q λX e j y=>H.Hs (lv:=.own d) (a:=a) (W:=λb=>b=a) (wr:=[]) aY hs X (λb z=>z▸j) (λb z=>z▸ν (kr y) λo q=>⟨o,q.1⟩) j (G0 e y) (λγ γ=>⟨p,rfl⟩) (λb z=>nomatch z)
  λcI cO g L γ=>L.out (ZY (P:=aF)▸g)
def QL(e:Expr)(x:Str)(p:Pos)(line:Nat)(env:Env):Prop:=swapsWith e (some (.Name x p)) line env=pure false
theorem qcA e x p line env:QL e x p line env∨(swapsWith e (some (.Name x p)) line env=pure true/\(Nat.beq e.ctorIdx 8||Nat.beq e.ctorIdx 9||Nat.beq e.ctorIdx 10)=true):=by
 have two:∀b:Bool,(pure b:Sem Bool)=pure false∨(pure b:Sem Bool)=pure true:=λb=>by cases b<;>first|exact .inl rfl|exact .inr rfl
 cases e with
 |ListComp|SetComp|DictComp=>exact(two _).imp id λq=>⟨q,rfl⟩
 |_=>exact .inl rfl
noncomputable def cK.plain:cK->Bool
 |.nest _ _ _=>false
 |_=>true
theorem Sy e (h:(Nat.beq e.ctorIdx 8||Nat.beq e.ctorIdx 10)=true):∃(c:cK) (gens:List Comprehension) (sc:Scope) (pos:Pos),e=c.expr gens sc pos/\(∀s,c.J s)/\c.plain=true:=
 (m6.mp h).elim (λh=>Expr.ListComp.elim (motive_1:=λe=>∃(c:cK) (gens:List Comprehension) (sc:Scope) (pos:Pos),e=c.expr gens sc pos/\(∀s,c.J s)/\c.plain=true) e (n' h) λx gs sc p=>⟨.list x,gs,sc,p,rfl,λγ=>trivial,rfl⟩)
   λh=>Expr.DictComp.elim (motive_1:=λe=>∃(c:cK) (gens:List Comprehension) (sc:Scope) (pos:Pos),e=c.expr gens sc pos/\(∀s,c.J s)/\c.plain=true) e (n' h) λk v gs sc p=>⟨.dict k v,gs,sc,p,rfl,λγ=>trivial,rfl⟩
theorem Uy{c:cK}(z:c.plain=true)(h:μ S (n+1) K (c.expr gens sc pos) σ=some d):∃out,jc S (μ S n) (b9 S n) K (c.elt S n sc.names) gens sc σ=some out/\d=c.acc out:=by
 cases c with
 |list e=>exact π (x:=jc S (μ S n) (b9 S n) K ((cK.list e).elt S n sc.names) gens sc σ) h λout h ε=>⟨out,ε,(ae h).symm⟩
 |dict k v=>exact π (x:=jc S (μ S n) (b9 S n) K ((cK.dict k v).elt S n sc.names) gens sc σ) h λout h ε=>⟨out,ε,(ae h).symm⟩
 |nest=>exact jo z
theorem SE(G:C.Good)(O:dA C S Ω)(aw:cH C S Ω n)(eB:iO C S Ω n)(R:a_ A (Ω+n))(H:bF C aF K env ay s0 α F σ s)(aY:C.Ok ay s0)
 (V:closes K sc.names=true) (U:mX sc=true) (κ:nB (fH sc.names σ) g=true) (ε:dj S (μ S n) K g.iter σ=some items) (η:AB S n sc.names c g gs (fH sc.names σ) items=some out) (aq:out.length<=sizeLine) (ik:c.J s)
   (hs:storeOk K x=true) (i:lv.d=some (c.acc out)) (hV:∀d,lv=.own d->a5.contains x=true):
 ∀E,wpAny C.M A (comprehension (c.expr (g::gs) sc pos) sc env cT c.tree false (eval g.iter env) (some (assign (.Name x p) env))) (λγ s'=>Out C a5 aF K env ay s0 α F σ s (σ.set x lv) s') E s:=by
 intro E;have k:=vC U;refine H9 (use:=some (assign (.Name x p) env)) (g:=g) (gs:=gs) (Q:=λγ s'=>Out C a5 aF K env ay s0 α F σ s (σ.set x lv) s') (DU c _ _ _) (yb ε env) (z6 λp Z hf=>ai (H.fr.cells p.1 (sz V p Z hf)).1 λc w q=>⟨c,q.1⟩) k.1 (λp Z ζ=>by rw[k.2.2 p Z,ζ]) ?_;refine D3 (RR:=λacc L=>compPost C.M A E (some (assign (.Name x p) env)) (λγ s'=>Out C a5 aF K env ay s0 α F σ s (σ.set x lv) s') acc L) G O aw eB R H.fr.toSt V U κ ε η aq ik λF' s' a L fm X j he t f l jl y=>ν jl λm τ=>?_;show wpAny C.M A (assign (.Name x p) env (.ref a)) _ E s';have Zx:=(H.fr.off (j a t)).2;have I:∀b∈[L],s0.heap.get? b=none:=λb z=>km (P:=λb=>s0.heap.get? b=none) z (k3 H.base aY (j L f))
 have fin:∀cI cO,bF C (λb=>aF b∨b∈[L]) K env ay s0 cI F' (σ.set x lv) cO->gY C a5 env α F σ s cI F' (σ.set x lv) cO->(∀b∈[L],∀o,s'.heap.get? b=some o->cO.heap.get? b=some o)->
  ∃m,cO.heap.Ns L m/\∀h',Heap.SameBut L cO.heap h'->Out C a5 aF K env ay s0 α F σ s (σ.set x lv) {cO with heap:=h'}:=λcI cO eb r kj=>
  have T:cO.heap.Ns L m:=τ.at' λo e=>kj L bH o e
  ⟨m,T,λh' Y=>⟨cI,F',eb.leave I (λb z q=>(H.fr.off (j L f)).2 (.inl (fj.mp z▸q))) H.bo aY (λb z=>fj.mp z▸Bt T) (λb o z e=>Y.extBut b o (λq=>z (q▸bH)) e) (a7 cO.toks),
    ⟨λb o ω hm e=>Y.extBut b o (λq=>aQ ((q▸j L f).symm.trans e)) (r.keep b o ω hm e),r.mono,r.θ,r.same⟩⟩⟩
 refine CJ ?_;cases lv with
 |gn ks=>exact jq i.symm
 |own d=>
  have y:=y.1;rw[<-show d=c.acc out from ae i] at y;exact H.Hs (lv:=.own d) (a:=a) (W:=fm) (wr:=[L]) aY hs X j he (j a t) (G0 rfl y) (λγ γ=>⟨hV d rfl,t⟩) (λb z=>fj.mp z▸⟨f,l⟩) fin
 |val d=>
  have y:=y.1;rw[<-show d=c.acc out from ae i] at y;have N:dt F' s'.heap (λb=>(aF b∨a8 env α σ b)∨fm b) F' s'.heap (λb=>(aF b∨a8 env α σ b)∨fm b/\b≠a):=⟨λγ γ e=>e,λγ γ γ e=>e,λb γ z γ q=>z (q.imp id λq=>q.1)⟩;exact H.Hs (lv:=.val d) (a:=a) (W:=λb=>fm b/\b≠a) (wr:=[L]) aY hs X (λb z=>j b z.1) (λb z=>he b z.1) (j a t) ((y.grow N λγ e=>e).den λq=>q.elim Zx λq=>q.2 rfl) nofun (λb z=>fj.mp z▸⟨⟨f,l⟩,l⟩) fin
theorem qbr{l:Addr}{items:Array Value}{k:Int}{t:Tok}{E:cg}{Q:Unit->el}(ζ:s.heap.PlainList l items)(h0:0<=k)(q:k<2^63)(f:k<items.size)
 (g:∀h',h'.PlainList l (items.setIfInBounds k.toNat v)->Heap.SameBut l s.heap h'->Q () {s with heap:=h'}):wpAny (model prog w) A (setItem (.ref l) (.int k t) v) Q E s:=by
 obtain⟨m,z⟩:=id ζ;have y:=ζ.isList.typeIs;unfold setItem
 try with_reducible refine n5 ?_
 first|refine aR (b7 ?_)|skip
 refine aR (wpAny_sequenceKey y .d ?_)
 refine aR (y1 (name:=Str.ofString "__setitem__") y slot_list_setitem
  (zi slot_list_setitem y entry_list_setitem ?_ (args_list_setitem _ _ _)))
 show wpAny _ _ (Builtin.List.listSubscript? (.int k t)>>=_) _ _ s;refine aR (wpAny_listSubscript_int (fitsIndex_of h0 q) ?_);clear q;obtain⟨j,rfl⟩:=Int.eq_ofNat_of_zero_le h0;have p:j<items.size:=.l;show wpAny _ _ ((seqItemAt l j>>=λr=>pure (r.map (j,·)))>>=_) _ _ s;refine aR (aR (wpAny_seqItemAt z rfl (b7 ?_)));rw[Array.getElem?_eq_getElem p];show wpAny _ _ (setSeqItemAt l j v>>=_) _ _ s;have e:=v3 z (λxs=>xs.setIfInBounds j v);refine aR (wpAny_setSeqItemAt z rfl ?_)
 first
  |exact aR (b7 (b7 ⟨.none,rfl,b7 (g _ ⟨_,e⟩ (qE ..))⟩))
  |exact b7 ⟨.none,rfl,b7 (g _ ⟨_,e⟩ (qE ..))⟩
theorem bF.Nv(H:bF C aF K env ay s0 α F σ s)(aY:C.Ok ay s0)(z:σ.get x=some (.own d))(j:C.cV (λb=>b=α x) F s F' s')(hs:fW C F' s'.heap (λb=>aF b∨a8 env α σ b) d' (α x)):
 Out C a5 aF K env ay s0 α F σ s (σ.set x (.own d')) s':=by
 have fr:=H.fr;have off:=fr.e3 x d z;have X:C.cV (a8 env α σ) F s F' s':=j.mono λb e=>e▸a8.own z;have own:∀y e,(σ.set x (.own d')).get y=some (.own e)->∃aB,σ.get y=some (.own aB):=λy e q=>(Γ.jH q).elim (λq=>q.1▸⟨d,z⟩) λq=>⟨e,q.2⟩;have cell:∀{y c w},env.cells.lookup y=some c->s.heap.IsCell c w->s'.heap.IsCell c w:=λ{y c w} e k=>ν k λo q=>⟨o,j.get fr.ok (off.2 y c e) q.1 (λao=>by rw[q.2];nofun),q.2⟩;have ns:∀m,s.heap.Ns env.locals m->s'.heap.Ns env.locals m:=λm p=>cN p λo es ep q=>⟨o,es,ep,j.get fr.ok (gT off.1) q.1 (λao=>by rw[q.2.1];nofun),q.2⟩
 have Fr:Frame C (a8 env α σ) (λb=>aF b∨a8 env α σ b) K env α F' (σ.set x (.own d')) s':=
  {ok:=X.ok,bad:=fr.bad.GF X,kind:=fr.kind,glob:=fr.glob,blt:=fr.blt,code:=fr.code,gh:=fr.gh,cells:=λx e=>⟨ai (fr.cells x e).1 λc w q=>⟨c,w,q.1,cell q.1 q.2⟩,(fr.cells x e).2⟩
   nm:=λy lv e=>(Γ.jH e).elim (λq=>q.1▸fr.nm x _ z) λq=>fr.nm y lv q.2
   vars:=λy lv e=>(Γ.jH e).elim (λq=>ν (fr.vars x _ z) λv k=>⟨v,q.1.symm▸k.1.to ns λc w=>cell,by rw[q.1,q.2];exact⟨k.2.1,hs⟩⟩) λq=>ν (fr.vars y lv q.2) λv k=>⟨v,k.1.to ns λc w=>cell,k.2.to (X.grow fr.bad fr.bM) λi f o g=>j.keep _ o (λt=>H.nb _ (a8.own (f▸q.2)) (H.bo _ t)) (H.dist y x i d (f▸q.2) z q.1) g⟩
   free:=fr.free,bM:=fr.bM,ns:=ν fr.ns λm p=>⟨m,ns m p⟩,gO:=fr.gO,loc:=fr.loc,fD:=fr.fD,gI:=λx c e=>ν (fr.gI x c e) λw h=>⟨w,cell e h⟩,gc:=fr.gc,inj:=fr.inj,e3:=λy e q=>ν (own y e q) λaB r=>fr.e3 y aB r}
 exact bL (H.BA aY (W:=λγ=>False) (.refl fr.ok) (λγ q=>q.elim) X Fr (λb q=>q.elim id False.elim) (λy e q=>.inr ⟨own y e q,rfl⟩) (λγ γ γ γ γ γ γ q=>q.elim) (λγ=>.inl) H.bo λγ γ γ q=>q.elim) λl L=>L.out l
theorem bF.yo(H:bF C aF K env ay s0 α F σ s)(aY:C.Ok ay s0)(z:σ.get x=some (.own d))(y:Heap.ExtBut (α x) s.heap h')(hs:fW C F h' (λb=>aF b∨a8 env α σ b) d' (α x))(hm:s.toks<=m):
 Out C a5 aF K env ay s0 α F σ s (σ.set x (.own d')) {s with heap:=h',toks:=m}:=
 H.Nv aY z (aE.cV.GH (M:=λb=>b=α x) H.fr.ok ⟨λa (e:a=α x)=>H.fr.free.hG a (e▸a8.own z),λa (e:a=α x)=>H.fr.free.o8 a (e▸a8.own z)⟩ rfl (ν (H.fr.vars x _ z) λv q=>Z7 q.2.2) y (ν (kr hs) λo q=>⟨o,q.1⟩) hm) hs
theorem Oa(H:bF C aF K env ay s0 α F σ s)(aY:C.Ok ay s0)(g:σ.get x=some (.own d))(z:putAt d j w=some d')
 (V:Den C F s.heap (λb=>aF b∨a8 env α σ b) j ο) (hw:Den C F s.heap (λb=>aF b∨a8 env α σ b) w v):
 ∀E,wpAny C.M A (setItem (.ref (α x)) ο v) (λγ s'=>Out C a5 aF K env ay s0 α F σ s (σ.set x (.own d')) s') E s:=by
 intro E;refine ν (H.fr.vars x _ g) λγ q=>?_;have p:=q.2.2
 have grow:∀{h'},Heap.SameBut (α x) s.heap h'->dt F s.heap (λb=>aF b∨a8 env α σ b) F h' (λb=>aF b∨a8 env α σ b):=λy=>
  ⟨λγ γ e=>e,λb o r e=>y.extBut b o (λq=>r (.inr (q▸a8.own g))) e,λγ γ r γ=>r⟩
 refine π z λk z U=>ν (V.o.hI U) λt e=>?_;rw[e];refine b' z (λz=>π z λl z f=>aP z λz κ=>?_) λz=>π z λl z f=>aP z λz κ=>?_
 ·rw[lF f] at p g;refine ν p λvs q=>bL q λW ζ=>?_;have ε:=cU (band (band κ).1).1;have i:=cU (band (band κ).1).2;have Z:=cU (band κ).2;refine qbr W i (wM ε).2 (by rw[gp,ζ.length];exact Pu i Z) λh' a y=>?_;rw[<-ae z];refine H.yo (d':=.lst (l.set k.toNat w)) aY g y.extBut ⟨vs.set k.toNat v,?_,(ζ.grow (grow y)).set _ (hw.grow (grow y))⟩ (a7 s.toks);rw[<-List.setIfInBounds_toArray];exact a
 ·rw[DC f] at p g;refine bL p λh0 q=>ν q λus q=>bL q λhd ζ=>?_;refine wpAny_setItem_pairs (knd:=C.dR) (r' _ _ _ _) hd (λh' Y y=>?_) (ζ.length▸zf (iw.mp κ));rw[<-ae z];exact H.yo (d':=.aX (stored l k w)) aY g y.extBut ⟨h0,_,Y,(ζ.grow (grow y)).stored (hw.grow (grow y))⟩ (c9 s.toks)
def gF(C:aE)(S:dH)(Ω:Nat):Prop:=∀n,cH C S Ω n/\iO C S Ω n
theorem U5(c:cK){g:Comprehension}{gs:List Comprehension}{sc:Scope}{pos p q:Pos}{x:Str}(y:g.is_async=0)(z:swapsWith (c.expr (g::gs) sc pos) (some (.Name x q)) p.line env=pure true){E:cg}{Q:Flow->el}
 (h:wpAny C.M A (comprehension (c.expr (g::gs) sc pos) sc env (firstIterPos (g::gs) pos) c.tree false (eval g.iter env) (some (assign (.Name x q) env))) (λγ s'=>Q .next s') E s):wpAny C.M A (exec (.Assign [.Name x q] (c.expr (g::gs) sc pos) p) env) Q E s:=by
 rw[exec_Assign_Name_used _ _ _ _ z];refine aR (v_ (aR ?_));obtain⟨t,it,ifs,a⟩:=g;rw[show a=0 from y] at h⊢;cases c<;>exact aR (b8 h (λγ s' j=>b7 (b7 j)) λγ γ x=>x)
theorem NJ(G:C.Good)(O:dA C S Ω)(aw:gF C S Ω)(R:a_ A (Ω+n))(H:St C B K env α F σ s)(hf:uJ S K σ e=true)(h:μ S n K e σ=some d):qS C A B F (eval e env) d s:=by
 cases n with
 |zero=>exact aQ h
 |succ n=>exact ZT G O (aw n).1 (aw n).2 (R.mono (c9 _)) H hf h
theorem UD(G:C.Good)(O:dA C S Ω)(aw:gF C S Ω)(R:a_ A (Ω+n))(aY:C.Ok ay s0)(H:bF C aF K env ay s0 α F σ s)
 (hs:storeOk K x=true) (he:μ S n K e σ=some d) (hd:lv.d=some d) (hf:∀d,lv=.own d->a5.contains x=true/\uJ S K σ e=true):
 ∀E,wpAny C.M A (exec (.Assign [.Name x q] e p) env) (fx C a5 aF K env ay s0 α F σ s .next (σ.set x lv)) E s:=by
 intro E;refine(qcA e x q p.line env).elim (λy=>wpAny_Assign_Name ?_ y) λy=>?_
 ·cases lv with
  |gn ks=>exact jq hd.symm
  |val d'=>
   rw[<-ae (show some d'=some d from hd)] at he;exact Run.seq ((aw n).1 K e σ d' he A env α _ F s R H.fr.toSt) λv a0 av f a=>b8 ((H.step f).O4 aY hs a E) (λγ aN z=>⟨rfl,z.after f⟩) λγ γ x=>x
  |own d'=>
   rw[<-ae (show some d'=some d from hd)] at he;exact b8 (NJ G O aw R H.fr.toSt (hf d' rfl).2 he E) (λv av U=>b8 (H.qca aY (hf d' rfl).1 hs U E) (λγ aN z=>⟨rfl,z⟩) λγ γ x=>x) λγ γ x=>x
 ·have l:Nat.beq e.ctorIdx 9=false:=by
   cases V:Nat.beq e.ctorIdx 9 with
   |false=>rfl
   |true=>exact Expr.SetComp.elim (motive_1:=λe=>μ S n K e σ=some d->true=false) e (n' V) (λγ γ γ γ h=>by cases n<;>exact aQ h) he
  have t:=y.2;rw[l,C1] at t;refine ai (Sy e t) λc gens k=>ai k λsc pos k=>?_;rw[k.1] at he y⊢;cases n with
  |zero=>exact aQ he
  |succ n=>
   refine ν (Uy k.2.2 he) λout r=>cN (D1 r.1) λg gs items j=>b2 j λW Z Y j=>b2 j λκ ε z i=>?_;rw[W] at y⊢;exact U5 c (uz κ).2.1 y.1 (b8 (SE G O (aw n).1 (aw n).2 (R.mono (c9 _)) H aY Z Y κ ε z i (k.2.1 _) hs (hd.trans (bp some r.2)) (λd e=>(hf d e).1) E) (λγ s' z=>⟨rfl,z⟩) λγ γ x=>x)
theorem qeB{Q:cg}(z:env.scope.kind=.function)(H:jy s.heap env x v)(y:eU x=true)(h:Q v s):wpAny C.M A (loadName env x) Q E s:=
 mj (H.plain y) (λq=>ν q.2 λm k=>wpAny_loadName_local z q.1 k.1 k.2 h) λq=>ν q.2 λc k=>q.1.elim (λε=>wpAny_loadName_cell z ε k.1 k.2 h) λε=>wpAny_loadName_free z ε k.1 k.2 h (G5 y).2
theorem UE(aw:gF C S Ω)(R:a_ A (Ω+n))(aY:C.Ok ay s0)(H:bF C aF K env ay s0 α F σ s)
 (hs:storeOk K x=true) (r:σ.get x=some (.val (.int a))) (he:μ S n K e σ=some (.int b)):
 ∀E,wpAny C.M A (exec (.AugAssign (.Name x q) .Add e p) env) (fx C a5 aF K env ay s0 α F σ s .next (σ.set x (.val (.int (a+b))))) E s:=λE=>
 ν (H.fr.vars x _ r) λv q=>ν q.2 λt ag=>by
  rw[ag] at q;refine wpAny_AugAssign_Name (qeB H.fr.kind q.1 (qu hs) (Run.seq ((aw n).1 K e σ _ he A env α _ F s R H.fr.toSt) λv a0 av z g=>ν g λl j=>?_));rw[j];have y:C.Step a0 av a0 {av with toks:=av.toks+1}:=.tok z.ok (c9 _);exact wpAny_iadd_int (b8 (((H.step z).step y).O4 aY hs (d:=.int (a+b)) ⟨_,rfl⟩ E) (λγ aN f=>⟨rfl,f.after (z.trans y)⟩) λγ γ x=>x)
theorem qcf e o i q line env:swapsWith e (some (.Subscript o i q)) line env=pure false:=by cases e<;>rfl
theorem UL(aw:gF C S Ω)(R:a_ A (Ω+n))(aY:C.Ok ay s0)(H:bF C aF K env ay s0 α F σ s)
 (he:μ S n K e σ=some w) (a:eU x=true) (f:σ.get x=some (.own d)) (ρ:μ S n K i σ=some j) (Y:putAt d j w=some d'):
 ∀E,wpAny C.M A (exec (.Assign [.Subscript (.Name x U) i q] e p) env) (fx C a5 aF K env ay s0 α F σ s .next (σ.set x (.own d'))) E s:=λE=>
 wpAny_Assign_Subscript (Run.seq ((aw n).1 K e σ _ he A env α _ F s R H.fr.toSt) λv a0 av g t=>by
  have z:=H.step g;refine ν (z.fr.vars x _ f) λZ k=>n2 z.fr.kind k.1 a (Run.seq ((aw n).1 K i σ _ ρ A env α _ a0 av R z.fr.toSt) λο W aN y l=>?_);rw[show Z=.ref (α x) from k.2.1];exact b8 (Oa (z.step y) aY f Y l (t.grow (y.grow z.fr.bad)) E) (λγ V r=>⟨rfl,r.after (g.trans y)⟩) λγ γ x=>x) (qcf ..)
theorem NO(h:μ S n K i σ=some j):Nat.beq i.ctorIdx 26=false:=by
 cases z:Nat.beq i.ctorIdx 26 with
 |false=>rfl
 |true=>exact Expr.Slice.elim (motive_1:=λi=>μ S n K i σ=some j->true=false) i (n' z) (λγ γ γ γ h=>by cases n<;>exact aQ h) h
theorem UG(aw:gF C S Ω)(R:a_ A (Ω+n))(aY:C.Ok ay s0)(H:bF C aF K env ay s0 α F σ s)
 (kZ:eU x=true) (Z:σ.get x=some (.own d)) (ρ:μ S n K i σ=some j) (Q:index d j=some (.int a)) (he:μ S n K e σ=some (.int b)) (φ:putAt d j (.int (a+b))=some d'):
 ∀E,wpAny C.M A (exec (.AugAssign (.Subscript (.Name x eA) i q) .Add e p) env) (fx C a5 aF K env ay s0 α F σ s .next (σ.set x (.own d'))) E s:=by
 intro E
 refine wpAny_AugAssign_SubscriptAny (ν (H.fr.vars x _ Z) λn0 k=>n2 H.fr.kind k.1 kZ (Run.seq ((aw n).1 K i σ _ ρ A env α _ F s R H.fr.toSt) λο a0 av Y W=>?_)) (λbE ο new=>by
  have τ:=NO ρ;cases i with
  |Slice a b c q=>exact dk τ
  |_=>rfl)
 rw[show n0=.ref (α x) from k.2.1];have z:=H.step Y;refine ν (z.fr.vars x _ Z) λγ k₁=>Run.seq (Mt Q z.fr.ok (.inr ⟨_,rfl,k₁.2.2⟩) W) λold N aN g L=>ν L λt P=>?_;have f:=z.step g;rw[P];refine Run.seq ((aw n).1 K e σ _ he A env α _ N aN R f.fr.toSt) λv V r y T=>ν T λbS O=>?_;have U:=f.step y;rw[O];have l:C.Step V r V {r with toks:=r.toks+1}:=.tok y.ok (c9 _);exact wpAny_iadd_int (b8 (Oa (U.step l) aY Z φ (((W.grow (g.grow z.fr.bad)).grow (y.grow f.fr.bad)).grow (l.grow U.fr.bad)) ⟨_,rfl⟩ E) (λγ l9 I=>⟨rfl,I.after (((Y.trans g).trans y).trans l)⟩) λγ γ x=>x)
theorem UP(aw:gF C S Ω)(R:a_ A (Ω+n))(aY:C.Ok ay s0)(H:bF C aF K env ay s0 α F σ s)(hm:hg (.Name x U) ap p=true)
 (Q:eU x=true) (z:σ.get x=some (.own (.lst l))) (he:μ S n K e σ=some d) (Y:dE (l.length+1)=true):
 ∀E,wpAny C.M A (exec (.Expr (.Call (.Attribute (.Name x U) "append" ap) [e] [] p) q) env) (fx C a5 aF K env ay s0 α F σ s .next (σ.set x (.own (.lst (l++[d]))))) E s:=by
 intro E;have t:(backTo p (starEach [e] env)).any (·.1)=false:=by rw[eJ he];rfl
 refine wpAny_Expr (ν (H.fr.vars x _ z) λP k=>rF hm (e5 rfl) t (n2 H.fr.kind k.1 Q ?_)) (by unfold interactive;rw[H.fr.kind];rfl) rfl;rw[show P=.ref (α x) from k.2.1];refine ν k.2.2 λvs k=>ν (id k.1) λm Z=>⟨"list","list.append",Cp,PySem.F.slot_list_append,PySem.F.type_list_append,k.1.isList.typeIs,λL T=>kE T▸⟨_,Z,rfl⟩,vb t (eJ he _ _) ?_⟩;rw[eJ he];refine r3 (Run.seq ((aw n).1 K e σ _ he A env α _ F s R H.fr.toSt) λv a0 av g W=>tR ?_);have j:=H.step g;refine ν (j.fr.vars x _ z) λγ k₁=>ν k₁.2.2 λO r=>bL r λN a=>Ia N (λh' V f=>?_) (by rw[gp,a.length];exact zf (iw.mp Y));have i:dt a0 av.heap (λb=>aF b∨a8 env α σ b) a0 h' (λb=>aF b∨a8 env α σ b):=⟨λγ γ e=>e,λb o y e=>f.extBut b o (λq=>y (.inr (q▸a8.own z))) e,λγ γ y γ=>y⟩;refine⟨rfl,(j.yo (d':=.lst (l++[d])) aY z f.extBut ⟨O++[v],?_,(a.grow i).append ⟨v,[],rfl,W.grow i,rfl⟩⟩ (a7 av.toks)).after g⟩;rw[<-List.push_toArray];exact V
theorem tooLong_not(h:n<=sizeLine):Builtin.List.listTooLong n=false:=by
 unfold Builtin.List.listTooLong;exact gE (e7.mpr h)
theorem UU(aw:gF C S Ω)(R:a_ A (Ω+n))(aY:C.Ok ay s0)(H:bF C aF K env ay s0 α F σ s)(hm:hg (.Name x N) ap p=true)
 (I:eU x=true) (j:σ.get x=some (.own (.lst l))) (he:μ S n K e σ=some (.lst m)) (Q:dE (l.length+m.length)=true):
 ∀E,wpAny C.M A (exec (.Expr (.Call (.Attribute (.Name x N) "extend" ap) [e] [] p) q) env) (fx C a5 aF K env ay s0 α F σ s .next (σ.set x (.own (.lst (l++m))))) E s:=by
 intro E;have Z:(backTo p (starEach [e] env)).any (·.1)=false:=by rw[eJ he];rfl
 refine wpAny_Expr (ν (H.fr.vars x _ j) λn0 k=>rF hm (e5 rfl) Z (n2 H.fr.kind k.1 I ?_)) (by unfold interactive;rw[H.fr.kind];rfl) rfl;rw[show n0=.ref (α x) from k.2.1];refine ν k.2.2 λvs k=>ν (id k.1) λz T=>⟨"list","list.extend",Cp,PySem.F.slot_list_extend,PySem.F.type_list_extend,k.1.isList.typeIs,λdB L=>kE L▸⟨_,T,rfl⟩,vb Z (eJ he _ _) ?_⟩;rw[eJ he];refine r3 (Run.seq ((aw n).1 K e σ _ he A env α _ F s R H.fr.toSt) λv a0 av i P=>tR ?_);have t:=H.step i;refine ν (t.fr.vars x _ j) λγ k₁=>ν k₁.2.2 λy r=>bL r λxT V=>ν (id xT) λlr g1=>ai P λb us q=>b2 q λev nb U W=>ν U λn3 g2=>?_;have g:y.toArray.size+us.toArray.size<=sizeLine:=by rw[gp,gp,V.length,W.length];exact iw.mp Q
 rw[ev];refine zu PySem.F.slot_list_extend ⟨_,g1,rfl⟩ PySem.F.entry_list_extend (PySem.F.args_list_extend_2 _ _) (PySem.AutoSeq1.list_extend_list_list_0 (α x) y.toArray lr b us.toArray n3 (by rw[tooLong_not g,Bool.and_false];exact zd) (aJ (c8 _ _) g) (Nat.le_succ_of_le g)) ⟨g1,g2,?_⟩;have a:=qE av.heap (α x) (Obj.mapSeq λx=>x++us.toArray)
 have O:(av.heap.update (α x) (Obj.mapSeq λx=>x++us.toArray)).PlainList (α x) (y++us).toArray:=by
  refine ν (⟨_,v3 g1 λx=>x++us.toArray⟩:∃c,(av.heap.update (α x) (Obj.mapSeq λx=>x++us.toArray)).get? (α x)=some (seqObj "list" (y.toArray++us.toArray) c)) λc e=>⟨c,?_⟩;rw[e,CD]
 have Y:dt a0 av.heap (λb=>aF b∨a8 env α σ b) a0 (av.heap.update (α x) (Obj.mapSeq λx=>x++us.toArray)) (λb=>aF b∨a8 env α σ b):=⟨λγ γ e=>e,λb o f e=>a.extBut b o (λq=>f (.inr (q▸a8.own j))) e,λγ γ f γ=>f⟩;exact⟨rfl,(t.yo (d':=.lst (l++m)) aY j a.extBut ⟨y++us,O,(V.grow Y).append (W.grow Y)⟩ (a7 av.toks)).after i⟩
theorem UH(G:C.Good)(O:dA C S Ω)(aw:gF C S Ω)(R:a_ A (Ω+n))(aY:C.Ok ay s0)(H:bF C aF K env ay s0 α F σ s)
 (Q:eU x=true) (z:σ.get x=some (.own d)) (U:glob S K σ f=some .fn) (ε:each (λe=>μ S n K e σ) rest=some ds) (hf:S.zx f d ds=some d'):
 ∀E,wpAny C.M A (exec (.Expr (.Call (.Name f q) (.Name x eA::rest) [] p) j) env) (fx C a5 aF K env ay s0 α F σ s .next (σ.set x (.own d'))) E s:=by
 intro E;refine wpAny_Expr (r6 (md G O H.fr.toSt U λv N=>cN N λa o fd g=>b2 g λe i hd κ=>?_)) (by unfold interactive;rw[H.fr.kind];rfl) rfl;rw[e];refine callWith_def hd (ob (ν (H.fr.vars x _ z) λP k=>n2 H.fr.kind k.1 Q ?_) rfl) rfl;rw[show P=.ref (α x) from k.2.1];refine Run.e4 (sI (aw n).1 R ε H.fr.toSt) H.fr.toSt λvs a0 av Z V T=>⟨V.ok.base a o (G.kn i λao=>by rw[hd];nofun) i,?_⟩;have H1:=H.step Z
 have y:(λb=>(aF b∨a8 env α σ b/\b≠α x)∨b=α x)=λb=>aF b∨a8 env α σ b:=funext λb=>propext ⟨λq=>q.elim (λq=>q.imp id λq=>q.1) λe=>.inr (e▸a8.own z),λq=>by
  by_cases e:b=α x
  ·exact .inr e
  ·exact .inl (q.imp id λq=>⟨q,e⟩)⟩
 refine b8 (κ.2 A ay s0 a0 av (λb=>aF b∨a8 env α σ b/\b≠α x) (α x) vs ds d d' (R.mono (c8 Ω n)) aY H1.base (by rw[y];exact H1.fr.bad) (H.new _ (a8.own z)) (λq=>q.elim (H.nb _ (a8.own z)) λq=>q.2 rfl) (λb δ=>.inl (H.bo b δ)) (by rw[y];exact ν (H1.fr.vars x _ z) λv k=>k.2.2) (by rw[y];exact T) hf _) (λv aN q=>?_) λγ γ x=>x;rw[y] at q;rw[q.1];refine ν q.2 λbX q=>Jw q λW j L t I l=>⟨rfl,(H1.Nv aY z ⟨W,j,λb o e=>?_,L,t,I⟩ l).after Z⟩
 by_cases Y:b=α x
 ·exact ν (kr l) λbf q=>⟨bf,Y▸q.1⟩
 ·by_cases ω:b∈C.bo
  ·exact ν (bV.mp ω) λr k=>k.2▸(W.there k.1).2
  ·exact⟨o,j b o ω Y e⟩
theorem UK(aw:gF C S Ω)(R:a_ A (Ω+n))(H:bF C aF K env ay s0 α F σ s)(he:μ S n K e σ.freeze=some d):
 ∀E,wpAny C.M A (exec (.Return (some e) p) env) (fx C a5 aF K env ay s0 α F σ s (.ret d) σ) E s:=λE=>
 wpAny_Return_some (Run.seq ((aw n).1 K e _ d he A env α _ F s R H.frozen) λv a0 av z y=>⟨v,a0,rfl,H.base.trans z,y⟩)
theorem PL e (h:hR e=none) ba kt q line env:swapsWithSole [.Tuple ba kt q] e line env=pure false/\swappedStores [.Tuple ba kt q] e env=pure none:=by
 cases e with
 |Tuple es c p=>exact jq h
 |_=>exact⟨rfl,rfl⟩
theorem UM(aw:gF C S Ω)(R:a_ A (Ω+n))(aY:C.Ok ay s0)(H:bF C aF K env ay s0 α F σ s)
 (ω:hR e=none) (he:μ S n K e σ=some d) (y:iR K (.Tuple ba kt q) d σ=some σ'):
 ∀E,wpAny C.M A (exec (.Assign [.Tuple ba kt q] e p) env) (fx C a5 aF K env ay s0 α F σ s .next σ') E s:=λE=>
 Assign_Tuple (Run.seq ((aw n).1 K e σ d he A env α _ F s R H.fr.toSt) λv a0 av z j=>b8 (DM R.handled y (H.step z).fr (j.item _) E) (λγ aN q=>⟨rfl,((H.step z).GY aY (λx g q=>z1 y q) q.1 q.2.1).after z⟩) λγ γ x=>x)
  (PL e ω ba kt q p.line env).1 (PL e ω ba kt q p.line env).2
noncomputable def h8(C:aE)(F:bc)(h:Heap)(B W:Addr->Prop)(β:Str->Addr):List (Str×aC)->List Value->Prop
 |[],vs=>vs=[]
 |(x,lv)::l,vs=>∃v r,vs=v::r/\iJ C F h B β x lv v/\(∀d,lv=.own d->W (β x))/\h8 C F h B W β l r
theorem h8.len{l}:∀{vs},h8 C F h B W β l vs->vs.length=l.length:=by
 induction l with
 |nil=>exact λH=>by rw[show _=[] from H];rfl
 |cons p l z=>exact λH=>ai H λv r q=>by rw[q.1];exact bp (· +1) (z q.2.2.2)
theorem h8.grow{β β':Str->Addr}(G:dt F h B F' h' B')(g:∀b,W b->W' b)(f:∀b,W b->∀o,h.get? b=some o->h'.get? b=some o){l}:∀{vs},(∀q∈l,β' q.1=β q.1)->(∀q∈l,∀ks,q.2=.gn ks->∀k∈ks,β' (cz k)=β (cz k))->h8 C F h B W β l vs->h8 C F' h' B' W' β' l vs:=by
 induction l with
 |nil=>exact λ_ _ H=>H
 |cons p l j=>exact λz bq H=>ai H λv r q=>⟨v,r,q.1,(q.2.1.to G λd e=>f _ (q.2.2.1 d e)).adr (z p bH) λks e=>bq p bH ks e,λd e=>z p bH▸g _ (q.2.2.1 d e),j (λq y=>z q (b3 _ y)) (λq y=>bq q (b3 _ y)) q.2.2.2⟩
theorem h8.BG{l}:∀{vs},h8 C F h B W β l vs->(x,aC.own d)∈l->W (β x):=by
 induction l with
 |nil=>exact λ_ z=>nomatch z
 |cons p l y=>exact λH z=>ai H λv r q=>(cn.mp z).elim (λe=>by rw[<-e] at q;exact q.2.2.1 d rfl) (y q.2.2.2)
theorem zZ(h:ui S own K σ x e d=some lv):lv.d=some d/\∀d',lv=.own d'->own.contains x=true/\uJ S K σ e=true:=
 D4 h (λh κ=>aP h λh hf=>ae h▸⟨rfl,λγ γ=>⟨κ,hf⟩⟩) λh γ=>ae h▸⟨rfl,nofun⟩
theorem DG:∀{ba es} {out},gf S n own K σ ba es=some out->(∃ao,ba=(out.zip ao).map (λq=>Expr.Name q.1.1 q.2)/\ao.length=out.length)/\es.length=out.length/\(∀q∈out,storeOk K q.1=true):=by
 intro g
 induction g with
 |nil=>
  intro es out h;exact aP h λh q=>by rw[gq.mp q,<-ae h];exact⟨⟨[],rfl,rfl⟩,rfl,λq y=>nomatch y⟩
 |cons t ba j=>
  intro es out h
  exact π h λx h a=>π h λe h he=>aP h λh hs=>π h λd h γ=>π h λr h f=>π h λlv h γ=>ν (gH a) λp ag=>cu (j f) λz l i=>ν z λao z=>by
   rw[mB he,ag,<-ae h,z.1];exact⟨⟨p::ao,rfl,bp (· +1) z.2⟩,bp (· +1) l,λq y=>(cn.mp y).elim (λe=>e▸hs) (i q)⟩
theorem JN:∀{ba es} {out},gf S n own K σ ba es=some out->(x,aC.own d)∈out->own.contains x=true:=by
 intro j
 induction j with
 |nil=>
  intro es out h q;exact aP h λh γ=>by rw[<-ae h] at q;exact nomatch q
 |cons t ba z=>
  intro es out h q
  exact π h λy h γ=>π h λe h γ=>aP h λh γ=>π h λd' h γ=>π h λr h p=>π h λlv h g=>by
   rw[<-ae h] at q;rcases cn.mp q with e|q
   ·cases e;exact((zZ g).2 d rfl).1
   ·exact z p q
theorem Ae(h:oF (x::l)=true):x∉l/\oF l=true:=⟨λq=>kO (band h).1 (iG.mpr q),(band h).2⟩
def mw(C:aE)(F:bc)(h:Heap)(B W:Addr->Prop)(β:Str->Addr)(g:List (Str×aC)):Prop:=∀q∈g,i0 q.1=true/\∃d,q.2=.own d/\W (β q.1)/\fW C F h B d (β q.1)
theorem mw.grow{β β':Str->Addr}{g:List (Str×aC)}(G:dt F h B F' h' B')(y:∀b,W b->W' b)(j:∀b,W b->∀o,h.get? b=some o->h'.get? b=some o)(bq:∀q∈g,β' q.1=β q.1)(H:mw C F h B W β g):mw C F' h' B' W' β' g:=λq z=>
 bL (H q z) λε k=>ν k λd k=>⟨ε,d,k.1,by rw[bq q z];exact y _ k.2.1,by rw[bq q z];exact k.2.2.grow G (j _ k.2.1)⟩
def Dp(C:aE)(B:Addr->Prop)(s:Shared)(g out:List (Str×aC))(vs:List Value)(F':bc)(s':Shared):Prop:=∃W β,(∀b,W b->s.heap.get? b=none)/\(∀b,W b->∃o,s'.heap.get? b=some o)/\(h8 C F' s'.heap (λb=>B b∨W b) W β out vs/\mw C F' s'.heap (λb=>B b∨W b) W β g)/\
 (∀x y d e,(x,aC.own d)∈g++out->(y,aC.own e)∈g++out->x≠y->β x≠β y)
theorem mw.nil:mw C F h B W β []:=λq z=>nomatch z
theorem vi{X:Type}{l:List (Str×X)}(h:x∉l.map (·.1)){w:X}(q:(y,w)∈l):y≠x:=λe=>h (e▸pw (f:=(·.1)) q)
theorem PM(G:C.Good)(O:dA C S Ω)(aw:gF C S Ω)(R:a_ A (Ω+n)):∀{ba es} {out} {B} {F} {s},gf S n own K σ ba es=some out->oF (out.map (·.1))=true->St C B K env α F σ s->
 Run C A F (spliced (backTo pos (starEach es env))) (Dp C B s [] out) s:=by
 intro af
 induction af with
 |nil=>
  intro es out B F s h γ H
  exact aP h λh q=>by
   rw[gq.mp q,<-ae h];exact λE=>r7 ⟨F,.refl H.ok,λγ=>False,λγ=>0,λγ q=>q.elim,λγ q=>q.elim,⟨rfl,mw.nil⟩,λx y d e q=>nomatch q⟩
 |cons t ba ab=>
  intro es out B F s h hd H
  exact π h λx h p=>π h λe h he=>aP h λh hs=>π h λd h ε=>π h λr h η=>π h λlv h az=>by
   rw[<-ae h] at hd⊢;have p:=Ae hd;have V:=zZ az;rw[mB he];refine λE=>ob ?_ (eJ ε _ _);cases lv with
   |gn ks=>exact jq V.1.symm
   |val d'=>
    rw[<-ae (show some d'=some d from V.1)] at ε;refine Run.e4 ((aw n).1 K e.1 σ d' ε A env α B F s R H) H λv a0 av f U bx=>Run.post (ab η p.2 U) f λvs Z aN l q=>ai q λW β q=>b2 q λi N ζ Q=>?_
    exact⟨W,β,λb j=>k3 f H.ok (i b j),N,⟨⟨v,vs,rfl,bx.grow ⟨l.θ,λb o j e=>l.keep b o (λω=>j (H.bad.bo b ω)) e,λb o j e q=>q.elim j λq=>aQ ((i b q).symm.trans e)⟩,nofun,ζ.1⟩,mw.nil⟩,
     λy z P L bu Y=>Q y z P L ((cn.mp bu).elim (λq=>nomatch q) id) ((cn.mp Y).elim (λq=>nomatch q) id)⟩
   |own d'=>
    rw[<-ae (show some d'=some d from V.1)] at ε;refine b8 (NJ G O aw R H (V.2 d' rfl).2 ε E) (λv av τ=>ai τ λa0 a q=>b2 q λf ev sX T=>?_) λγ γ x=>x;have Lw:∃o,av.heap.get? a=some o:=ν (kr T) λo q=>⟨o,q.1⟩;have U:=H.enter (W:=λb=>b=a) f (λb j=>j▸sX) (λb j=>j▸Lw);refine Run.post (ab η p.2 U) f λvs Z aN l q=>ai q λW β q=>b2 q λi N ζ Q=>?_;have I:¬W a:=λq=>ν Lw λo e=>aQ ((i a q).symm.trans e);have ea:dt Z aN.heap (λb=>(B b∨b=a)∨W b) Z aN.heap (λb=>B b∨(b=a∨W b)):=⟨λγ γ e=>e,λγ γ γ e=>e,λb γ j γ q=>j (or_assoc.mpr q)⟩
    have zC:fW C Z aN.heap (λb=>B b∨(b=a∨W b)) d' a:=ν (kr T) λo k=>T.grow ⟨l.θ,λb o j e=>l.keep b o (λω=>j (.inl (H.bad.bo b ω))) e,λb o j e q=>(or_assoc.mpr q).elim j λq=>aQ ((i b q).symm.trans e)⟩
     λbf aB=>l.get f.ok aB (ae (k.1.symm.trans aB)▸k.2)
    refine⟨λb=>b=a∨W b,at_ β x a,λb j=>j.elim (λq=>q▸sX) λq=>k3 f H.ok (i b q),λb j=>j.elim (λq=>q▸ν (kr zC) λo q=>⟨o,q.1⟩) (N b),⟨⟨v,vs,rfl,G0 ev zC,λγ γ=>.inl lI,
     ζ.1.grow ea (λb j=>.inr j) (λγ γ γ e=>e) (λq Θ=>jC (vi p.1 Θ)) λγ γ γ γ k γ=>jC (AO (qu hs) k)⟩,mw.nil⟩,λy z P L bu Y lV=>?_⟩
    refine(cn.mp bu).elim (λq=>(cn.mp Y).elim (λg=>(lV ((kC q).1.trans (kC g).1.symm)).elim) λg=>?_) λq=>(cn.mp Y).elim (λg=>?_) λg=>?_
    ·rw[(kC q).1,lI,jC (vi p.1 g)];exact λe=>I (e▸ζ.1.BG g)
    ·rw[(kC g).1,lI,jC (vi p.1 q)];exact λe=>I (e▸ζ.1.BG q)
    ·rw[jC (vi p.1 q),jC (vi p.1 g)];exact Q y z P L q g lV
noncomputable def qY(C:aE)(env:Env):List (Value->Sem Unit)->List (Str×aC)->Prop
 |z,[]=>z=[]
 |z,(x,lv)::l=>∃f r,z=f::r/\(∀(A:Around) (v:Value) (s:Shared) (Q:Unit->el) (E:cg),wpAny C.M A (storeName env x v) Q E s->wpAny C.M A (f v) Q E s)/\qY C env r l
theorem qY.RG{l}:∀{ao},ao.length=l.length->qY C env ((assignEach ((l.zip ao).map (λq=>Expr.Name q.1.1 q.2)) env).map (·.2)) l:=by
 induction l with
 |nil=>exact λh=>by rw[pv.mp h];rfl
 |cons p l z=>
  intro ao h;cases ao with
  |nil=>exact nomatch h
  |cons q ao=>exact⟨_,_,rfl,λA v s Q E y=>CJ y,z (m2 h)⟩
theorem qY.binds:∀{l},qY C env ((l.map (·.1)).map λn=>bindName env n) l:=by
 intro y
 induction y with
 |nil=>
  exact rfl
 |cons j l z=>
  obtain⟨x,lv⟩:=j;exact⟨_,_,rfl,λA v s Q E q=>wpAny_bindName q,z⟩
theorem RH{l:List (Str×aC)}:∀{ao},ao.length=l.length->(assignEach ((l.zip ao).map (λq=>Expr.Name q.1.1 q.2)) env).length=l.length/\(assignEach ((l.zip ao).map (λq=>Expr.Name q.1.1 q.2)) env).findIdx? (·.1)=none:=by
 induction l with
 |nil=>exact λh=>by rw[pv.mp h];exact⟨rfl,rfl⟩
 |cons p l z=>
  intro ao h;cases ao with
  |nil=>exact nomatch h
  |cons q ao=>exact bL (z (m2 h)) λε y=>⟨bp (· +1) ε,List.findIdx?_cons.trans (bp (Option.map (· +1)) y)⟩
theorem Km{l}:oF l=true->l.Nodup:=by
 induction l with
 |nil=>exact λ_=>pn
 |cons x l z=>exact λh=>h2.mpr ⟨(Ae h).1,z (Ae h).2⟩
abbrev zI(C:aE)(M B:Addr->Prop)(K:Kinds)(env:Env)(α β:Str->Addr)(F:bc)(σ:Γ)(s:Shared)(l:List (Str×aC))(s':Shared):Prop:=
 ∃cI,C.cV M F s F s'/\Frame C M B K env cI F (ez σ l) s'/\(∀y,y∉l.map (·.1)->cI y=α y)/\(∀y,y∈l.map (·.1)->cI y=β y)
def IX(α β:Str->Addr)(l:List (Str×aC)):Prop:=∀q∈l,∀ks,q.2=.gn ks->∀k∈ks,α (cz k)=β (cz k)
theorem O3:∀{l} {j} {vs} {α} {σ} {s},qY C env j l->h8 C F s.heap B W β l vs->Frame C M B K env α F σ s->(l.map (·.1)).Nodup->(∀q∈l,storeOk K q.1=true)->IX α β l->
 (∀b,W b->b≠env.locals/\∀y c,env.cells.lookup y=some c->c≠b)->∀E,wpAny C.M A (assignInOrder j vs) (λγ=>zI C M B K env α β F σ s l) E s:=by
 intro P
 induction P with
 |nil=>
  intro j vs α σ s hs ζ H γ γ γ γ E;rw[show j=[] from hs,show vs=[] from ζ];exact b7 ⟨α,.refl H.ok,H,λγ γ=>rfl,λy q=>nomatch q⟩
 |cons O l R=>
  obtain⟨x,lv⟩:=O;intro j vs α σ s hs ζ H g r bq p E
  exact ai hs λf T hs=>ai ζ λv Y ζ=>by
   rw[hs.1,ζ.1];have g:=h2.mp g;have Z:∀k,at_ α x (β x) (cz k)=α (cz k):=λk=>jC (AO (qu (r (x,lv) bH)) k);show wpAny C.M A (do holding Y (f v);assignInOrder T Y) _ E s;refine aR (n5 (hs.2.1 A v s _ E (yY H (r (x,lv) bH) (at_ α x (β x)) (λy z=>jC z) (ζ.2.1.adr lI λks e k i=>(Z k).trans (bq _ bH ks e k i)) (λd q=>lI.symm▸p _ (ζ.2.2.1 d q)) λav a Q γ k₁=>?_)));have U:=ζ.2.2.2.grow (W':=W) (a.grow H.bad H.bM) (λγ q=>q) (λb V o e=>k₁ b o (p b V).1 (λc κ=>gT ((p b V).2 x c κ)) e) (λγ γ=>rfl) λγ γ γ γ γ γ=>rfl;refine b8 (R hs.2.2 U Q g.2 (λq t=>r q (b3 _ t)) (λq t ks e k i=>(Z k).trans (bq q (b3 _ t) ks e k i)) p E) (λγ aN q=>ν q λcI q=>⟨cI,a.trans q.1,q.2.1,λy z=>?_,λy z=>?_⟩) λγ γ x=>x
   ·rw[q.2.2.1 y λq=>z (b3 _ q),jC (y:=y) (x:=x) λe=>z (by rw[e];exact bH)]
   ·refine(cn.mp z).elim (λe=>?_) (q.2.2.2 y);rw[e,q.2.2.1 x g.1,lI]
theorem tx{l}:∀{σ} {y} {lv},(l.map (·.1)).Nodup->(ez σ l).get y=some lv->(y,lv)∈l∨(y∉l.map (·.1)/\σ.get y=some lv):=by
 induction l with
 |nil=>exact λ_ h=>.inr ⟨nofun,h⟩
 |cons p l z=>exact λj h=>(z (h2.mp j).2 h).elim (λq=>.inl (b3 _ q)) λq=>(Γ.jH q.2).elim (λr=>.inl (r.1▸r.2▸bH)) λr=>.inr ⟨λm=>(cn.mp m).elim r.1 q.1,r.2⟩
theorem set_comm{v w:aC}(h:x≠y):(σ.set x v).set y w=(σ.set y w).set x v:=by
 induction σ with
 |nil=>rfl
 |cons p r f=>
  have e:∀(z:Str) (u:aC),Γ.set (p::r) z u=if p.1==z then(p.1,some u)::r else p::Γ.set r z u:=λz u=>by conv=>lhs;unfold Γ.set
  have aB:∀(o:Option aC) (r:Γ) (z:Str) (u:aC),Γ.set ((p.1,o)::r) z u=if p.1==z then(p.1,some u)::r else(p.1,o)::Γ.set r z u:=λo r z u=>by conv=>lhs;unfold Γ.set
  by_cases g:(p.1==x)=true
  ·have j:¬(p.1==y)=true:=λq=>h ((eq_of_beq g).symm.trans (eq_of_beq q));rw[e,au g,aB _ _ y,ar j,e,ar j,aB p.2,au g]
  ·by_cases j:(p.1==y)=true
   ·rw[e,ar g,aB p.2,au j,e,au j,aB _ _ x,ar g]
   ·rw[e,ar g,aB p.2,ar j,e,ar j,aB p.2,ar g,f]
theorem qbp{v:aC}:∀{l} {σ},x∉l.map (·.1)->ez (σ.set x v) l=(ez σ l).set x v:=by
 intro j
 induction j with
 |nil=>
  intro γ γ;exact rfl
 |cons g l z=>
  obtain⟨y,w⟩:=g;intro σ h;show ez ((σ.set x v).set y w) l=(ez (σ.set y w) l).set x v;rw[set_comm (x:=x) (y:=y) λe=>h (by rw[e];exact bH),z λq=>h (b3 _ q)]
theorem qbq{l}:∀{σ},ez σ (l++[p])=(ez σ l).set p.1 p.2:=by
 induction l with
 |nil=>exact rfl
 |cons q l z=>exact z
theorem OC{g}:∀{l} {σ},ez (ez σ g) l=ez σ (g++l):=by
 induction g with
 |nil=>exact rfl
 |cons q g z=>exact z
theorem qbo:∀{l} {σ},(l.map (·.1)).Nodup->ez σ l.reverse=ez σ l:=by
 intro j
 induction j with
 |nil=>
  intro γ γ;exact rfl
 |cons q l y=>
  obtain⟨x,v⟩:=q;intro σ h;have z:=h2.mp h;rw[List.reverse_cons,qbq,y z.2];exact(qbp z.1).symm
theorem h8.append{l}:∀{z} {vs y},h8 C F h B W β l vs->h8 C F h B W β z y->h8 C F h B W β (l++z) (vs++y):=by
 induction l with
 |nil=>exact λH K=>by rw[show _=[] from H];exact K
 |cons p l j=>exact λH K=>ai H λv r q=>⟨v,_,by rw[q.1];rfl,q.2.1,q.2.2.1,j q.2.2.2 K⟩
theorem h8.reverse{l}:∀{vs},h8 C F h B W β l vs->h8 C F h B W β l.reverse vs.reverse:=by
 induction l with
 |nil=>exact λH=>by rw[show _=[] from H];rfl
 |cons p l z=>
  exact λH=>ai H λv r q=>by
   rw[q.1,List.reverse_cons,List.reverse_cons];exact(z q.2.2.2).append ⟨v,[],rfl,q.2.1,q.2.2.1,rfl⟩
theorem bF.NX(H:bF C aF K env ay s0 α F σ s)(aY:C.Ok ay s0){W:Addr->Prop}(g:(l.map (·.1)).Nodup)(X:C.Step F s F' s')(j:∀b,W b->s.heap.get? b=none)
 (Z:∀x y d e,(x,aC.own d)∈l->(y,aC.own e)∈l->x≠y->β x≠β y) (a:∀x d,(x,aC.own d)∈l->a5.contains x=true) (ζ:∀{x d},(x,aC.own d)∈l->W (β x)) (Q:zI C (a8 env α σ) (λb=>(aF b∨a8 env α σ b)∨W b) K env α β F' σ s' l cO):Out C a5 aF K env ay s0 α F σ s (ez σ l) cO:=
 ν Q λcI Q=>by
  have mem:∀{y e},(y,aC.own e)∈l->cI y=β y:=λq=>Q.2.2.2 _ (pw (f:=(·.1)) q);have old:∀{y e},σ.get y=some (.own e)->¬W (α y):=λq w=>ν (H.fr.bad.some _ (.inr (a8.own q))) λo e=>aQ ((j _ w).symm.trans e);have inl:∀{y e},(ez σ l).get y=some (.own e)->W (cI y)->(y,aC.own e)∈l:=λq w=>(tx g q).elim id λr=>(old r.2 (Q.2.2.1 _ r.1▸w)).elim
  exact bL (H.BA aY X j Q.1 Q.2.1 (λb q=>q) (λy e q=>(tx g q).imp (λq=>⟨a _ _ q,mem q▸ζ q⟩) λq=>⟨⟨e,q.2⟩,Q.2.2.1 y q.1⟩)
   (λy z e aB ε t Y j p=>mem (inl ε j)▸mem (inl t p)▸Z y z e aB (inl ε j) (inl t p) Y) (λγ=>.inl) H.bo λy e q w k=>(H.fr.off (j _ w)).2 (.inl k)) λi L=>L.out i
theorem U9{X Y:Type}{f:X->Option Y}{g:X->Y}(j:∀x y,f x=some y->y=g x):∀{l:List X},(l.filterMap f).length=l.length->l.filterMap f=l.map g:=by
 intro p
 induction p with
 |nil=>
  intro γ;exact rfl
 |cons x l q=>
  intro h;rw[CC] at h⊢;cases z:f x with
  |none=>
   rw[z] at h;exact absurd ((show(l.filterMap f).length=l.length+1 from h)▸H' f l) (Nat.not_succ_le_self _)
  |some y=>
   rw[z] at h;rw[bN,<-j x y z];exact bp (y::·) (q (m2 h))
theorem ZC{l:List (Str×aC)}:∀{ao},ao.length=l.length->((l.zip ao).map λq=>Expr.Name q.1.1 q.2).map (λe=>(asName e).getD Str.empty)=l.map (·.1):=by
 induction l with
 |nil=>exact λ_=>rfl
 |cons p l z=>
  intro ao h;cases ao with
  |nil=>exact nomatch h
  |cons q ao=>exact bp (p.1::·) (z (m2 h))
def zK(ba:List Expr)(w:Sem (Option (List Str))):Prop:=w=pure none∨∃names,w=pure (some names)/\names.length=ba.length/\names=ba.map λe=>(asName e).getD Str.empty
theorem ya[Decidable c](ε:c->zK ba a)(z:¬c->zK ba b):zK ba (if c then a else b):=by
 by_cases h:c
 ·rw[au h];exact ε h
 ·rw[ar h];exact z h
theorem MW{a b:Nat}(h:¬(a !=b||c)=true):a=b:=by
 by_cases e:a=b
 ·exact e
 ·exact(h (by rw[bne_iff_ne.mpr e];rfl)).elim
theorem qcz ba kt q es g pc env (h:(!es.all (constantsAlone 8)||es.all (foldedForSure 8))=true):zK ba (swappedStores [.Tuple ba kt q] (.Tuple es g pc) env):=by
 unfold swappedStores;refine ya (λγ=>.inl rfl) λγ=>ya (λγ=>.inl rfl) λγ=>ya (λγ=>.inl rfl) λj=>ya (λγ=>.inl rfl) λhf=>ya (λκ=>?_) λγ=>.inr ⟨_,rfl,MW j,U9 (λx y z=>?_) (MW j)⟩
 ·exact(hf ((m6.mp h).elim (λq=>(kO q κ).elim) id)).elim
 ·cases x with
  |Name id p=>
   revert z;show(if _ then some id else none)=some y->y=id;split
   ·exact λe=>(ae e).symm
   ·exact λe=>aQ e
  |_=>exact aQ z
noncomputable def vn(α β:Str->Addr)(g:List (Str×aC)):Str->Addr:=λy=>if y∈g.map (·.1) then β y else α y
theorem BE(h:y∈g.map (·.1)):vn α β g y=β y:=au h
theorem BF(h:y∉g.map (·.1)):vn α β g y=α y:=ar h
theorem Frame.hide(H:Frame C M B K env α F σ s)(z:mw C F s.heap B W β g)(r:∀b,W b->b≠env.locals/\∀y c,env.cells.lookup y=some c->c≠b)
 (t:∀y ks,σ.get y=some (.gn ks)->∀k∈ks,cz k∉g.map (·.1)) (j:(g.map (·.1)).Nodup):Frame C M B K env (vn α β g) F (ez σ g) s:=
 {ok:=H.ok,bad:=H.bad,kind:=H.kind,glob:=H.glob,blt:=H.blt,code:=H.code,gh:=H.gh,cells:=H.cells,free:=H.free,bM:=H.bM,ns:=H.ns,gO:=H.gO,loc:=H.loc,fD:=H.fD,gI:=H.gI,gc:=H.gc,inj:=H.inj
  nm:=λy lv e hG=>(tx j e).elim (λq=>dk ((z _ q).1.symm.trans hG)) λq=>H.nm y lv q.2 hG
  vars:=λy lv e=>(tx j e).elim (λq=>bL (z _ q) λε k=>ν k λd k=>⟨.ref (β y),.inl ε,by
   rw[show lv=.own d from k.1];have p:vn α β g y=β y:=BE (pw (f:=(·.1)) q);exact⟨by rw[p],by rw[p];exact k.2.2⟩⟩) λq=>ν (H.vars y lv q.2) λv k=>⟨v,k.1,k.2.adr (BF q.1) λks e k l=>BF (t y ks (e▸q.2) k l)⟩
  e3:=λy d e=>(tx j e).elim (λq=>by
   rw[BE (pw (f:=(·.1)) q)];exact bL (z _ q) λε k=>ν k λd k=>r _ k.2.1) λq=>by rw[BF q.1];exact H.e3 y d q.2}
theorem OA(p:∀q,q∈l↔q∈j)(e:ez (ez σ g) j=ez (ez σ g) l)(Q:zI C M B K env (vn α β g) β F (ez σ g) s j s'):zI C M B K env α β F σ s (g++l) s':=
 ν Q λcI Q=>⟨cI,Q.1,by rw[<-OC,<-e];exact Q.2.1,λy z=>by
  rw[kD,fk] at z;exact(Q.2.2.1 y λq=>z (.inr (ν (bV.mp q) λr k=>bV.mpr ⟨r,(p r).mpr k.1,k.2⟩))).trans (BF λq=>z (.inl q)),λy z=>by
  by_cases h:y∈j.map (·.1)
  ·exact Q.2.2.2 y h
  ·rw[kD,fk] at z;exact(Q.2.2.1 y h).trans (BE (z.elim id λq=>(h (ν (bV.mp q) λr k=>bV.mpr ⟨r,(p r).mp k.1,k.2⟩)).elim))⟩
theorem KS(R:a_ A (Ω+n))(aY:C.Ok ay s0)(H:bF C aF K env ay s0 α F σ s)
 (he:∀{pos:Pos},Run C A F (spliced (backTo pos (starEach es env))) (Dp C (λb=>aF b∨a8 env α σ b) s g l) s) (Fw:∃ao:List Pos,ba=(l.zip ao).map (λq=>Expr.Name q.1.1 q.2)/\ao.length=l.length) (O:∀q∈l,storeOk K q.1=true)
 (hV:∀x d,(x,aC.own d)∈g++l->a5.contains x=true) (T:(g.map (·.1)).Nodup) (WI:∀q∈g,i0 q.1=true) (WG:∀q∈l,∀ks,q.2=.gn ks->∀k∈ks,cz k∈g.map (·.1)) (L:∀y ks,σ.get y=some (.gn ks)->∀k∈ks,cz k∉g.map (·.1)) (N:ts l es=true):
 ∀E,wpAny C.M A (exec (.Assign [.Tuple ba kt q] (.Tuple es te pc) p) env) (fx C a5 aF K env ay s0 α F σ s .next (ez σ (g++l))) E s:=by
 intro E;have hd:=(band (band (band N).1).1).1;have U:=Km hd;refine ν Fw λao nm=>?_;have uW:ba.length=l.length:=by rw[nm.1,bt,mq,nm.2,pq]
 have I:((g++l).map (·.1)).Nodup:=by
  rw[kD];refine r4.mpr ⟨T,U,λx f y aH e=>?_⟩;exact ν (bV.mp f) λr k=>ν (bV.mp aH) λgP k'=>dk ((WI r k.1).symm.trans (by rw[k.2,e,<-k'.2];exact BJ (qu (O gP k'.1))))
 have mk:∀{Q:cg},(∀F' W β a vs s',C.Step F s F' s'->(∀b,W b->s.heap.get? b=none)->Frame C (a8 env α σ) (λb=>(aF b∨a8 env α σ b)∨W b) K env α F' σ s'->(h8 C F' s'.heap (λb=>(aF b∨a8 env α σ b)∨W b) W β l vs/\mw C F' s'.heap (λb=>(aF b∨a8 env α σ b)∨W b) W β g)->
  (∀x y d e,(x,aC.own d)∈g++l->(y,aC.own e)∈g++l->x≠y->β x≠β y)->s'.heap.IsTuple a (List.toArray vs)->Q (.ref a) s')->wpAny C.M A (eval (.Tuple es te pc) env) Q E s:=λbB=>
  wpAny_Tuple (Run.seq he λvs a0 av P q=>ai q λW β q=>b2 q λj lp ζ i=>⟨ζ.1.len▸iw.mp (band (band N).1).2,by
   have z:C.Step a0 av a0 {av with heap:=av.heap.push {cls:=.type "tuple",data:=.seq vs.toArray}}:=.heap P.ok (n:=av.toks) (a7 _) λb o e=>dn _ e;have Fr:=H.fr.enter P j lp;have t:=z.grow Fr.bad;exact bB a0 W β _ vs _ (P.trans z) j (Fr.step z) ⟨ζ.1.grow t (λγ q=>q) (λb γ o e=>dn _ e) (λγ γ=>rfl) λγ γ γ γ γ γ=>rfl,ζ.2.grow t (λγ q=>q) (λb γ o e=>dn _ e) λγ γ=>rfl⟩ i ⟨_,eW _ rfl,rfl,0,rfl⟩⟩)
 have off:∀{W:Addr->Prop},(∀b,W b->s.heap.get? b=none)->∀b,W b->b≠env.locals/\∀y c,env.cells.lookup y=some c->c≠b:=λ{W} j b δ=>⟨(H.fr.off (j b δ)).1.1,(H.fr.off (j b δ)).1.2.1⟩
 have un:∀{F':bc} {s':Shared} {h':Heap},C.Ok F' s'->(∀b o,b≠s'.heap.objs.size->s'.heap.get? b=some o->h'.get? b=some o)->C.Step F' s' F' {s' with heap:=h'}/\(∀b o,s'.heap.get? b=some o->h'.get? b=some o):=λ{F' s' h'} ok f=>
  have k:∀b o,s'.heap.get? b=some o->h'.get? b=some o:=λb o e=>f b o (fQ (dz e)) e
  ⟨.heap ok (n:=s'.toks) (a7 _) k,k⟩
 have kV:∀{β:Str->Addr},IX (vn α β g) β l:=λ{β} q V ks e k χ=>BE (WG q V ks e k χ)
 have e3:∀{F':bc} {h':Heap} {W:Addr->Prop} {β:Str->Addr} {vs:List Value},h8 C F' h' (λb=>(aF b∨a8 env α σ b)∨W b) W β l vs->mw C F' h' (λb=>(aF b∨a8 env α σ b)∨W b) W β g->∀{x d},(x,aC.own d)∈g++l->W (β x):=λ{F' h' W β vs} ε η {x d} f=>
  (fk.mp f).elim (λq=>bL (η _ q) λγ k=>ν k λd k=>k.2.1) ε.BG
 refine mj (qcz ba kt q es te pc env (band N).2) (λhw=>Assign_Tuple (mk λF' W β a vs s' X j Fr ζ i ω=>?_) rfl hw) λhw=>ν hw λnames hw=>Assign_Tuple_swapped (mk λF' W β a vs s' X j Fr ζ i ω=>?_) rfl hw.1
 ·have c4:=RH (env:=env) nm.2;rw[<-nm.1] at c4;refine wpAny_assign_Tuple R.handled ω (by rw[c4.1,gp,ζ.1.len]) c4.2 λh' f=>?_;have z:=un X.ok f;have t:=z.1.grow Fr.bad;have Z:=ζ.1.grow (W':=W) (β':=β) t (λγ q=>q) (λb γ=>z.2 b) (λγ γ=>rfl) λγ γ γ γ γ γ=>rfl;have Y:=ζ.2.grow (W':=W) (β':=β) t (λγ q=>q) (λb γ=>z.2 b) λγ γ=>rfl;rw[nm.1];exact b8 (O3 (qY.RG nm.2) Z ((Fr.step z.1).hide Y (off j) L T) U O kV (off j) E) (λγ aN Q=>⟨rfl,H.NX aY I (X.trans z.1) j i hV (e3 Z Y) (OA (λγ=>Iff.rfl) rfl Q)⟩) λγ γ x=>x
 ·have τ:names=l.map (·.1):=by rw[hw.2.2,nm.1];exact ZC nm.2
  have ag:names.length=vs.toArray.size:=hw.2.1.trans (uW.trans ζ.1.len.symm);rw[ag];refine wpAny_unpackItems_tuple R.handled ω λh' f=>?_;have z:=un X.ok f;have t:=z.1.grow Fr.bad;have Z:=ζ.1.grow (W':=W) (β':=β) t (λγ q=>q) (λb γ=>z.2 b) (λγ γ=>rfl) λγ γ γ γ γ γ=>rfl;have Y:=ζ.2.grow (W':=W) (β':=β) t (λγ q=>q) (λb γ=>z.2 b) λγ γ=>rfl;have W8:(l.reverse.map (·.1)).Nodup:=by rw[List.map_reverse];exact List.pairwise_reverse.mpr (U.imp λh=>gT h)
  rw[τ,<-List.map_reverse];exact b8 (O3 qY.binds Z.reverse ((Fr.step z.1).hide Y (off j) L T) W8 (λq V=>O q (List.mem_reverse.mp V)) (λq V=>kV q (List.mem_reverse.mp V)) (off j) E) (λγ aN Q=>⟨rfl,H.NX aY I (X.trans z.1) j i hV (e3 Z Y) (OA (λγ=>List.mem_reverse.symm) (qbo U) Q)⟩) λγ γ x=>x
theorem GP:∀{ba es} {out},gf S n own K σ ba es=some out->(x,aC.gn ks)∉out:=by
 intro j
 induction j with
 |nil=>
  intro es out h;exact aP h λh γ q=>by rw[<-ae h] at q;exact nomatch q
 |cons t ba z=>
  intro es out h
  exact π h λy h γ=>π h λe h γ=>aP h λh γ=>π h λd' h γ=>π h λr h p=>π h λlv h g=>λq=>by
   rw[<-ae h] at q;rcases cn.mp q with e|q
   ·cases e;exact jq (zZ g).1.symm
   ·exact z p q
theorem UJ(G:C.Good)(O:dA C S Ω)(aw:gF C S Ω)(R:a_ A (Ω+n))(aY:C.Ok ay s0)(H:bF C aF K env ay s0 α F σ s)
 (he:gf S n a5 K σ ba es=some l) (y:ts l es=true):
 ∀E,wpAny C.M A (exec (.Assign [.Tuple ba kt q] (.Tuple es r pc) p) env) (fx C a5 aF K env ay s0 α F σ s .next (ez σ l)) E s:=
 cu (DG he) λnm f j=>KS (g:=[]) R aY H (PM G O aw R he (band (band (band y).1).1).1 H.fr.toSt) nm j (λγ γ=>JN he) pn (λq z=>nomatch z) (λq z ks e=>(GP (x:=q.1) (ks:=ks) he (by rw[<-e];exact z)).elim) (λγ γ γ k γ q=>nomatch q) y
def I5(C:aE)(F:bc)(s:Shared)(ks:List Int)(v:Value)(s':Shared):Prop:=∃(F':bc) (a:Addr) (z:Int->Addr),C.Step F s F' s'/\v=.ref a/\s.heap.get? a=none/\(a==sysModules)=false/\
 (s'.heap.DictOf C.dR a (ks.map λk=>(k,.ref (z k)))/\(∀k∈ks,s.heap.get? (z k)=none/\s'.heap.PlainList (z k) #[])/\∀k∈ks,∀j∈ks,z k=z j->k=j)
theorem TO(h:uF d=true):d=.lst []:=by
 unfold uF at h;cases e:fX d with
 |none=>rw[e] at h;exact dk h.symm
 |some l=>rw[e] at h;rw[lF e,gq.mp h]
theorem ZO:∀{ds} {us},(ds.all λp=>uF p.2)=true->cL C F h B ds us->(us.map (·.1)).Nodup->
 ∃z:Int->Addr,us=(ds.map (·.1)).map (λk=>(k,.ref (z k)))/\∀k∈ds.map (·.1),h.PlainList (z k) #[]:=by
 intro x
 induction x with
 |nil=>
  intro us γ H γ;exact⟨λγ=>0,H,λk l=>nomatch l⟩
 |cons Y r i=>
  obtain⟨k,d⟩:=Y;intro us he H f
  exact ai H λv q e=>by
   rw[e.1] at f⊢;have he:=band (show(uF d&&r.all λp=>uF p.2)=true from he);have f:=h2.mp f;refine ν (i he.2 e.2.2 f.2) λz g=>?_;have D:=e.2.1;rw[TO he.1] at D;refine ai D λa vs p=>b2 p λk_ γ vo G1=>?_;rw[show vs=[] from G1] at vo;have l:∀j∈r.map (·.1),j≠k:=λj y Z=>f.1 (by rw[<-D9 e.2.2];exact Z▸y);refine⟨λj=>if j=k then a else z j,?_,λj y=>?_⟩
   ·show(k,v)::q=(k,Value.ref (if k=k then a else z k))::(r.map (·.1)).map λj=>(j,Value.ref (if j=k then a else z j));rw[au rfl,k_,g.1];exact bp _ (m5 λj y=>by rw[ar (l j y)])
   ·by_cases t:j=k
    ·show h.PlainList (if j=k then a else z j) #[];rw[au t];exact vo
    ·show h.PlainList (if j=k then a else z j) #[];rw[ar t];exact g.2 j ((cn.mp y).elim (λq=>(t q).elim) id)
theorem Rt{c}(h:ue e=some c):∃p,e=.DictComp c.1 c.2.1 c.2.2.1 c.2.2.2 p:=
 eO h λq=>Expr.DictComp.elim (motive_1:=λe=>ue e=some c->∃p,e=.DictComp c.1 c.2.1 c.2.2.1 c.2.2.2 p) e q (λk v gs sc p h=>⟨p,by rw[<-ae h]⟩) h
theorem Ry{es}(h:zU e=some es):∃p,e=.List es p:=
 eO h λq=>Expr.List.elim (motive_1:=λe=>zU e=some es->∃p,e=.List es p) e q (λx p h=>⟨p,by rw[<-ae h]⟩) h
theorem ZN(G:C.Good)(O:dA C S Ω)(aw:gF C S Ω)(R:a_ A (Ω+n))(H:St C B K env α F σ s)(h:yp S n K σ e=some ks):(∃k v gs sc p,e=.DictComp k v gs sc p)/\∀E,wpAny C.M A (eval e env) (I5 C F s ks) E s:=by
 cases n with
 |zero=>exact aQ h
 |succ n=>
 refine π (x:=ue e) h λc h κ=>π h λes h he=>aP h λh p6=>π h λout h i=>aP h λhf gi=>?_;obtain⟨f,HR,gens,sc⟩:=c;refine ν (Rt κ) λpos ag=>ν (Ry he) λp Y=>?_;dsimp only at ag Y i;rw[gq.mp p6] at Y;refine⟨⟨f,HR,gens,sc,pos,ag⟩,λE=>?_⟩;rw[Y] at i ag;rw[ag];refine cN (D1 (c:=.nest f p s.heap) i) λg gs items q=>b2 q λxg Q N q=>b2 q λκ ε η aq=>?_;have k:=vC N;have bO:Expr.DictComp f (.List [] p) gens sc pos=(cK.nest f p s.heap).expr (g::gs) sc pos:=by rw[xg];rfl
 rw[bO,KL (.nest f p s.heap) (uz κ).2.1];refine H9 (use:=none) (g:=g) (gs:=gs) (DU (.nest f p s.heap) _ _ _) (yb ε env) (z6 λp y hf=>ai (H.cells p.1 (sz Q p y hf)).1 λc w q=>⟨c,q.1⟩) k.1 (λp y ζ=>by rw[k.2.2 p y,ζ]) ?_;refine D3 (RR:=λacc L=>compPost C.M A E none (I5 C F s ks) acc L) G O (aw n).1 (aw n).2 (R.mono (c9 _)) H Q N κ ε η aq (λb o e=>⟨o,e⟩) λF' s' a L fm X P γ Ψ U cE jl l=>ν jl λm τ=>⟨m,τ,λh' Z=>?_⟩;have l:=l.grow (h':=h') (F':=F') (B':=λb=>B b∨fm b) ⟨λγ γ e=>e,λb o z V=>Z.extBut b o (λq=>z (.inr (q▸U))) V,λγ γ z γ=>z⟩ λo Es=>Z.extBut a o (gT cE) Es;refine bL l.1 λFK q=>ν q λus q=>bL q λy ζ=>ν l.2 λgC bl=>cu bl λdC inj I=>?_;rw[Eb rfl rfl y dC] at inj I;have iZ:(us.map (·.1)).Nodup:=cN y λo es ep r=>r.2.2.2.2.2;refine ν (ZO gi ζ iZ) λT g=>?_;have mem:∀{k},k∈ks->(k,Value.ref (T k))∈us:=λt=>by rw[g.1,ae hf];exact bV.mpr ⟨_,t,rfl⟩
 refine⟨F',a,T,X.gone H.ok (W:=λb=>b=L) (λb z=>z▸P L U) (λb z=>z▸Bt τ) (λb o z V=>Z.extBut b o z V) (a7 s'.toks),rfl,P a Ψ,FK,?_,λk t=>⟨I _ (mem t) _ rfl,g.2 k ?_⟩,λk t j Δ e=>inj _ (mem t) _ (mem Δ) (bp Value.ref e)⟩
 ·rw[g.1,ae hf] at y;exact y
 ·rw[ae hf];exact t
noncomputable def ML(y:Str):Int:=(y.cps[1]?.getD 0:Nat)
theorem Yx{k:Int}(h:0<=k):ML (cz k)=k:=tN h
def qj(x:Str)(a:Addr)(z:Int->Addr)(β:Str->Addr):Str->Addr:=λy=>if y=x then a else if i0 y=true then z (ML y) else β y
theorem NF:qj x a z β x=a:=au rfl
theorem Bq(y:eU x=true){k:Int}(j:0<=k):qj x a z β (cz k)=z k:=by
 unfold qj;rw[ar (AO y k),au (AN k),Yx j]
theorem ZL(h:y≠x)(z:eU y=true):qj x a j β y=β y:=by
 unfold qj;rw[ar h,ar λq=>dk (q.symm.trans (BJ z))]
theorem AM(h:q∈p8 ks):∃k∈ks,q=(cz k,.own (.lst [])):=ν (bV.mp h) λk r=>⟨k,r.1,r.2.symm⟩
theorem Td(hd:h.DictOf C.dR a us)(ζ:h.PlainList b xs):a≠b:=λe=>cN hd λo es ep q=>ν ζ λn g=>by
 rw[<-e] at g;exact nomatch q.2.2.1.symm.trans (bp Obj.data (ae (q.1.symm.trans g)))
theorem qea(G:C.Good)(O:dA C S Ω)(aw:gF C S Ω)(R:a_ A (Ω+n))(Q:eU x=true)(rj:yp S n K σ e=some ks)(U:∀k∈ks,0<=k)
 (P:gf S n own K σ ba es=some l) (hd:oF (x::l.map (·.1))=true) (H:St C B K env α F σ s):Run C A F (spliced (backTo pos (starEach (e::es) env))) (Dp C B s (p8 ks) ((x,.gn ks)::l)) s:=by
 intro E;have L:=Ae hd;refine bL (ZN (A:=A) (env:=env) (α:=α) G O aw R H rj) λro Xo=>ob (b8 (Xo E) (λv av τ=>cN τ λa0 a f q=>b2 q λT ev sX q=>b2 q λFK V Z WO=>?_) λγ γ x=>x) (N9 e (cN ro λk v gs q=>ai q λsc p q=>by rw[q];rfl) _ _);have a4:=H.enter (W:=λb=>∃k∈ks,b=f k) T (λb t=>ν t λk q=>q.2▸(Z k q.1).1) (λb t=>ν t λk q=>q.2▸ν (Z k q.1).2 λn g=>⟨_,g⟩);refine Run.post (PM G O aw R P L.2 a4) T λvs bX aN bb q=>ai q λW β q=>b2 q λN lp ζ jj=>?_;have I:∀{b o},av.heap.get? b=some o->(∀ao,o.data≠ .fields ao)->aN.heap.get? b=some o:=λe hd=>bb.get T.ok e hd;have c4:∀q∈l,eU q.1=true:=λq i=>qu ((DG P).2.2 q i);have NZ:∀q∈l,qj x a f β q.1=β q.1:=λq i=>ZL (vi L.1 (w:=q.2) i) (c4 q i);have dD:aN.heap.DictOf C.dR a (ks.map λk=>(k,.ref (f k))):=tf V λo e=>ν (Ad V) λbf q=>I e (ae (q.1.symm.trans e)▸q.2);have nO:∀k∈ks,aN.heap.PlainList (f k) #[]:=λk Y=>ν (Z k Y).2 λn g=>⟨n,I g λao=>nofun⟩;have Ms:∀{y d},(y,aC.own d)∈l->W (β y):=λq=>ζ.1.BG q;have wF:∀k∈ks,¬W (f k):=λk Y q=>ν (Z k Y).2 λn g=>aQ ((N _ q).symm.trans g);have ea:dt bX aN.heap (λb=>(B b∨∃k∈ks,b=f k)∨W b) bX aN.heap (λb=>B b∨((∃k∈ks,b=f k)∨W b)):=⟨λγ γ e=>e,λγ γ γ e=>e,λb γ t γ q=>t (or_assoc.mpr q)⟩;refine⟨λb=>(∃k∈ks,b=f k)∨W b,qj x a f β,λb t=>t.elim (λq=>ν q λk q=>q.2▸(Z k q.1).1) λq=>k3 T H.ok (N b q),λb t=>t.elim (λq=>ν q λk q=>q.2▸ν (nO k q.1) λn g=>⟨_,g⟩) (lp b),⟨⟨v,vs,rfl,?_,nofun,?_⟩,?_⟩,?_⟩
 ·refine⟨by rw[NF];exact ev,?_⟩;rw[NF,m5 λk Y=>by rw[Bq Q (U k Y)]];exact⟨λq=>q.elim (λq=>ν (H.bad.some a q) λo e=>aQ (sX.symm.trans e)) λq=>q.elim (λq=>ν q λk q=>Td V (Z k q.1).2 q.2) λq=>ν (Ad V) λo g=>aQ ((N _ q).symm.trans g.1),FK,dD⟩
 ·exact ζ.1.grow ea (λb t=>.inr t) (λγ γ γ e=>e) NZ λq i Bb e=>(GP (x:=q.1) (ks:=Bb) P (by rw[<-e];exact i)).elim
 ·refine λq i=>ν (AM i) λk r=>?_;rw[r.2];exact⟨AN k,_,rfl,by rw[Bq Q (U k r.1)];exact .inl ⟨k,r.1,rfl⟩,by rw[Bq Q (U k r.1)];exact⟨[],nO k r.1,rfl⟩⟩
 ·have cs:∀{y d},(y,aC.own d)∈p8 ks++(x,.gn ks)::l->(∃k∈ks,y=cz k/\qj x a f β y=f k)∨((y,aC.own d)∈l/\qj x a f β y=β y):=λ{y d} h=>(fk.mp h).elim (λq=>ν (AM q) λk r=>by
   have ag:=(kC r.2).1;exact .inl ⟨k,r.1,ag,by rw[ag];exact Bq Q (U k r.1)⟩) λq=>(cn.mp q).elim (λq=>nomatch (kC q).2) λq=>.inr ⟨q,NZ _ q⟩
  intro y z kP mE bu dx lV;refine(cs bu).elim (λp=>ν p λk p=>?_) λp=>?_
  ·refine(cs dx).elim (λq=>ν q λj q=>?_) λq=>?_
   ·rw[p.2.2,q.2.2];exact λe=>lV (by rw[p.2.1,q.2.1,WO k p.1 j q.1 e])
   ·rw[p.2.2,q.2];exact λe=>wF k p.1 (e▸Ms q.1)
  ·refine(cs dx).elim (λq=>ν q λj q=>?_) λq=>?_
   ·rw[p.2,q.2.2];exact λe=>wF j q.1 (e▸Ms p.1)
   ·rw[p.2,q.2];exact jj y z kP mE (fk.mpr (.inr p.1)) (fk.mpr (.inr q.1)) lV
theorem Z0:∀{σ},GO σ=true->σ.get y≠some (.gn ks):=by
 intro g
 induction g with
 |nil=>
  intro γ e;exact aQ e
 |cons p r j=>
  obtain⟨z,w⟩:=p;intro h e;have h:=band (show(!(w.any MB)&&GO r)=true from h);rw[Γ.jG] at e
  by_cases q:y=z
  ·rw[au q] at e;rw[e] at h;exact jo h.1
  ·rw[ar q] at e;exact j h.2 e
theorem UI(G:C.Good)(O:dA C S Ω)(aw:gF C S Ω)(R:a_ A (Ω+n))(aY:C.Ok ay s0)(H:bF C aF K env ay s0 α F σ s)
 (h:Ao S n a5 K ba es σ=some (σ',θ)):∀E,wpAny C.M A (exec (.Assign [.Tuple ba kt q] (.Tuple es I pc) p) env) (fx C a5 aF K env ay s0 α F σ s θ σ') E s:=
 π h λt h ω=>π h λx h N=>aP h λh κ=>π h λe h he=>π h λks h P=>aP h λh z=>π h λl h f=>aP h λh i=>ν (gH N) λU ex=>by
  have hs:=(band (band κ).1).2;have Q:=Km (band z).2;have z:=er.mp (band z).1;rw[mB he] at i⊢;rw[mB ω,ex];cases h;refine cu (DG f) λnm L T=>ν nm λao nm=>?_
  exact KS (g:=p8 ks) (l:=(x,.gn ks)::l) R aY H (qea G O aw R (qu hs) P (λk a=>cU (band (z k a)).1) f (band (band (band i).1).1).1 H.fr.toSt) ⟨U::ao,by rw[nm.1];rfl,bp (· +1) nm.2⟩
   (λq j=>(cn.mp j).elim (λe=>e▸hs) (T q)) (λy d Y=>(fk.mp Y).elim (λq=>ν (AM q) λk r=>(kC r.2).1▸(band (z k r.1)).2) λq=>(cn.mp q).elim (λq=>nomatch (kC q).2) (JN f)) Q
   (λq j=>ν (AM j) λk r=>by rw[r.2];rfl) (λq j Z e k a=>(cn.mp j).elim (λW=>by rw[W] at e;cases e;exact bV.mpr ⟨_,bV.mpr ⟨k,a,rfl⟩,rfl⟩) λV=>(GP (x:=q.1) (ks:=Z) f (by rw[<-e];exact V)).elim) (λy Z e=>(Z0 (band κ).2 e).elim) i
theorem RA{c}(h:zX e=some c):∃g p ap q,e=.Call (.Attribute (.Subscript (.Name c.1 g) c.2.1 p) "append" ap) [c.2.2] [] q/\hg (.Subscript (.Name c.1 g) c.2.1 p) ap q=true:=
 π h λa h ε=>π h λb h Y=>π h λz h j=>π h λy h bu=>aP h λh κ=>π j λlr j l=>π j λx j i=>ν (wU ε) λq ag=>ν (JC l) λp Z=>ν (gH i) λg t=>by
  have r:=wO Y;have hm:=band (band κ).1;have f:=(band κ).2;rw[<-ae h,<-ae j];rw[Z,t] at r f;rw[ag] at f;refine⟨g,p,b.2.2,q,?_,f⟩;rw[ag,r,gx bu,gq.mp hm.1,eq_of_beq hm.2]
theorem Z1(h:μ S n K i σ=some j):jB i=none:=by
 unfold jB;exact dif_neg λq=>dk ((show Nat.beq i.ctorIdx 26=true by rw[q];rfl).symm.trans (NO h))
theorem qec{f:Int->Value}{k:Int}:∀{ks:List Int},k∈ks->valueAt (ks.map λk=>(k,f k)) k=some (f k):=by
 intro y
 induction y with
 |nil=>
  intro h;exact nomatch h
 |cons j r z=>
  intro h;unfold valueAt;rw[bN]
  by_cases e:j=k
  ·rw[Ih (by simpa using e),e];rfl
  ·rw[Ii (by simpa using e)];exact z ((cn.mp h).elim (λq=>(e q.symm).elim) id)
theorem UZ(aw:gF C S Ω)(R:a_ A (Ω+n))(aY:C.Ok ay s0)(H:bF C aF K env ay s0 α F σ s)(hm:hg (.Subscript (.Name x eA) i tc) ap p=true)
 (kZ:eU x=true) (ι:σ.get x=some (.gn ks)) (ρ:μ S n K i σ=some (.int j)) (Δ:j∈ks) (bq:σ.get (cz j)=some (.own (.lst l))) (he:μ S n K e σ=some d) (aq:dE (l.length+1)=true):
 ∀E,wpAny C.M A (exec (.Expr (.Call (.Attribute (.Subscript (.Name x eA) i tc) "append" ap) [e] [] p) q) env) (fx C a5 aF K env ay s0 α F σ s .next (σ.set (cz j) (.own (.lst (l++[d]))))) E s:=by
 intro E;have U:(backTo p (starEach [e] env)).any (·.1)=false:=by rw[eJ he];rfl
 refine wpAny_Expr (rF hm (e5 rfl) U (Subscript_ (ν (H.fr.vars x _ ι) λn0 k=>n2 H.fr.kind k.1 kZ (Run.seq ((aw n).1 K i σ _ ρ A env α _ F s R H.fr.toSt) λο a0 av z bx=>?_)))) (by unfold interactive;rw[H.fr.kind];rfl) rfl;have L:=H.step z;have a:=k.2.step (x:=x) z H.fr.ok (z.grow H.fr.bad);rw[show n0=.ref (α x) from k.2.1];refine ν bx λt ag=>?_;rw[ag];refine tail_any a.2.2.2.typeIs slot_dict_getitem.lookup (wpAny_getItem_of (knd:=C.dR) (r' _ _ _ _) a.2.2.2.mapOf (qec (f:=λk=>.ref (α (cz k))) Δ) ?_) (OK i (Z1 ρ) _ _);have Y:C.Step a0 av a0 {av with toks:=av.toks+1}:=.tok z.ok (c9 _);have y:=L.step Y;refine ν (y.fr.vars _ _ bq) λγ k=>ν k.2.2 λvs k=>ν (id k.1) λm I=>⟨"list","list.append",Cp,PySem.F.slot_list_append,PySem.F.type_list_append,k.1.isList.typeIs,λdB jD=>kE jD▸⟨_,I,rfl⟩,vb U (eJ he _ _) ?_⟩;rw[eJ he];refine r3 (Run.seq ((aw n).1 K e σ _ he A env α _ a0 _ R y.fr.toSt) λv T W V N=>tR ?_);have Q:=y.step V;refine ν (Q.fr.vars _ _ bq) λγ k₁=>ν k₁.2.2 λqD r=>bL r λxT O=>Ia xT (λh' dC Z=>?_) (by rw[gp,O.length];exact zf (iw.mp aq));have P:dt T W.heap (λb=>aF b∨a8 env α σ b) T h' (λb=>aF b∨a8 env α σ b):=⟨λγ γ e=>e,λb o g e=>Z.extBut b o (λq=>g (.inr (q▸a8.own bq))) e,λγ γ g γ=>g⟩;refine⟨rfl,(Q.yo (d':=.lst (l++[d])) aY bq Z.extBut ⟨qD++[v],?_,(O.grow P).append ⟨v,[],rfl,N.grow P,rfl⟩⟩ (a7 W.toks)).after ((z.trans Y).trans V)⟩;rw[<-List.push_toArray];exact dC
theorem bF.shrink(H:bF C aF K env ay s0 α F σ s)(aY:C.Ok ay s0)(g:∀y e,σ'.get y=some (.own e)->σ.get y=some (.own e))(f:∀y lv,σ'.get y=some lv->i0 y=false->eU y=true)
 (r:∀y lv,σ'.get y=some lv->∃v,jy s.heap env y v/\iJ C F s.heap (λb=>aF b∨a8 env α σ' b) α y lv v):bF C aF K env ay s0 α F σ' s/\gY C a5 env α F σ s α F σ' s:=by
 have sub:∀b,a8 env α σ' b->a8 env α σ b:=λb j=>a8.mono (λy e q=>⟨e,g y e q⟩) j;have fr:=H.fr
 exact⟨⟨{ok:=fr.ok,bad:=⟨λb t=>.inl (H.bo b t),λb j=>fr.bad.some b (j.imp id (sub b)),λb j=>fr.bad.new b (j.imp id (sub b))⟩,kind:=fr.kind,glob:=fr.glob,blt:=fr.blt,code:=fr.code,gh:=fr.gh,cells:=fr.cells,nm:=f,vars:=r
         free:=aE.et.of_none aY λa p=>H.new a (sub a p),bM:=λa p=>.inr p,ns:=fr.ns,gO:=.inl rfl,loc:=fr.loc,fD:=λy e=>⟨(fr.fD y e).1,ν (fr.fD y e).2 λc q=>⟨c,q.1,.inr (.inl ⟨y,q.1⟩)⟩⟩,gI:=fr.gI,gc:=fr.gc,inj:=fr.inj,e3:=λy e q=>fr.e3 y e (g y e q)},
  H.base,λb j=>H.new b (sub b j),λy z e aB ε l=>H.dist y z e aB (g y e ε) (g z aB l),H.bo,λb j=>H.nb b (sub b j)⟩,
  λγ γ γ γ e=>e,λb j=>.inl (sub b j),λγ γ e=>e,λy e q=>.inr ⟨⟨e,g y e q⟩,rfl⟩⟩
theorem Tf:∀{σ},(sG σ).get x=some lv->i0 x=false/\σ.get x=some lv:=by
 intro j
 induction j with
 |nil=>
  intro h;exact aQ h
 |cons g r z=>
  obtain⟨y,w⟩:=g;intro h;have h:Γ.get ((y,if i0 y then none else w)::sG r) x=some lv:=h;rw[Γ.jG] at h⊢
  by_cases e:x=y
  ·rw[au e] at h⊢
   by_cases q:i0 y=true
   ·rw[au q] at h;exact aQ h
   ·rw[ar q] at h;exact⟨e▸(Bool.not_eq_true _).mp q,h⟩
  ·rw[ar e] at h⊢;exact z h
theorem M_{ks}(h:yh g=some ks):g=.gn ks:=by cases g<;>first|exact aQ h|exact ae h▸rfl
theorem LP(h:(σ.get (cz j)).bind tj=some d):σ.get (cz j)=some (.own d):=π h λlv h ε=>Gm h▸ε
theorem qaO(H:∀k d,σ.get (cz k)=some (.own d)->Den C F h B1 d (.ref (α (cz k)))):∀{ks} {l},BO σ ks=some l->cL C F h B1 l (ks.map λk=>(k,.ref (α (cz k)))):=by
 intro y
 induction y with
 |nil=>
  intro l e;rw[<-ae e];rfl
 |cons j r z=>
  intro l e
  exact π e λd e ε=>π e λq e g=>by
   rw[<-ae e];exact⟨_,_,rfl,H j d (LP ε),z g⟩
theorem bF.ph(H:bF C aF K env ay s0 α F σ s)(aY:C.Ok ay s0)(h:ph σ=some σ'):bF C aF K env ay s0 α F σ' s/\gY C a5 env α F σ s α F σ' s:=by
 unfold Internal.ph at h;cases e:(σ.gQ jV).bind yh with
 |none=>rw[e] at h;exact ae h▸⟨H,.refl⟩
 |some ks=>
  rw[e] at h;refine π h λl h ζ=>π e λlv e g=>?_;rw[M_ e] at g;have g:=lg g;rw[<-ae h];have p:∀{y lv},((sG σ).set jV (.val (.aX l))).get y=some lv->(y=jV/\lv=.val (.aX l))∨(y≠jV/\i0 y=false/\σ.get y=some lv):=λq=>(Γ.jH q).imp id λq=>⟨q.1,Tf q.2⟩;have own:∀{y e},((sG σ).set jV (.val (.aX l))).get y=some (.own e)->i0 y=false/\σ.get y=some (.own e):=λq=>(p q).elim (λq=>nomatch q.2) λq=>q.2;have sub:∀b,a8 env α ((sG σ).set jV (.val (.aX l))) b->a8 env α σ b:=λb f=>a8.mono (λy e q=>⟨e,(own q).2⟩) f;have G:dt F s.heap (λb=>aF b∨a8 env α σ b) F s.heap (λb=>aF b∨a8 env α ((sG σ).set jV (.val (.aX l))) b):=⟨λγ γ e=>e,λγ γ γ e=>e,λb γ f γ q=>f (q.imp id (sub b))⟩;refine H.shrink aY (λy e q=>(own q).2) (λy lv q hG=>(p q).elim (λq=>by rw[q.1];rfl) λq=>H.fr.nm y lv q.2.2 hG) λy lv q=>(p q).elim (λq=>?_) λq=>ν (H.fr.vars y lv q.2.2) λv k=>⟨v,k.1,k.2.to G λγ γ γ e=>e⟩;refine ν (H.fr.vars _ _ g.1) λv k=>⟨v,q.1.symm▸k.1,?_⟩;rw[q.2];refine⟨_,_,k.2.1,λr=>k.2.2.1 (r.imp id (sub _)),k.2.2.2.1,k.2.2.2.2,qaO (λj d z=>?_) ζ⟩;refine ν (H.fr.vars _ _ z) λv k=>(k.2.2.grow G λγ e=>e).den λq=>q.elim (H.nb _ (a8.own z)) λq=>?_;have off:=H.fr.e3 _ d z;exact mj q off.1 λq=>q.elim (λq=>ν q λy q=>off.2 y _ q rfl) λq=>ai q λy e q=>H.dist y (cz j) e d (own q.1).2 z (λe=>dk ((AN j).symm.trans (e▸(own q.1).1))) q.2.symm
end
section
variable{a5:List Str}{C:aE}{S:dH}{A:Around}{B B':Addr->Prop}{M fm:Addr->Prop}{F F' fS fw oj:bc}{s s' cO s1 s2:Shared}{h h':Heap}{u v:Value}{k Ω n:Nat}{K:Kinds}{env:Env}{α fR zy:Str->Addr}{σ σ' σ1 od:Γ}{aF:Addr->Prop}{ay:bc}{s0:Shared}
theorem fx.trans(X:gY C a5 env α F σ s fR fw σ1 s1)(ok:C.Ok fw s1)(H:fx C a5 aF K env ay s0 fR fw σ1 s1 θ σ' f s'):fx C a5 aF K env ay s0 α F σ s θ σ' f s':=by
 cases θ with
 |next=>exact⟨H.1,Out.trans X ok H.2⟩
 |ret d=>exact H
theorem fx.ret(H:fx C a5 aF K env ay s0 fR fw σ1 s1 (.ret d) σ' f s'):fx C a5 aF K env ay s0 α F σ s (.ret d) od f s':=H
theorem Hp{r:Γ×cw}{f:Γ->Option (Γ×cw)}{θ:cw}{G:Prop}(h:(match r.2 with|.next=>f r.1|.ret _=>some r)=some (σ',θ))(y:r.2=.next->f r.1=some (σ',θ)->G)(z:∀d,r.2=.ret d->θ=.ret d->σ'=r.1->G):G:=by
 obtain⟨j,f2⟩:=r;cases f2 with
 |next=>exact y rfl h
 |ret d=>exact z d rfl (kC (ae h)).2.symm (kC (ae h)).1.symm
theorem GK{G:Prop}(h:next σ=some (σ',θ))(k:σ'=σ->θ=.next->G):G:=k (kC (ae h)).1.symm (kC (ae h)).2.symm
theorem UC(nI:De C S Ω n)(p:pA C S Ω n):pA C S Ω (n+1):=by
 intro a5 K e σ σ' θ h A env α aF ay s0 F s R aY H E;have y:=R.mono (c9 (Ω+n));cases e with
 |nil=>exact GK h λag z=>by rw[ag,z];exact wpAny_execs_nil ⟨rfl,Out.refl H⟩
 |cons st r=>
  refine π (x:=aK S n a5 K st σ) h λq h j=>Hp h (λag h=>?_) λd ag z g=>?_
  ·refine wpAny_execs_cons (b8 (nI a5 K st σ q.1 q.2 j A env α aF ay s0 F s y aY H E) (λf av k=>?_) λγ γ x=>x);rw[ag] at k;rw[show f=.next from k.1];exact ai k.2 λfR fw k=>b8 (p a5 K r q.1 σ' θ h A env fR aF ay s0 fw av y aY k.1 E) (λf aN t=>t.trans k.2 k.1.fr.ok) λγ γ x=>x
  ·rw[z,g];refine wpAny_execs_cons (b8 (nI a5 K st σ q.1 q.2 j A env α aF ay s0 F s y aY H E) (λf av k=>?_) λγ γ x=>x);rw[ag] at k;exact ai k λv F' k=>by rw[k.1];exact⟨v,F',rfl,k.2⟩
def QQ(C:aE)(a5:List Str)(aF:Addr->Prop)(K:Kinds)(env:Env)(ay:bc)(s0:Shared)(α:Str->Addr)(F:bc)(σ:Γ)(s:Shared)(f:Nat->Γ->Option (Γ×cw))(σ':Γ)(θ:cw)(m:Nat)(av:Shared):Prop:=
 ∃σ1 fR fw,f m σ1=some (σ',θ)/\bF C aF K env ay s0 fR fw σ1 av/\gY C a5 env α F σ s fR fw σ1 av
theorem qev(V:iO C S Ω n)(R:a_ A (Ω+n))(aY:C.Ok ay s0){t:Expr}{body:List Stmt}(W:pA C S Ω n){N:Nat}{θ:cw}{RR:Result->el}
 (p:∀f s',fx C a5 aF K env ay s0 α F σ s θ σ' f s'->RR (.ok f) s')
 (h:mc (λz=>b9 S n K t z) (λz=>bw S n a5 K body z) N σ=some (σ',θ)) (H:bF C aF K env ay s0 α F σ s):codeAny C.M A (.whileLoop t body [] env) RR s:=by
 refine codeAny_whileLoop (QQ C a5 aF K env ay s0 α F σ s (λm σ=>mc (λz=>b9 S n K t z) (λz=>bw S n a5 K body z) m σ) σ' θ) ?_ N ⟨σ,α,F,h,H,.refl⟩;intro m av q;refine cN q λσ1 fR fw q=>cu q λhw y a=>?_;cases m with
 |zero=>exact aQ hw
 |succ m=>
  refine π (x:=b9 S n K t σ1) hw λb hw ω=>Run.seq (V K t σ1 b ω A env fR _ fw av R y.fr.toSt) λU Y aN l e=>?_;rw[show U=b from e];have g:=y.step l;have i:=a.trans y.fr.ok (l.link (env:=env) (α:=fR) (σ:=σ1));cases b with
  |false=>exact GK hw λag j=>wpAny_execs_nil (p _ _ (by rw[ag,j];exact⟨rfl,i.out g⟩))
  |true=>
   refine π (x:=bw S n a5 K body σ1) hw λq hw T=>b8 (W a5 K body σ1 q.1 q.2 T A env fR aF ay s0 Y aN R aY g _) (λf P k=>Hp hw (λag hw=>?_) λd ag j Q=>?_) λγ γ x=>x
   ·rw[ag] at k;rw[show f=.next from k.1];exact ai k.2 λr Z k=>⟨m,iH _,q.1,r,Z,hw,k.1,i.trans g.fr.ok k.2⟩
   ·rw[ag] at k;rw[j] at p;exact ai k λv F' k=>by rw[k.1];exact p _ _ ⟨v,F',rfl,k.2⟩
theorem qex(j:iO C S Ω n)(R:a_ A (Ω+n))(aY:C.Ok ay s0)(y:pA C S Ω n)
 (h:mc (λz=>b9 S n K t z) (λz=>bw S n a5 K body z) N σ=some (σ',θ)) (H:bF C aF K env ay s0 α F σ s):
 ∀E,wpAny C.M A (exec (.While t body [] p) env) (fx C a5 aF K env ay s0 α F σ s θ σ') E s:=λE=>wpAny_While (qev j R aY y (λf s' q=>q) h H)
theorem VD x:Aw σ x=σ∨∃y d,σ.get y=some (.own d)/\Aw σ x=σ.set y (.val d):=by
 unfold Aw;cases z:(σ.gQ x).bind tj with
 |none=>exact .inl rfl
 |some d=>exact .inr ⟨x,d,π z λlv ε j=>Gm ε▸(lg j).1,rfl⟩
theorem VE e:(ed σ e=σ)∨(∃x d,σ.get x=some (.own d)/\ed σ e=σ.set x (.val d)):=by
 unfold ed;cases z:asName e with
 |none=>exact .inl rfl
 |some x=>exact VD (σ:=σ) x
theorem bF.ed(H:bF C aF K env ay s0 α F σ s)(aY:C.Ok ay s0)(e:Expr):bF C aF K env ay s0 α F (ed σ e) s/\gY C a5 env α F σ s α F (ed σ e) s:=
 (VE (σ:=σ) e).elim (λq=>by rw[q];exact⟨H,.refl⟩) λq=>ai q λx d q=>by
   rw[q.2];exact⟨H.qdX aY q.1,λγ γ γ γ e=>e,λb z=>.inl (a8.mono (λy e r=>⟨e,(qC r).2⟩) z),λγ γ e=>e,λy e r=>.inr ⟨⟨e,(qC r).2⟩,rfl⟩⟩
theorem NK(h:(noOwn σ).get x=some lv):σ.get x=some lv/\∀d,lv≠ .own d:=by
 induction σ with
 |nil=>exact aQ h
 |cons p r y=>
  have h:Γ.get ((p.1,p.2.bind λv=>(yi v).bind λd=>some (.val d))::noOwn r) x=some lv:=h;rw[Γ.jG] at h;rw[show(p::r:Γ)=(p.1,p.2)::r from rfl,Γ.jG]
  by_cases z:x=p.1
  ·rw[au z] at h⊢;exact π h λv h ε=>π h λd h j=>by rw[ε,Gn j,<-ae h];exact⟨rfl,nofun⟩
  ·rw[ar z] at h⊢;exact y h
def Qs(C:aE)(a5:List Str)(aF:Addr->Prop)(K:Kinds)(env:Env)(ay:bc)(s0:Shared)(α:Str->Addr)(F:bc)(σ:Γ)(s:Shared)(wr:List Addr)(fR:Str->Addr)(g:bc)(σ1:Γ)(aN:Shared)(St:Nat->Heap->Prop)(items:List D)(f:List D->Γ->Option (Γ×cw))(σ':Γ)(θ:cw)(m:Nat)(z:Shared):Prop:=
 ∃i ds y j q,items.drop i=ds/\i<=items.length/\m=ds.length/\f ds y=some (σ',θ)/\bF C (λb=>aF b∨b∈wr) K env ay s0 j q y z/\
  (∀b o,b∉C.bo->¬a8 env fR σ1 b->b∉wr->aN.heap.get? b=some o->z.heap.get? b=some o)/\(∀b,a8 env j y b->a8 env fR σ1 b∨aN.heap.get? b=none)/\(∀t x,g t=some x->q t=some x)/\St i z.heap/\gY C a5 env α F σ s j q y z
abbrev EJ(S:dH)(n:Nat)(a5:List Str)(K:Kinds)(t:Expr)(body:List Stmt):List D->Γ->Option (Γ×cw):=ec K t (λz=>bw S n a5 K body z)
theorem qU.grow(G:dt F h B F' h' B')(k:∀a o,h.get? a=some o->h'.get? a=some o)(H:qU C F h B t d v):qU C F' h' B' t d v:=
 Or.imp (λq=>⟨q.1,ν q.2 λds q=>⟨ds,q.1,ai q.2 λa vs q=>⟨a,vs,q.1,q.2.1.at λo e=>k a o e,q.2.2.grow G⟩⟩⟩) (λq=>q.grow G) H
theorem Vu(R:a_ A (Ω+n))(aY:C.Ok ay s0){t e:Expr}{body:List Stmt}(c':pA C S Ω n)(FF:lb e t=true){θ:cw}{items:List D}{RR:Result->el}
 (gz:∀f s',fx C a5 aF K env ay s0 α F σ s θ σ' f s'->RR (.ok f) s') (j:bF C aF K env ay s0 α F σ1 s) (Di:gY C a5 env α F σ s α F σ1 s) (Fc:EJ S n a5 K t body items σ1=some (σ',θ)) {it:Value} {aN:Shared}
 (hm:Made C A (λb=>aF b∨a8 env α σ1 b) items F s e (λγ=>False) it aN):codeAny C.M A (.forLoop t it body [] env) RR aN:=by
 refine cN hm λbX I cQ hm=>cN hm λwr T zJ hm=>b2 hm λjE X W hm=>b2 hm λbK cW O hm=>cu hm λrh AL uP=>?_;rw[jE];have gk:∀b∈wr,s0.heap.get? b=none:=λb z=>k3 j.base aY (O b z);have mK:∀b∈cQ,b∉C.bo/\¬a8 env α σ1 b/\∃o,aN.heap.get? b=some o:=λb z=>⟨uP b z,λq=>(AL b z).elim (λZ=>ν (j.fr.bad.some b (.inr q)) λo e=>aQ (Z.symm.trans e)) λZ=>Z.elim (λZ=>Z (.inr q)) id,rh b z⟩
 refine codeAny_forLoop_any (Qs C a5 aF K env ay s0 α F σ s wr α bX σ1 aN zJ items (EJ S n a5 K t body) σ' θ) ?_ items.length
  ⟨0,items,σ1,α,bX,rfl,eM _,rfl,Fc,j.enter aY X O λb z=>rh b (W.sub b z),λγ γ γ γ γ e=>e,λγ h=>.inl h,λγ γ e=>e,bK,Di.trans j.fr.ok X.link⟩
 intro m Y q;refine cN q λi ds l q=>ai q λU L q=>b2 q λuO ρ em q=>b2 q λhf h7 Ga q=>b2 q λGI K8 Q ah=>?_
 have later:∀{h':Heap} {a':Nat},(∀b o,b∉wr->Y.heap.get? b=some o->h'.get? b=some o)->gY C a5 env α F σ s U L l {Y with heap:=h',toks:=a'}:=λy=>
  ⟨λb o ω hm e=>y b o (λq=>aQ ((O b q).symm.trans e)) (ah.keep b o ω hm e),ah.mono,ah.θ,ah.same⟩
 cases ds with
 |nil=>
  rw[mn ρ (Iq.mp uO)] at Q
  exact W.done Y _ _ Q λh' a' y cx=>wpAny_execs_nil (gz _ _ (GK hf λag a=>by
   rw[ag,a];exact⟨rfl,(later y).out (h7.leave gk (λb z q=>(j.fr.off (O b z)).2 (.inl q)) j.bo aY (W.yr Q) y cx)⟩))
 |cons d ds=>
  have hd:=drop_cons uO;rw[em];refine π (x:=iR K t d l) hf λod hf z=>π hf λq hf xB=>?_
  have jJ:dt bX aN.heap (λb=>((aF b∨b∈wr)∨a8 env U l b)∨a8 env α σ1 b) L Y.heap (λb=>((aF b∨b∈wr)∨a8 env U l b)∨a8 env α σ1 b):=
   ⟨K8,λb o z e=>Ga b o (λq=>z (.inl (.inl (.inl (j.bo b q))))) (λq=>z (.inr q)) (λq=>z (.inl (.inl (.inr q)))) e,λγ γ z γ=>z⟩
  refine b8 (W.item i d t Y L _ _ _ (λb Θ=>Θ.elim (λq=>q.elim (λq=>q.elim (λq=>.inl (.inl (.inl q))) λq=>.inl (.inr q)) λq=>(GI b q).imp (λq=>.inl (.inr q)) id) λq=>.inl (.inl (.inr q)))
   (cW t FF) hd.1 Q jJ (λb z=>.inl (.inl (.inr z))) λv h' a' bz E y cx=>?_) (λbE av q=>ν q λv q=>by rw[q.1];exact q.2) λγ γ x=>x
  have N:=h7.moved gk aY (W.yr Q) y (W.ex E) cx;have s8:qU C L h' (λb=>(aF b∨b∈wr)∨a8 env U l b) t d v:=bz.grow ⟨λγ γ e=>e,λγ γ γ e=>e,λb γ z γ q=>z (.inl q)⟩ λγ γ e=>e;refine b8 (DM R.handled z N.fr s8 _) (λγ l9 H=>ai (N.GY (a5:=a5) aY (λx hS q=>z1 z q) H.1 H.2.1) λα5 pB H=>bL H λIZ QF=>?_) λγ γ x=>x;refine b8 (c' a5 K body od q.1 q.2 xB A env α5 _ ay s0 pB l9 R aY IZ _) (λf qw V=>Hp hf (λag hf=>?_) λdr ag a bO=>?_) λγ γ x=>x
  ·rw[ag] at V;rw[show f=.next from V.1];refine ai V.2 λα6 Qr BL=>bL BL λQz QG=>?_;have P:=QF.trans IZ.fr.ok QG;have nm:∀b o,aN.heap.get? b=some o->¬a8 env α σ1 b->¬a8 env U l b:=λb o e hm q=>(GI b q).elim hm λr=>aQ (r.symm.trans e)
   refine⟨ds.length,iH _,i+1,ds,q.1,α6,Qr,hd.2,xt hd.1,rfl,hf,Qz,λb o ω hm hw e=>P.keep b o ω (nm b o e hm) (y b o hw (Ga b o ω hm hw e)),λb z=>(P.mono b z).elim (GI b) λq=>?_,λt x e=>P.θ t x (K8 t x e),
    W.frame _ _ _ E λb z o e=>cu (mK b z) λε η az=>ν az λrJ az=>P.keep b o ε (nm b rJ az η) e,(later y).trans N.fr.ok P⟩
   by_cases hm:a8 env α σ1 b
   ·exact .inl hm
   ·cases a:aN.heap.get? b with
    |none=>exact .inr rfl
    |some o=>
     by_cases ω:b∈C.bo
     ·exact ν (bV.mp ω) λp k=>ν (N.fr.ok.there k.1).2 λbf g=>aQ (q.symm.trans (k.2▸g))
     ·by_cases hw:b∈wr
      ·exact ν (W.ex E b hw) λbf g=>aQ ((show h'.get? b=none from q).symm.trans g)
      ·exact aQ ((show h'.get? b=none from q).symm.trans (y b o hw (Ga b o ω hm hw a)))
  ·rw[ag] at V;rw[a] at gz;exact ai V λv F' k=>by rw[k.1];exact gz _ _ ⟨v,F',rfl,k.2.1,k.2.2.grow ⟨λγ γ e=>e,λγ γ γ e=>e,λb γ z γ q=>z (.inl q)⟩⟩
theorem Vv(G:C.Good)(O:dA C S Ω)(aw:gF C S Ω)(R:a_ A (Ω+n))(aY:C.Ok ay s0)(r:pA C S Ω n)(hit:dj S (μ S n) K e (noOwn (ed σ e))=some items)(j:lb e t=true)
 (g:EJ S n a5 K t body items (ed σ e)=some (σ',θ)) (H:bF C aF K env ay s0 α F σ s):
 ∀E,wpAny C.M A (exec (.For t e body [] p) env) (fx C a5 aF K env ay s0 α F σ s θ σ') E s:=λE=>
 bL (H.ed aY e) λz y=>wpAny_For (b8 (F6 (own:=λγ=>False) G O (aw n).1 R (z.fr.toSt.less λx lv q=>(NK q).1) (λx d q=>(NK q).2 d rfl) hit) (λx av l=>b8 l (λit aN hm=>Vu R aY r j (λf s' q=>q) z y g hm) λγ γ x=>x) λγ γ x=>x) (yb hit env)
theorem JB{c}(h:q2 e=some c):∃z q,e=.Subscript (.Name c.1 z) c.2 q:=
 π h λa h ε=>π h λx h j=>ν (JC ε) λq ag=>ν (gH j) λz y=>⟨z,q,by rw[<-ae h,ag,y]⟩
theorem Ro{c}(h:jA e=some c):∃z ap q,e=.Call (.Attribute (.Name c.1 z) "append" ap) [c.2] [] q/\hg (.Name c.1 z) ap q=true:=
 π h λa h ε=>π h λb h r=>π h λx h p=>π h λy h bu=>aP h λh κ=>ν (wU ε) λq ag=>ν (gH p) λz f=>by
  have g:=wO r;have hm:=band (band κ).1;have j:=(band κ).2;rw[<-ae h];rw[f] at g j;rw[ag] at j;refine⟨z,b.2.2,q,?_,j⟩;rw[ag,g,gx bu,gq.mp hm.1,eq_of_beq hm.2]
theorem Ru{c}(h:j_ e=some c):∃z ap q,e=.Call (.Attribute (.Name c.1 z) "extend" ap) [c.2] [] q/\hg (.Name c.1 z) ap q=true:=
 π h λa h ε=>π h λb h r=>π h λx h p=>π h λy h bu=>aP h λh κ=>ν (wU ε) λq ag=>ν (gH p) λz f=>by
  have g:=wO r;have hm:=band (band κ).1;have j:=(band κ).2;rw[<-ae h];rw[f] at g j;rw[ag] at j;refine⟨z,b.2.2,q,?_,j⟩;rw[ag,g,gx bu,gq.mp hm.1,eq_of_beq hm.2]
theorem isAdd{op:Operator}(h:Nat.beq op.ctorIdx 0=true):op=.Add:=by cases op<;>first|rfl|cases h
theorem V2(h:Li σ x=some d):σ.get x=some (.val d):=π h λlv h ε=>Gn h▸(lg ε).1
theorem uM(h:p1 σ x=some d):σ.get x=some (.own d):=π h λlv h ε=>Gm h▸(lg ε).1
theorem xu(H:St C B K env α F σ s)(h:p1 σ x=some d):eU x=true:=π h λlv h ε=>H.plain ε
theorem o7(h:next σ=some (σ',θ)){P:Γ->cw->Prop}(k:P σ .next):P σ' θ:=by
 cases h;exact k
theorem X6(h:F5 g=true):g=.fn:=by cases g<;>first|rfl|exact jo h
section
variable(G:C.Good)(O:dA C S Ω)(aw:gF C S Ω)(R:a_ A (Ω+n))(aY:C.Ok ay s0)(H:bF C aF K env ay s0 α F σ s){θ:cw}{p:Pos}
include aw R aY H
abbrev kI(C:aE)(a5:List Str)(A:Around)(aF:Addr->Prop)(K:Kinds)(env:Env)(ay:bc)(s0:Shared)(α:Str->Addr)(F:bc)(σ:Γ)(s:Shared)(st:Stmt)(σ':Γ)(θ:cw):Prop:=∀E,wpAny C.M A (exec st env) (fx C a5 aF K env ay s0 α F σ s θ σ') E s
include G O
theorem UQ(h:xi S n a5 K t e σ=some (σ',θ)):kI C a5 A aF K env ay s0 α F σ s (.Assign [t] e p) σ' θ:=
 rM h (λx h z=>ν (gH z) λq ag=>aP h λh hs=>π h λd h he=>π h λlv h ζ=>by
  rw[ag];exact o7 h (P:=kI C a5 A aF K env ay s0 α F σ s _) (bL (zZ ζ) λhd hf=>UD G O aw R aY H hs he hd hf)) λh γ=>
 rM h (λba h ω=>ai (wZ ω) λkt q ag=>by
  rw[ag] at h⊢;exact rM h (λes h i=>ai (wZ i) λV pc g=>b' h (λh=>by
   rw[g];exact UI G O aw R aY H h) λh=>π h λod h ω=>π h λvs h l=>aP h λh y=>by
   rw[g]
   exact o7 h (P:=kI C a5 A aF K env ay s0 α F σ s _) (bL (H.ph (a5:=a5) aY ω) λr L E=>b8 (UJ G O aw R aY r l y E) (λf s' Z=>fx.trans L r.fr.ok Z) λγ γ x=>x)) λh Y=>π h λd h he=>π h λod h a=>aP h λh γ=>
    o7 h (P:=kI C a5 A aF K env ay s0 α F σ s _) (UM aw R aY H Y he a)) λh γ=>
 π h λc h κ=>ai (JB κ) λW q ag=>π h λw h he=>π h λd h z=>π h λj h ρ=>π h λd' h y=>by
  rw[ag];exact o7 h (P:=kI C a5 A aF K env ay s0 α F σ s _) (UL aw R aY H he (xu H.fr.toSt z) (uM z) ρ y)
omit G O
theorem US(h:An S n a5 K t op e σ=some (σ',θ)):kI C a5 A aF K env ay s0 α F σ s (.AugAssign t op e p) σ' θ:=
 aP h λh f=>by
  rw[show op=.Add from isAdd f];exact b' h (λh=>π h λx h z=>ν (gH z) λq ag=>aP h λh hs=>π h λd h hd=>π h λa h y=>π h λZ h he=>π h λb h g=>by
   rw[ag];exact o7 h (P:=kI C a5 A aF K env ay s0 α F σ s _) (UE aw R aY H (band hs).1 (oz y▸V2 hd) (oz g▸he))) λh=>
   π h λc h κ=>ai (JB κ) λi q ag=>π h λd h z=>π h λj h ρ=>π h λc1 h r=>π h λa h y=>π h λc2 h he=>π h λb h g=>π h λd' h l=>by
    rw[ag];exact o7 h (P:=kI C a5 A aF K env ay s0 α F σ s _) (UG aw R aY H (xu H.fr.toSt z) (uM z) ρ (oz y▸r) (oz g▸he) l)
include G O in
theorem UT{e:Expr}(h:alt ((jA e).bind λc=>Am S n K c.1 c.2 σ) (alt ((j_ e).bind λc=>Ez S n K c.1 c.2 σ) (alt ((eY e).bind λc=>Ey S n K c.1 c.2 σ) ((zX e).bind λc=>EA S n K c.1 c.2.1 c.2.2 σ)))=some (σ',θ)):kI C a5 A aF K env ay s0 α F σ s (.Expr e p) σ' θ:=
 b' h (λh=>π h λc h κ=>cN (Ro κ) λj ap q ag=>π h λd h z=>π h λl h ζ=>π h λw h he=>aP h λh y=>by
  rw[ag.1];exact o7 h (P:=kI C a5 A aF K env ay s0 α F σ s _) (UP aw R aY H ag.2 (xu H.fr.toSt z) (lF ζ▸uM z) he y)) λh=>
 b' h (λh=>π h λc h κ=>cN (Ru κ) λj ap q ag=>π h λd h z=>π h λl h ζ=>π h λw h he=>π h λm h hm=>aP h λh y=>by
  rw[ag.1];exact o7 h (P:=kI C a5 A aF K env ay s0 α F σ s _) (UU aw R aY H ag.2 (xu H.fr.toSt z) (lF ζ▸uM z) (lF hm▸he) y)) λh=>
 b' h (λh=>π h λc h κ=>ai (wR κ) λpp i ag=>π h λa h Z=>π h λx h z=>π h λd h hd=>π h λg h f=>aP h λh hf=>π h λds h ε=>π h λd' h Y=>ν (gH z) λj t=>by
  rw[ag,mB Z,t];rw[X6 hf] at f;exact o7 h (P:=kI C a5 A aF K env ay s0 α F σ s _) (UH G O aw R aY H (xu H.fr.toSt hd) (uM hd) f ε Y)) λh=>
 π h λc h κ=>ai (RA κ) λj U q=>ai q λap q ag=>π h λks h z=>π z λlv z r=>π h λV h ρ=>π h λk h W=>aP h λh hm=>π h λd h bq=>π h λl h ζ=>π h λw h he=>aP h λh y=>by
  rw[ag.1];exact o7 h (P:=kI C a5 A aF K env ay s0 α F σ s _) (UZ aw R aY H ag.2 (H.fr.toSt.plain r) (M_ z▸(lg r).1) (oz W▸ρ) (iG.mp hm) (lF ζ▸LP bq) he y)
end
theorem UY(j:iO C S Ω n)(R:a_ A (Ω+n))(aY:C.Ok ay s0)(y:pA C S Ω n)(H:bF C aF K env ay s0 α F σ s)
 (h:(b9 S n K t σ).bind (λc=>nC c (bw S n a5 K b σ) (bw S n a5 K o σ))=some (σ',θ)):kI C a5 A aF K env ay s0 α F σ s (.If t b o p) σ' θ:=λE=>
 π h λc h ω=>wpAny_If (b8 (j K t σ c ω A env α _ F s R H.fr.toSt E) (λv av q=>ν q λa0 q=>by
  rw[q.2]
  exact D4 h (λh e=>by rw[e];exact b8 (y a5 K b σ σ' θ h A env α aF ay s0 a0 av R aY (H.step q.1) E) (λf aN z=>fx.trans q.1.link (H.step q.1).fr.ok z) λγ γ x=>x)
   λh e=>by rw[e];exact b8 (y a5 K o σ σ' θ h A env α aF ay s0 a0 av R aY (H.step q.1) E) (λf aN z=>fx.trans q.1.link (H.step q.1).fr.ok z) λγ γ x=>x) λγ γ x=>x)
theorem U3(G:C.Good)(O:dA C S Ω)(aw:gF C S Ω)(z:pA C S Ω n):De C S Ω (n+1):=by
 intro a5 K st σ σ' θ h A env α aF ay s0 F s y aY H E;have R:a_ A (Ω+n):=y.mono (c9 _);change EC S n (bw S n) a5 K st σ=some (σ',θ) at h;unfold EC at h;cases st with
 |Assign targets e p=>exact π h λt h ω=>by rw[gx ω];exact UQ G O aw R aY H h E
 |AugAssign t op e p=>exact US aw R aY H h E
 |Expr e p=>exact UT G O aw R aY H h E
 |If t b o p=>exact UY (aw n).2 R aY z H h E
 |While t b o p=>exact aP h λh q=>by rw[gq.mp q];exact qex (aw n).2 R aY z h H E
 |For t e b o p=>exact aP h λh q=>π h λitems h ρ=>aP h λh κ=>by rw[gq.mp q];exact Vv G O aw R aY z ρ (band κ).2 h H E
 |Return e p=>
  refine π h λaB h he=>π h λd h hd=>?_;rw[he];obtain⟨rfl,rfl⟩:=qan h;exact UK aw R H hd E
 |_=>exact aQ h
theorem KU(G:C.Good)(O:dA C S Ω)(aw:gF C S Ω):∀n,De C S Ω n/\pA C S Ω n:=by
 intro n
 induction n with
 |zero=>
  refine⟨λa5 K st σ σ' θ h=>?_,λa5 K st σ σ' θ h=>?_⟩
  ·exact aQ h
  ·exact aQ h
 |succ n z=>exact⟨U3 G O aw z.2,UC z.1 z.2⟩
end
section
variable{C:aE}{S:dH}{A:Around}{B B':Addr->Prop}{M fm:Addr->Prop}{F F' fS fw oj:bc}{s s' cO s1 s2:Shared}{h h':Heap}{u v:Value}{k Ω n:Nat}{K:Kinds}{env:Env}{α fR zy:Str->Addr}{σ σ' σ1 od:Γ}{aF:Addr->Prop}{ay:bc}{s0:Shared}
structure sd(C:aE)(a:Addr)(fd:FuncData)(params:List Str)(body:List Stmt):Prop where
 obj:∃o,C.fU.get? a=some o/\o.data=.func fd
 kind:fd.scope.kind=.function
 co:fd.scope.isCoroutine=false
 gen:fd.scope.isGenerator=false
 body:fd.body=.stmts body
 DV:fd.closure=[]
 glob:fd.globals=mainGlobals
 blt:fd.builtins=builtinsNs
 code:C.fU.CodeRec fd.code fd.qualname
 DZ:∃q∈C.T,fd.code=.ref q.1
 D0:∀c,fd.code=.ref c->c∉C.bo
 bind:∀vals:List Value,vals.length=params.length->bindArgs fd ⟨vals,[]⟩=pure (params.zip vals)
 names:∀p∈fd.scope.names,fd.scope.names.lookup p.1=some p.2/\p.2≠ .free
 nodup:params.Nodup
theorem RT{kindOf:Str->Option NameKind}:∀{l} {m},x∉l.map (·.1)->bindL kindOf l m x=m x:=by
 intro g
 induction g with
 |nil=>
  intro m γ;exact rfl
 |cons p r j=>
  obtain⟨y,w⟩:=p;intro m z
  exact(j λq=>z (b3 _ q)).trans (by
   split
   ·exact ar λ(q:x=y)=>z (by rw[q];exact bH)
   ·rfl)
theorem RS{kindOf:Str->Option NameKind}:∀{l} {m},x∉l.map (·.1)->bindC kindOf l m x=m x:=by
 intro g
 induction g with
 |nil=>
  intro m γ;exact rfl
 |cons p r j=>
  obtain⟨y,w⟩:=p;intro m z
  exact(j λq=>z (b3 _ q)).trans (by
   split
   ·rfl
   ·exact ar λ(q:x=y)=>z (by rw[q];exact bH))
theorem JT{kindOf:Str->Option NameKind}{x:Str}{v:Value}(j:kindOf x=some .local){l}:∀{m},(l.map (·.1)).Nodup->(x,v)∈l->bindL kindOf l m x=some v:=by
 induction l with
 |nil=>exact λ_ e=>nomatch e
 |cons p r y=>
  exact λz hm=>(cn.mp hm).elim
   (λq=>by cases q;exact(RT (h2.mp z).1).trans (by rw[au j];exact au rfl))
   (y (h2.mp z).2)
theorem JS{kindOf:Str->Option NameKind}{x:Str}{v:Value}(j:kindOf x≠some .local){l}:∀{m},(l.map (·.1)).Nodup->(x,v)∈l->bindC kindOf l m x=some v:=by
 induction l with
 |nil=>exact λ_ e=>nomatch e
 |cons p r y=>
  exact λz hm=>(cn.mp hm).elim
   (λq=>by cases q;exact(RS (h2.mp z).1).trans (by rw[ar j];exact au rfl))
   (y (h2.mp z).2)
theorem PX{params:List Str}:∀{ds} {vs},bA C F h B ds vs->(y,lv)∈(params.zip ds).map (λp=>(p.1,aC.val p.2))->y∈params/\∃d v,lv=.val d/\(y,v)∈params.zip vs/\Den C F h B d v:=by
 induction params with
 |nil=>exact λ_ e=>nomatch e
 |cons p ao z=>
  intro ds vs ζ e;cases ds with
  |nil=>exact nomatch e
  |cons d ds=>
   exact ai ζ λv r q=>cu q λq hd ζ=>(cn.mp e).elim (λk=>by
    cases k;exact⟨bH,d,v,rfl,by rw[q];exact bH,hd⟩)
    λk=>bL (z ζ k) λg j=>ai j λd' f k=>⟨b3 _ g,d',f,k.1,by rw[q];exact b3 _ k.2.1,k.2.2⟩
theorem qad{a b:D}(h:aC.own a=.own b):a=b:=by cases h;rfl
theorem ZA{K}:(names0 K).get x=none:=by
 induction K with
 |nil=>rfl
 |cons p r z=>cases p with|mk y j=>cases j<;>first|exact z|exact(Γ.jG).trans (by split<;>first|rfl|exact z)
theorem V3:∀{σ z},σ.get x=none->z.get x=none->Γ.get (σ++z) x=none:=by
 intro q
 induction q with
 |nil=>
  intro γ γ h;exact h
 |cons g r j=>
  obtain⟨y,w⟩:=g;intro z h k;rw[Γ.jG] at h;rw[CR,Γ.jG]
  by_cases e:x=y
  ·rw[au e] at h⊢;exact h
  ·rw[ar e] at h⊢;exact j h k
theorem Z4{l:List Str}:Γ.get (l.map λx=>(x,none)) x=none:=by
 induction l with
 |nil=>rfl
 |cons y r z=>
  rw[bN,Γ.jG,z];split<;>rfl
theorem K0:(sL K).get x=none:=by
 unfold sL;refine V3 ZA ?_;split
 ·exact Z4
 ·rfl
theorem bF.start(ok:C.Ok F {s with toks:=N})(j:C.dZ B {s with toks:=N})(P:env.scope.kind=.function)(W:env.globals=mainGlobals)(Y:env.builtins=builtinsNs)(Q:∃q∈C.T,env.code=.ref q.1)
 (g:∀y,env.kindOf y=K.lookup y) (O:∀p∈K,K.lookup p.1=some p.2/\p.2≠ .free) (R:env.cells=cellsFrom (s.heap.objs.size+1) K []) (x:InCallC s env.locals lm env.cells L av) (i:N<=av.toks)
 (t:∀y lv,σ.get y=some lv->storeOk K y=true/\∃d v,lv=.val d/\Den C F s.heap B d v/\(K.lookup y=some .local->lm y=some v)/\(K.lookup y=some .cell->L y=some v)):
 bF C B K env F {s with toks:=N} (λγ=>0) F σ av:=by
 have X:C.Step F {s with toks:=N} F av:=ai x.toInCall.same λH a' q=>by rw[q];rw[q] at i x;exact .heap ok i x.toInCall.keep
 have noOwn:∀y d,σ.get y≠some (.own d):=λy d q=>ai (t y _ q).2 λγ γ k=>nomatch k.1
 have V:∀y c,env.cells.lookup y=some c->s.heap.objs.size<=c:=λy c κ=>aJ x.toInCall.fresh (dy (x.above y c (lookup_mem κ)));have r:∀b,a8 env (λγ=>0) σ b->s.heap.get? b=none:=λb j=>j.elim (λq=>by rw[q];exact hh x.toInCall.fresh) λj=>j.elim (λq=>ν q λy κ=>hh (V y b κ)) λq=>ai q λy d q=>(noOwn y d q.1).elim;have Z:∀b,a8 env (λγ=>0) σ b->∃o,av.heap.get? b=some o:=λb j=>j.elim (λq=>by rw[q];obtain⟨o,_,_,e,_⟩:=x.toInCall.ns;exact⟨o,e⟩) λj=>j.elim (λq=>ν q λy κ=>ν (x.cell y b κ) λo k=>⟨o,k.1⟩) λq=>ai q λy d q=>(noOwn y d q.1).elim;have free:=aE.et.of_none ok r;have cellOf:∀y,K.lookup y=some .cell->∃c,env.cells.lookup y=some c:=λy e=>by rw[R];exact uw K (s.heap.objs.size+1) y (lookup_mem e)
 refine⟨{ok:=X.ok,bad:=⟨λb f=>.inl (j.bo b f),λb f=>f.elim ((j.step X).some b) (Z b),λb f ω=>f.elim (λq=>j.new b q ω) (free.hG b)⟩,kind:=P,glob:=W,blt:=Y,code:=λγ=>Q,gh:=λy e=>by rw[g];exact e,cells:=λy e=>?_,nm:=λy lv e γ=>qu (t y lv e).1,vars:=λy lv e=>bL (t y lv e) λhs q=>ai q λd v q=>b2 q λU hd ε l=>?_,free:=free,bM:=λa I=>.inr I,ns:=⟨_,x.toInCall.ns⟩,gO:=.inl rfl,loc:=λy e=>by rw[g];exact e,fD:=λy e=>ν (cellOf y e) λc κ=>⟨by rw[g];exact e,c,κ,.inr (.inl ⟨y,κ⟩)⟩,gI:=λy c κ=>⟨_,x.cell y c κ⟩,gc:=λy c κ=>i7 (x.above y c (lookup_mem κ)),inj:=λy z c γ ε l=>name_of_addr x.apart (lookup_mem ε) (lookup_mem l),e3:=λy d q=>(noOwn y d q).elim},X,r,λy γ d γ q=>(noOwn y d q).elim,j.bo,λb hm q=>ν (j.some b q) λo e=>aQ ((r b hm).symm.trans e)⟩
 ·exact e.elim (λe=>ν (cellOf y e) λc κ=>⟨⟨c,_,κ,x.cell y c κ⟩,.inl (by rw[g];exact e)⟩) λe=>((O _ (lookup_mem e)).2 rfl).elim
 ·rw[U]
  exact⟨v,.inr ((yN hs).elim (λq=>.inl ⟨by rw[g];exact q,_,x.toInCall.ns,ε q⟩) λq=>ν (cellOf y q) λc κ=>.inr ⟨.inl (by rw[g];exact q),c,κ,l q▸x.cell y c κ⟩),
   Den.grow ⟨λγ γ e=>e,λb o γ e=>x.toInCall.keep b o e,λb o j e q=>q.elim j λq=>aQ ((r b q).symm.trans e)⟩ hd⟩
theorem JZ(G:C.Good)(O:dA C S Ω)(aw:gF C S Ω)(T:sd C a fd params body)
 (R:a_ A (Ω+61)) (ok:C.Ok F {s with toks:=N}) (δ:C.dZ B {s with toks:=N}) (ζ:bA C F s.heap B ds vs) (hd:vB S own fd.scope.names params body ds=some d)
 (gk:∀(qual:Str) (Q:Env->el) (E:cg),(∀p∈params.zip vs,fd.scope.names.lookup p.1=some .local∨(fd.scope.names.lookup p.1=some .cell/\((cellsFrom (s.heap.objs.size+1) fd.scope.names []).lookup p.1).isSome=true))->
   (∀env,env=newEnv fd.scope s.heap.objs.size fd.globals (cellsFrom (s.heap.objs.size+1) fd.scope.names []) qual (some a) fd.code none fd.builtins->
     ∀s',InCallC s env.locals (bindL env.kindOf (params.zip vs) λγ=>none) env.cells (bindC env.kindOf (params.zip vs) λγ=>none) s'->N<=s'.toks->Q env s')->
   wpAny C.M A.in1 (newFunctionEnv fd.scope fd.globals [] (params.zip vs) qual (some a) fd.code none fd.builtins) Q E s):
 ∀E,wpAny C.M A (call (.ref a) vs) (λv s'=>∃F',C.Step F {s with toks:=N} F' s'/\Den C F' s'.heap B d v) E s:=by
 intro E;refine ν (T.obj) λo q=>bL q λi W=>?_;have P:s.heap.get? a=some o:=ok.base a o (G.kn i λao=>by rw[W];nofun) i;refine aP hd λhd κ=>π hd λr hd ι=>?_;have hlen:=eq_of_beq (band κ).1;have Z:=er.mp (band κ).2;have l:vs.length=params.length:=ζ.length.trans hlen.symm;have j:(params.zip vs).map (·.1)=params:=CP (gV l.symm)
 have U:((params.zip ds).map λp=>(p.1,aC.val p.2)).map (·.1)=params:=by
  rw[cP];exact CP (gV hlen)
 have jK:s.heap.CodeRec fd.code fd.qualname:=by
  obtain⟨c,Y,L,t,ag,H,bO,eP⟩:=T.code;exact⟨c,Y,L,t,ag,ok.base c Y (T.D0 c ag) H,bO,eP⟩
 refine wpAny_call (codeAny_call_function R.lt P W T.co T.gen T.body jK ?_);rw[T.bind vs l,T.DV];refine b7 (gk _ _ _ (λp φ=>?_) λenv he av x cx=>?_)
 ·have kh:p.1∈params:=by rw[<-j];exact pw φ
  refine(yN (band (Z p.1 kh)).1).imp id λq=>⟨q,ν (uw fd.scope.names (s.heap.objs.size+1) p.1 (lookup_mem q)) λc κ=>by rw[κ];rfl⟩
 ·have z:∀y,env.kindOf y=fd.scope.names.lookup y:=λy=>by rw[he];rfl
  have V:=bF.start (σ:=ez (sL fd.scope.names) ((params.zip ds).map λp=>(p.1,aC.val p.2))) ok δ (by rw[he];exact T.kind) (by rw[he];exact T.glob) (by rw[he];exact T.blt) (by rw[he];exact T.DZ) z T.names (by rw[he];rfl) x cx λy lv e=>
   (tx (by rw[U];exact T.nodup) e).elim (λq=>bL (PX ζ q) λI q=>ai q λd v q=>⟨(band (Z y I)).1,d,v,q.1,q.2.2,λg=>JT (by rw[z];exact g) (by rw[j];exact T.nodup) q.2.1,λg=>JS (by rw[z,g];nofun) (by rw[j];exact T.nodup) q.2.1⟩)
     λq=>aQ (K0.symm.trans q.2)
  refine⟨(ok.lim G).keeps x.toInCall.keep,codeAny_func ?_⟩;refine b8 ((KU G O aw 60).2 own fd.scope.names body _ _ _ ι (A.deeper env) env _ B F {s with toks:=N} F av ((R.mono (k':=Ω+60+1) (a7 _)).deeper env) ok V _) (λf s' q=>?_) λγ γ x=>x;cases hf:r.2 with
  |next=>rw[hf] at hd;exact aQ hd
  |ret d'=>
   rw[hf] at hd q;exact ai q λv F' q=>by rw[q.1,<-ae hd];exact⟨F',q.2⟩
theorem Sj(G:C.Good)(O:dA C S Ω)(aw:gF C S Ω)(T:sd C a fd params body):
 C6 C (Ω+61) a (vB S own fd.scope.names params body):=by
 intro A F B s vs ds d R ok z ζ hd E;exact JZ (N:=s.toks) G O aw T R ok z ζ hd (λqual Q E ε y=>h1 (a7 s.toks) (wpAny_newFunctionEnv_cells T.kind ε y)) E
theorem ZP{M:Model}{n:Str}{code:Value}
 (r:scope.kind=.function) (ζ:scope.names.lookup n=some .local)
 (g:∀env,env=newEnv scope s.heap.objs.size globals (cellsFrom (s.heap.objs.size+1) scope.names []) qual func code none builtins->
   ∀s',InCallC s env.locals (bindL env.kindOf [(n,v)] λγ=>none) env.cells (bindC env.kindOf [(n,v)] λγ=>none) s'->s.toks+1<=s'.toks->Q env s'):
 wpAny M A (newFunctionEnv scope globals [] [(n,v)] qual func code none builtins) Q E s:=by
 simp only[newFunctionEnv,Option.isSome_none,px,n_];refine aR (wpAny_alloc ?_);refine aR (wpAny_layCells _ (λname kind cells=>by cases q:kind==NameKind.cell<;>simp [q]) _ _ _ _ ?_);have ok:=cellsFrom_ok scope.names (s.heap.push {cls:=.type "frame",data:=.dict #[]}) (s.heap.objs.size+1) [] ⟨λγ γ hm=>(nomatch hm),List.Pairwise.nil⟩ (by rw[hK];exact a7 _);rw[hK] at ok;replace ok:=ok;rw[show({s with heap:=s.heap.push {cls:=.type "frame",data:=.dict #[]}}:Shared).heap.objs.size=s.heap.objs.size+1 from hK ..];have p:(pushCells (s.heap.push {cls:=.type "frame",data:=.dict #[]}) scope.names).Ns s.heap.objs.size λγ=>none:=(Heap.Ns.new s.heap (.type "frame")).keeps (zm _ _);have z:(newEnv scope s.heap.objs.size globals (cellsFrom (s.heap.objs.size+1) scope.names []) qual func code none builtins).kindOf n=some .local:=ζ;refine aR ?_;rw[v9];refine aR (aR (wpAny_storeName_local (env:=newEnv scope s.heap.objs.size globals (cellsFrom (s.heap.objs.size+1) scope.names []) qual func code none builtins) z p (λh' f y=>?_) (by rw[show(newEnv scope s.heap.objs.size globals (cellsFrom (s.heap.objs.size+1) scope.names []) qual func code none builtins).scope.kind=.function from r];rfl)));refine b7 ?_;dsimp only;rw[tV];refine b7 (b7 (g _ rfl _ ⟨⟨⟨h',_,rfl⟩,?_,λb o e=>?_,a7 _⟩,λk c κ=>?_,ok.apart,λn c hm=>(ok.empty n c hm).2⟩ (a7 _)))
 ·unfold bindL bindL;rw[au z];exact f
 ·exact y.extBut b o (fQ (dz e)) (zm _ _ b o (dn _ e))
 ·have j:=lookup_mem κ;unfold bindC bindC;rw[au z];exact(ok.empty k c j).1.sameBut y (i7 (ok.empty k c j).2)
theorem bF.startM(aY:C.Ok ay s0)(r:C.Step ay s0 F s)(g:C.dZ (λb=>B b∨b=m) s)(H:s0.heap.get? m=none)(E:¬B m)(P:∀b∈C.bo,B b)(L:fW C F s.heap (λb=>B b∨b=m) R m)
 (oX:env.scope.kind=.function) (I:env.globals=mainGlobals) (N:env.builtins=builtinsNs) (jK:∃q∈C.T,env.code=.ref q.1)
 (f:∀y,env.kindOf y=K.lookup y) (sP:∀p∈K,K.lookup p.1=some p.2/\p.2≠ .free) (oV:env.cells=cellsFrom (s.heap.objs.size+1) K []) (x:InCallC s env.locals lm env.cells uy av) (U:s.toks<=av.toks)
 (t:∀y lv,σ.get y=some lv->storeOk K y=true/\∃v,((∃d,lv=.val d/\Den C F s.heap (λb=>B b∨b=m) d v)∨(y=p0/\lv=.own R/\v=.ref m))/\(K.lookup y=some .local->lm y=some v)/\(K.lookup y=some .cell->uy y=some v)):
 C.Step F s F av/\bF C B K env ay s0 (λγ=>m) F σ av:=by
 have X:C.Step F s F av:=ai x.toInCall.same λgM a' q=>by rw[q];rw[q] at U x;exact .heap r.ok U x.toInCall.keep
 refine⟨X,?_⟩;have Y:∀{y d},σ.get y=some (.own d)->y=p0/\d=R:=λq=>ν (t _ _ q).2 λv k=>k.1.elim (λk=>ν k λγ k=>nomatch k.1) λk=>⟨k.1,qad k.2.1⟩;have lc:s.heap.get? env.locals=none:=hh x.toInCall.fresh;have Z:∀y c,env.cells.lookup y=some c->s.heap.get? c=none:=λy c κ=>hh (aJ x.toInCall.fresh (dy (x.above y c (lookup_mem κ))));have there:∀{b},B b∨b=m->∃o,s.heap.get? b=some o:=λh=>g.some _ h;have V:∀{b},s.heap.get? b=none->b≠m:=λe q=>ν (there (.inr q)) λo k=>aQ (e.symm.trans k);have l:∀b,a8 env (λγ=>m) σ b->s.heap.get? b=none∨b=m:=λb j=>j.elim (λq=>.inl (q▸lc)) λj=>j.elim (λq=>ν q λy κ=>.inl (Z y b κ)) λq=>ai q λy d q=>.inr q.2;have W:∀b,a8 env (λγ=>m) σ b->s0.heap.get? b=none:=λb j=>(l b j).elim (k3 r aY) λe=>e▸H;have O:∀b,a8 env (λγ=>m) σ b->∃o,av.heap.get? b=some o:=λb g=>g.elim (λq=>by rw[q];obtain⟨o,_,_,e,_⟩:=x.toInCall.ns;exact⟨o,e⟩) λg=>g.elim (λq=>ν q λy κ=>ν (x.cell y b κ) λo k=>⟨o,k.1⟩) λq=>ai q λy d q=>ν (there (.inr q.2)) λo e=>⟨o,x.toInCall.keep b o e⟩;have free:=aE.et.of_none aY W;have cellOf:∀y,K.lookup y=some .cell->∃c,env.cells.lookup y=some c:=λy e=>by rw[oV];exact uw K (s.heap.objs.size+1) y (lookup_mem e)
 have Q:dt F s.heap (λb=>B b∨b=m) F av.heap (λb=>B b∨a8 env (λγ=>m) σ b):=⟨λγ γ e=>e,λb o γ e=>x.toInCall.keep b o e,λb o g e q=>q.elim (λq=>g (.inl q)) λq=>(l b q).elim (λq=>aQ (q.symm.trans e)) λq=>g (.inr q)⟩;refine⟨{ok:=X.ok,bad:=⟨λb j=>.inl (P b j),λb j=>j.elim (λq=>(g.step X).some b (.inl q)) (O b),λb j ω=>j.elim (λq=>g.new b (.inl q) ω) (free.hG b)⟩,kind:=oX,glob:=I,blt:=N,code:=λγ=>jK,gh:=λy e=>by rw[f];exact e,cells:=λy e=>?_,nm:=λy lv e γ=>qu (t y lv e).1,vars:=λy lv e=>bL (t y lv e) λhs q=>ν q λv q=>cu q λhd ε i=>?_,free:=free,bM:=λa Ψ=>.inr Ψ,ns:=⟨_,x.toInCall.ns⟩,gO:=.inl rfl,loc:=λy e=>by rw[f];exact e,fD:=λy e=>ν (cellOf y e) λc κ=>⟨by rw[f];exact e,c,κ,.inr (.inl ⟨y,κ⟩)⟩,gI:=λy c κ=>⟨_,x.cell y c κ⟩,gc:=λy c κ=>i7 (x.above y c (lookup_mem κ)),inj:=λy z c γ ε i=>name_of_addr x.apart (lookup_mem ε) (lookup_mem i),e3:=λy d q=>⟨λe=>V lc e.symm,λz c κ=>V (Z z c κ)⟩},r.trans X,W,λy z d e eV eK q=>(q ((Y eV).1.trans (Y eK).1.symm)).elim,P,λb j q=>(l b j).elim (λe=>ν (there (.inl q)) λo k=>aQ (e.symm.trans k)) λe=>E (e▸q)⟩
 ·exact e.elim (λe=>ν (cellOf y e) λc κ=>⟨⟨c,_,κ,x.cell y c κ⟩,.inl (by rw[f];exact e)⟩) λe=>((sP _ (lookup_mem e)).2 rfl).elim
 ·refine⟨v,.inr ((yN hs).elim (λq=>.inl ⟨by rw[f];exact q,_,x.toInCall.ns,ε q⟩) λq=>ν (cellOf y q) λc κ=>.inr ⟨.inl (by rw[f];exact q),c,κ,i q▸x.cell y c κ⟩),hd.elim (λq=>ν q λd q=>by rw[q.1];exact Den.grow Q q.2) λq=>by
   rw[q.2.1];exact⟨q.2.2,L.grow Q λo e=>x.toInCall.keep m o e⟩⟩
theorem Sk(G:C.Good)(O:dA C S Ω)(aw:gF C S Ω)(T:sd C a fd params body):C5 C (Ω+61) a (BS S fd.scope.names params body):=by
 intro A ay s0 F s B m vs ds d d' R aY i V Fs Ft uV FI ζ hd E;refine h1 (a7 s.toks) ?_;refine ν (T.obj) λo q=>bL q λN xG=>?_;have ok:=i.ok;have Fy:s.heap.get? a=some o:=ok.base a o (G.kn N λao=>by rw[xG];nofun) N;refine π hd λp hd φ=>aP hd λhd κ=>π hd λr hd ι=>aP hd λhd Q=>?_;have ep:=mB φ;have hlen:=eq_of_beq (band κ).1;have Y:=er.mp (band κ).2;have A2:vs.length=p.2.length:=ζ.length.trans hlen.symm;have P:(Value.ref m::vs).length=params.length:=by rw[ep];exact bp (· +1) A2
 have W:(params.zip (Value.ref m::vs)).map (·.1)=params:=CP (gV P.symm);have FT:((p.1,aC.own d)::(p.2.zip ds).map λq=>(q.1,aC.val q.2)).map (·.1)=params:=by
  rw[bN,cP,ep];exact bp (p.1::·) (CP (gV hlen))
 have jK:s.heap.CodeRec fd.code fd.qualname:=by
  obtain⟨c,vj,HQ,t,ag,ax,bO,eP⟩:=T.code;exact⟨c,vj,HQ,t,ag,ok.base c vj (T.D0 c ag) ax,bO,eP⟩
 refine wpAny_call (codeAny_call_function R.lt Fy xG T.co T.gen T.body jK ?_);rw[T.bind _ P,T.DV];refine b7 (h1 (a7 s.toks) (wpAny_newFunctionEnv_cells T.kind (λq z=>?_) λenv he av x cx=>?_))
 ·have kh:q.1∈params:=by rw[<-W];exact pw z
  refine(yN (Y q.1 kh)).imp id λI=>⟨I,ν (uw fd.scope.names (s.heap.objs.size+1) q.1 (lookup_mem I)) λc κ=>by rw[κ];rfl⟩
 ·have Z:∀y,env.kindOf y=fd.scope.names.lookup y:=λy=>by rw[he];rfl
  have lm:∀{y v},(y,v)∈params.zip (Value.ref m::vs)->fd.scope.names.lookup y=some .local->bindL env.kindOf (params.zip (Value.ref m::vs)) (λγ=>none) y=some v:=λz U=>JT (by rw[Z];exact U) (by rw[W];exact T.nodup) z;have uy:∀{y v},(y,v)∈params.zip (Value.ref m::vs)->fd.scope.names.lookup y=some .cell->bindC env.kindOf (params.zip (Value.ref m::vs)) (λγ=>none) y=some v:=λz U=>JS (by rw[Z,U];nofun) (by rw[W];exact T.nodup) z
  have E1:=bF.startM (σ:=ez (sL fd.scope.names) ((p.1,aC.own d)::(p.2.zip ds).map λq=>(q.1,aC.val q.2))) (p0:=p.1) aY i V Fs Ft uV FI (by rw[he];exact T.kind) (by rw[he];exact T.glob) (by rw[he];exact T.blt) (by rw[he];exact T.DZ) Z T.names (by rw[he];rfl) x cx λy lv e=>
   (tx (by rw[FT];exact T.nodup) e).elim (λq=>(cn.mp q).elim (λq=>by
     cases q;have z:(p.1,Value.ref m)∈params.zip (Value.ref m::vs):=by rw[ep];exact bH
     exact⟨Y _ (by rw[ep];exact bH),_,.inr ⟨rfl,rfl,rfl⟩,lm z,uy z⟩)
     λq=>bL (PX ζ q) λaH q=>ai q λd v q=>by
      have z:(y,v)∈params.zip (Value.ref m::vs):=by rw[ep];exact b3 _ q.2.1
      exact⟨Y y (by rw[ep];exact b3 _ aH),v,.inl ⟨d,q.1,q.2.2⟩,lm z,uy z⟩)
     λq=>aQ (K0.symm.trans q.2)
  refine⟨(ok.lim G).keeps x.toInCall.keep,codeAny_func ?_⟩;refine b8 ((KU G O aw 60).2 [] fd.scope.names body _ _ _ ι (A.deeper env) env _ B ay s0 F av ((R.mono (k':=Ω+60+1) (a7 _)).deeper env) aY E1.2 _) (λf s' q=>?_) λγ γ x=>x;cases hf:r.2 with
  |ret mE=>rw[hf] at Q;exact jo Q
  |next=>
   rw[hf] at q;rw[q.1];refine λXA=>⟨rfl,ai q.2 λcI F' q=>bL q λl L=>?_⟩;have g:=uM hd;have em:cI p.1=m:=(L.same _ _ g).elim (λq=>jo q) λq=>q.2
   have Zy:∀b o,b≠m->s.heap.get? b=some o->¬a8 env (λγ=>m) (ez (sL fd.scope.names) ((p.1,aC.own d)::(p.2.zip ds).map λq=>(q.1,aC.val q.2))) b:=λb o j e q=>
    q.elim (λq=>by rw[q,hh x.toInCall.fresh] at e;exact aQ e) λq=>q.elim (λq=>ν q λy κ=>by rw[hh (aJ x.toInCall.fresh (dy (x.above y b (lookup_mem κ))))] at e;exact aQ e) λq=>ai q λy e q=>j q.2
   have FD:s'.os=s.os:=l.base.os.trans i.os.symm;refine⟨F',l.fr.ok,λb o ω j e=>L.keep b o ω (Zy b o j e) (x.toInCall.keep b o e),FD,λt y e=>L.θ t y e,XA,?_⟩;refine ν (l.fr.vars _ _ g) λv k=>?_;have H:=k.2.2;rw[em] at H;exact H.grow ⟨λγ γ e=>e,λγ γ γ e=>e,λb γ V γ q=>V (q.imp id λq=>q▸em▸a8.own g)⟩ λo e=>e
end
section
variable{prog:Program}{w:World}{A:Around}{E:cg}{s:Shared}
theorem ZV(hit:s.heap.IsTupleIter it t i)
 (ω:s.heap.IsTuple t items) (u:items[i]? =some x)
 (g:∀h',h'.IsTupleIter it t (i+1)->Heap.SameBut it s.heap h'->Q x {s with heap:=h'}):
 wpAny (model prog w) A (Builtin.SmallTypes.nextOf (.ref it)) Q E s:=by
 refine cps λv q=>?_;obtain⟨o,z,κ,hd⟩:=id hit;obtain⟨ol,y,_,nl,j⟩:=ω;refine q ?_;unfold Builtin.SmallTypes.nextOf
 refine aR (y1 (name:="__next__") hit.typeIs Cn
  (zi Cn hit.typeIs F.entry_tuple_iterator_next ?_ (F.args_tuple_iterator_next_1 _)))
 show wpAny _ _ (field (.ref it) 0>>=_) _ _ s;refine aR (mh z hd (x:=.ref t) rfl ?_);show wpAny _ _ (if(Value.ref t==Value.none)=true then _ else _) _ _ s;rw[ar (show¬((Value.ref t==Value.none)=true) from zd)];show wpAny _ _ (field (.ref it) 1>>=_) _ _ s;refine aR (mh z hd (x:=.int i 0) rfl ?_);show wpAny _ _ (seqItems? (.ref t)>>=_) _ _ s;refine aR (tU y j ?_);simp only[qH,u];refine aR (wpAny_setField z hd (by simp) (b7 ⟨x,rfl,b7 (g _ ?_ (qE ..))⟩))
 exact⟨_,Heap.get?_update_self _ z (Obj.isFreed_of_fields (Obj.data_mapFields hd _)),(Obj.cls_mapFields ..).trans κ,by
  rw[Obj.data_mapFields hd];simp [rawInt]⟩
theorem ZU(bq:A.handled=none)
 (hit:s.heap.IsTupleIter it t i) (ω:s.heap.IsTuple t items) (u:items[i]? =none)
 (g:∀h' e,Heap.ExtBut it s.heap h'->(∃o,h'.get? e=some o/\o.cls=.type "StopIteration")->E (.ref e) {s with heap:=h'}):
 wpAny (model prog w) A (Builtin.SmallTypes.nextOf (.ref it)) Q E s:=by
 refine cps λv q=>?_;obtain⟨o,z,κ,hd⟩:=id hit;obtain⟨ol,y,_,nl,j⟩:=ω;refine q ?_;unfold Builtin.SmallTypes.nextOf
 refine aR (y1 (name:="__next__") hit.typeIs Cn
  (zi Cn hit.typeIs F.entry_tuple_iterator_next ?_ (F.args_tuple_iterator_next_1 _)))
 show wpAny _ _ (field (.ref it) 0>>=_) _ _ s;refine aR (mh z hd (x:=.ref t) rfl ?_);show wpAny _ _ (if(Value.ref t==Value.none)=true then _ else _) _ _ s;rw[ar (show¬((Value.ref t==Value.none)=true) from zd)];show wpAny _ _ (field (.ref it) 1>>=_) _ _ s;refine aR (mh z hd (x:=.int i 0) rfl ?_);show wpAny _ _ (seqItems? (.ref t)>>=_) _ _ s;refine aR (tU y j ?_);simp only[qH,u];refine aR (qL (aR (wpAny_setField z hd (by simp) ?_)));show wpAny _ _ (newExc (.type "StopIteration") []>>=_) _ _ _;refine aR ?_;simp only[newExc,newTuple];refine aR (CI ?_ (by size_fits));refine aR (m:=firstArgMember _ _) (wpAny_of_eq (a:=Value.none) (by first|rfl|(simp only[firstArgMember];rfl)) ?_);refine CI ?_ (by size_fits);simp only[raiseNew];refine aR (wpAny_handled ?_)
 first|rw[show A.in1.handled=none from bq]|rw[bq]
 refine aR (b7 (wpAny_throw ?_));exact g _ _ (((qE ..).extBut.push _).push _) ⟨_,eW _ rfl,rfl⟩
end
theorem IJ{prog:Program}{w:World}{A:Around}(bq:A.handled=none)(it t:Addr)(u:t≠it)(items:Array Value):
 Draws prog w A it [it,t] items.size (λi v=>items[i]? =some v) (λi h=>h.IsTupleIter it t i/\h.IsTuple t items) where
 live:=λγ γ st=>let ⟨o,z,_⟩:=st.1;⟨o,z⟩
 frame:=λγ γ γ st j=>⟨let ⟨o,z,r⟩:=st.1;⟨o,j it (by simp) o z,r⟩,let ⟨o,z,r⟩:=st.2;⟨o,j t (by simp) o z,r⟩⟩
 item:=λi s Q E ρ st g=>by
  refine ZV st.1 st.2 (x:=items[i]) (by simp [ρ]) λh' q y=>?_;exact g _ h' s.toks (by simp [ρ]) ⟨q,st.2.extBut y.extBut u⟩ y
 done:=λs Q E st p=>ZU bq st.1 st.2 (by simp) p
structure t4(z TI cB b_ b5:Addr)(f1 f2:List Addr):Prop where
 TIz:TI≠z
 TOz:cB≠z
 TITO:TI≠cB
 TIi1:TI≠b_
 TIi2:TI≠b5
 g9:b_∈f1
 k6:b5∈f2
 lr:z∉f1
 n3:z∉f2
 tn:cB∉f1
 rJ:cB∉f2
 Nx:b5∉f1
 rG:b_∉f2
section
variable{prog:Program}{w:World}{A:Around}{E:cg}{s:Shared}
variable{z TI cB b_ b5:Addr}{f1 f2:List Addr}{n i:Nat}{oq qW:Nat->Value->Prop}{iM kJ:Nat->Heap->Prop}{a b:Value}
theorem qfh{Q:cg}(D:t4 z TI cB b_ b5 f1 f2)(W1:Draws prog w A b_ f1 n oq iM)(L:Draws prog w A b5 f2 n qW kJ)
 (r:IsZip s.heap z TI cB .none) (hD:IsPair s.heap TI (.ref b_) (.ref b5)) (kW:IsPair s.heap cB a b) (ε:iM i s.heap) (η:kJ i s.heap) (ρ:i<n)
 (bB:∀h' a' x y,oq i x->qW i y->IsZip h' z TI cB (rawInt s.heap.objs.size)->IsPair h' cB x y->iM (i+1) h'->kJ (i+1) h'->IsPair h' s.heap.objs.size x y->h'.objs.size=s.heap.objs.size+1->
   (∀c o,c≠z->c≠cB->c≠b_->c≠b5->s.heap.get? c=some o->h'.get? c=some o)->Q (.ref s.heap.objs.size) {s with heap:=h',toks:=a'}):
 wpAny (model prog w) A (Builtin.«zip.__next__» ⟨[.ref z],[]⟩) (λfin s'=>∃v,fin=.done (.ret v)/\Q v s') E s:=by
 have TOi1:cB≠b_:=λe=>D.tn (e▸D.g9);have TOi2:cB≠b5:=λe=>D.rJ (e▸D.k6);have H3:z≠b_:=λe=>D.lr (e▸D.g9);have C:z≠b5:=λe=>D.n3 (e▸D.k6);have up1:∀{k:Nat} {h h':Heap} {c:Addr},c∉f1->iM k h->Heap.SameBut c h h'->iM k h':=λκ st e=>W1.frame _ _ _ st λb B o x=>(e.2 b λq=>κ (q▸B)).trans x;have W:∀{k:Nat} {h h':Heap} {c:Addr},c∉f2->kJ k h->Heap.SameBut c h h'->kJ k h':=λκ st e=>L.frame _ _ _ st λb B o x=>(e.2 b λq=>κ (q▸B)).trans x;show wpAny _ _ (field (.ref z) 2>>=_) _ _ _;refine aR (mh r rfl (x:=.bool false) rfl ?_);show wpAny _ _ (field (.ref z) 3>>=_) _ _ _;refine aR (mh r rfl (x:=.ref TI) rfl ?_);refine aR (tU hD rfl ?_);show wpAny _ _ (Builtin.SmallTypes.ownedTupleIsFree (.ref z)>>=_) _ _ _;refine aR ?_;unfold Builtin.SmallTypes.ownedTupleIsFree;refine aR (mh r rfl (x:=.none) rfl (b7 ?_));simp only[if_true];refine aR (qL ?_);refine aR (mh r rfl (x:=.ref cB) rfl ?_);refine aR (y' r (by simp) λkV H l=>?_);replace H:IsZip kV z TI cB .ellipsis:=H;refine aR ?_;simp only[List.zipIdx_cons,List.zipIdx_nil,v9,tV];refine aR (aR (wpAny_onRaise ?_));show wpAny _ _ (Builtin.SmallTypes.nextOf (.ref b_)>>=_) _ _ _;refine aR (W1.item i _ _ _ ρ (up1 D.lr ε l) λx P qfy ι AD g=>b7 ?_);replace g:Heap.SameBut b_ kV P:=g;have Lq:IsPair P cB a b:=g.extBut _ _ TOi1 (l.extBut _ _ D.TOz kW);refine aR (tU Lq rfl ?_);refine aR (wpAny_updateSeq_pair Lq λI V u=>?_);replace V:IsPair I cB x b:=V;replace u:Heap.SameBut cB P I:=u;refine aR (wpAny_letGo (b7 ?_));refine aR (aR (wpAny_onRaise ?_));show wpAny _ _ (Builtin.SmallTypes.nextOf (.ref b5)>>=_) _ _ _;refine aR (L.item i _ _ _ ρ (W D.rJ (W D.rG (W D.n3 η l) g) u) λy O qfz aH AE f=>b7 ?_);replace f:Heap.SameBut b5 I O:=f;have Lr:IsPair O cB x b:=f.extBut _ _ TOi2 V;refine aR (tU Lr rfl ?_);refine aR (wpAny_updateSeq_pair Lr λj Y p=>?_);replace Y:IsPair j cB x y:=Y;replace p:Heap.SameBut cB O j:=p;refine aR (wpAny_letGo (b7 (b7 ?_)));refine aR (tU Y rfl ?_);refine aR (wpAny_newTuple ?_);have dJ:j.objs.size=s.heap.objs.size:=by rw[p.1,f.1,u.1,g.1,l.1]
 have Mj:IsZip j z TI cB .ellipsis:=p.extBut _ _ D.TOz.symm (f.extBut _ _ C (u.extBut _ _ D.TOz.symm (g.extBut _ _ H3 H)))
 have WY:∀c o,c≠z->c≠cB->c≠b_->c≠b5->s.heap.get? c=some o->j.get? c=some o:=λc o c1 c2 N F e=>
  p.extBut _ _ c2 (f.extBut _ _ F (u.extBut _ _ c2 (g.extBut _ _ N (l.extBut _ _ c1 e))))
 have Wc:iM (i+1) j:=up1 D.tn (up1 D.Nx (up1 D.tn AD u) f) p;have Wd:kJ (i+1) j:=W D.rJ AE p;have Mh:z<j.objs.size:=dz Mj;show wpAny _ _ (Builtin.SmallTypes.ownedTupleHandOut (.ref z) (.ref j.objs.size)>>=_) _ _ _;refine aR ?_;unfold Builtin.SmallTypes.ownedTupleHandOut;have XO:IsZip (j.push {cls:=.type "tuple",data:=.seq #[x,y]}) z TI cB .ellipsis:=dn _ Mj;refine aR (y' XO (by simp) λhU R U=>?_);replace R:IsZip hU z TI cB (rawInt j.objs.size):=R;refine y' R (by simp) λt Z T=>?_;replace Z:IsZip t z TI cB (rawInt j.objs.size):=Z;have up:∀c o,c≠z->j.get? c=some o->t.get? c=some o:=λc o c1 e=>T.extBut _ _ c1 (U.extBut _ _ c1 (dn _ e));have Ls:IsPair t j.objs.size x y:=T.extBut _ _ (i7 Mh) (U.extBut _ _ (i7 Mh) (eW _ rfl));have Mg:t.objs.size=j.objs.size+1:=by rw[T.1,U.1,hK]
 rw[dJ] at Z Ls Mg;refine b7 ⟨_,rfl,?_⟩;show Q (.ref j.objs.size) _;rw[dJ]
 exact bB t _ x y ι aH Z (up _ _ D.TOz Y) (W1.frame _ _ _ Wc λc κ o e=>up c o (λq=>D.lr (q▸κ)) e) (L.frame _ _ _ Wd λc κ o e=>up c o (λq=>D.n3 (q▸κ)) e) Ls Mg
  λc o c1 c2 N F e=>up c o c1 (WY c o c1 c2 N F e)
theorem qfg(D:t4 z TI cB b_ b5 f1 f2)(W1:Draws prog w A b_ f1 n oq iM)
 (y:IsZip s.heap z TI cB .none) (W:IsPair s.heap TI (.ref b_) (.ref b5)) (ε:iM n s.heap)
 (Z:∀h' e,(∀c o,c≠z->c≠cB->c≠b_->c≠b5->s.heap.get? c=some o->h'.get? c=some o)->(∃o,h'.get? e=some o/\o.cls=.type "StopIteration")->E (.ref e) {s with heap:=h'}):
 wpAny (model prog w) A (Builtin.«zip.__next__» ⟨[.ref z],[]⟩) Q E s:=by
 have l:z≠b_:=λe=>D.lr (e▸D.g9);show wpAny _ _ (field (.ref z) 2>>=_) _ _ _;refine aR (mh y rfl (x:=.bool false) rfl ?_);show wpAny _ _ (field (.ref z) 3>>=_) _ _ _;refine aR (mh y rfl (x:=.ref TI) rfl ?_);refine aR (tU W rfl ?_);show wpAny _ _ (Builtin.SmallTypes.ownedTupleIsFree (.ref z)>>=_) _ _ _;refine aR ?_;unfold Builtin.SmallTypes.ownedTupleIsFree;refine aR (mh y rfl (x:=.none) rfl (b7 ?_));simp only[if_true];refine aR (qL ?_);refine aR (mh y rfl (x:=.ref cB) rfl ?_);refine aR (y' y (by simp) λU u t=>?_);replace u:IsZip U z TI cB .ellipsis:=u;refine aR ?_;simp only[List.zipIdx_cons,List.zipIdx_nil,v9,tV];refine aR (aR (wpAny_onRaise ?_));show wpAny _ _ (Builtin.SmallTypes.nextOf (.ref b_)>>=_) _ _ _;refine aR (W1.done _ _ _ (W1.frame _ _ _ ε λc κ o e=>(t.2 c λq=>D.lr (q▸κ)).trans e) λY e f he=>?_);obtain⟨g,j,v⟩:=he;have p:IsZip Y z TI cB .ellipsis:=f _ _ l u;have h:e≠z:=λx=>by subst x;rw[p] at j;cases j;simp at v
 refine y' p (by simp) λT γ r=>Z T e (λc o c1 γ V γ x=>r.extBut _ _ c1 (f _ _ V (t.extBut _ _ c1 x))) ⟨g,r.extBut _ _ h j,v⟩
end
section
variable{prog:Program}{w:World}{A:Around}{E:cg}{s:Shared}
variable{z TI cB b_ b5:Addr}{f1 f2:List Addr}{n i:Nat}{oq qW:Nat->Value->Prop}{iM kJ:Nat->Heap->Prop}{a b:Value}
theorem ZX(D:t4 z TI cB b_ b5 f1 f2)(W1:Draws prog w A.in1 b_ f1 n oq iM)(f:Draws prog w A.in1 b5 f2 n qW kJ)
 (j:IsZip s.heap z TI cB .none) (p:IsPair s.heap TI (.ref b_) (.ref b5)) (e:IsPair s.heap cB a b) (ε:iM i s.heap) (h:kJ i s.heap) (ρ:i<n)
 (v:∀h' a' x y,oq i x->qW i y->IsZip h' z TI cB (rawInt s.heap.objs.size)->IsPair h' cB x y->iM (i+1) h'->kJ (i+1) h'->IsPair h' s.heap.objs.size x y->h'.objs.size=s.heap.objs.size+1->
   (∀c o,c≠z->c≠cB->c≠b_->c≠b5->s.heap.get? c=some o->h'.get? c=some o)->Q (some (.ref s.heap.objs.size)) {s with heap:=h',toks:=a'}):
 wpAny (model prog w) A (pyNext (.ref z)) Q E s:=by
 have q:s.TypeIs (.ref z) "zip" :=⟨_,j,rfl⟩;unfold pyNext
 exact aR (wpAny_attempt (y1 (name:="__next__") q CV
  (zi CV q F.entry_zip_next
    (qfh D W1 f j p e ε h ρ λh' a' x y k_ la a1 a2 r t l g u=>b7 (v h' a' x y k_ la a1 a2 r t l g u)) (F.args_zip_next_1 _))))
theorem ZW(D:t4 z TI cB b_ b5 f1 f2)(W1:Draws prog w A.in1 b_ f1 n oq iM)
 (y:IsZip s.heap z TI cB .none) (u:IsPair s.heap TI (.ref b_) (.ref b5)) (ε:iM n s.heap)
 (g:∀h',(∀c o,c≠z->c≠cB->c≠b_->c≠b5->s.heap.get? c=some o->h'.get? c=some o)->Q none {s with heap:=h'}):wpAny (model prog w) A (pyNext (.ref z)) Q E s:=by
 have j:s.TypeIs (.ref z) "zip" :=⟨_,y,rfl⟩;unfold pyNext
 refine aR (wpAny_attempt (y1 (name:="__next__") j CV
  (zi CV j F.entry_zip_next (qfg D W1 y u ε λh' e v he=>?_) (F.args_zip_next_1 _))))
 obtain⟨o,q,κ⟩:=he;refine aR (wpAny_isInstance (T:="StopIteration") (b:=true) ⟨o,q,κ⟩ isSubtype_stop ?_);exact b7 (g _ v)
end
theorem qeo{prog:Program}{w:World}{A:Around}{z TI cB b_ b5:Addr}{f1 f2:List Addr}{n:Nat}{oq qW:Nat->Value->Prop}{iM kJ:Nat->Heap->Prop}
 (D:t4 z TI cB b_ b5 f1 f2) (W1:Draws prog w A.in1 b_ f1 n oq iM) (l:Draws prog w A.in1 b5 f2 n qW kJ):
 WalksT prog w A z (z::TI::cB::(f1++f2)) [z,cB,b_,b5] n
  (λi vals=>∃x y,oq i x/\qW i y/\vals= #[x,y])
  (λi h=>IsZip h z TI cB .none/\IsPair h TI (.ref b_) (.ref b5)/\(∃a b,IsPair h cB a b)/\iM i h/\kJ i h)
  (λi T h=>IsZip h z TI cB (rawInt T)/\IsPair h TI (.ref b_) (.ref b5)/\(∃a b,IsPair h cB a b)/\iM (i+1) h/\kJ (i+1) h/\T≠z/\T≠cB/\T≠b_/\T≠b5) where
 sub:=λc κ=>by
  have:=D.g9;have:=D.k6;simp at κ⊢;rcases κ with rfl|rfl|rfl|rfl<;>simp [*]
 frame:=λi h h' p j=>by
  obtain⟨g,u,⟨a,b,r⟩,ε,f⟩:=p;exact⟨j z (by simp) _ g,j TI (by simp) _ u,⟨a,b,j cB (by simp) _ r⟩,W1.frame _ _ _ ε λc κ o e=>j c (by simp [κ]) o e,l.frame _ _ _ f λc κ o e=>j c (by simp [κ]) o e⟩
 item:=λi s Q E ρ p v=>by
  obtain⟨g,u,⟨a,b,r⟩,ε,f⟩:=p;refine ZX D W1 l g u r ε f ρ λh' a' x y k_ la a1 a2 U R P O j=>?_;have lt:∀{c o},s.heap.get? c=some o->s.heap.objs.size≠c:=λe=>i7 (dz e);obtain⟨_,ag⟩:=W1.live _ _ ε;obtain⟨_,Y⟩:=l.live _ _ f
  exact v s.heap.objs.size #[x,y] h' a' ⟨_,_,k_,la,rfl⟩ (a7 _) ⟨_,P,rfl,_,rfl⟩
   ⟨a1,j _ _ D.TIz D.TITO D.TIi1 D.TIi2 u,⟨_,_,a2⟩,U,R,lt g,lt r,lt ag,lt Y⟩
   λc o κ e=>j c o (λx=>κ (by simp [x])) (λx=>κ (by simp [x])) (λx=>κ (by simp [x])) (λx=>κ (by simp [x])) e
 go:=λelts k pos i T s Q E hm v=>by
  obtain⟨g,u,⟨a,b,r⟩,ε,f,_⟩:=hm
  refine wpAny_letOwnedTupleGo_zip g λh' W t=>v h' ⟨W,t.extBut _ _ D.TIz u,⟨a,b,t.extBut _ _ D.TOz r⟩,
   W1.frame _ _ _ ε λc κ o e=>t.extBut c o (λq=>D.lr (q▸κ)) e,l.frame _ _ _ f λc κ o e=>t.extBut c o (λq=>D.n3 (q▸κ)) e⟩ λc o κ e=>t.extBut _ _ (λx=>κ (by simp [x])) e
 apart:=λi T h hm Z=>by
  obtain⟨_,_,_,_,_,t1,bP,t3,V⟩:=hm;simp at Z;rcases Z with rfl|rfl|rfl|rfl
  ·exact t1 rfl
  ·exact bP rfl
  ·exact t3 rfl
  ·exact V rfl
 done:=λs Q E p v=>by
  obtain⟨g,u,_,ε,f⟩:=p
  exact ZW D W1 g u ε λh' j=>v h' s.toks λc o κ e=>
   j c o (λx=>κ (by simp [x])) (λx=>κ (by simp [x])) (λx=>κ (by simp [x])) (λx=>κ (by simp [x])) e
 self:=λi s Q E p v=>wpAny_pyIter_zip p.1 v
noncomputable def rY(h:Heap)(l:Addr):Heap:=h.push {cls:=.type "tuple_iterator",data:=.fields #[.ref l,.int 0 0]}
def tK(h:Heap)(k l:Addr):Heap:=rY (rY h k) l
def tL(h:Heap)(k l:Addr):Heap:=(tK h k l).push {cls:=.type "tuple",data:=.seq #[.ref h.objs.size,.ref (rY h k).objs.size]}
def vQ(h:Heap)(k l:Addr):Heap:=(tL h k l).push {cls:=.type "tuple",data:=.seq #[.none,.none]}
def m1(h:Heap)(k l:Addr):Heap:=(vQ h k l).push {cls:=.type "zip",data:=.fields #[.none,.bool false,.bool false,.ref (tK h k l).objs.size,.ref (tL h k l).objs.size]}
theorem Y_ k l xs iD:
 Meets (Builtin.«zip.__new__» ⟨[.type "zip",.ref k,.ref l],[]⟩) (λγ R s=>s.heap.IsTuple k xs/\s.heap.IsTuple l iD/\
  R (.ok (.ret (.ref (vQ s.heap k l).objs.size))) {s with heap:=m1 s.heap k l}):=
 .of_wp λprog w A R s h=>by
  obtain⟨z,g,d,a',os⟩:=s;obtain⟨u,q,h⟩:=h;have v:=sub_zip;have y:Heap.IsTuple (Shared.heap ⟨z,g,d,a',os⟩) k xs:=u;have j:Heap.IsTuple (Shared.heap ⟨z.push {cls:=.type "tuple_iterator",data:=.fields #[.ref k,.int 0 0]},g,d,a',os⟩) l iD:=Heap.IsTuple.push q _
  wp_walk using CF y,CF j
  exact⟨_,rfl,h⟩
theorem Sm{s:Shared}{k l:Addr}{xs iD:Array Value}{Q:cg}(e:s.heap.IsTuple k xs)(ζ:s.heap.IsTuple l iD)
 (h:∀h',IsZip h' (s.heap.objs.size+4) (s.heap.objs.size+2) (s.heap.objs.size+3) .none->IsPair h' (s.heap.objs.size+2) (.ref s.heap.objs.size) (.ref (s.heap.objs.size+1))->
   IsPair h' (s.heap.objs.size+3) .none .none->h'.IsTupleIter s.heap.objs.size k 0->h'.IsTupleIter (s.heap.objs.size+1) l 0->h'.objs.size=s.heap.objs.size+5->
   (∀c o,s.heap.get? c=some o->h'.get? c=some o)->Q (.ref (s.heap.objs.size+4)) {s with heap:=h'}):
 wpAny (model prog w) A (call (.type "zip") [.ref k,.ref l]) Q E s:=by
 refine callType_new F.called_zip .d (F.typeCall_zip_2 _ _) (F.newCall_zip_2 _ _) (λobj=>F.args_object_init_3 obj _ _) F.entry_zip_new
  (Y_ k l xs iD) ⟨e,ζ,?_⟩
 have lr:(rY s.heap k).objs.size=s.heap.objs.size+1:=hK ..;have n3:(tK s.heap k l).objs.size=s.heap.objs.size+2:=by unfold tK;rw[rY,hK,lr]
 have y:(tL s.heap k l).objs.size=s.heap.objs.size+3:=by rw[tL,hK,n3]
 have z:(vQ s.heap k l).objs.size=s.heap.objs.size+4:=by rw[vQ,hK,y]
 have j:(m1 s.heap k l).objs.size=s.heap.objs.size+5:=by rw[m1,hK,z]
 have g:∀c o,(rY s.heap k).get? c=some o->(m1 s.heap k l).get? c=some o:=λc o x=>dn _ (dn _ (dn _ (dn _ x)));have u:∀c o,(tK s.heap k l).get? c=some o->(m1 s.heap k l).get? c=some o:=λc o x=>dn _ (dn _ (dn _ x));have v:∀c o,(tL s.heap k l).get? c=some o->(m1 s.heap k l).get? c=some o:=λc o x=>dn _ (dn _ x);have p:∀c o,(vQ s.heap k l).get? c=some o->(m1 s.heap k l).get? c=some o:=λc o x=>dn _ x;have q:IsZip (m1 s.heap k l) (vQ s.heap k l).objs.size (tK s.heap k l).objs.size (tL s.heap k l).objs.size .none:=eW _ rfl;have eH:IsPair (m1 s.heap k l) (tL s.heap k l).objs.size .none .none:=p _ _ (eW _ rfl);have g3:IsPair (m1 s.heap k l) (tK s.heap k l).objs.size (.ref s.heap.objs.size) (.ref (rY s.heap k).objs.size):=v _ _ (eW _ rfl);have g2:(m1 s.heap k l).IsTupleIter (rY s.heap k).objs.size l 0:=⟨_,u _ _ (eW _ rfl),rfl,rfl⟩;have g1:(m1 s.heap k l).IsTupleIter s.heap.objs.size k 0:=⟨_,g _ _ (eW _ rfl),rfl,rfl⟩;show _/\_;rw[n3,y,z] at q;rw[lr,n3] at g3;rw[y] at eH;rw[lr] at g2;rw[z];exact⟨⟨_,q,rfl⟩,h _ q g3 eH g1 g2 j λc o x=>g _ _ (dn _ x)⟩
theorem Sv{pos pos':Pos} l (h:TriplesOk l) (j:¬(pos'.line=pos.line/\pos'.col=pos.col)):
 codeAmong pos (l++[rawInt pos'.line,rawInt pos'.col,c])=codeAmong pos l:=by
 fun_induction TriplesOk l with
 |case1=>
  have:¬(((pos'.line:Int)==(pos.line:Int))=true/\((pos'.col:Int)==(pos.col:Int))=true):=λ⟨a,b⟩=>j ⟨Int.ofNat.inj (eq_of_beq a),Int.ofNat.inj (eq_of_beq b)⟩;simp only[ly,codeAmong,rawInt];split
  ·rename_i z;rw[pl] at z;exact(this z).elim
  ·rfl
 |case2 line t col u x rest y=>
  simp only[CR,codeAmong];split
  ·rfl
  ·exact y h
 |case3=>exact h.elim
structure j7(C:aE):Prop where
 bm:∃bm o,C.c0 "__builtins__" =some (.ref bm)/\bm≠builtinsNs/\C.fU.get? bm=some o/\o.cls=.type "module" /\o.dict=some builtinsNs/\o.data=.plain
 one:∀q∈C.T,∀r∈C.T,q.2=r.2->q=r
section
variable{C:aE}{S:dH}{A:Around}{B B':Addr->Prop}{F F':bc}{s s':Shared}{h h':Heap}{u v:Value}{k Ω n:Nat}{K:Kinds}{env:Env}{α:Str->Addr}{σ:Γ}
theorem aE.Good.qbW(G:C.Good):cStatics∉C.bo:=let ⟨_,z,_⟩:=G.lim;G.NQ z
theorem Sw(ε:pos'.line=pos.line)(z:pos'.col=pos.col) l:codeAmong pos' l=codeAmong pos l:=by
 obtain⟨_,_,_,_⟩:=pos;obtain⟨_,_,_,_⟩:=pos';cases ε;cases z
 kernel_rfl
theorem aE.Ok.Rf(ok:C.Ok F s)(R:j7 C)(Z:q∈C.T)(t:s.heap.TableAt q.1 q.2 ao)(ω:TriplesOk ao.toList){pos:Pos}(W:codeAmong pos ao.toList=none)
 (Y:Heap.ExtBut q.2 s.heap h') (O:h'.TableAt q.1 q.2 (ao++ #[rawInt pos.line,rawInt pos.col,y])) (κ:oh h' y):C7 C h':=by
 have keep:∀{v},oh s.heap v->oh h' v:=λ⟨c,o,ag,j,i,r⟩=>⟨c,o,ag,Y c o (λe=>by rw[e,t.2] at j;cases j;cases i) j,i,r⟩;intro r g f a pos' v hf
 by_cases x:q.2=r.2
 ·obtain rfl:=R.one q Z r g x;have e:f=ao++ #[rawInt pos.line,rawInt pos.col,y]:=by
   have:=a.2.symm.trans O.2;cases this;rfl
  subst e;have Q:(ao++ #[rawInt pos.line,rawInt pos.col,y]).toList=ao.toList++[rawInt pos.line,rawInt pos.col,y]:=by simp
  rw[Q] at hf;replace hf:=hf
  by_cases l:pos.line=pos'.line/\pos.col=pos'.col
  ·rw[Sw (pos:=pos) l.1.symm l.2.symm,codeAmong_snoc _ ω W] at hf;replace hf:=hf;cases hf;exact κ
  ·rw[Sv _ ω l] at hf;replace hf:=hf;exact keep (ok.lam q Z ao t pos' v hf)
 ·obtain⟨pr,N,p⟩:=ok.tabs r g;have V:r.1≠q.2:=λe=>by
   obtain⟨⟨o,vs,z,U,_⟩,_⟩:=p;rw[e,t.2] at z;replace z:=z;cases z;cases U
  have P:=p.extBut Y V (gT x);have e:f=pr:=by
   have:=a.2.symm.trans P.2;cases this;rfl
  subst e;exact keep (ok.lam r g f p pos' v hf)
theorem Sx(ε:h.CodeRec (.ref z) ko)(q:h.TableAt z l ao):oh h (.ref z):=by
 refine cps λp j=>?_;obtain⟨c,o,vs,t,e,g,d,r⟩:=ε;cases e;obtain⟨⟨bf,f,y,cl,d',_⟩,_⟩:=q;rw[g] at y;obtain rfl:=ae y;refine j ?_;exact⟨_,o,rfl,g,cl,vs,_,d,r⟩
theorem OZ(G:C.Good)(V:j7 C)(ok:C.Ok F s)(g:q∈C.T)(ε:s.heap.IsCode q.1 q.2 ao)(a:s.heap.TableAt q.1 q.2 ao)(hf:codeAmong pos ao.toList=none)
 (y:Heap.ExtBut q.2 s.heap h') (L:h'.IsCode q.1 q.2 (ao++ #[rawInt pos.line,rawInt pos.col,.ref z])) (E:h'.CodeRec (.ref z) ko) (i:h'.TableAt q.1 q.2 (ao++ #[rawInt pos.line,rawInt pos.col,.ref z]))
 (H:h'.TableAt z wz #[]) (f:s.toks<=a'):C.Step F s F {s with heap:=h',toks:=a'}/\oh h' (.ref z):=by
 have R:=Sx E H;have U:q.2∈C.bo:=bV.mpr ⟨q,g,rfl⟩;obtain⟨I,P⟩:=G.tabs q g;have Q:∀b o,b∉C.bo->s.heap.get? b=some o->h'.get? b=some o:=λb o p e=>y b o (λaB=>p (aB▸U)) e
 refine⟨⟨⟨λb o p e=>Q b o p (ok.base b o p e),λr Z=>?_,?_,ok.gens,c7 ok.pos f,λt x e=>⟨(ok.θ t x e).1,c7 (ok.θ t x e).2 f⟩,
  ok.Rf V g a (by obtain⟨_,_,_,_,_,_,_,_,_,_,_,_,_,_,_,_,_,_,_,t,_⟩:=ε;exact t) hf y i R⟩,Q,rfl,λγ γ e=>e,f⟩,R⟩
 ·by_cases l:q.2=r.2
  ·obtain rfl:=V.one q g r Z l;exact⟨_,L,i⟩
  ·obtain⟨pr,N,W⟩:=ok.tabs r Z;have Y:r.1≠q.2:=λe=>by
    obtain⟨⟨o,vs,j,O,_⟩,_⟩:=W;rw[e,a.2] at j;replace j:=j;cases j;cases O
   exact⟨pr,N.extBut y Y (λe=>l e.symm),W.extBut y Y (λe=>l e.symm)⟩
 ·exact ok.old.step_table (more:= #[rawInt pos.line,rawInt pos.col,.ref z]) P a i y λe=>G.qbW (e▸U)
theorem VZ(G:C.Good)(t:j7 C)(ok:C.Ok F s)(κ:∃q∈C.T,env.code=.ref q.1){pos:Pos}{ko:Str}{sc:Scope}{E:cg}{Q:cg}
 (g:∀z h' a',C.Step F s F {s with heap:=h',toks:=a'}->(∀b o,b∉C.bo->s.heap.get? b=some o->h'.get? b=some o)->s.heap.objs.size<=h'.objs.size->Q z {s with heap:=h',toks:=a'}):
 wpAny C.M A (genexprCode env pos ko sc) Q E s:=by
 refine cps λU j=>?_;obtain⟨q,y,he⟩:=κ;obtain⟨ao,ε,p⟩:=ok.tabs q y;cases hf:codeAmong pos ao.toList with
 |some z=>refine j ?_;exact wpAny_genexprCode_hit he ε hf (g z s.heap s.toks (.tok ok (a7 _)) (λγ γ γ e=>e) (a7 _))
 |none=>
  refine j ?_;refine h1 (a7 s.toks) (wpAny_genexprCodeX he ε p hf λz h' a' f Z l i W a ⟨R,_,_,Y⟩ r=>?_);have x:q.2∈C.bo:=bV.mpr ⟨q,y,rfl⟩;exact g _ _ _ (OZ G t ok y ε p hf f i W a Y r).1 (λb o V e=>f b o (λaB=>V (aB▸x)) e) (aJ Z (dy l))
theorem Le(G:C.Good)(f:j7 C)(ok:C.Ok F s)(j:env.globals=mainGlobals){E:cg}{Q:Addr->el}(p:Q builtinsNs s):
 wpAny C.M A (builtinsFor env.globals env.builtins) Q E s:=by
 refine ai (f.bm) λbm o q=>Jw q λε r z bu e y=>?_;rw[j];exact wpAny_builtinsFor (ok.ns G G.g) ε r (ok.base bm o (G.kn z λao=>by rw[y];nofun) z) bu e y p
theorem qff:∀{ns ms},ns.length=ms.length->∀{vs},vs.length=ns.length->(∀i v,vs[i]? =some v->∃t,v=Value.int (ns.getD i 0+ms.getD i 0) t)->bA C F h B (rX ns ms) vs:=by
 intro g
 induction g with
 |nil=>
  intro ms γ vs z γ;rw[pv.mp z];cases ms<;>rfl
 |cons a r j=>
  intro ms e vs z y
  exact ai (PY e.symm) λb q ag=>ai (PY z) λv f p=>by
   rw[ag] at e y⊢;rw[p] at z y⊢;refine⟨v,f,rfl,ν (y 0 v rfl) λt ω=>⟨t,ω⟩,j (m2 e) (m2 z) λi v ρ=>ν (y (i+1) v ρ) λt ω=>⟨t,ω⟩⟩
theorem qax n:passing (λγ=>true) n 0=List.range n:=by
 unfold passing;simp
theorem ZD N t1 bP Z (h:N+5<=Z) (ε:t1<N) (y:bP<N):∀b∈((N+4)::(N+2)::(N+3)::([N,t1]++[N+1,bP]):List Nat),b<Z:=by
 intro b z;simp at z;rcases z with rfl|rfl|rfl|rfl|rfl|rfl|rfl<;>lia
theorem ZF c N (h:c<N):c∉([N+4,N+3,N,N+1]:List Nat):=by
 intro z;simp at z;rcases z with e|e|e|e<;>lia
theorem ZE a Z (h:Z<a):∀b∈(a::Z::List.range Z:List Nat),b<a+1:=by
 intro b z;simp at z;rcases z with rfl|rfl|z<;>lia
theorem ZG b N Z (h:N+5<=Z) (z:b<N):b∉(Z::[N+4,N+3,N,N+1]:List Nat):=by
 intro z;simp at z;rcases z with e|e|e|e|e<;>lia
theorem ZH N Z (h:N+5<=Z):(N+2)∉(Z::[N+4,N+3,N,N+1]:List Nat):=by
 intro z;simp at z;lia
theorem vf x a b (h:x≠a) (h':x≠b):x∉([a,b]:List Nat):=by
 simp [h,h']
theorem NA a N Z (h:N+5<=Z) (z:a∈(Z::[N+4,N+3,N,N+1]:List Nat)):N<=a:=by
 simp at z;rcases z with e|e|e|e|e<;>lia
theorem apart_new(N t1 bP:Nat)(ε:t1<N)(z:bP<N):t4 (N+4) (N+2) (N+3) N (N+1) [N,t1] [N+1,bP] where
 TIz:=(by lia:(N+2:Nat)≠N+4)
 TOz:=(by lia:(N+3:Nat)≠N+4)
 TITO:=(by lia:(N+2:Nat)≠N+3)
 TIi1:=(by lia:(N+2:Nat)≠N)
 TIi2:=(by lia:(N+2:Nat)≠N+1)
 g9:=bH
 k6:=bH
 lr:=vf _ _ _ .l .l
 n3:=vf _ _ _ .l .l
 tn:=vf _ _ _ .l .l
 rJ:=vf _ _ _ .l .l
 Nx:=vf _ _ _ .l .l
 rG:=vf _ _ _ .l .l
theorem Rn{x}(h:DA e=some x):∃p,e=.BinOp x.1 .Add x.2 p:=
 eO h λq=>Expr.BinOp.elim (motive_1:=λe=>DA e=some x->∃p,e=.BinOp x.1 .Add x.2 p) e q (λγ op γ p h=>aP h λh z=>⟨p,by rw[<-ae h,show op=.Add from isAdd z]⟩) h
theorem qck{x}(h:O' e=some x):(∃tu tv tw,e=.BinOp (.Name x.1 tu) .Add (.Name x.2 tv) tw)/\eU x.1=true/\eU x.2=true:=
 π h λc h ε=>π h λa h q=>π h λb h y=>aP h λh g=>ν (Rn ε) λtw ag=>ν (gH q) λtu z=>ν (gH y) λtv j=>by
  rw[<-ae h,ag,z,j];exact⟨⟨tu,tv,tw,rfl⟩,band g⟩
def Qx(C:aE)(A:Around)(env:Env)(elt:Expr)(a b:Str)(sc:Scope)(Q:cg)(it code:Value)(bi:Addr)(s₄:Shared)(I:Addr)(cQ wr:List Addr)(q:Nat)(p:Nat->Array Value->Prop)(f:Nat->Heap->Prop)(iK:Nat->Addr->Heap->Prop)(z:Nat->Bool)(F:Nat->Value->Prop):Prop:=
 it=.ref I/\(∀e:Around,e.handled=none->WalksU C.prog C.w e I cQ wr q p f iK)/\(∀i vals,p i vals->∃t l,vals= #[t,l])/\f 0 s₄.heap/\(∀b∈cQ,b<s₄.heap.objs.size)/\s₄.heap.NoLimit/\cStatics∉wr/\
  (∀r:Heap,(∀b o,s₄.heap.get? b=some o->r.get? b=some o)->QuietGenT C.prog C.w (genEnv sc [] s₄.heap.objs.size code bi env) a b [] elt (List.range s₄.heap.objs.size) wr p z F r)/\
  (∀a g a' gs,gs.bare=true->s₄.heap.objs.size<a->g.objs.size=a+1->(∀b o,s₄.heap.get? b=some o->g.get? b=some o)->
    WalksS C.prog C.w A.in4 a (a::s₄.heap.objs.size::List.range s₄.heap.objs.size) (s₄.heap.objs.size::wr) (GenOnlyQ s₄.gens.size) (passing z q 0).length
     (λj y=>∃i,(passing z q 0)[j]? =some i/\F i y) (GenAt C.prog C.w A.in4 a s₄.gens.size s₄.heap.objs.size (List.range s₄.heap.objs.size) wr z q F)->
    GenAt C.prog C.w A.in4 a s₄.gens.size s₄.heap.objs.size (List.range s₄.heap.objs.size) wr z q F 0 {s₄ with gens:=s₄.gens.push gs,toks:=a',heap:=g}->
    Q (.ref a) {s₄ with gens:=s₄.gens.push gs,toks:=a',heap:=g})
def IV(C:aE)(A:Around)(env:Env)(elt:Expr)(a b:Str)(sc:Scope)(Q:cg)(it code:Value)(bi:Addr)(s₄:Shared):Prop:=
 ∃I cQ wr y j q iK z F,Qx C A env elt a b sc Q it code bi s₄ I cQ wr y j q iK z F
def IU(C:aE)(A:Around)(E:cg)(env:Env)(elt:Expr)(a b:Str)(sc:Scope)(jW:Pos)(Q:cg)(it:Value)(aN:Shared):Prop:=
 aN.heap.NoLimit/\wpAny C.M A (genexprCode env jW (env.qual++"<genexpr>") sc) (λcode z=>wpAny C.M A (builtinsFor env.globals env.builtins) (λbi s₄=>IV C A env elt a b sc Q it code bi s₄) E z) E aN
structure lB(h:Heap)(N:Nat)(t1 bP:Addr)(xs iD:Array Value):Prop where
 z:IsZip h (N+4) (N+2) (N+3) .none
 i:IsPair h (N+2) (.ref N) (.ref (N+1))
 o:IsPair h (N+3) .none .none
 b_:h.IsTupleIter N t1 0
 b5:h.IsTupleIter (N+1) bP 0
 t1:h.IsTuple t1 xs
 bP:h.IsTuple bP iD
theorem lB.mono{t1 bP:Addr}(f:lB h N t1 bP xs iD)(y:∀b o,(N<=b∨b=t1∨b=bP)->h.get? b=some o->h'.get? b=some o):lB h' N t1 bP xs iD:=
 have up:∀k,N<=N+k:=c8 N
 ⟨y _ _ (.inl (up 4)) f.z,y _ _ (.inl (up 2)) f.i,y _ _ (.inl (up 3)) f.o,ν f.b_ λo q=>⟨o,y _ _ (.inl (up 0)) q.1,q.2⟩,
   ν f.b5 λo q=>⟨o,y _ _ (.inl (up 1)) q.1,q.2⟩,ν f.t1 λo q=>⟨o,y _ _ (.inr (.inl rfl)) q.1,q.2⟩,ν f.bP λo q=>⟨o,y _ _ (.inr (.inr rfl)) q.1,q.2⟩⟩
theorem lB.tm{t1 bP:Addr}(f:lB h N t1 bP xs iD)(j:h.objs.size=Z):∀b,b∈(Z::[N+4,N+3,N,N+1])->∀o,h.get? b=some o->d1 o:=by
 intro b y o e;have hit:∀{a:Nat} {bf:Obj},b=a->h.get? a=some bf->d1 bf->d1 o:=λq g n=>by rw[q,g] at e;exact ae e▸n
 rcases cn.mp y with q|y
 ·exact absurd (dz e) (by rw[q,j];exact lz _)
 rcases cn.mp y with q|y
 ·exact hit q f.z (.jr rfl .d)
 rcases cn.mp y with q|y
 ·exact hit q f.o (.jr rfl .d)
 rcases cn.mp y with q|y
 ·exact ν f.b_ λo g=>hit q g.1 (.jr g.2.1 .d)
 ·exact ν f.b5 λo g=>hit (fj.mp y) g.1 (.jr g.2.1 .d)
section
variable{elt:Expr}{a b:Str}{sc:Scope}{jW tu tv tw:Pos}{Q E:cg}{t1 bP N:Nat}{xs iD:Array Value}{ns ms:List Int}
theorem V1(bq:A.handled=none)(j:sc.isCoroutine=false)(i:closureFor sc env=pure [])(l:∀y∈sc.names,y.2≠ .cell)(h0:sc.names.lookup (".0" :Str)=some NameKind.local)
 (g:sc.names.lookup a=some .local) (p:sc.names.lookup b=some .local) (f:a≠b) (t:sc.kind=.function) (q:A.depth<recursionLimit)
 (h:wpAny C.M A (eval (.Call (.Name z e) es [] pc) env) (λr av=>wpAny C.M A (pyIter r) (λit aN=>IU C A E env elt a b sc jW Q it aN) E av) E s):
 wpAny C.M A (eval (.GeneratorExp elt [⟨.Tuple [.Name a x,.Name b Z] kt pt,.Call (.Name z e) es [] pc,[],0⟩] sc jW) env) Q E s:=
 wpAny_GeneratorExp_walksQT bq j i l h0 g p f t q h λγ=>rfl
theorem V0{iK:Nat->Addr->Heap->Prop}{z:Nat->Bool}{F:Nat->Value->Prop}{code:Value}{bi:Addr}{s₄:Shared}
 (W:∀e:Around,e.handled=none->WalksU C.prog C.w e it cQ wr q p f iK) (R:∀i vals,p i vals->∃Z Y,vals= #[Z,Y]) (t:f 0 s₄.heap) (bu:∀b∈cQ,b<s₄.heap.objs.size) (l:s₄.heap.NoLimit) (x:cStatics∉wr)
 (T:∀U:Heap,QuietGenT C.prog C.w (genEnv sc [] s₄.heap.objs.size code bi env) a b [] elt (List.range s₄.heap.objs.size) wr p z F U)
 (V:∀a g a' gs,gs.bare=true->s₄.heap.objs.size<a->g.objs.size=a+1->(∀b o,s₄.heap.get? b=some o->g.get? b=some o)->
   WalksS C.prog C.w A.in4 a (a::s₄.heap.objs.size::List.range s₄.heap.objs.size) (s₄.heap.objs.size::wr) (GenOnlyQ s₄.gens.size) (passing z q 0).length
    (λj y=>∃i,(passing z q 0)[j]? =some i/\F i y) (GenAt C.prog C.w A.in4 a s₄.gens.size s₄.heap.objs.size (List.range s₄.heap.objs.size) wr z q F)->
   GenAt C.prog C.w A.in4 a s₄.gens.size s₄.heap.objs.size (List.range s₄.heap.objs.size) wr z q F 0 {s₄ with gens:=s₄.gens.push gs,toks:=a',heap:=g}->
   Q (.ref a) {s₄ with gens:=s₄.gens.push gs,toks:=a',heap:=g}):IV C A env elt a b sc Q (.ref it) code bi s₄:=
 ⟨it,cQ,wr,q,p,f,iK,z,F,rfl,W,R,t,bu,l,x,λr γ=>T r,V⟩
theorem qdr(l:p.scope.kind=.function)(Ψ:p.kindOf a=some .local)(δ:p.kindOf b=some .local)(H:eU a=true)(yx:eU b=true)
 (ι:∀i v,xs[i]? =some v->∃t,v=Value.int (ns.getD i 0) t) (T:∀i v,iD[i]? =some v->∃t,v=Value.int (ms.getD i 0) t):
 QuietGenT C.prog C.w p a b [] (.BinOp (.Name a tu) .Add (.Name b tv) tw) cQ wr (λi vals=>∃x y,xs[i]? =some x/\iD[i]? =some y/\vals= #[x,y]) (λγ=>true) (λi v=>∃t,v=Value.int (ns.getD i 0+ms.getD i 0) t) xW:=by
 refine⟨λL I i z g O U P r j f Z W=>b7 ⟨rfl,_,_,rfl,λγ γ e=>e⟩,λL I i z g O U P r γ j f Z W=>?_⟩;refine ai r λx y q=>cu q λY V he=>?_;have ev:z=x/\g=y:=by simpa using he
 refine ν (ι i z (ev.1▸Y)) λmY ag=>ν (T i g (ev.2▸V)) λHD R=>?_;subst ag R;exact wpAny_BinOp (n2 (C:=C) l (.inr (.inl ⟨Ψ,_,j,f⟩)) H (n2 (C:=C) l (.inr (.inl ⟨δ,_,j,Z⟩)) yx (AutoIntOps.add_0 ⟨⟨_,rfl⟩,_,_,rfl,λγ γ e=>e⟩)))
theorem qfl(bU:t1<N)(bR:bP<N)(hs:iD.size=xs.size) z (j:z.handled=none):
 WalksU C.prog C.w z (N+4) ((N+4)::(N+2)::(N+3)::([N,t1]++[N+1,bP])) [N+4,N+3,N,N+1] xs.size (λi vals=>∃x y,xs[i]? =some x/\iD[i]? =some y/\vals= #[x,y])
  (λi h=>IsZip h (N+4) (N+2) (N+3) .none/\IsPair h (N+2) (.ref N) (.ref (N+1))/\(∃a b,IsPair h (N+3) a b)/\(h.IsTupleIter N t1 i/\h.IsTuple t1 xs)/\(h.IsTupleIter (N+1) bP i/\h.IsTuple bP iD))
  (λi T h=>IsZip h (N+4) (N+2) (N+3) (rawInt T)/\IsPair h (N+2) (.ref N) (.ref (N+1))/\(∃a b,IsPair h (N+3) a b)/\(h.IsTupleIter N t1 (i+1)/\h.IsTuple t1 xs)/\(h.IsTupleIter (N+1) bP (i+1)/\h.IsTuple bP iD)/\T≠N+4/\T≠N+3/\T≠N/\T≠N+1):=
 (qeo (apart_new N t1 bP bU bR) (IJ (A:=z.in1) j N t1 (fQ bU) xs) (hs▸IJ (A:=z.in1) j (N+1) bP (fQ (j3 bR)) iD)).toU
def Jd(C:aE)(A:Around)(E:cg)(B:Addr->Prop)(F:bc)(s:Shared)(d:D)(u:Value)(s':Shared):Prop:=
 s.toks<=s'.toks->wpAny C.M A (call (.type "tuple") [u]) (jx C F s (h6 C B d)) E s'
theorem qds(ok:C.Ok F s)(p:C.Ok bX s₄)(bad:∀b,N<=b->¬B b)(f:lB s₄.heap N t1 bP xs iD)(Z:N+5<=s₄.heap.objs.size)(free:C.et λa=>N<=a)
 (R:∀b o,b∉C.bo->s.heap.get? b=some o->b<N/\s₄.heap.get? b=some o) (I:s₄.os=s.os) (Fq:ns.length<=sizeLine) (hlen:ns.length=ms.length)
   {St:Nat->el} (L:gs.bare=true) (ee:s₄.heap.objs.size<z) (H:Y.objs.size=z+1) (O:∀b o,s₄.heap.get? b=some o->Y.get? b=some o)
 (ua:WalksS C.prog C.w A.in1.in1.in1 z (z::s₄.heap.objs.size::List.range s₄.heap.objs.size) (s₄.heap.objs.size::[N+4,N+3,N,N+1]) (GenOnlyQ s₄.gens.size) ns.length
   (λj y=>∃i,(List.range ns.length)[j]? =some i/\∃t,y=Value.int (ns.getD i 0+ms.getD i 0) t) St) (cW:∀i s,St i s->s.TypeIs (.ref z) "generator")
 (sR:St 0 {s₄ with gens:=s₄.gens.push gs,toks:=a',heap:=Y}) (cx:s.toks<=a'):
 wpAny C.M A (call (.type "tuple") [.ref z]) (jx C F s (h6 C B (.tup (rX ns ms)))) E {s₄ with gens:=s₄.gens.push gs,toks:=a',heap:=Y}:=by
 refine call_tuple_gen ua cW sR (λb r=>?_) bH (λl acc x W=>?_) Fq
 ·show b<Y.objs.size;rw[H];exact ZE z _ ee b r
 ·have up:∀b o,b∉(s₄.heap.objs.size::[N+4,N+3,N,N+1])->s₄.heap.get? b=some o->(l.heap.push {cls:=.type "tuple",data:=.seq acc}).get? b=some o:=λb o r e=>dn _ (x.heap b o r (O b o e));have Vy:C.et (λb=>b∈(s₄.heap.objs.size::[N+4,N+3,N,N+1])):=⟨λa U=>free.hG a (NA a N _ Z U),λa U=>free.o8 a (NA a N _ Z U)⟩;have T:s.toks<=l.toks:=aJ cx x.toks;have V:C.Ok F {s₄ with toks:=s.toks}:=⟨p.base,p.tabs,p.old,p.gens,ok.pos,ok.θ,p.lam⟩;have g:=V.vc (m:=l.toks) Vy (f.tm rfl) up T
  have QR:C.Step F s F {l with heap:=l.heap.push {cls:=.type "tuple",data:=.seq acc}}:=
   ⟨⟨g.base,g.tabs,g.old,(AllBare.push p.gens L).moved x.gens,g.pos,g.θ,g.lam⟩,λb o r e=>up b o (ZG b N _ Z (R b o r e).1) (R b o r e).2,x.os.trans I,λγ γ e=>e,T⟩
  refine⟨F,QR,_,acc.toList,rfl,bad _ ?_,⟨0,by rw[It];exact eW _ rfl⟩,?_⟩
  ·exact aJ (c8 N 2) (dy (dz (x.heap (N+2) _ (ZH N _ Z) (O _ _ f.i))))
  ·refine qff hlen ((vT ..).trans W.1) λi v ρ=>?_;have P:acc[i]? =some v:=by rw[<-ρ,Cv]
   refine ν (W.2 i v P) λj q=>?_;rw[Iz (W.1▸(Array.getElem?_eq_some_iff.mp P).1)] at q;exact ae q.1▸q.2
theorem qdv(G:C.Good)(ea:j7 C)(H:St C B K env α F σ s)(Fp:rH K=true)(X:C.Step F s g aN)(bx:Den C g aN.heap B (.tup l) PE)(dU:Den C g aN.heap B (.tup m) yT)
 (τ:intsOf l=some ns) (hm:intsOf m=some ms) (hlen:ns.length=ms.length) (Fq:ns.length<=sizeLine) (oX:sc.kind=.function) (P:sc.names.lookup a=some .local) (j:sc.names.lookup b=some .local) (yw:eU a=true) (yx:eU b=true):
 wpAny C.M A (call (.type "zip") [PE,yT]) (λU av=>wpAny C.M A (pyIter U) (λit aN=>IU C A qO env (.BinOp (.Name a tu) .Add (.Name b tv) tw) a b sc jW (Jd C A E B F s (.tup (rX ns ms))) it aN) qO av) qO aN:=by
 have Y:=H.step X;refine ai (bx) λt1 vs q=>b2 q λW GJ t L=>?_;subst W;refine ai (dU) λbP us q=>b2 q λW ZJ Z I=>?_;subst W;have M8:t1<aN.heap.objs.size:=ν t λγ e=>dz e;have M9:bP<aN.heap.objs.size:=ν Z λγ e=>dz e;have ge:∀{b o},aN.heap.objs.size<=b->aN.heap.get? b≠some o:=λh e=>e7.mpr h (dz e);have R:∀a,aN.heap.objs.size<=a->a∉C.bo:=λa h q=>Y.bad.fresh h (Y.bad.bo _ q);have Pb:vs.toArray.size=ns.length:=by rw[gp,L.length,x_ τ]
 have T:us.toArray.size=vs.toArray.size:=by rw[Pb,gp,I.length,hlen,x_ hm]
 refine Sm t.lX Z.lX λh' O hD kW b_ b5 Xz f=>wpAny_pyIter_zip O ?_;have zN:C.Step g aN g {aN with heap:=h'}:=.heap X.ok (a7 _) f;have out:∀b,(aN.heap.objs.size<=b∨b=t1∨b=bP)->b∉C.bo:=λb h q=>h.elim (λh=>R b h q) λh=>h.elim (λe=>GJ (e▸H.bad.bo _ q)) λe=>ZJ (e▸H.bad.bo _ q);have U7:lB h' aN.heap.objs.size t1 bP vs.toArray us.toArray:=⟨O,hD,kW,b_,b5,ν t.lX λo q=>⟨o,f _ _ q.1,q.2⟩,ν Z.lX λo q=>⟨o,f _ _ q.1,q.2⟩⟩;refine⟨zN.ok.lim G,VZ G ea zN.ok (H.code Fp) λcM lW V r kj ri=>Le G ea r.ok H.glob ?_⟩;have Lu:aN.heap.objs.size+5<=lW.objs.size:=Xz▸ri;have f4:=U7.mono λb o j=>kj b o (out b j);refine V0 (s₄:={heap:=lW,gens:=aN.gens,drawn:=aN.drawn,toks:=V,os:=aN.os}) (qfl M8 M9 T) (λi vals q=>ai q λx y q=>⟨x,y,q.2.2⟩) ⟨f4.z,f4.i,⟨_,_,f4.o⟩,⟨f4.b_,f4.t1⟩,⟨f4.b5,f4.bP⟩⟩ (ZD _ t1 bP _ Lu M8 M9) (r.ok.lim G) (ZF _ _ (let ⟨_,q,_⟩:=X.ok.lim G;q.lt)) (λγ=>qdr oX P j yw yx (x9 τ L) (x9 hm I)) ?_;intro dB iu a' gs E5 ee FL uR p sR cx;rw[Pb] at p sR;rw[qax] at p;rw[hZ] at p;refine qds H.ok r.ok (λb j=>Y.bad.fresh j) f4 Lu (.of_none X.ok λa P=>Heap.get?_none_of_le P) (λb o j e=>⟨dz (X.keep b o j e),kj b o j (f b o (X.keep b o j e))⟩) X.os Fq hlen E5 ee FL uR p.in4_3 (λi s' st=>st.1.typeIs) sR cx
end
theorem qdt(G:C.Good)(ea:j7 C)(O:dA C S Ω)(aw:cH C S Ω n):zL C S Ω n:=by
 intro K σ elt a b z l5 l6 gB pt pc jW p kt ag Z sc l m ns ms P ω ε r τ hm L hlen A env α B F s R H E;have t1:=band ω;have bP:=band t1.1;have t3:=band bP.1;have g:=band t3.1;have f:=band g.1;have U:=band f.1;have T:=band U.1;refine cu (qck (eq_of_beq T.2)) λφ yw yx=>cN φ λtu tv tw eF=>?_;have hs:=band (band bP.2).1;have V:∀y∈sc.names,y.2=.local:=λy j=>eq_of_beq (er.mp t1.2 y j);have rf:∀y∈sc.names,y.2≠ .cell:=λy j=>by rw[V y j];nofun
 have xD:closureFor sc env=pure []:=closureFor_none λy j=>by rw[V y j];nofun
 have W:=R.mono (c9 (Ω+n));rw[eF]
 refine PySem.Pv.callWith_type1 (rest:=[]) (ob (rest:=[]) (h1 (a7 s.toks)
  (b8 (V1 (Q:=Jd C A E B F s (.tup (rX ns ms))) R.handled (vS (kO hs.2)) xD rf (eq_of_beq t3.2) (eq_of_beq f.2) (eq_of_beq g.2) (λe=>kO U.2 (h5.mpr e)) (eq_of_beq hs.1) R.lt
    (r6 (md G O H P λv e=>?_))) (λu s' q hle=>r7 (q hle)) λγ γ x=>x)) rfl) rfl rfl
 obtain rfl:v=.type "zip" :=e;refine PySem.Pv.callWith_type1 (rest:=[Z]) (ob ((aw K ag σ _ ε A env α B F s W H).seq λPE a0 av i N=>?_) (eJ ε _ _)) (eJ ε _ _) (by rw[eJ r];rfl);have t:=H.step i;refine ob (rest:=[]) ((aw K Z σ _ r A env α B a0 av W t).seq λyT bX aN Y I=>r7 ?_) (eJ r _ _);exact qdv G ea H T.1 (i.trans Y) (N.grow (Y.grow t.bad)) I τ hm hlen (iw.mp L) (eq_of_beq hs.1) (eq_of_beq f.2) (eq_of_beq g.2) yw yx
end
section
variable{C:aE}{A:Around}{ay F F':bc}{s0 s s':Shared}{h':Heap}{a kS:Addr}{vs:List Value}{kz:List Int}{keys:Array Value}{e ag:Nat}{E:cg}
theorem aE.Step.fresh(X:C.Step ay s0 F s)(aY:C.Ok ay s0)(h0:s0.heap.get? a=none)(j:∀o,s.heap.get? a=some o->d1 o)(y:Heap.SameBut a s.heap h')(hs:∃o,h'.get? a=some o){m:Nat}(hm:s.toks<=m):
 C.Step ay s0 F {s with heap:=h',toks:=m}:=
 (aE.cV.mut (M:=λb=>b=a) X.m (aE.et.of_none aY λb z=>z▸h0) rfl j y.extBut hs hm).step λγ z=>z▸h0
theorem Bu{h:Heap}(z:h.get? a=some (seqObj c xs n)):∀o,h.get? a=some o->d1 o:=λo e=>by
 rw[z] at e;cases e;exact .vk λvs=>nofun
theorem ON{st:SortSt}{P:PySem.Fin->el}{out:List Value}(X:C.Step ay s0 F s)(aY:C.Ok ay s0)(p:s0.heap.get? a=none)(r:s0.heap.get? kS=none)(t:kS≠a)
 (y:s.heap.get? kS=some (seqObj "list" keys e)) (l:s.heap.get? a=some (seqObj "list" #[] ag)) (i:keys.size<64) (f:(arrOf st).size<64) (q:failedOf st=none) (g:((arrOf st).map (·.2)).toList=out)
 (h:∀h' c,C.Step ay s0 F {s with heap:=h'}->h'.get? a=some (seqObj "list" out.toArray c)->P (.done (.ret .none)) {s with heap:=h'}):
 wpAny C.M A (ksk_tail a false ag (.ref kS) st) P E s:=by
 have s1:=qE s.heap kS (Obj.mapSeq λγ=>(#[]:Array Value));have z:(s.heap.update kS (Obj.mapSeq λγ=>(#[]:Array Value))).get? a=some (seqObj "list" #[] ag):=(s1.2 a t.symm).trans l;have s2:=qE (s.heap.update kS (Obj.mapSeq λγ=>(#[]:Array Value))) a (Obj.mapSeq λγ=>(arrOf st).map (·.2))
 obtain⟨c2,j⟩:∃c2,((s.heap.update kS (Obj.mapSeq λγ=>(#[]:Array Value))).update a (Obj.mapSeq λγ=>(arrOf st).map (·.2))).get? a=some (seqObj "list" ((arrOf st).map (·.2)) c2):=
  ⟨_,v3 z λγ=>(arrOf st).map (·.2)⟩
 have v:C.Step ay s0 F {s with heap:=s.heap.update kS (Obj.mapSeq λγ=>(#[]:Array Value))}:=X.fresh aY r (Bu y) s1 ⟨_,v3 y λγ=> #[]⟩ (a7 s.toks);have u:C.Step ay s0 F {s with heap:=(s.heap.update kS (Obj.mapSeq λγ=>(#[]:Array Value))).update a (Obj.mapSeq λγ=>(arrOf st).map (·.2))}:=v.fresh aY p (Bu z) s2 ⟨_,j⟩ (a7 s.toks);unfold ksk_tail
 try dsimp only
 refine aR (CX y rfl ?_ (by rw[ps];lia) (eM _));refine aR (wpAny_letGo ?_);refine aR (seqEpoch_at z rfl ?_);refine aR (CX z rfl ?_ (eM _) (by simp only[px,n_,Array.size_map];rw[ps];lia));rw[q];simp only[bne_self_eq_false,px,n_];refine b7 (h _ c2 u ?_);rw[<-g,It];exact j
theorem qbG(X:C.Step ay s0 F s)(aY:C.Ok ay s0)(r:s0.heap.get? a=none)(t:s0.heap.get? kS=none)(l:kS≠a)
 (f:s.heap.get? kS=some (seqObj "list" keys e)) (n:s.heap.get? a=some (seqObj "list" #[] ag))
 (u:IntsAre keys.toList kz) (hlen:kz.length=vs.length) (g:vs.length<64)
 (h:∀h' c,C.Step ay s0 F {s with heap:=h'}->h'.get? a=some (seqObj "list" ((hl (kz.zip vs)).map (·.2)).toArray c)->P (.done (.ret .none)) {s with heap:=h'}):
 wpAny C.M A (ksk_end a false vs.toArray ag (.ref kS) keys) P E s:=by
 have v:keys.size=vs.length:=by
  have ε:=u.length;rw[vT] at ε;exact ε.trans hlen
 have z:(keys.zip vs.toArray).size=vs.length:=by rw[Array.size_zip,v,gp,pq]
 unfold ksk_end
 try dsimp only
 simp only[px,n_]
 by_cases y:vs.toArray.size<2
 ·rw[au y,au y];refine aR (b7 ?_);rw[StateT.run_pure];refine aR (b7 ?_)
  try dsimp only
  rw[gp] at y;refine ON (st:=SortSt.mk' general' (keys.zip vs.toArray) #[] 7 none) X aY r t l f n (v.symm▸g) (z.symm▸g) rfl ?_ h;show((keys.zip vs.toArray).map (·.2)).toList=_;have Z:∀i,i<vs.length->Pi (Array.range vs.length) i=i:=λi ρ=>by unfold Pi;rw[Iu];simp [ρ]
  refine OV (p:=Array.range vs.length) u hlen rfl (by rw[z]) (λi ρ=>by rw[Z i (z▸ρ)]) λi j Y T=>absurd (c7 (e6 (eM i) Y) (i5 (c7 (z▸T) (i5 y)))) (lz 0)
 ·rw[ar y,ar y];rw[gp] at y;rw[ksk_kind u (by rw[v];lia)];refine aR (b7 ?_)
  refine aR (b8 (qeJ (a₀:=keys.zip vs.toArray) (st:=SortSt.mk' oneType' (keys.zip vs.toArray) #[] 7 none)
   (Q:=λγ q=>∃p:Array Nat,failedOf q=none/\(arrOf q).Perm (keys.zip vs.toArray)/\p.Perm (Array.range (keys.zip vs.toArray).size)/\(∀i,i<(keys.zip vs.toArray).size->(arrOf q)[i]? =(keys.zip vs.toArray)[Pi p i]?)/\eX (keys.zip vs.toArray) p (keys.zip vs.toArray).size)
   (ksk_intKeys u) ⟨Array.Perm.refl _,rfl,rfl,rfl⟩ rfl (by rw[z];lia) (by rw[z];exact g) λp q a1 a2 W V U=>⟨p,a1,a2,W,V,U⟩) ?_ λγ γ e=>e)
  rintro ⟨⟨⟩,q⟩ s' ⟨rfl,p,hf,x,R,ρ,hs⟩
  try dsimp only
  exact ON X aY r t l f n (v.symm▸g) (e6 (gV (x.size_eq.trans z)) g) hf (OV u hlen x.size_eq R ρ hs) h
theorem qbH(X:C.Step ay s0 F s)(aY:C.Ok ay s0)(T:s0.heap.get? a=none)(Y:s0.heap.get? kS=none)(Q:kS≠a)
 (I:s.heap.get? kS=some (seqObj "list" #[] e)) (Ψ:s.heap.get? a=some (seqObj "list" #[] ag))
 (hlen:kz.length=vs.length) (H:vs.length<64)
 (turn:∀(i:Nat) (v:Value) (k:Int),vs[i]? =some v->kz[i]? =some k->∀F' s',C.Step ay s0 F' s'->∀E,wpAny C.M A (call f [v]) (λr cO=>∃fS t,C.Step F' s' fS cO/\r=.int k t) E s')
 (h:∀F' s' c,C.Step ay s0 F' s'->s'.heap.get? a=some (seqObj "list" ((hl (kz.zip vs)).map (·.2)).toArray c)->P (.done (.ret .none)) s'):
 wpAny C.M A (ksk_rest a f false vs.toArray ag (.ref kS)) P E s:=by
 unfold ksk_rest;refine aR (qL ?_)
 first
  |rw[List.forIn_toArray]
  |(rw[<-Array.forIn_toList];simp only[List.toList_toArray])
  |rw[<-Array.forIn_toList]
 have V:∀{F' s'},C.Step ay s0 F' s'->∀{b},s0.heap.get? b=none->b∉C.bo:=λ{F' s'} y {b} δ ω=>by
  obtain⟨q,Θ,rfl⟩:=bV.mp ω;obtain⟨_,o,g⟩:=aY.there Θ;rw[δ] at g;exact aQ g
 refine aR (ksk_fold (λi s'=>∃F' z e,C.Step ay s0 F' s'/\s'.heap.get? kS=some (seqObj "list" z e)/\s'.heap.get? a=some (seqObj "list" #[] ag)/\IntsAre z.toList (kz.take i)) vs 0 s
  ⟨F,#[],e,X,I,Ψ,by simpa using IntsAre.nil⟩ ?step ?done)
 case step=>
  rintro j x s' O ⟨F',z,e,y,p,Z,u⟩
  simp only[hr] at u⊢;have R:j<vs.length:=(H7.mp O).1;obtain⟨k,W⟩:∃k,kz[j]? =some k:=⟨_,fi (hlen.symm▸R)⟩
  have aq:z.size<=vs.length:=by
   have ε:=u.length;rw[vT,List.length_take] at ε;rw[ε];exact aJ (n4 _ _) (dy R)
  refine aR (wpAny_attempt (b8 (turn j x k O W F' s' y (λγ γ=>False)) (λv cO he=>?_) λγ γ hU=>hU.elim));refine ai (he) λoj bP q=>bL q λn vu=>?_;subst vu
  try dsimp only
  have l:=n.keep _ _ (V y Y) p;have na:=n.keep _ _ (V y T) Z;have s1:=qE cO.heap kS (Obj.mapSeq (·.push (.int k bP)));obtain⟨c2,U⟩:∃c2,(cO.heap.update kS (Obj.mapSeq (·.push (.int k bP)))).get? kS=some (seqObj "list" (z.push (.int k bP)) c2):=⟨_,v3 l (·.push (.int k bP))⟩;have oJ:kz.take (j+1)=kz.take j++[k]:=by rw[List.take_add_one,W];simp
  have B:(z.push (Value.int k bP)).toList=z.toList++[Value.int k bP]:=by simp
  refine aR (CX l rfl ?_ (by rw[ps];lia) (aJ (gV (Array.size_push ..)) (by rw[ps];lia)));exact b7 ⟨rfl,oj,z.push (.int k bP),c2,(y.trans n).fresh aY Y (Bu l) s1 ⟨_,U⟩ (a7 cO.toks),U,(s1.2 a Q.symm).trans na,by rw[B,oJ];exact ksk_snoc u⟩
 case done=>
  rintro s' ⟨F',z,e,y,p,Z,u⟩
  have N:IntsAre z.toList kz:=by
   have L:kz.take (0+vs.length)=kz:=tM (by rw[hr,hlen];exact a7 _);rw[L] at u;exact u
  try dsimp only
  refine aR (listItems_at p rfl ?_);exact qbG y aY T Y Q p Z N hlen H λaz c zN g3=>h F' _ c zN g3
theorem qbI{n:Nat}{P:PySem.Fin->el}(X:C.Step ay s0 F s)(aY:C.Ok ay s0)(u:s0.heap.get? a=none)(z:s.heap.get? a=some (seqObj "list" vs.toArray n))
 (hlen:kz.length=vs.length) (l:vs.length<64)
 (turn:∀(i:Nat) (v:Value) (k:Int),vs[i]? =some v->kz[i]? =some k->∀F' s',C.Step ay s0 F' s'->∀E,wpAny C.M A (call f [v]) (λr cO=>∃fS t,C.Step F' s' fS cO/\r=.int k t) E s')
 (h:∀F' s' c,C.Step ay s0 F' s'->s'.heap.get? a=some (seqObj "list" ((hl (kz.zip vs)).map (·.2)).toArray c)->P (.done (.ret .none)) s'):
 wpAny C.M A (ksk_tree a f false) P E s:=by
 have x:a<s.heap.objs.size:=dz z;have s1:=qE s.heap a (Obj.mapSeq λγ=>(#[]:Array Value));obtain⟨ag,y⟩:∃ag,(s.heap.update a (Obj.mapSeq λγ=>(#[]:Array Value))).get? a=some (seqObj "list" #[] ag):=⟨_,v3 z λγ=> #[]⟩;have g:C.Step ay s0 F {s with heap:=s.heap.update a (Obj.mapSeq λγ=>(#[]:Array Value))}:=X.fresh aY u (Bu z) s1 ⟨_,y⟩ (a7 s.toks);have j:((s.heap.update a (Obj.mapSeq λγ=>(#[]:Array Value))).push (seqObj "tuple" vs.toArray 0)).objs.size=s.heap.objs.size+1:=by rw[size_push',Heap.size_update]
 have q:∀b o,(s.heap.update a (Obj.mapSeq λγ=>(#[]:Array Value))).get? b=some o->(((s.heap.update a (Obj.mapSeq λγ=>(#[]:Array Value))).push (seqObj "tuple" vs.toArray 0)).push (seqObj "list" #[] 0)).get? b=some o:=λb o e=>dn _ (dn _ e);have p:C.Step ay s0 F {s with heap:=((s.heap.update a (Obj.mapSeq λγ=>(#[]:Array Value))).push (seqObj "tuple" vs.toArray 0)).push (seqObj "list" #[] 0)}:=g.trans (.heap (n:=s.toks) g.ok (a7 _) q);unfold ksk_tree;refine aR (listItems_at z rfl ?_);refine aR (CX z rfl ?_ (by rw[gp,ps];lia) (eM _));refine aR (seqEpoch_at y rfl ?_);refine aR (wpAny_newTuple ?_ (by show vs.length<=_;rw[ps];lia));refine aR (wpAny_newList ?_ (eM _));refine n5 ?_
 refine qbH (s:={s with heap:=((s.heap.update a (Obj.mapSeq λγ=>(#[]:Array Value))).push (seqObj "tuple" vs.toArray 0)).push (seqObj "list" #[] 0)}) (kS:=((s.heap.update a (Obj.mapSeq λγ=>(#[]:Array Value))).push (seqObj "tuple" vs.toArray 0)).objs.size)
  p aY u ?_ (by rw[j];exact i7 (j3 x)) (eW _ rfl) (q _ _ y) hlen l turn h
 refine k3 X aY ?_;rw[j];exact hh (c9 _)
theorem qbN(ok:C.Ok F s)(ζ:s.heap.IsList l vs.toArray)(hlen:kz.length=vs.length)(Z:vs.length<64)
 (g:argsOk "sorted" ⟨[.ref l],kw⟩) (u:∀x,argsOk "list.sort" ⟨[.ref x],kw⟩) (ω:∀x,Builtin.«list.sort» ⟨[.ref x],kw⟩=ksk_tree x f false)
 (turn:∀(i:Nat) (v:Value) (k:Int),vs[i]? =some v->kz[i]? =some k->∀F' s',C.Step F s F' s'->∀E,wpAny C.M A.in1.in1 (call f [v]) (λr cO=>∃fS t,C.Step F' s' fS cO/\r=.int k t) E s'):
 wpAny C.M A (call (.builtin "sorted") [.ref l] kw) (λr s'=>∃F' D,C.Step F s F' s'/\r=.ref D/\s.heap.get? D=none/\s'.heap.PlainList D ((hl (kz.zip vs)).map (·.2)).toArray) E s:=by
 refine call_function_entry_kw kind_sorted plain_sorted entry_sorted g ?_;unfold Builtin.«sorted»;refine aR (m:=checkCount "sorted" 1 1 _) (b7 ?_);refine aR (collect_list ζ ?_ (by rw[ps];lia));refine aR (wpAny_newList ?_ (by rw[ps];lia))
 have z:((s.heap.push (seqObj "list" #[] 0)).update s.heap.objs.size (Obj.mapSeq (· ++vs.toArray))).objs.size=s.heap.objs.size+1:=by
  rw[Heap.size_update,size_push']
 have j:(((s.heap.push (seqObj "list" #[] 0)).update s.heap.objs.size (Obj.mapSeq (· ++vs.toArray))).push (seqObj "list" vs.toArray 0)).get? (s.heap.objs.size+1)=some (seqObj "list" vs.toArray 0):=by
  rw[<-z];exact eW _ rfl
 have keep:∀b o,s.heap.get? b=some o->(((s.heap.push (seqObj "list" #[] 0)).update s.heap.objs.size (Obj.mapSeq (· ++vs.toArray))).push (seqObj "list" vs.toArray 0)).get? b=some o:=λb o q=>by
  have y:b<s.heap.objs.size:=dz q;rw[Heap.get?_push_ne _ _ _ (by rw[z];exact fQ (j3 y)),Heap.get?_update_ne _ _ _ _ (fQ y),Heap.get?_push_ne _ _ _ (fQ y)];exact q
 show wpAny _ _ _ _ _ {s with heap:=((s.heap.push (seqObj "list" #[] 0)).update s.heap.objs.size (Obj.mapSeq (· ++vs.toArray))).push (seqObj "list" vs.toArray 0)};rw[z];have Y:C.Step F s F {s with heap:=((s.heap.push (seqObj "list" #[] 0)).update s.heap.objs.size (Obj.mapSeq (· ++vs.toArray))).push (seqObj "list" vs.toArray 0)}:=.heap (n:=s.toks) ok (a7 _) keep;refine aR (n5 (wpAny_call_entry_kw slot_list_sort ⟨_,j,rfl⟩ entry_list_sort ?body (u _)))
 case body=>
  have W:=ω (s.heap.objs.size+1);show wpAny C.M A.in1.in1 (Builtin.«list.sort» ⟨[.ref (s.heap.objs.size+1)],kw⟩) _ _ _;rw[W];have h0:s.heap.get? (s.heap.objs.size+1)=none:=hh (c9 _);refine qbI Y ok h0 j hlen Z turn λF' s' c h p=>⟨_,rfl,?_⟩;exact b7 ⟨_,rfl,F',_,h,rfl,h0,c,p⟩
end
section
variable{C:aE}{S:dH}{A:Around}{B B':Addr->Prop}{F F':bc}{s s':Shared}{h h':Heap}{u v:Value}{k Ω n:Nat}{K:Kinds}{env:Env}{α:Str->Addr}{σ:Γ}
theorem Yz:∀{l} {ks},keyed f l=some ks->∃kz:List Int,kz.length=l.length/\ks=kz.zip l/\∀(i:Nat) d k,l[i]? =some d->kz[i]? =some k->f d=some k:=by
 intro y
 induction y with
 |nil=>
  intro ks h;exact⟨[],rfl,(ae h).symm,nofun⟩
 |cons d r z=>
  intro ks h
  exact π h λk h ε=>π h λq h p=>ν (z p) λkz e=>cu e λag j g=>by
   refine⟨k::kz,bp (· +1) ag,by rw[<-ae h,j];rfl,λi d' k' g1 g2=>?_⟩;cases i with
   |zero=>exact ae g1▸ae g2▸ε
   |succ i=>exact g i d' k' g1 g2
theorem YA(G:C.Good)(r:j7 C)(ok:C.Ok F s)(κ:∃q∈C.T,env.code=.ref q.1){pos:Pos}{θ:Nat}{name ko:Str}{p:Arguments}{sc:Scope}{body:FuncBody}{E:cg}{Q:cg}
 (e:∀z h' a',C.Step F s F {s with heap:=h',toks:=a'}->oh h' z->Q z {s with heap:=h',toks:=a'}):
 wpAny C.M A (functionCode env pos θ name ko p sc body) Q E s:=by
 refine cps λY g=>?_;obtain⟨q,y,he⟩:=κ;obtain⟨ao,ε,j⟩:=ok.tabs q y;cases hf:codeAmong pos ao.toList with
 |some z=>refine g ?_;exact wpAny_functionCode_hit he ε hf (e z s.heap s.toks (.tok ok (a7 _)) (ok.lam q y ao j pos z hf))
 |none=>
  refine g ?_;refine h1 (a7 s.toks) (wpAny_functionCodeX he ε j hf λz h' a' a W Z t x l ⟨V,_,_,i⟩ f=>?_);obtain⟨X,cv⟩:=OZ G r ok y ε j hf a t x l i f;exact e _ _ _ X cv
noncomputable abbrev u4(a:Str)(z:Pos):Arguments:=⟨[],[⟨a,none,z⟩],none,[],[],none,[]⟩
theorem YD(G:C.Good)(i:j7 C)(H:St C B K env α F σ s)(Y:rH K=true){a:Str}{j t:Pos}{body:Expr}{sc:Scope}{p:List (Str×Addr)}(T:closureFor sc env=pure p){E:cg}{Q:cg}
 (U:∀fa qual pm cv z s',C.Step F s F s'->s'.heap.get? fa=some {cls:=.type "function",data:=.func (kla_fn "<lambda>" qual (u4 a j) body sc p pm cv z)}->oh s'.heap cv->Q (.ref fa) s'):
 wpAny C.M A (eval (.Lambda (u4 a j) body sc t) env) Q E s:=by
 refine kla_eval rfl ?_;rw[makeFunction_eq];simp only[List.zip_nil_right,List.filterMap_nil,List.isEmpty_nil,if_true,pure_bind];unfold makeTail;rw[T];refine aR (b7 ?_)
 have rest:∀(z:Value) (f:Heap),C.Step F s F {s with heap:=f}->wpAny C.M A (do
  let cv<-functionCode env t t.line "<lambda>" (env.qual++"<lambda>") (u4 a j) sc (.expr body)
  let bi<-builtinsFor env.globals env.builtins
  let W<-nsGet env.globals "__name__"
  let doc<-pure Value.none
  newObj (.type "function") (.func {name:="<lambda>",qualname:=env.qual++"<lambda>",params:=u4 a j,body:=.expr body,scope:=sc,globals:=env.globals,closure:=p,defaults:=.none,kwdefaults:=.none,annotations:=none,doc:=doc,pyModule:=W.getD .none,code:=cv,closureTuple:=z,builtins:=bi}):Sem Value) Q E {s with heap:=f}:=by
  intro z f l;refine aR (YA G i l.ok (H.code Y) λcv Z a' y R=>?_);refine aR (Le G i y.ok H.glob ?_);rw[H.glob];refine aR (wpAny_nsGet (y.ok.ns G G.g) ?_);refine aR (b7 (CI ?_ (by size_fits)));have x:∀{o:Obj} (b bf),Z.get? b=some bf->(Z.push o).get? b=some bf:=λb bf e=>dn _ e;refine U _ _ ((C.c0 "__name__").getD .none) cv z _ ((l.trans y).trans (.heap (n:=a') y.ok (a7 _) x)) (eW _ rfl) ?_;refine ai (R) λc o q=>cu q λag V r=>?_;exact⟨c,o,ag,x _ _ V,r⟩
 dsimp only;split
 ·refine aR (b7 ?_);exact rest .none s.heap (.tok (n:=s.toks) H.ok (a7 _))
 ·refine aR (wpAny_newTextTuple ?_);exact rest _ _ (.heap (n:=s.toks) H.ok (a7 _) λb o e=>dn _ e)
theorem Sh(q:A.depth<recursionLimit)
 (r:s.heap.get? a=some o) (t:o.data=.func fd) (j:fd.scope.isCoroutine=false) (g:fd.scope.isGenerator=false) (Z:fd.body=.expr body) (Y:oh s.heap fd.code)
 (h:∀ko,wpAny C.M A.in1 (bindArgs fd args) (λbinds av=>
   wpAny C.M A.in1 (newFunctionEnv fd.scope fd.globals fd.closure binds ko (some a) fd.code none fd.builtins)
    (λenv aN=>aN.heap.NoLimit/\codeAny C.M A (.expr body env) R aN) (λe s'=>R (.error e) s') av) (λe s'=>R (.error e) s') s):
 codeAny C.M A (.call (.ref a) args) R s:=by
 refine codeAny_of_tree ?_;show wpAny _ A.in1 (callAny (.ref a) args) _ _ s;simp only[callAny];refine aR (wpAny_load r ?_);obtain⟨c,V,κ,p,_,vs,x,i,W⟩:=Y;simp only[t,callFunction,j,g,Z,κ];rw[κ] at h
 have rest:∀ko,wpAny C.M A.in1 (do
  let env<-newFunctionEnv fd.scope fd.globals fd.closure (<-bindArgs fd args) ko (some a) (.ref c) none fd.builtins
  enterFrame
  again (.expr body env)) (λfin s'=>match fin with
   |.done f=>R (.ok f) s'
   |.again z=>z.quiet=true/\codeAny C.M A z R s') (λe s'=>R (.error e) s') s:=λko=>
  aR (b8 (h ko) (λbinds av l=>aR (b8 l (λenv aN y=>aR (wpAny_enterFrame y.1 q
   (b7 (And.intro rfl y.2)))) λγ γ h'=>h')) λγ γ h'=>h')
 refine aR (m:=field (.ref c) 1) (mh p i W ?_);cases x<;>exact aR (b7 (rest _))
theorem a_.lam(R:a_ A (k+1)) env:a_ (A.in1.in1.deeper env) k:=
 ⟨R.handled,by have:=R.depth;show A.depth+1+k<_;lia,by have:=R.units;show A.units+1+1+3+8*k+80<_;lia⟩
theorem Ge(h:(lY names).lookup x=some y)(q:y≠ .globalExplicit):names.lookup x=some y:=by
 unfold lY at h
 induction names with
 |nil=>
  rw[ly,fP] at h;replace h:=h;cases z:x==Bd with
  |true=>rw[z] at h;cases h;exact(q rfl).elim
  |false=>rw[z] at h;exact aQ h
 |cons p r j=>
  rw[CR,fP] at h;replace h:=h;rw[fP];cases z:x==p.1 with
  |true=>rw[z] at h;exact h
  |false=>rw[z] at h;exact j h
theorem ZZ names:rH (lY names)=false:=by
 unfold rH lY;simp
theorem YC(H:St C B K env α F σ s)(U:closes K sc.names=true)(R:mX sc=true)(E:eU a=true)(I:sc.names.lookup a=some .local)
 (L:∀p∈sc.names,p.2≠ .cell) (τ:s.toks<=n) (Z:Den C F s.heap B d v) (P:h'.Ns s.heap.objs.size (λx=>[(a,v)].reverse.lookup x)) (χ:∀b o,s.heap.get? b=some o->h'.get? b=some o):
 C.Step F s F {s with heap:=h',toks:=n}/\
 St C B (lY sc.names) (newEnv sc s.heap.objs.size mainGlobals (ij env sc.names []) ko (some fa) cv none builtinsNs) α F ((fH (lY sc.names) σ).set a (.val d)) {s with heap:=h',toks:=n}:=by
 refine cps λQ f=>?_;obtain⟨T,dS,O⟩:=vC R;have td:=sz U;have X:C.Step F s F {s with heap:=h',toks:=n}:=.heap H.ok τ χ
 have N:∀{x g},(x,g)∈lY sc.names->g≠ .globalExplicit->(x,g)∈sc.names:=λ{x g} z Y=>by
  unfold lY at z;rcases fk.mp z with z|z
  ·exact z
  ·have:=fj.mp z;cases this;exact(Y rfl).elim
 have t:∀x,(x,NameKind.free)∈sc.names->∃c w,env.cells.lookup x=some c/\s.heap.IsCell c w/\(ij env sc.names []).lookup x=some c/\(env.kindOf x=some .cell∨env.kindOf x=some .free):=λx z=>by
  obtain⟨⟨c,w,ε,j⟩,y⟩:=H.cells x (td (x,.free) z rfl);refine⟨c,w,ε,j,?_,y⟩;rw[J4 _ _ _ z,ε];rfl
 refine f ?_;refine⟨X,{ok:=X.ok,bad:=H.bad.step X,kind:=T,glob:=rfl,blt:=rfl,code:=λq=>(by rw[ZZ] at q;cases q),gh:=λx e=>Ge e .d,cells:=λx e=>?_,nm:=λx lv e=>?_,vars:=λx lv e=>?_}⟩
 ·rcases e with e|e
  ·exact(L _ (lookup_mem (Ge e .d)) rfl).elim
  ·have aB:=Ge e .d;refine ai (t x (lookup_mem aB)) λc w q=>b2 q λε j y bu=>?_;exact⟨⟨c,w,y,X.cell H.ok j⟩,.inr aB⟩
 ·rcases Γ.jH e with⟨rfl,_⟩|⟨_,e⟩
  ·exact λγ=>E
  ·exact H.nm x lv (A' e).2
 ·rcases Γ.jH e with⟨rfl,rfl⟩|⟨z,e⟩
  ·refine⟨v,.inr (.inl ⟨I,_,P,by simp⟩),Z.grow (X.grow H.bad)⟩
  ·obtain⟨hm,e⟩:=F0 e;obtain⟨e,hG⟩:=lg e;refine cps λQ f=>?_;have r:=N hm .d;obtain⟨u,ε,j⟩:=H.vars x lv e;refine ai (t x r) λc w q=>b2 q λg1 g2 g3 eH=>?_;have V:w=some u:=by
    rcases ε with q|⟨ε,_⟩|⟨_,cM,y,bu⟩
    ·exact dk (q.symm.trans hG)
    ·rcases eH with eH|eH<;>(rw[ε] at eH;cases eH)
    ·rw[g1] at y;obtain rfl:=ae y;obtain⟨o,ag,W⟩:=g2;obtain⟨bf,l,i⟩:=bu;rw[ag] at l;obtain rfl:=ae l;rw[W] at i;cases i;rfl
   subst V;refine f ?_;refine⟨u,.inr (.inr ⟨.inr (O _ r),c,g3,X.cell H.ok g2⟩),?_⟩;exact j.step X H.ok (X.grow H.bad)
theorem R0(h:a=("k" :Str)):bindArgs (kla_fn nm qual (u4 a z) body sc cl pm cv y) ⟨[w],[]⟩=pure [(a,w)]:=by
 subst h;kernel_rfl
theorem YE(G:C.Good)(ea:j7 C)(O:dA C S Ω)(aw:cH C S Ω n):zG C S Ω n:=by
 intro K σ f key a x body sc d eV Q rE kj p hf A env α B F s R H E;refine π hf λg h aI=>π h λid h ρ=>aP h λh κ=>π h λd' h V=>π h λl h ζ=>aP h λh iW=>π h λks h rj=>?_;rw[lF ζ] at V;rw[VM ρ,eq_of_beq (band κ).1] at aI;have t1:=band (band κ).2;have bP:=band t1.1;have t3:=band bP.1;have N:=band t3.1;have L:=band N.1;have I:=band L.1;have vG:=band I.1;have P:=vG.2;have uv:=I.2;have Sd:=L.2;have z4:=eq_of_beq N.2;have Se:eU a=true:=by rw[z4];rfl
 have rl:=eq_of_beq t3.2;have rf:∀p∈sc.names,p.2≠ .cell:=λp j e=>by have:=er.mp bP.2 p j;rw[e] at this;exact kO this rfl
 obtain⟨ef,dS,jn⟩:=vC uv;replace iW:=cU iW;have U:=eq_of_beq vG.1;clear κ t1 bP t3 N L I vG;rw[U,<-ae h];clear hf U h;obtain⟨kz,ag,ax,bO⟩:=Yz rj;subst ax;have e9:=R.mono (c9 (Ω+n));show wpAny C.M A (do callWith p (<-eval (.Name f eV) env) [] (backTo p (starEach [x] env)) (backToKw p (keywordEach [⟨some "key",.Lambda (u4 a Q) body sc rE,kj⟩] env))) _ E s;refine aR ?_;refine md G O H aI λw e=>?_;obtain rfl:w=.builtin "sorted" :=e;refine PyProof.Rows.callWith_kw (id:="sorted") ?_ (by rw[nS V];rfl) (by rw[nS V];rfl);refine b8 (Ek (pos:=p) aw e9 (es:=[x]) (ds:=[.lst l]) (by unfold each;rw[V];rfl) H E) (λvs av ⟨a0,aG,bx⟩=>?_) λγ γ x=>x;refine cps λiL T=>?_;obtain⟨w,rfl,dU⟩:=bx.one;refine ai (dU.lst) λad us q=>cu q λQ hd ζ=>?_;subst Q;have Z:=H.step aG;have xD:closureFor sc env=pure (ij env sc.names []):=z6 λp j hf=>by
  obtain⟨⟨c,w,ε,_⟩,_⟩:=H.cells p.1 (sz P p j hf);exact⟨c,ε⟩
 refine T ?_;refine PyProof.Rows.kws_cons (YD G ea Z (J9 P) xD λfa qual pm cv sC aN Y WB uN=>PyProof.Rows.kws_nil ?_);have z:=Z.step Y;have Ww:aN.heap.PlainList ad us.toArray:=let ⟨m,e⟩:=hd;⟨m,Y.get Z.ok e (λao=>nofun)⟩;have nK:=ζ.grow (Y.grow Z.bad);show wpAny C.M A (call (.builtin "sorted") [.ref ad] [(Str.ofString "key",.ref fa)]) _ E aN;have hlen:us.length=l.length:=ζ.length;refine b8 (qbN (vs:=us) (kz:=kz) (f:=.ref fa) z.ok Ww.isList .l .l (ksk_s1 _ _) (λx=>ksk_l1 _ _) (λx=>ksk_t1 _ _) ?turn) (λr dF ⟨gX,D,f7,e,f_,j⟩=>?fin) λγ γ x=>x
 case fin=>
  subst e;refine⟨gX,(aG.trans Y).trans f7,D,_,rfl,λq=>?_,j,(nK.grow (f7.grow z.bad)).places .l⟩;obtain⟨o,g⟩:=z.bad.some D q;rw[f_] at g;exact aQ g
 case turn=>
  intro i w k ρ U F' s' W qO;refine cps λiL T=>?_;obtain⟨D',Wu,P_⟩:=(nK.grow (W.grow z.bad)).get' ρ;have Fm:=bO i D' k Wu U;have eb:=z.step W;have WC:=W.get z.ok WB (λao=>nofun)
  have Wt:oh s'.heap cv:=by
   obtain⟨c,o,g1,g2,g3,vs,y,eH,xq⟩:=uN;refine⟨c,o,g1,W.keep c o (λω=>?_) g2,g3,vs,y,eH,xq⟩;obtain⟨q,Θ,rfl⟩:=bV.mp ω;obtain⟨ao,_,_,t⟩:=z.ok.tabs q Θ;rw[g2] at t;cases t;cases g3
  refine T ?_;refine wpAny_call (Sh (R.mono (k':=0) .l).lt WC rfl dS (by simpa using Sd) rfl Wt λko=>?_);rw[R0 z4];refine b7 (wpAny_newFunctionEnv rf ?_ (λgM jl Xq=>?_) ef)
  ·intro y aH;rw[fj.mp aH];exact rl
  ·have WX:∀b o,s'.heap.get? b=some o->gM.get? b=some o:=λb o e=>Xq.extBut b o (fQ (dz e)) (dn _ e);obtain⟨ou,mx⟩:=YC (ko:=ko) (fa:=fa) (cv:=cv) eb P uv Se rl rf (n:=s'.toks+1) (c9 _) P_ jl WX;refine⟨ou.ok.lim G,kla_codeExpr ?_⟩;refine π Fm λqfo uR Δ=>?_
   ·rw[oz uR] at Δ;refine b8 (aw _ body _ _ Δ _ _ α B F' _ (R.lam _) mx _) (λr l9 ⟨Df,QV,t,e⟩=>?_) λγ γ x=>x;exact⟨Df,t,ou.trans QV,e⟩
end
section
variable{C:aE}{S:dH}{Ω:Nat}
theorem Dy(G:C.Good)(z:j7 C)(O:dA C S Ω):gF C S Ω:=Uh G O (λγ aw=>qdt G z O aw) λγ aw=>YE G z O aw
theorem Vi(G:C.Good)(z:j7 C)(O:dA C S Ω)(T:sd C a fd params body):
 C6 C (Ω+61) a (vB S own fd.scope.names params body):=Sj G O (Dy G z O) T
theorem Vh(G:C.Good)(z:j7 C)(O:dA C S Ω)(T:sd C a fd params body):
 C5 C (Ω+61) a (BS S fd.scope.names params body):=Sk G O (Dy G z O) T
end
end Internal
namespace Internal
abbrev kG:=Kinds×List Str×List Stmt
def yv(S:dH)(own:Str->List Str)(defs:List (Str×kG))(f:Str)(ds:List D):Option D:=match defs.lookup f with
 |some (K,ao,b)=>vB S (own f) K ao b ds
 |none=>none
def G7(S:dH)(defs:List (Str×kG))(f:Str)(d:D)(ds:List D):Option D:=match defs.lookup f with
 |some (K,ao,b)=>BS S K ao b d ds
 |none=>none
noncomputable def pp(G:List (Str×fT))(own:Str->List Str)(defs:List (Str×kG))(N:Nat):Nat->(Str->List D->Option D)×(Str->D->List D->Option D)
 |0=>(λγ γ=>none,λγ γ γ=>none)
 |n+1=>(yv ⟨G,(pp G own defs N n).1,(pp G own defs N n).2,N⟩ own defs,G7 ⟨G,(pp G own defs N n).1,(pp G own defs N n).2,N⟩ defs)
abbrev BI(G:List (Str×fT))(own:Str->List Str)(defs:List (Str×kG))(N n:Nat):Str->List D->Option D:=(pp G own defs N n).1
abbrev G6(G:List (Str×fT))(own:Str->List Str)(defs:List (Str×kG))(N n:Nat):Str->D->List D->Option D:=(pp G own defs N n).2
abbrev pe(G:List (Str×fT))(own:Str->List Str)(defs:List (Str×kG))(N n:Nat):dH:=⟨G,BI G own defs N n,G6 G own defs N n,N⟩
noncomputable def defsOf(p:Program):List (Str×kG):=p.main.body.filterMap λst=>if h:st.ctorIdx=0 then Stmt.FunctionDef.elim (motive_2:=λγ=>Option (Str×kG)) st h λname a b γ γ γ sc γ γ γ=>some (name,(sc.names,a.args.map (·.arg),b)) else none
noncomputable def Eg(d:DefRec):kG:=(d.scope.names,d.params.args.map (·.arg),d.body)
noncomputable def DP(p:Arguments)(fd:FuncData)(a b c e:Value):Sem (List (Str×Value)):=bindArgs {fd with params:=p,defaults:=.none} ⟨[a,b,c,e].take (p.args.map (·.arg)).length,[]⟩
noncomputable def fL(ns:List Str)(fd:FuncData)(a b c e:Value):Sem (List (Str×Value)):=pure (ns.zip ([a,b,c,e].take ns.length))
theorem qcV{l:List Value}(h:l.length<=4):∃a b c e,l=[a,b,c,e].take l.length:=by
 cases l with
 |nil=>exact⟨.none,.none,.none,.none,rfl⟩
 |cons a l=>cases l with
  |nil=>exact⟨a,a,a,a,rfl⟩
  |cons b l=>cases l with
   |nil=>exact⟨a,b,a,a,rfl⟩
   |cons c l=>cases l with
    |nil=>exact⟨a,b,c,a,rfl⟩
    |cons e l=>cases l with
     |nil=>exact⟨a,b,c,e,rfl⟩
     |cons f l=>exact absurd h (by rw[dG,dG,dG,dG,dG];exact n9.mpr (nc 5 _))
noncomputable def Bs:List Str->Bool
 |[]=>true
 |x::r=> !(r.contains x)&&Bs r
theorem NL:∀{l},Bs l=true->l.Nodup:=by
 intro y
 induction y with
 |nil=>
  intro γ;exact pn
 |cons x r z=>
  intro h;unfold Bs at h;rw[pl] at h;replace h:=h;rw[h2];refine⟨λhm=>?_,z h.2⟩;have:=h.1;rw[iG.mpr hm] at this;replace this:=this;cases this
def recOk(d:DefRec):Bool:=d.scope.kind==.function&& !d.scope.isCoroutine&& !d.scope.isGenerator&&Nat.ble (d.params.args.map (·.arg)).length 4&&d.scope.names.all (λp=>d.scope.names.lookup p.1==some p.2&& !(p.2==.free))&&Bs (d.params.args.map (·.arg))
section
variable{V:Program}{loose:List Str}{jS:ExcName->Option Value}{c0 bM:Str->Option Value}{K:Frag}{prog:Program}{w:World}{s:Shared}
noncomputable def je(prog:Program)(w:World)(s:Shared)(c0 bM:Str->Option Value)(T:List (Addr×Addr)):aE:=⟨prog,w,s.heap,c0,bM,T⟩
structure TabsOk(V:Program)(K:Frag)(T:List (Addr×Addr)):Prop where
 uK:∀q∈T,∃x d,(recsOf V).find? (λe=>e.name==x)=some d/\tabIn K x=some q
 one:∀q∈T,∀r∈T,q.2=r.2->q=r
theorem SS(z:Top V loose jS c0 bM s.heap)(X:K.In s.heap){T:List (Addr×Addr)}(a':TabsOk V K T)(u:∃ep,K.lookup cStatics=some {cls:=.none,data:=.dict #[] ep}):(je prog w s c0 bM T).Good where
 tabs:=λq v=>by
  refine cps λf y=>?_;refine ai (a'.uK q v) λx d q=>bL q λε p=>?_;obtain⟨j,bu⟩:=tab_of z X ε p;refine y ?_;exact⟨_,j.tab bu⟩
 g:=z.g
 b:=z.b
 lim:=z.nolimit
 yq:=by
  obtain⟨ep,e⟩:=u;exact⟨λγ=>none,⟨_,_,_,X _ _ e,rfl,λe he=>by simp at he,λγ=>rfl⟩,rfl⟩
 sys:=me (by decide:sysModules<mainGlobals) z.g.lt
theorem SR(z:Top V loose jS c0 bM s.heap){T:List (Addr×Addr)}(a':TabsOk V K T):j7 (je prog w s c0 bM T) where
 bm:=z.bmain
 one:=a'.one
theorem SU(g:Top V loose jS c0 bM s.heap)(X:K.In s.heap){T:List (Addr×Addr)}(a':TabsOk V K T)(u:s.gens= #[]){n:Nat}(p:0<n):(je prog w s c0 bM T).Ok (λγ=>none) {s with toks:=n} where
 base:=λb o γ e=>e
 tabs:=λq y=>by
  refine ai (a'.uK q y) λx d q=>bL q λε j=>?_;obtain⟨z,bu⟩:=tab_of g X ε j;exact⟨#[],z.code bu (by simp [TriplesOk]),z.tab bu⟩
 old:=⟨λb o e=>.inl e,λb o e=>⟨o,e⟩⟩
 gens:=.of_eq u
 pos:=p
 θ:=λt x e=>by cases e
 lam:=λq y ao t pos v e=>by
  refine cps λr f=>?_;refine ai (a'.uK q y) λx d q=>bL q λε j=>?_;obtain⟨z,bu⟩:=tab_of g X ε j;have:=t.2.symm.trans bu;cases this;simp [codeAmong] at e
theorem SP(j:Top V loose jS c0 bM s.heap)(X:K.In s.heap){T:List (Addr×Addr)}(a':TabsOk V K T){n:Nat}:(je prog w s c0 bM T).dZ (λb=>b∈(je prog w s c0 bM T).bo) {s with toks:=n} where
 bo:=λb z=>z
 some:=λb z=>by
  refine cps λv y=>?_;obtain⟨q,g,rfl⟩:=bV.mp z;refine ai (a'.uK q g) λx d q=>bL q λε u=>?_;refine y ?_;exact⟨_,(tab_of j X ε u).2⟩
 new:=λb z ω=>(ω z).elim
theorem SQ(y:Top V loose jS c0 bM s.heap)(X:K.In s.heap)(a':TabsOk V K T)(j:(recsOf V).find? (λe=>e.name==x)=some d)(z:recOk d=true)(H:DP d.params=fL (d.params.args.map (·.arg)))(ω:tabIn K x=some q)(I:q∈T):
 ∃a fd,c0 x=some (.ref a)/\sd (je prog w s c0 bM T) a fd (d.params.args.map (·.arg)) d.body/\fd.scope=d.scope:=by
 refine cps λU u=>?_;have i:d.name=x:=h5.mp (List.find?_some (p:=λe:DefRec=>e.name==x) j);obtain⟨a,o,pm,code,doc,ε,l,v,bu⟩:=y.fn d (List.mem_of_find?_eq_some j);unfold recOk at z;simp only[pl,lx,er] at z;replace z:=z;obtain⟨⟨⟨⟨⟨W,Y⟩,Q⟩,O⟩,n⟩,h⟩:=z;have t:code=.ref q.1:=law_code (fd:=Calls.docDef d.name d.params d.body d.scope pm code doc) X y.g (by rw[ω]) (i▸ε) l v;refine u ?_;refine⟨a,Calls.docDef d.name d.params d.body d.scope pm code doc,i▸ε,{obj:=⟨o,l,v⟩,kind:=eq_of_beq W,co:=Y,gen:=Q,body:=rfl,DV:=rfl,glob:=rfl,blt:=rfl,code:=bu,DZ:=⟨q,I,t⟩,D0:=λc κ=>?_,bind:=λvals ζ=>?_,names:=λp F=>?_,nodup:=NL h},rfl⟩
 ·intro N;refine cps λU u=>?_;have e:c=q.1:=by
   have f:code=.ref c:=κ;rw[t] at f;cases f;rfl
  obtain⟨r,L,R⟩:=bV.mp N;refine ai (a'.uK r L) λP d' q=>bL q λg1 g2=>?_;have g3:=(tab_of y X g1 g2).2;obtain⟨bf,vs,_,_,_,_,_,_,_,ag,Z,_⟩:=(tab_of y X j ω).1;rw[R,e,ag] at g3;replace g3:=g3;cases g3;cases Z
 ·refine(qcV (ζ▸e5 O)).elim λa q=>cN q λb c e q=>?_;rw[ζ] at q;rw[q];exact congrFun (congrFun (congrFun (congrFun (congrFun H (Calls.docDef d.name d.params d.body d.scope pm code doc)) a) b) c) e
 ·have:=n p F;refine⟨eq_of_beq this.1,λe=>?_⟩;rw[e] at this;replace this:=this;exact absurd this.2 .d
def qR(C:aE)(defs:List (Str×kG))(x:Str):fT->Prop
 |.int i=>∃t,C.c0 x=some (.int i t)
 |.tab l=>∃a us,C.c0 x=some (.ref a)/\(a==sysModules)=false/\C.fU.DictOf (strKind C.prog C.w) a us/\wC l us
 |.fn=>∃a fd D,C.c0 x=some (.ref a)/\defs.lookup x=some D/\sd C a fd D.2.1 D.2.2/\fd.scope.names=D.1
 |.bi id=>C.c0 x=none/\C.bM x=some (.builtin id)
 |.ty n=>C.c0 x=none/\C.bM x=some (.type n)
theorem V9(G:C.Good)(Z:j7 C)(h:∀p∈jv,qR C defs p.1 p.2/\(p.1==("__debug__" :Str))=false):
 ∀n,dA C (pe jv own defs N n) (61*n):=by
 intro n
 induction n with
 |zero=>
  intro x f9 v;refine cps λY z=>?_;obtain⟨ε,y⟩:=h (x,f9) (lookup_mem (show jv.lookup x=some f9 from v));cases f9 with
  |int i=>obtain⟨t,e⟩:=ε;refine z ?_;exact⟨_,.inl e,⟨t,rfl⟩,y⟩
  |tab l=>obtain⟨a,us,e,r⟩:=ε;refine z ?_;exact⟨_,.inl e,⟨a,us,rfl,r⟩,y⟩
  |bi id=>refine z ?_;exact⟨_,.inr ε,rfl,y⟩
  |ty nm=>refine z ?_;exact⟨_,.inr ε,rfl,y⟩
  |fn=>
   obtain⟨a,fd,D,e,j,T,g⟩:=ε;obtain⟨o,g1,g2⟩:=T.obj;refine z ?_;exact⟨_,.inl e,⟨a,o,fd,rfl,g1,g2,λγ γ γ γ γ γ γ γ γ γ γ q=>aQ q,λγ γ γ γ γ γ γ γ γ γ γ γ γ γ γ γ γ γ γ γ q=>aQ q⟩,y⟩
 |succ n f=>
  intro x f9 v;refine cps λY z=>?_;obtain⟨ε,y⟩:=h (x,f9) (lookup_mem (show jv.lookup x=some f9 from v));cases f9 with
  |int i=>obtain⟨t,e⟩:=ε;refine z ?_;exact⟨_,.inl e,⟨t,rfl⟩,y⟩
  |tab l=>obtain⟨a,us,e,r⟩:=ε;refine z ?_;exact⟨_,.inl e,⟨a,us,rfl,r⟩,y⟩
  |bi id=>refine z ?_;exact⟨_,.inr ε,rfl,y⟩
  |ty nm=>refine z ?_;exact⟨_,.inr ε,rfl,y⟩
  |fn=>
   obtain⟨a,fd,D,e,j,T,g⟩:=ε;obtain⟨o,g1,g2⟩:=T.obj;refine z ?_;refine⟨_,.inl e,⟨a,o,fd,rfl,g1,g2,?_,?_⟩,y⟩
   ·have u:(pe jv own defs N (n+1)).C2 x=vB (pe jv own defs N n) (own x) fd.scope.names D.2.1 D.2.2:=by
     funext ds;show yv (pe jv own defs N n) own defs x ds=_;unfold yv;rw[j,g]
    rw[u];exact Vi G Z f T (own:=own x)
   ·have u:(pe jv own defs N (n+1)).zx x=BS (pe jv own defs N n) fd.scope.names D.2.1 D.2.2:=by
     funext d ds;show G7 (pe jv own defs N n) defs x d ds=_;unfold G7;rw[j,g]
    rw[u];exact Vh G Z f T
end
end Internal
namespace Internal
section
variable{V:Program}{loose:List Str}{jS:ExcName->Option Value}{c0 bM:Str->Option Value}{K:Frag}{prog:Program}{w:World}{s:Shared}
theorem Mw:∀{vs} {ns},IntsAre vs ns->bA C F h B (ns.map D.int) vs
 |_,_,.nil=>rfl
 |_,_,.cons n t h=>⟨_,_,rfl,⟨t,rfl⟩,Mw h⟩
theorem YJ(z:Top V loose jS c0 bM s.heap)(X:K.In s.heap)(a':TabsOk V K T)(L:∃ep,K.lookup cStatics=some {cls:=.none,data:=.dict #[] ep})(W:s.gens= #[])
 (h:∀p∈jv,qR (je prog w s c0 bM T) defs p.1 p.2/\(p.1==("__debug__" :Str))=false)
 (hm:c0 qc=some (.ref fa)) (C:(qc,fT.fn)∈jv) (j:defs.lookup qc=some (names,[x],body)) (rl:names.lookup x=some .local) (A:lvl<=8)
  (Z:s.heap.PlainList l vs.toArray) (ρ:IntsAre vs ns) (f:BI jv own defs N (lvl+1) qc [.lst (ns.map .int)]=some (.bool true)):
 ∀E,wpAny (model prog w) callerA (call (.ref fa) [.ref l]) (λv s'=>v=.bool true/\OldK s.heap s'.heap/\s'.os=s.os/\AllBare s'.gens) E s:=by
 intro E;refine cps λiL U=>?_;have G:(je prog w s c0 bM T).Good:=SS z X a' L;have t:j7 (je prog w s c0 bM T):=SR z a';have O:=V9 (own:=own) (N:=N) G t h lvl;obtain⟨a,fd,Y,ag,P,u,r⟩:=(h _ C).1;have q:c0 qc=some (.ref a):=ag;rw[hm] at q;cases q;have g:defs.lookup qc=some Y:=P;rw[j] at g;obtain rfl:=ae g;have ok:=SU (prog:=prog) (w:=w) z X a' W (r_ s.toks);have bad:=SP (prog:=prog) (w:=w) (n:=s.toks+1) z X a'
 have I:l∉(je prog w s c0 bM T).bo:=by
  intro δ;obtain⟨n,e⟩:=Z;exact ok.kn (b:=l) e (λao=>nofun) δ
 have F:BI jv own defs N (lvl+1) qc=vB (pe jv own defs N lvl) (own qc) fd.scope.names [x] body:=by
  funext ds;show yv (pe jv own defs N lvl) own defs qc ds=_;unfold yv;rw[j,show fd.scope.names=names from r]
 rw[F] at f;have R:a_ callerA (61*lvl+61):=⟨rfl,by show 1+claimMargin+_<recursionLimit;have:claimMargin=300:=rfl;have:recursionLimit=1000:=rfl;lia,by show 4+_+80<cLine;have:cLine=9900:=rfl;lia⟩;refine U ?_;refine b8 (JZ (N:=s.toks+1) (B:=λb=>b∈(je prog w s c0 bM T).bo) G O (Dy G t O) u R ok bad (vs:=[.ref l]) (ds:=[.lst (ns.map .int)]) (d:=.bool true) ⟨.ref l,[],rfl,⟨l,vs,rfl,I,Z,Mw ρ⟩,rfl⟩ f (λqual Q qO ε i=>?_) E) (λv s' ⟨F',y,H⟩=>?_) λγ γ x=>x
 ·rw[show([x]:List Str).zip [Value.ref l]=[(x,.ref l)] from rfl] at i⊢;exact ZP u.kind (by rw[show fd.scope.names=names from r];exact rl) i
 ·exact⟨H,y.ok.old,y.os,y.ok.gens⟩
end
end Internal
set_option tactic.hygienic true
namespace Internal
section
variable{V:Program}{loose:List Str}{jS:ExcName->Option Value}{c0 bM:Str->Option Value}{K:Frag}{prog:Program}{w:World}{s:Shared}{T:List (Addr×Addr)}{defs:List (Str×kG)}
def Mv(v:Value):Option Int:=Value.casesOn v none none none no (λi γ=>some i) (λγ γ=>none) (λγ γ=>none) (λγ γ=>none) no no no
def Of(v:Value):Option Addr:=Value.casesOn v none none none no (λγ γ=>none) (λγ γ=>none) (λγ γ=>none) (λγ γ=>none) no no some
def PC(v:Value):Option String:=Value.casesOn v none none none no (λγ γ=>none) (λγ γ=>none) (λγ γ=>none) (λγ γ=>none) some no no
def Kk(d:Data):Option (List DictEntry):=Data.casesOn d none no (λγ γ=>none) (λes γ=>some es.toList) (λγ γ γ=>none) (λγ γ=>none) no no no no none
theorem X3{v}(h:Mv v=some i):∃t,v=.int i t:=by
 cases v<;>first|exact aQ h|exact⟨_,bp (Value.int · _) (ae h)⟩
theorem qaQ{v}(h:Of v=some a):v=.ref a:=by
 cases v<;>first|exact aQ h|exact ae h▸rfl
theorem qdE{v x}(h:PC v=some x):v=.type x:=by
 cases v<;>first|exact aQ h|exact ae h▸rfl
theorem Tc{v}(h:Kk v=some l):∃es p,v=.dict es p/\es.toList=l:=by
 cases v<;>first|exact aQ h|exact⟨_,_,rfl,ae h⟩
def F3(K:Frag)(x:Str):Option Int:=(nsIn K mainGlobals x).bind λo=>o.bind Mv
theorem Lc(y:Top V loose jS c0 bM s.heap)(X:K.In s.heap)(h:F3 K x=some i):qR (je prog w s c0 bM T) defs x (.int i):=
 π h λo h e=>π h λv h ag=>ν (X3 h) λt z=>⟨t,mg_of X y.g (e.trans (bp some (z▸ag)))⟩
noncomputable def Aq(e:DictEntry):Str×Tok×Int×Tok:=match e.key,e.val with
 |.str s t,.int i u=>(s,t,i,u)
 |_,_=>(Str.empty,0,0,0)
noncomputable def GB(P:Params)(q:Str×Tok×Int×Tok):DictEntry:={hash:=PyData.keyHash P q.1,key:=.str q.1 q.2.1,val:=.int q.2.2.1 q.2.2.2}
def Kj(K:Frag)(x:Str):Option (Addr×List DictEntry):=(nsIn K mainGlobals x).bind λo=>o.bind λv=>(Of v).bind λa=>(K.lookup a).bind λo=>
 aS (o.dict.isNone&&o.slots.isEmpty&&PC o.cls==some "dict") ((Kk o.data).bind λl=>some (a,l))
theorem VU(U:Top V loose jS c0 bM s.heap)(X:K.In s.heap)(h:Kj K x=some (a,es))(he:es=(es.map Aq).map (GB w.params))
 (ζ:(es.map Aq).map (λq=>(q.1,q.2.2.1))=l) (p:(l.map (·.1)).Nodup) (O:(a==sysModules)=false):qR (je prog w s c0 bM T) defs x (.tab l):=by
 refine π h λo h e=>π h λv h ag=>π h λb h Y=>π h λbf h L=>aP h λh κ=>π h λI h W=>?_;obtain⟨rfl,rfl⟩:=kC (ae h);obtain⟨u,ep,Q,rfl⟩:=Tc W;obtain⟨cl,t,R,P⟩:=bf;obtain⟨ε,N⟩:=band κ;obtain⟨h0,ε⟩:=band ε;obtain rfl:P= #[]:=Array.isEmpty_iff.mp ε;obtain rfl:=qdE (eq_of_beq N);obtain rfl:t=none:=vR.mp h0;obtain rfl:R=_:=Q;obtain rfl:=qaQ Y;obtain rfl:=ag;have Z:=X _ _ L;have hm:=mg_of X U.g e;generalize f:(u.toList.map Aq)=y at he ζ;refine⟨b,y.map (λq=>(q.1,Value.int q.2.2.1 q.2.2.2)),hm,O,⟨_,u,ep,Z,⟨rfl,rfl,rfl⟩,rfl,λi n=>?_,?_,?_⟩,?_⟩
 ·have z:i∈u.toList:=by simpa using n
  rw[he] at z;replace z:=z;obtain⟨q,_,rfl⟩:=bV.mp z;exact⟨q.1,strKind_is _ _ q.1 q.2.1,rfl⟩
 ·rw[he];clear he ζ p f
  induction y with
  |nil=>exact Pairs.nil
  |cons q r j=>exact Pairs.cons (strKind_is _ _ q.1 q.2.1) rfl j
 ·rw[cP];have:(y.map ((·.1)∘λq=>(q.1,Value.int q.2.2.1 q.2.2.2)))=l.map (·.1):=by
   rw[<-ζ,cP];rfl
  rw[this];exact p
 ·subst ζ;clear he p f
  induction y with
  |nil=>rfl
  |cons q r j=>exact⟨q.2.2.2,_,rfl,j⟩
theorem VR(u:Top V loose jS c0 bM s.heap)(X:K.In s.heap)(a':TabsOk V K T){D:kG}(j:defs.lookup x=some D)
 (z:((recsOf V).find? (λe=>e.name==x)).map (λd=>(recOk d,Eg d))=(defs.lookup x).map (λD=>(true,D))) (y:((recsOf V).find? (λe=>e.name==x)).map (λd=>DP d.params)=(defs.lookup x).map (λD=>fL D.2.1)) (ω:tabIn K x=some q) (v:q∈T):qR (je prog w s c0 bM T) defs x .fn:=by
 refine cps λf g=>?_;rw[j] at z y;replace z:=z;cases hd:(recsOf V).find? (λe=>e.name==x) with
 |none=>rw[hd] at z;exact aQ z
 |some d=>
  rw[hd] at z y;replace z:=z;obtain⟨ε,p⟩:=kC (ae z);subst p;obtain⟨a,fd,g1,g2,g3⟩:=SQ (prog:=prog) (w:=w) u X a' hd ε (ae y) ω v;refine g ?_;exact⟨a,fd,Eg d,g1,j,g2,by rw[g3];rfl⟩
noncomputable def uI(V:Program)(loose:List Str)(x:Str):Bool:= !(startupNames.contains x)&& !(loose.contains x)&& !(((recsOf V).map (·.name)).contains x)&& !(((litsOf V).map (·.1)).contains x)&& !(((clssOf V loose).map (·.name)).contains x)&& !(x==("__name__" :Str))
theorem Av(z:Top V loose jS c0 bM s.heap)(h:uI V loose x=true):c0 x=none/\bM x=bootBuiltins x:=by
 refine cps λv y=>?_;unfold uI at h;simp only[pl,lx] at h;obtain⟨⟨⟨⟨⟨ε,u⟩,j⟩,bu⟩,q⟩,g⟩:=h;have tm:∀{l:List Str},l.contains x=false->x∉l:=λ{l} e hm=>by rw[iG.mpr hm] at e;exact dk e
 refine y ?_;exact⟨z.free x (tm ε) (tm u) (tm j) (tm bu) (tm q),z.builtins x λe=>by subst e;exact absurd g .d⟩
theorem VP(z:Top V loose jS c0 bM s.heap)(h:uI V loose (Str.ofString n)=true)(y:bootBuiltins (Str.ofString n)=some (.builtin n)):qR (je prog w s c0 bM T) defs (Str.ofString n) (.bi n):=
 ⟨(Av z h).1,(Av z h).2.trans y⟩
theorem VW(z:Top V loose jS c0 bM s.heap)(h:uI V loose (Str.ofString n)=true)(y:bootBuiltins (Str.ofString n)=some (.type n)):qR (je prog w s c0 bM T) defs (Str.ofString n) (.ty n):=
 ⟨(Av z h).1,(Av z h).2.trans y⟩
end
end Internal
set_option tactic.hygienic false
namespace Internal
noncomputable def N1:Pos:=⟨0,0,0,0⟩
def aD:Expr:=.Name "" N1
noncomputable def pI(e:Expr):Option (Operator×Expr×Expr):=if h:e.ctorIdx=2 then Expr.BinOp.elim (motive_1:=λγ=>Option (Operator×Expr×Expr)) e h λl op r γ=>some (op,l,r) else none
noncomputable def ud(e:Expr):Option (Expr×List CmpOp×List Expr):=if h:e.ctorIdx=15 then Expr.Compare.elim (motive_1:=λγ=>Option (Expr×List CmpOp×List Expr)) e h λl os rs γ=>some (l,os,rs) else none
noncomputable def sr(e:Expr):Option (Expr×Expr×Expr):=if h:e.ctorIdx=5 then Expr.IfExp.elim (motive_1:=λγ=>Option (Expr×Expr×Expr)) e h λt b o γ=>some (t,b,o) else none
noncomputable def zV(e:Expr):Option (List Expr):=if h:e.ctorIdx=24 then Expr.List.elim (motive_1:=λγ=>Option (List Expr)) e h λes γ=>some es else none
noncomputable def su(e:Expr):Option (Expr×List Comprehension×Scope):=if h:e.ctorIdx=8 then Expr.ListComp.elim (motive_1:=λγ=>Option (Expr×List Comprehension×Scope)) e h λx gs sc γ=>some (x,gs,sc) else none
noncomputable def sq(e:Expr):Option (Expr×Expr×List Comprehension×Scope):=if h:e.ctorIdx=10 then Expr.DictComp.elim (motive_1:=λγ=>Option (Expr×Expr×List Comprehension×Scope)) e h λk v gs sc γ=>some (k,v,gs,sc) else none
noncomputable def kM(e:Expr):Option (List (Option Expr)×List Expr):=if h:e.ctorIdx=6 then Expr.Dict.elim (motive_1:=λγ=>Option (List (Option Expr)×List Expr)) e h λks vs γ=>some (ks,vs) else none
def pH(st:Stmt):Option (Expr×Expr):=if h:st.ctorIdx=5 then Stmt.Assign.elim (motive_2:=λγ=>Option (Expr×Expr)) st h λba e γ=>(dV ba).bind λt=>some (t,e) else none
noncomputable def wQ(st:Stmt):Option (Expr×Operator×Expr):=if h:st.ctorIdx=7 then Stmt.AugAssign.elim (motive_2:=λγ=>Option (Expr×Operator×Expr)) st h λt op e γ=>some (t,op,e) else none
noncomputable def wV(st:Stmt):Option (Expr×Expr×List Stmt×List Stmt):=if h:st.ctorIdx=9 then Stmt.For.elim (motive_2:=λγ=>Option (Expr×Expr×List Stmt×List Stmt)) st h λt e b o γ=>some (t,e,b,o) else none
def Jy(st:Stmt):Option (Expr×Expr×List Stmt):=(wV st).bind λc=>aS c.2.2.2.isEmpty (some (c.1,c.2.1,c.2.2.1))
noncomputable def uf(st:Stmt):Option (Expr×List Stmt×List Stmt):=if h:st.ctorIdx=12 then Stmt.If.elim (motive_2:=λγ=>Option (Expr×List Stmt×List Stmt)) st h λt b o γ=>some (t,b,o) else none
noncomputable def zY(st:Stmt):Option Expr:=if h:st.ctorIdx=3 then Stmt.Return.elim (motive_2:=λγ=>Option Expr) st h λe γ=>e else none
noncomputable def lE(st:Stmt):Option Expr:=if h:st.ctorIdx=24 then Stmt.Expr.elim (motive_2:=λγ=>Option Expr) st h λe γ=>some e else none
def eR(o:Option Expr):Expr:=o.getD aD
def sx(st:Stmt):Option Expr:=alt ((pH st).bind λc=>some c.1) ((wQ st).bind λc=>some c.1)
def sv(st:Stmt):Option (Str×Expr):=(lE st).bind jA
def lH(st:Stmt):Str:=(alt ((sx st).bind asName) (alt (((sx st).bind q2).bind λc=>some c.1) ((sv st).bind λc=>some c.1))).getD ""
def aO(st:Stmt):Expr:=eR (alt ((pH st).bind λc=>some c.2) (alt ((wQ st).bind λc=>some c.2.2) (alt ((wV st).bind λc=>some c.2.1) (alt ((uf st).bind λc=>some c.1) (alt (zY st) ((sv st).bind λc=>some c.2))))))
def uh(st:Stmt):Expr:=eR (((sx st).bind q2).bind λc=>some c.2)
def cF(st:Stmt):List Expr:=((sx st).bind hR).getD []
def bD(st:Stmt):List Expr:=((pH st).bind λc=>hR c.2).getD []
def gN(st:Stmt):List Stmt:=((uf st).bind λc=>some c.2.1).getD []
def fG(st:Stmt):List Stmt:=((uf st).bind λc=>some c.2.2).getD []
def jf(st:Stmt):Expr:=eR ((wV st).bind λc=>some c.1)
def fb(st:Stmt):List Stmt:=((wV st).bind λc=>some c.2.2.1).getD []
def bk(e:Expr):List Expr:=(alt (zV e) (alt (hR e) ((kL e).bind λc=>some c.2.1))).getD []
def kx(e:Expr):Expr:=eR (alt ((nx e).bind λc=>some c.1) ((oy e).bind λc=>some c.1))
def iB(e:Expr):Expr:=eR ((nx e).bind λc=>some c.2)
def fE(e:Expr):Expr:=eR ((ud e).bind λc=>some c.1)
def eZ(e:Expr):Expr:=eR ((ud e).bind λc=>dV c.2.2)
def uu(e:Expr):List Expr:=((pJ e).bind λc=>some c.2).getD []
def A6(e:Expr):Expr:=eR ((sr e).bind λc=>some c.1)
def A8(e:Expr):Expr:=eR ((sr e).bind λc=>some c.2.1)
def A7(e:Expr):Expr:=eR ((sr e).bind λc=>some c.2.2)
def eC(e:Expr):Expr:=eR ((pI e).bind λc=>some c.2.1)
def eu(e:Expr):Expr:=eR ((pI e).bind λc=>some c.2.2)
def cD(e:Expr):Expr:=eR (alt ((su e).bind λc=>some c.1) ((sq e).bind λc=>some c.1))
def iS(e:Expr):Expr:=eR ((sq e).bind λc=>some c.2.1)
def sA(e:Expr):List Comprehension:=(alt ((su e).bind λc=>some c.2.1) ((sq e).bind λc=>some c.2.2.1)).getD []
def bg(e:Expr):Comprehension:=(sA e).getD 0 ⟨aD,aD,[],0⟩
def bG(e:Expr):Scope:=(alt ((su e).bind λc=>some c.2.2) ((sq e).bind λc=>some c.2.2.2)).getD {kind:=.function,names:=[],isGenerator:=false,isCoroutine:=false}
section
variable{α β:Type}{o:Option α}{f:α->Option β}{a:α}{r:Option β}{b x y:Option β}
theorem aa(h:o=some a)(k:f a=r):o.bind f=r:=by rw[h];exact k
theorem wE(h:c=true)(k:x=r):aS c x=r:=by rw[h];exact k
theorem tp(h:o=some a)(k:f a=r):orElse o f b=r:=by rw[h];exact k
theorem rK(h:o=none)(k:b=r):orElse o f b=r:=by rw[h];exact k
theorem dI(h:x=some c):alt x y=some c:=by rw[h];rfl
theorem c5(h:x=none)(k:y=r):alt x y=r:=by rw[h];exact k
theorem jO(h:n<=16777216):dE n=true:=zv.mpr h
end
section
variable{S:dH}{n:Nat}{own:List Str}{K:Kinds}{σ σ':Γ}{st:Stmt}{r:List Stmt}{x:Str}{e:Expr}{a b d d':D}{ds:List D}{θ:cw}{f:Expr->Option D}{es:List Expr}
theorem eG:bw S (n+1) own K [] σ=some (σ,.next):=rfl
theorem bj(h:aK S n own K st σ=some (σ',.next)):bw S (n+1) own K (st::r) σ=bw S n own K r σ':=aa h rfl
theorem mH(h:aK S n own K st σ=some (σ',.ret d)):bw S (n+1) own K (st::r) σ=some (σ',.ret d):=aa h rfl
theorem Ap{c}(h:pH st=some c):aK S (n+1) own K st σ=xi S n own K c.1 c.2 σ:=
 eO h λq=>Stmt.Assign.elim (motive_2:=λst=>pH st=some c->aK S (n+1) own K st σ=xi S n own K c.1 c.2 σ) st q (λba e p h=>π h λt h ε=>aa (f:=λt=>xi S n own K t e σ) ε (by rw[<-ae h])) h
theorem UR{c}(h:wQ st=some c):aK S (n+1) own K st σ=An S n own K c.1 c.2.1 c.2.2 σ:=
 eO h λq=>Stmt.AugAssign.elim (motive_2:=λst=>wQ st=some c->aK S (n+1) own K st σ=An S n own K c.1 c.2.1 c.2.2 σ) st q (λt op e p h=>by rw[<-ae h];rfl) h
theorem UW{c}(h:Jy st=some c)(ρ:dj S (μ S n) K c.2.1 (noOwn (ed σ c.2.1))=some ds)(ω:((targetNames c.1).all (λx=> !own.contains x)&&lb c.2.1 c.1)=true):aK S (n+1) own K st σ=ec K c.1 (λy=>bw S n own K c.2.2 y) ds (ed σ c.2.1):=
 π h λg h ε=>aP h λh z=>eO ε λq=>Stmt.For.elim (motive_2:=λst=>wV st=some g->aK S (n+1) own K st σ=_) st q (λt e b o p ε=>by
  rw[<-ae h] at ρ ω⊢;rw[<-ae ε] at z ρ ω⊢;exact wE z (aa ρ (wE ω rfl))) ε
theorem UX{c}(h:uf st=some c):aK S (n+1) own K st σ=(b9 S n K c.1 σ).bind λx=>nC x (bw S n own K c.2.1 σ) (bw S n own K c.2.2 σ):=
 eO h λq=>Stmt.If.elim (motive_2:=λst=>uf st=some c->aK S (n+1) own K st σ=_) st q (λt b o p h=>by rw[<-ae h];rfl) h
theorem U1(h:zY st=some e):aK S (n+1) own K st σ=(μ S n K e σ.freeze).bind λd=>some (σ,.ret d):=
 eO h λq=>Stmt.Return.elim (motive_2:=λst=>zY st=some e->aK S (n+1) own K st σ=_) st q (λaB p h=>aa (o:=aB) (f:=λe=>(μ S n K e σ.freeze).bind λd=>some (σ,cw.ret d)) h rfl) h
theorem UO{c}{r:Γ×cw}(h:sv st=some c)(z:Am S n K c.1 c.2 σ=some r):aK S (n+1) own K st σ=some r:=
 π h λe h ε=>eO ε λq=>Stmt.Expr.elim (motive_2:=λst=>lE st=some e->aK S (n+1) own K st σ=some r) st q (λaB p ε=>by rw[<-ae ε] at h;exact dI (aa (f:=λc=>Am S n K c.1 c.2 σ) h z)) ε
def JJ(st:Stmt):Option (Str×Expr):=(pH st).bind λc=>(asName c.1).bind λx=>some (x,c.2)
theorem U0{c}(h:JJ st=some c):aK S (n+1) own K st σ=KO S n own K c.1 c.2 σ:=
 π h λg h ε=>π h λx h z=>(Ap ε).trans (tp z (by rw[<-ae h]))
theorem fB(z:JJ st=some (lH st,aO st))(hs:(storeOk K (lH st)&& !own.contains (lH st))=true)(h:μ S n K (aO st) σ=some d):aK S (n+1) own K st σ=some (σ.set (lH st) (.val d),.next):=
 (U0 z).trans (wE (band hs).1 (aa h (aa (a:=.val d) (by unfold ui;rw[vS (kO (band hs).2)];rfl) rfl)))
theorem wG(z:zY st=some (aO st))(h:μ S n K (aO st) σ.freeze=some d):aK S (n+1) own K st σ=some (σ,.ret d):=(U1 z).trans (aa h rfl)
theorem Jg(z:sv st=some (lH st,aO st))(y:σ.gQ (lH st)=some (.own (.lst l)))(h:μ S n K (aO st) σ=some d)(ζ:dE (l.length+1)=true):
 aK S (n+1) own K st σ=some (σ.set (lH st) (.own (.lst (l++[d]))),.next):=
 UO z (aa (a:=.lst l) (aa y rfl) (aa (a:=l) rfl (aa h (wE ζ rfl))))
def JL(st:Stmt):Option (Str×Expr×Expr):=(pH st).bind λc=>aS ((asName c.1).isNone&&(hR c.1).isNone) ((q2 c.1).bind λx=>some (x.1,x.2,c.2))
def JK(st:Stmt):Option (Str×Expr×Expr):=(wQ st).bind λc=>aS (Nat.beq c.2.1.ctorIdx 0&&(asName c.1).isNone) ((q2 c.1).bind λx=>some (x.1,x.2,c.2.2))
theorem nR{α:Type}{o:Option α}(h:o.isNone=true):o=none:=vR.mp h
theorem U2{c}(h:JL st=some c):aK S (n+1) own K st σ=KQ S n K c.1 c.2.1 c.2.2 σ:=
 π h λg q ε=>aP q λq z=>π q λt q y=>(Ap ε).trans (rK (nR (band z).1) (rK (nR (band z).2) (aa y (by rw[<-ae q]))))
theorem UN{c}(h:JK st=some c):aK S (n+1) own K st σ=KN S n K c.1 c.2.1 c.2.2 σ:=
 π h λg q ε=>aP q λq z=>π q λt q y=>(UR ε).trans (wE (band z).1 (((bp (λo:Option Str=>alt (o.bind _) _) (nR (band z).2)).trans (aa y (by rw[<-ae q])))))
theorem ub(z:JL st=some (lH st,uh st,aO st))(h:μ S n K (aO st) σ=some v)(y:σ.gQ (lH st)=some (.own d))(ρ:μ S n K (uh st) σ=some j)(q:putAt d j v=some d'):
 aK S (n+1) own K st σ=some (σ.set (lH st) (.own d'),.next):=(U2 z).trans (aa h (aa (a:=d) (aa y rfl) (aa ρ (aa q rfl))))
theorem Jh{a b:Int}(z:JK st=some (lH st,uh st,aO st))(q:σ.gQ (lH st)=some (.own d))(ρ:μ S n K (uh st) σ=some j)(y:index d j=some (.int a))(h:μ S n K (aO st) σ=some (.int b))(g:putAt d j (.int (a+b))=some d'):
 aK S (n+1) own K st σ=some (σ.set (lH st) (.own d'),.next):=(UN z).trans (aa (a:=d) (aa q rfl) (aa ρ (aa y (aa (a:=a) rfl (aa h (aa (a:=b) rfl (aa g rfl)))))))
theorem yy(h:dE (l.length+1)=true):putAt (.aX l) (.int i) d=some (.aX (stored l i d)):=aa (a:=i) rfl (c5 rfl (aa (a:=l) rfl (wE h rfl)))
theorem pK:gf S n own K σ [] []=some []:=rfl
theorem hx(y:asName t=some x)(hs:(storeOk K x&& !own.contains x)=true)(h:μ S n K e σ=some d)(z:gf S n own K σ ba es=some vs):gf S n own K σ (t::ba) (e::es)=some ((x,.val d)::vs):=
 aa y (aa (a:=(e,es)) rfl (wE (band hs).1 (aa h (aa z (aa (a:=.val d) (by unfold ui;rw[vS (kO (band hs).2)];rfl) rfl)))))
theorem DI(y:asName t=some x)(hs:(storeOk K x&&own.contains x&&uJ S K σ e)=true)(h:μ S n K e σ=some d)(z:gf S n own K σ ba es=some vs):gf S n own K σ (t::ba) (e::es)=some ((x,.own d)::vs):=
 aa y (aa (a:=(e,es)) rfl (wE (band (band hs).1).1 (aa h (aa z (aa (a:=.own d) (by unfold ui;rw[(band (band hs).1).2,(band hs).2];rfl) rfl)))))
def JF(ba:List Expr):Option Str:=(nv ba).bind λt=>asName t.1
def w0(st:Stmt):Option (List Expr×List Expr):=(pH st).bind λc=>aS (asName c.1).isNone ((hR c.1).bind λba=>(hR c.2).bind λes=>some (ba,es))
theorem EB{c}(h:w0 st=some c):aK S (n+1) own K st σ=alt (Ao S n own K c.1 c.2 σ) ((ph σ).bind λσ=>KP S n own K c.1 c.2 σ):=
 π h λg q ε=>aP q λq y=>π q λba q z=>π q λes q bu=>(Ap ε).trans (rK (nR y) (tp z (tp bu (by rw[<-ae q]))))
theorem qZ(y:w0 st=some (cF st,bD st))(h0:((JF (cF st)).bind λx=>if x==jV then none else some ())=some ())(ω:ph σ=some σ)(h:gf S n own K σ (cF st) (bD st)=some vs)(κ:ts vs (bD st)=true):aK S (n+1) own K st σ=some (ez σ vs,.next):=
 (EB y).trans (c5 (π h0 λx h0 z=>π z λt z ω=>aa ω (aa z (by rw[show(x==jV)=false from vS λq=>by rw[au q] at h0;exact aQ h0];rfl))) (aa ω (aa h (wE κ rfl))))
def JM(st:Stmt):Option (Expr×Expr):=(pH st).bind λc=>aS ((asName c.1).isNone&&(hR c.1).isSome&&(hR c.2).isNone) (some c)
theorem U4{c}(h:JM st=some c):aK S (n+1) own K st σ=KR S n own K c.1 c.2 σ:=
 π h λg q ε=>aP q λq z=>by
  rw[<-ae q];exact(Ap ε).trans (rK (nR (band (band z).1).1) (ν (Option.isSome_iff_exists.mp (band (band z).1).2) λba y=>tp y (rK (nR (band z).2) rfl)))
theorem Dr(y:JM st=some (t,e))(h:μ S n K e σ=some d)(j:iR K t d σ=some σ')(z:(targetNames t).all (λx=> !own.contains x)=true):aK S (n+1) own K st σ=some (σ',.next):=
 (U4 y).trans (aa h (aa j (wE z rfl)))
theorem gG(z:uf st=some (aO st,gN st,fG st))(h:b9 S n K (aO st) σ=some c):aK S (n+1) own K st σ=bw S n own K (if c then gN st else fG st) σ:=
 (UX z).trans (aa h (by cases c<;>rfl))
theorem mA(y:Jy st=some (jf st,aO st,fb st))(ρ:dj S (μ S n) K (aO st) (noOwn (ed σ (aO st)))=some items)(ω:((targetNames (jf st)).all (λx=> !own.contains x)&&lb (aO st) (jf st))=true):
 aK S (n+1) own K st σ=ec K (jf st) (λz=>bw S n own K (fb st) z) items (ed σ (aO st)):=UW y ρ ω
theorem HV{b:Γ->Option (Γ×cw)}{n:Nat}(ω:t σ=some true)(z:b σ=some (σ',.next)):mc t b (n+1) σ=mc t b n σ':=aa ω (aa z rfl)
theorem kU{K:Kinds}{t:Expr}{b:Γ->Option (Γ×cw)}{ds:List D}{σ1:Γ}(z:iR K t d σ=some σ1)(h:b σ1=some (σ',.next)):ec K t b (d::ds) σ=ec K t b ds σ':=aa z (aa h rfl)
theorem V8{items}:
 (∀d∈items,∃σ',iR K t d σ=some σ'/\tD j σ' ifs=some (pr d)/\(pr d=true->k σ'=some (g d)))->lQ j K t ifs k σ items=some ((items.filter pr).flatMap g):=by
 induction items with
 |nil=>exact λ_=>rfl
 |cons a l z=>
  exact λh=>ν (h a bH) λσ' q=>by
   refine aa q.1 (aa q.2.1 ?_);have z:=z λx u=>h x (b3 _ u);cases y:pr a with
   |false=>rw[y3 (by rw[y];nofun)];exact z
   |true=>rw[y2 y];exact aa (q.2.2 y) (aa z rfl)
theorem KX{α β:Type}(f:α->β)(l:List α):l.flatMap (λa=>[f a])=l.map f:=by
 induction l with
 |nil=>rfl
 |cons a r z=>exact bp (f a::·) z
theorem Ui{c}(h:pI e=some c):μ S (n+1) K e σ=(operand (μ S n) K c.2.1 σ).bind λa=>(operand (μ S n) K c.2.2 σ).bind λb=>binop c.1 a b:=
 eO h λq=>Expr.BinOp.elim (motive_1:=λe=>pI e=some c->μ S (n+1) K e σ=_) e q (λl op r p h=>by rw[<-ae h];rfl) h
theorem KI{l r:Expr}(h:ud e=some (l,[op],[r])):μ S (n+1) K e σ=xa S (μ S n) K l op r σ:=
 eO h λq=>Expr.Compare.elim (motive_1:=λe=>ud e=some (l,[op],[r])->μ S (n+1) K e σ=xa S (μ S n) K l op r σ) e q (λl os rs p h=>by cases h;rfl) h
theorem Um{c}(h:sr e=some c):μ S (n+1) K e σ=(b9 S n K c.1 σ).bind λx=>nC x (μ S n K c.2.1 σ) (μ S n K c.2.2 σ):=
 eO h λq=>Expr.IfExp.elim (motive_1:=λe=>sr e=some c->μ S (n+1) K e σ=_) e q (λt b o p h=>by rw[<-ae h];rfl) h
theorem Ur(h:zV e=some es):μ S (n+1) K e σ=(each (λa=>μ S n K a σ) es).bind λds=>aS (dE ds.length) (some (.lst ds)):=
 eO h λq=>Expr.List.elim (motive_1:=λe=>zV e=some es->μ S (n+1) K e σ=_) e q (λes p h=>by rw[<-ae h];rfl) h
theorem Uw(h:hR e=some es):μ S (n+1) K e σ=(each (λa=>μ S n K a σ) es).bind λds=>aS (dE ds.length) (some (.tup ds)):=
 eO h λq=>Expr.Tuple.elim (motive_1:=λe=>hR e=some es->μ S (n+1) K e σ=_) e q (λes k p h=>by rw[<-ae h];rfl) h
theorem Ex{c}(h:nx e=some c):μ S (n+1) K e σ=B4 (μ S n) K c.1 c.2 σ:=
 eO h λq=>Expr.Subscript.elim (motive_1:=λe=>nx e=some c->μ S (n+1) K e σ=B4 (μ S n) K c.1 c.2 σ) e q (λv i p h=>by rw[<-ae h];rfl) h
theorem KJ{c}(h:kM e=some c):μ S (n+1) K e σ=aS (decide (c.1.length<=15)) ((vp (λa=>μ S n K a σ) c.1 c.2).bind λao=>some (.aX (storeAll [] ao))):=
 eO h λq=>Expr.Dict.elim (motive_1:=λe=>kM e=some c->μ S (n+1) K e σ=_) e q (λks vs p h=>by rw[<-ae h];rfl) h
theorem Uq{c}(h:su e=some c):μ S (n+1) K e σ=(jc S (μ S n) (b9 S n) K (xh (μ S n) c.2.2.names c.1) c.2.1 c.2.2 σ).bind λout=>some (.lst out):=
 eO h λq=>Expr.ListComp.elim (motive_1:=λe=>su e=some c->μ S (n+1) K e σ=_) e q (λx gs sc p h=>by rw[<-ae h];rfl) h
theorem Uj{c}(h:sq e=some c):μ S (n+1) K e σ=(jc S (μ S n) (b9 S n) K (pR (μ S n) c.2.2.2.names c.1 c.2.1) c.2.2.1 c.2.2.2 σ).bind λout=>some (.aX (storeAll [] (out.filterMap pairOf))):=
 eO h λq=>Expr.DictComp.elim (motive_1:=λe=>sq e=some c->μ S (n+1) K e σ=_) e q (λk v gs sc p h=>by rw[<-ae h];rfl) h
theorem oK{c}(h:eY e=some c)(hd:w_ S (μ S n) K σ c.1 c.2=some d):μ S (n+1) K e σ=some d:=
 π h λg h ε=>aP h λh y=>π h λx h z=>eO ε λq=>Expr.Call.elim (motive_1:=λe=>kL e=some g->μ S (n+1) K e σ=some d) e q (λf as j p ε=>by
  rw[<-ae h] at hd;rw[<-ae ε] at hd y z;rw[(gq (l:=j)).mp y];exact dI (aa z hd)) ε
theorem dp(he:pI e=some (op,eC e,eu e))(ε:operand (μ S n) K (eC e) σ=some a)(z:operand (μ S n) K (eu e) σ=some b)(h:binop op a b=some d):μ S (n+1) K e σ=some d:=
 (Ui he).trans (aa ε (aa z h))
theorem rL(he:asName e=none):operand (μ S n) K e σ=μ S n K e σ:=rK (by rw[he];rfl) rfl
theorem DN{x y:Int}(h:y≠0):binop .Mod (.int x) (.int y)=some (.int (Int.fmod x y)):=dI (wE (by rw[lx,gU];exact h) rfl)
theorem w2{x y:Int}(h:y≠0)(z:y.natAbs<2^64):binop .FloorDiv (.int x) (.int y)=some (.int (Int.fdiv x y)):=wE (j0.mpr ⟨by rw[lx,gU];exact h,cA z⟩) rfl
theorem z2{x y:List D}(h:(x++y).length<=16777216):binop .Add (.lst x) (.lst y)=some (.lst (x++y)):=dI (wE (jO h) rfl)
theorem qbl(h0:0<=i)(h:l[i.toNat]? =some d)(hs:l.length<=2^61):Hj l i=some d:=
 wE (cA (c7 (Rb h0 (H7.mp h).1) (aJ hs .d))) (by unfold uk;rw[au h0];exact h)
theorem FY(h0:0<=i)(h:l[i.toNat]? =some d)(hs:l.length<=2^61):index (.lst l) (.int i)=some d:=qbl h0 h hs
theorem SN(h0:0<=i)(ε:i<2^62):Aa none (some i) n=some (0,i.toNat):=wE (j0.mpr ⟨cA h0,cA ε⟩) rfl
theorem SM(h0:0<=i)(ε:i<2^62):Aa (some i) none n=some (i.toNat,n):=wE (j0.mpr ⟨cA h0,cA ε⟩) rfl
theorem OM(h0:0<=i)(ε:i<2^62)(ζ:l.length<=16777216):slice (.lst l) none (some i)=some (.lst (l.take i.toNat)):=dI (wE (jO ζ) (aa (SN h0 ε) rfl))
theorem qbz(h0:0<=i)(ε:i<2^62)(ζ:l.length<=16777216):slice (.lst l) (some i) none=some (.lst (l.drop i.toNat)):=dI (wE (jO ζ) (aa (SM h0 ε) (by rw[List.take_length])))
theorem bW(h:f e=some d)(z:each f es=some ds):each f (e::es)=some (d::ds):=aa h (aa z rfl)
theorem eE:each f []=some []:=rfl
theorem C'(he:zV e=some (bk e))(h:each (λa=>μ S n K a σ) (bk e)=some ds)(ζ:ds.length<=16777216):μ S (n+1) K e σ=some (.lst ds):=(Ur he).trans (aa h (wE (jO ζ) rfl))
theorem ng(he:hR e=some (bk e))(h:each (λa=>μ S n K a σ) (bk e)=some ds)(ζ:ds.length<=16777216):μ S (n+1) K e σ=some (.tup ds):=(Uw he).trans (aa h (wE (jO ζ) rfl))
theorem ht(he:eY e=some (x,es))(z:glob S K σ x=some .fn)(y:es.isEmpty=false)(h:each (λa=>μ S n K a σ) es=some ds)(hf:S.C2 x ds=some d):μ S (n+1) K e σ=some d:=
 oK he (aa z (wE (by rw[y];rfl) (aa h hf)))
theorem dq(he:nx e=some (kx e,iB e))(hs:jB (iB e)=none)(ε:operand (μ S n) K (kx e) σ=some a)(z:μ S n K (iB e) σ=some b)(h:index a b=some d):μ S (n+1) K e σ=some d:=
 (Ex he).trans (aa ε (rK hs (aa z h)))
theorem Qe(he:ud e=some (fE e,[.In],[eZ e]))(h:μ S n K (fE e) σ=some (.str x))(z:(asName (eZ e)).bind (ET S K σ)=some t):μ S (n+1) K e σ=some (.bool (t.any λp=>p.1==x)):=
 (KI he).trans (aa h (dI (wE rfl (π z λg h ε=>aa ε (aa h rfl)))))
theorem fl(he:ud e=some (fE e,[op],[eZ e]))(ε:u5 (μ S n) K op (fE e) σ=some a)(z:Mq S op K (eZ e) σ a=none)(y:operand (μ S n) K (eZ e) σ=some b)(h:e' op a b=some c):μ S (n+1) K e σ=some (.bool c):=
 (KI he).trans (aa ε (c5 z (aa y (aa h rfl))))
def qda(e:Expr):Bool:=(pJ e).isNone&&(!(Nat.beq e.ctorIdx 5)&& !(Nat.beq e.ctorIdx 3))
theorem e_(hs:qda e=true)(h:μ S n K e σ=some (.bool c)):b9 S (n+1) K e σ=some c:=rK (nR (band hs).1) (wE (band hs).2 (aa h rfl))
theorem all_nil:sl S .Or [] (n+1) K σ=some false:=rfl
theorem all_cons{x y:Bool}(ε:b9 S n K c σ=some x)(z:x=false->sl S .Or es n K σ=some y):sl S .Or (c::es) (n+1) K σ=some (x||y):=
 wE rfl (aa ε (by cases x with
  |true=>rfl
  |false=>exact z rfl))
theorem QM{x:Bool}(he:pJ e=some (.Or,es))(h:sl S .Or es n K σ=some x):b9 S (n+1) K e σ=some x:=tp he h
theorem Dn{x y:Bool}(he:pJ e=some (.Or,[c1,c2]))(ε:b9 S (n+2) K c1 σ=some x)(z:x=false->b9 S (n+1) K c2 σ=some y):b9 S (n+4) K e σ=some (x||y):=
 QM he (all_cons ε λq=>(all_cons (z q) λγ=>all_nil).trans (by rw[C1]))
theorem Qd(he:sr e=some (A6 e,A8 e,A7 e))(ε:b9 S n K (A6 e) σ=some c)(z:μ S n K (if c then A8 e else A7 e) σ=some d):μ S (n+1) K e σ=some d:=
 (Um he).trans (aa ε (by cases c<;>exact z))
theorem D2{ev:Kinds->Expr->Γ->Option D}{elt:Γ->Option (List D)}{g:Comprehension}{gs:List Comprehension}{sc:Scope}{items out:List D}(κ:(closes K sc.names&&mX sc&&nB (fH sc.names σ) g)=true)(ρ:dj S ev K g.iter σ=some items)
 (j:lQ (λc z=>y sc.names c z) sc.names g.target g.ifs (uA (λe z=>dj S ev sc.names e z) (λc z=>y sc.names c z) sc.names elt gs) (fH sc.names σ) items=some out) (ζ:out.length<=16777216):jc S ev y K elt (g::gs) sc σ=some out:=
 wE κ (aa ρ (aa j (wE (jO ζ) rfl)))
theorem fv(he:su e=some (elt,g::gs,sc))(κ:(closes K sc.names&&mX sc&&nB (fH sc.names σ) g)=true)(ρ:dj S (μ S n) K g.iter σ=some items)
 (y:lQ (λc z=>b9 S n sc.names c z) sc.names g.target g.ifs (uA (λe z=>dj S (μ S n) sc.names e z) (λc z=>b9 S n sc.names c z) sc.names (xh (μ S n) sc.names elt) gs) (fH sc.names σ) items=some out)
 (ζ:out.length<=16777216):μ S (n+1) K e σ=some (.lst out):=(Uq he).trans (aa (D2 κ ρ y ζ) rfl)
theorem hT(h:ev K e σ=some d):xh ev K e σ=some [d]:=aa h rfl
theorem nh(he:(kL e).isNone=true)(h:operand (μ S n) K e σ=some d)(hd:itemsOf d=some items):dj S (μ S n) K e σ=some items:=
 c5 (by rw[show eY e=none by unfold eY;rw[nR he];rfl];rfl) (c5 (by rw[show zW e=none by unfold zW;rw[nR he];rfl];rfl) (aa h hd))
def OI(e:Expr):Expr:=eR ((jB e).bind λc=>c.2)
def JG(e:Expr):Option (Expr×Expr):=(nx e).bind λc=>(jB c.2).bind λs=>aS s.1.isNone (s.2.bind λh=>some (c.1,h))
theorem Qo{c}(he:JG e=some c)(ε:operand (μ S n) K c.1 σ=some (.lst l))(z:μ S n K c.2 σ=some (.int i))(h0:0<=i)(ρ:i<2^62)(ζ:l.length<=16777216):μ S (n+1) K e σ=some (.lst (l.take i.toNat)):=
 π he λg q κ=>π q λs q hs=>aP q λq j=>π q λu q y=>by
  rw[<-ae q] at ε z;exact(Ex κ).trans (aa ε (tp hs (aa (a:=none) (by rw[nR j];rfl) (aa (a:=some i) (by rw[y];exact aa z rfl) (OM h0 ρ ζ)))))
theorem IP(he:JG e=some (kx e,OI (iB e)))(ε:operand (μ S n) K (kx e) σ=some (.lst l))(z:μ S n K (OI (iB e)) σ=some (.int i))(h0:0<=i)(ρ:i<2^62)(ζ:l.length<=16777216):μ S (n+1) K e σ=some (.lst (l.take i.toNat)):=Qo he ε z h0 ρ ζ
def D7(e:Expr):Expr:=eR ((kM e).bind λc=>(dV c.1).bind id)
def D8(e:Expr):Expr:=eR ((kM e).bind λc=>dV c.2)
theorem Qc(he:kM e=some ([some (D7 e)],[D8 e]))(ε:μ S n K (D7 e) σ=some (.int i))(z:μ S n K (D8 e) σ=some d):μ S (n+1) K e σ=some (.aX [(i,d)]):=
 (KJ he).trans (wE rfl (aa (a:=[(i,d)]) (aa (a:=D7 e) rfl (aa (a:=(D8 e,[])) rfl (aa ε (aa (a:=i) rfl (aa z (aa (a:=[]) rfl rfl)))))) rfl))
theorem uE(ε:ev K k σ=some (.int i))(z:ev K v σ=some d):pR ev K k v σ=some [.tup [.int i,d]]:=aa ε (aa (a:=i) rfl (aa z rfl))
theorem t6(he:sq e=some (k,v,[g],sc))(κ:(closes K sc.names&&mX sc&&nB (fH sc.names σ) g)=true)(ρ:dj S (μ S n) K g.iter σ=some items)
 (y:lQ (λc z=>b9 S n sc.names c z) sc.names g.target g.ifs (uA (λe z=>dj S (μ S n) sc.names e z) (λc z=>b9 S n sc.names c z) sc.names (pR (μ S n) sc.names k v) []) (fH sc.names σ) items=some (out.map λp=>D.tup [.int p.1,p.2]))
 (ζ:out.length<=16777216):μ S (n+1) K e σ=some (.aX (storeAll [] out)):=
 (Uj he).trans (aa (D2 κ ρ y (by rw[bt];exact ζ)) (by
   rw[IC];exact bp (λl=>some (D.aX (storeAll [] l))) List.filterMap_some))
theorem l'{b:Bool}(h:z c σ=some b):tD z σ [c]=some b:=aa h (by cases b<;>rfl)
def u3(e:Expr):Option (Str×Expr×Scope):=(kL e).bind λc=>(dV c.2.2).bind λk=>(zT k.value).bind λl=>(DB l.1).bind λa=>some (a,l.2.1,l.2.2)
def Gb(e:Expr):Str:=((u3 e).bind λc=>some c.1).getD ""
def Gd(e:Expr):Expr:=eR ((u3 e).bind λc=>some c.2.1)
def Be(e:Expr):Scope:=((u3 e).bind λc=>some c.2.2).getD {kind:=.function,names:=[],isGenerator:=false,isCoroutine:=false}
noncomputable def JH(st:Stmt):Option (Expr×List Stmt):=if h:st.ctorIdx=11 then Stmt.While.elim (motive_2:=λγ=>Option (Expr×List Stmt)) st h λt b γ γ=>some (t,b) else none
def kA(st:Stmt):List Stmt:=((JH st).bind λc=>some c.2).getD []
def pk(st:Stmt):Expr:=eR ((JH st).bind λc=>some c.1)
theorem zE{x:Expr}(he:eY e=some (("enumerate" :Str),[x]))(z:oP S K σ ("enumerate" :Str)=some "enumerate")(h:operand (μ S n) K x σ=some (.lst l))(ζ:l.length<=16777216):dj S (μ S n) K e σ=some (kc 0 l):=
 dI (aa he (aa z (c5 rfl (dI (wE rfl (aa (a:=x) rfl (aa h (aa (a:=l) rfl (wE (jO ζ) rfl)))))))))
theorem Qh(he:eY e=some (x,[y]))(z:glob S K σ x=some (.bi "len"))(hs:BW S (μ S n) K σ [y]=none)(h:operand (μ S n) K y σ=some (.lst l))(ζ:l.length<=16777216):μ S (n+1) K e σ=some (.int l.length):=
 oK he (aa z (c5 hs (c5 rfl (aa (a:=[.lst l]) (aa h rfl) (dI (wE rfl (aa (a:=D.lst l) rfl (dI (aa (a:=l) rfl (wE (jO ζ) rfl))))))))))
theorem Qn(he:eY e=some (x,[y]))(z:glob S K σ x=some (.bi "sum"))(h:operand (μ S n) K y σ=some (.lst l))(ζ:l.length<=16777216)(ρ:intsOf l=some ns):μ S (n+1) K e σ=some (.int ns.sum):=
 oK he (aa z (c5 rfl (c5 rfl (aa (a:=[.lst l]) (aa h rfl) (c5 rfl (dI (wE rfl (aa (a:=D.lst l) rfl (aa (a:=l) rfl (wE (jO ζ) (aa ρ rfl)))))))))))
def ug(e:Expr):Option (Expr×Str×Pos×List Expr):=(kL e).bind λc=>aS (c.2.2.isEmpty&&(asName c.1).isNone) ((oy c.1).bind λa=>some (a.1,a.2.1,a.2.2,c.2.1))
theorem Al{c}(h:ug e=some c):μ S (n+1) K e σ=Bj S (μ S n) K σ c.1 c.2.1 c.2.2.1 c.2.2.2 (pP e):=
 π h λg h ε=>aP h λh z=>π h λx h y=>eO ε λq=>Expr.Call.elim (motive_1:=λe=>kL e=some g->μ S (n+1) K e σ=Bj S (μ S n) K σ c.1 c.2.1 c.2.2.1 c.2.2.2 (pP e)) e q (λf as j p ε=>by
  rw[<-ae ε] at z y h;rw[<-ae h,(gq (l:=j)).mp (band z).1];exact c5 (by rw[show asName f=none from nR (band z).2];rfl) (aa y rfl)) ε
theorem Qg{x o:Expr}(he:ug e=some (o,("join" :Str),p,[x]))(hm:hg o p (pP e)=true)(z:wW o=some s)(h:operand (μ S n) K x σ=some (.lst l))(hs:strsOf l=some xs)(y:JoinOk s xs=true):
 μ S (n+1) K e σ=some (.str (Txt.join s xs)):=
 (Al he).trans (wE (by rw[hm];rfl) (c5 rfl (c5 rfl (dI (wE rfl (aa z (aa (a:=x) rfl (aa h (aa (a:=l) rfl (aa hs (wE y rfl)))))))))))
theorem qcd{α:Type} f:∀l:List α,strsOf (l.map λa=>D.str (f a))=some (l.map f):=by
 intro y
 induction y with
 |nil=>
  exact rfl
 |cons a l z=>
  exact bp (λo:Option (List Str)=>o.bind λl=>some (f a::l)) (z)
theorem T2{f:D->D->Option Bool}(hf:∀a b:Int,f (.int a) (.int b)=some (a==b))(l:List Int):ke f (l.map .int) (l.map .int)=some true:=by
 induction l with
 |nil=>rfl
 |cons a l z=>exact aa (hf a a) (aa z (by rw[hq];rfl))
theorem S9(l:List Int):nE (.lst (l.map .int)) (.lst (l.map .int))=some true:=(au (hq _)).trans (T2 (λa b=>rfl) l)
theorem Dc(l:List Int):e' .NotEq (.lst (l.map .int)) (.lst (l.map .int))=some false:=aa (S9 l) rfl
end
noncomputable def bI(l:List Nat):Str:=⟨l.toArray⟩
theorem qs l:(bI l).length=l.length:=by unfold bI Str.length;simp
theorem qbi(h:bI a=bI b):a=b:=by unfold bI at h;simpa using h
theorem KY{α:Type}(l:List α):∀m,(List.range m).filterMap (λi=>l[i]?)=l.take m:=by
 induction l with
 |nil=>intro m;rw[zp];exact List.filterMap_eq_nil_iff.mpr λ_ _=>rfl
 |cons a l z=>
  intro m;cases m with
  |zero=>rfl
  |succ m=>
   rw[Cs,CC,IC,List.take_succ_cons,<-z];rfl
theorem OJ(a b:Nat):sliceRange (a:Int) (b:Int) 1=(List.range (b-a)).map λk=>a+k:=by
 unfold sliceRange;have e:(if(1:Int)>0 then(if(a:Int)<b then((b:Int)-a+1-1)/1 else 0) else(if(a:Int)>b then((a:Int)-b-1-1)/(-1) else 0)).toNat=b-a:=by
  rw[au .d,Int.ediv_one]
  by_cases h:a<b
  ·rw[au (hL.mpr h),Int.add_sub_cancel,<-CY (dy h),qH]
  ·rw[ar λq=>h (hL.mp q)];exact(Ct (e7.mp h)).symm
 dsimp only;rw[e];apply m5;intro k _;rw[Int.one_mul];rfl
theorem Ng(a b:Nat):max 0 (min (a:Int) (b:Int))=((min a b:Nat):Int):=by
 rw[CT (Int.le_min.mpr ⟨m7 a,m7 b⟩)];exact(Nat.le_total a b).elim (λh=>by rw[m' h,CU (n7.mpr h)]) λh=>by rw[tT h,CS (n7.mpr h)]
theorem qbA l (n:Nat):Txt.slice (bI l) none (some (n:Int))=bI (l.take n):=by
 have ρ:Builtin.Str.strSliceIndices none (some (n:Int)) 1 (bI l).length=List.range (min n l.length):=by
  rw[qs];unfold Builtin.Str.strSliceIndices;dsimp only;simp only[show((1:Int)>0)=True from eq_true .d,if_true,ar (gu.mpr (m7 n))];rw[Ng n l.length,show(0:Int)=((0:Nat):Int) from rfl,OJ];simp
 unfold Txt.slice;rw[ρ];have z:(List.range (min n l.length)).filterMap (λi=>(bI l).cps[i]?)=l.take n:=by
  have:(λ(i:Nat)=>(bI l).cps[i]?)=λi=>l[i]? :=by funext i;unfold bI;simp
  rw[this,KY,List.take_eq_take_iff,m' (CN _ _)]
 rw[z];split
 ·rename_i κ;simp only[hq,Bool.true_and,hZ,qs,h5] at κ;rw[tM (κ▸n4 n l.length)]
 ·rfl
theorem qbC l (n:Nat):Txt.slice (bI l) (some (n:Int)) none=bI (l.drop n):=by
 have ρ:Builtin.Str.strSliceIndices (some (n:Int)) none 1 (bI l).length=(List.range (l.length-n)).map λk=>n+k:=by
  rw[qs];unfold Builtin.Str.strSliceIndices;dsimp only;simp only[show((1:Int)>0)=True from eq_true .d,if_true,ar (gu.mpr (m7 n))];rw[Ng n l.length,OJ]
  by_cases h:n<=l.length
  ·rw[m' h]
  ·have h':=dy (n9.mp h);rw[tT h',Nat.sub_self,Ct h'];simp
 unfold Txt.slice;rw[ρ];have z:((List.range (l.length-n)).map λk=>n+k).filterMap (λi=>(bI l).cps[i]?)=l.drop n:=by
  rw[IC];have:((λ(i:Nat)=>(bI l).cps[i]?)∘λk=>n+k)=λi=>(l.drop n)[i]? :=by funext i;unfold bI;simp
  rw[this,KY];exact tM (by simp)
 rw[z];split
 ·rename_i κ;simp only[hq,Bool.true_and,bt,hZ,qs,h5] at κ;replace κ:=κ
  by_cases h0:n=0
  ·subst h0;rfl
  ·have:l=[]:=by
    cases l with
    |nil=>rfl
    |cons a r=>exact absurd κ (fQ (Nat.sub_lt (r_ _) (Nat.pos_of_ne_zero h0)))
   subst this;simp
 ·rfl
theorem V7:∀(r:List (List Nat)) acc,(r.map bI).foldl (λacc p=>acc++(bI []).cps++p.cps) acc=acc++r.flatten.toArray:=by
 intro y
 induction y with
 |nil=>
  intro acc;simp
 |cons x r z=>
  intro acc;rw[bN,i6,z];unfold bI;simp [Array.append_assoc]
theorem Yp(xs:List (List Nat)):Txt.join (bI []) (xs.map bI)=bI xs.flatten:=by
 unfold Txt.join Builtin.Str.glued;cases xs with
 |nil=>rfl
 |cons x r=>
  simp only[bN,List.drop_succ_cons,List.drop_zero,List.headD_cons];rw[V7];unfold bI;simp
theorem Yo{xs:List (List Nat)}(z:xs.length<=10000)(hf:∀x∈xs,x.length<=100):JoinOk (bI []) (xs.map bI)=true:=by
 refine joinOk_of ?_;have h0:(bI []).length=0:=rfl;have ε:((xs.map bI).map (·.length)).sum<=xs.length*100:=by
  clear z
  induction xs with
  |nil=>simp
  |cons x r q=>
   have ε:=hf x bH;have g:=q λy j=>hf y (b3 _ j);simp only[bN,f6,qs,dG];rw[Nat.succ_mul,mf];exact r9 g ε
 rw[h0,Nat.mul_zero];exact aJ ε (aJ (r0 100 z) .d)
end Internal
namespace Internal.e8
theorem gA{a b c:Nat}(h:a<=b:=by assumption)(k:b<=c:=by decide):a<=c:=aJ h k
theorem x5{a b c:Nat}(h:a<=b:=by assumption)(k:b<c:=by decide):a<c:=e6 h k
theorem f'{α β:Type}{f:α->β}{l:List α}{a b:Nat}(h:l.length<=a:=by assumption)(k:a<=b:=by decide):(l.map f).length<=b:=(bt (as:=l) f).symm▸aJ h k
theorem Bg:∀{i:Nat},i<3->i=0∨i=1∨i=2
 |0,_=>.inl rfl
 |1,_=>.inr (.inl rfl)
 |2,_=>.inr (.inr rfl)
 |i+3,h=>absurd h (e7.mpr (nc 3 i))
theorem FX{g:Int}{j:Nat}(h:0<=g)(a b:Int):(if j=g.toNat then a else b)=if g=(j:Int) then a else b:=by
 by_cases e:g=(j:Int)
 ·rw[au e,au (by rw[e];rfl)]
 ·rw[ar e,ar λq=>e (by rw[q,tN h])]
theorem Zz{a:Int}{n:Nat}(h:0<=a/\a<=n):a.natAbs<=n:=n7.mp ((Cy h.1).symm▸h.2)
noncomputable def defs:List (Str×kG):=defsOf PySem.Challenge.pw_xh0028_01
noncomputable def fns:List Str:=["add_func_stats","add_callers","count_calls","rgb_to_hls","rgb_to_hsv","hsv_to_rgb","ISTERMINAL","ISNONTERMINAL","ISEOF","_law_cut","_law_lines","_law_book","_law_weigh","_law_again","_law_due","law"]
noncomputable def toks:List (Str×Int):=([("!",54),("!=",28),("%",24),("%=",40),("&",19),("&=",41),("(",7),(")",8),("*",16),("**",35),("**=",46),("*=",38),("+",14),("+=",36),(",",12),("-",15),("-=",37),("->",51),(".",23),("...",52),("/",17),("//",47),("//=",48),("/=",39),(":",11),(":=",53),(";",13),("<",20),("<<",33),("<<=",44),("<=",29),("=",22),("==",27),(">",21),(">=",30),(">>",34),(">>=",45),("@",49),("@=",50),("[",9),("]",10),("^",32),("^=",43),("{",25),("|",18),("|=",42),("}",26),("~",31)]:List (String×Int)).map λp=>(Str.ofString p.1,p.2)
noncomputable def z3:List String:=["len","sum","max","min","chr","ord","abs","isinstance","sorted"]
noncomputable def tys:List String:=["range","enumerate","zip","int","tuple","set","list"]
def G:List (Str×fT):=fns.map (λx=>(x,fT.fn))++[(Str.ofString "NT_OFFSET",fT.int 256),(Str.ofString "ENDMARKER",fT.int 0),(Str.ofString "EXACT_TOKEN_TYPES",fT.tab toks)]++z3.map (λn=>(Str.ofString n,fT.bi n))++tys.map (λn=>(Str.ofString n,fT.ty n))
def own(x:Str):List Str:=if x=="add_callers" then["new_callers"] else if x=="_law_cut" then["symbols"] else if x=="_law_again" then(["mates","rows","single","painted"]:List Str)++LQ else if x=="law" then["numbers","books","shares"] else[]
abbrev fn(n:Nat)(f:Str)(ds:List D):Option D:=BI G own defs 10000 n f ds
def I3:Prop:=∀ns:List Int,ns.length<=63->fn 5 "law" [.lst (ns.map .int)]=some (.bool true)
end Internal.e8
namespace Internal
noncomputable def fragOf(as:List Addr)(h:Heap):Frag:=as.filterMap λa=>(h.get? a).map λo=>(a,o)
theorem Vx as:(fragOf as h).In h:=by
 induction as with
 |nil=>exact λa o e=>nomatch e
 |cons b as j=>
  intro a o e;unfold fragOf at e;rw[CC] at e;cases y:h.get? b with
  |none=>rw[y] at e;exact j a o e
  |some q=>
   rw[y] at e;change List.lookup a ((b,q)::fragOf as h)=some o at e;rw[fP] at e;cases z:a==b with
   |true=>rw[z] at e;exact eq_of_beq z▸e▸y
   |false=>rw[z] at e;exact j a o e
namespace e8
noncomputable def addrs:List Addr:=[2,3,6,15,17,18,20,21,22,24,25,27,28,29,31,32,34,35,36,38,39,41,42,43,45,46,48,49,50,52,53,55,56,57,60,62,63,65,66,67,69,70,72,73,74,76,77,79,80,81,84,85,86,88,89,91,92,93,95,96,98,99,100,103,104,105,108,109,110,112,113,115,116,117,120,121]
noncomputable def view:Program:=PySem.W.view PySem.Challenge.pw_xh0028_01 [1,2,3,5,6,7,9,10,11,12,13,14,15,16,17,18,19,20,21,22,23,24,25,26,27,28,29,30,31,32,33,34,35,36,37,38,39,40,41,42,43,44,45,46,47,48,49,50,51,52,53,54,55,56,57,58,59,60,61,62,64,65,66,67,68,69,70]
noncomputable def TT:List (Addr×Addr):=[(20,16),(27,23),(34,30),(41,37),(48,44),(55,51),(65,61),(72,68),(79,75),(84,82),(91,87),(98,94),(103,101),(108,106),(115,111),(120,118)]
noncomputable def tk2:List (PySem.Tok×PySem.Tok):=[(382,378),(384,326),(386,318),(388,350),(390,308),(392,352),(394,284),(396,286),(398,302),(400,340),(402,362),(404,346),(406,298),(408,342),(410,294),(412,300),(414,344),(416,372),(418,316),(420,374),(422,304),(424,364),(426,366),(428,348),(430,292),(432,376),(434,296),(436,310),(438,336),(440,358),(442,328),(444,314),(446,324),(448,312),(450,330),(451,338),(452,360),(453,368),(454,370),(455,288),(456,290),(457,334),(458,356),(459,320),(460,306),(461,354),(462,322),(463,332)]
noncomputable abbrev C3:=List (Option (Addr×Addr))×Option Int×Option Int×Option (Addr×List DictEntry)×Option Obj
def Bz(K:Frag):C3:=(fns.map λx=>tabIn K x,F3 K "NT_OFFSET",F3 K "ENDMARKER",Kj K "EXACT_TOKEN_TYPES",K.lookup cStatics)
def raw:List (Str×PySem.Tok×Int×PySem.Tok):=(toks.zip tk2).map λq=>(q.1.1,q.2.1,q.1.2,q.2.2)
def Cg(P:Params):C3:=(TT.map some,some 256,some 0,some (57,raw.map (GB P)),some {cls:=.none,data:=.dict #[] 0})
def hook:Hook where
 α:=C3
 obs s:=Bz (fragOf addrs s.heap)
 val w:=Cg w.params
 says w h:=∃K:Frag,K.In h/\Bz K=Cg w.params
 of _ s e:=⟨fragOf addrs s.heap,Vx addrs,e⟩
 keeps _ _ _:=λ⟨K,a,b⟩ k=>⟨K,Frag.In.keeps a k,b⟩
noncomputable abbrev loose:List Str:=[Str.ofString "EXACT_TOKEN_TYPES"]
abbrev Xt(s:Shared):Bool:=xlAt view [] s&&PySem.W.recOk PySem.Challenge.rw_xh0028_01.row.records s
theorem qbd(w:World):(openEnds Fast.tw14364793385576792824 PySem.Challenge.pw_xh0028_01 (w.withFollow "special-get-raises" false) 4070).map (λs=>(Fast.tw4187177175401517315 view loose (importedModules PySem.Challenge.pw_xh0028_01.main.body) Xt true s,hook.obs s))=some (openGood view loose,hook.val (w.withFollow "special-get-raises" false)):=.k
theorem qbe(w:World):(openEnds Fast.tw14364793385576792824 PySem.Challenge.pw_xh0028_01 (w.withFollow "special-get-raises" true) 4070).map (λs=>(Fast.tw4187177175401517315 view loose (importedModules PySem.Challenge.pw_xh0028_01.main.body) Xt true s,hook.obs s))=some (openGood view loose,hook.val (w.withFollow "special-get-raises" true)):=.k
theorem left:LeftO PySem.Challenge.pw_xh0028_01 view loose Xt hook.obs hook.val 4070:=by
 unfold LeftO;rw[Fast.te14364793385576792824,Fast.te4187177175401517315];exact byRow2 "special-get-raises" (P:=λw=>(openEnds Fast.tw14364793385576792824 PySem.Challenge.pw_xh0028_01 w 4070).map (λs=>(Fast.tw4187177175401517315 view loose (importedModules PySem.Challenge.pw_xh0028_01.main.body) Xt true s,hook.obs s))=some (openGood view loose,hook.val w)) qbd qbe
end e8
end Internal
namespace Internal.e8
abbrev S(n:Nat):dH:=pe G own defs 10000 n
noncomputable def D6(x:Str):kG:=(defs.lookup x).getD ([],[],[])
noncomputable abbrev ο(i:Int):Option aC:=some (.val (.int i))
noncomputable abbrev ξ(d:D):Option aC:=some (.val d)
noncomputable def p0:Pos:=⟨0,0,0,0⟩
def sB(x:String)(i:Nat):Stmt:=(D6 (Str.ofString x)).2.2.getD i (.Pass p0)
noncomputable def gm(x:String):Kinds:=(D6 (Str.ofString x)).1
noncomputable def lJ(x:String):List Stmt:=(D6 (Str.ofString x)).2.2
abbrev iU(st:Stmt):Expr:=jf st
abbrev c_(st:Stmt):List Stmt:=fb st
def d9(l:List Stmt)(i:Nat):Stmt:=l.getD i (.Pass p0)
section
variable{α:Type}
noncomputable def dM(g:α->D)(l:List (Int×α)):List (Int×D):=l.map λp=>(p.1,g p.2)
noncomputable def fu(l:List (Int×α))(k:Int)(v:α):List (Int×α):=if l.any (λp=>p.1=k) then l.map (λp=>if p.1=k then(p.1,v) else p) else l++[(k,v)]
def gv(d:List (Int×α))(g:Int->Option α):Prop:=(d.map (·.1)).Nodup/\∀x,d.lookup x=g x
def j8(F:α->α->α)(l:List (Int×α))(k:Int)(v:α):List (Int×α):=match l.lookup k with
 |some a=>fu l k (F a v)
 |none=>fu l k v
def k7(F:α->α->α)(bU bR:List (Int×α)):List (Int×α):=bR.foldl (λacc p=>j8 F acc p.1 p.2) (bU.foldl (λacc p=>fu acc p.1 p.2) [])
theorem jT{d:List (Int×α)}{x:Int}:x∈d.map (·.1)↔(d.lookup x).isSome=true:=by
 induction d with
 |nil=>exact⟨nofun,nofun⟩
 |cons p r z=>
  rw[bN,cn,fP];cases h:x==p.1 with
  |true=>exact⟨λ_=>rfl,λ_=>.inl (eq_of_beq h)⟩
  |false=>exact⟨λq=>z.mp (q.resolve_left (gU.mp h)),λq=>.inr (z.mpr q)⟩
theorem wN{d:List (Int×α)}{x:Int}:d.any (λp=>p.1=x)=true↔x∈d.map (·.1):=
 ⟨λq=>ν (qI.mp q) λp h=>bV.mpr ⟨p,h.1,cU h.2⟩,λq=>ν (bV.mp q) λp h=>qI.mpr ⟨p,h.1,cA h.2⟩⟩
theorem MM(l:List (Int×α))(k:Int)(v:α):(fu l k v).map (·.1)=if k∈l.map (·.1) then l.map (·.1) else l.map (·.1)++[k]:=by
 unfold fu
 by_cases h:k∈l.map (·.1)
 ·rw[au h,au (wN.mpr h),cP];refine m5 λp z=>?_;show(if p.1=k then(p.1,v) else p).1=p.1;split<;>rfl
 ·rw[ar h,ar (λq=>h (wN.mp q)),kD];rfl
theorem GQ{l:List (Int×α)}(h:(l.map (·.1)).Nodup)(k:Int)(v:α):((fu l k v).map (·.1)).Nodup:=by
 rw[MM];split
 ·exact h
 ·rename_i q;exact r4.mpr ⟨h,h2.mpr ⟨oc,pn⟩,λa z b y e=>q (fj.mp y▸e▸z)⟩
theorem YX(k:Int)(v:α)(j:Int):∀l:List (Int×α),(l.map λp=>if p.1=k then(p.1,v) else p).lookup j=if j=k then(l.lookup j).map (λ_=>v) else l.lookup j:=by
 intro g
 induction g with
 |nil=>
  split<;>rfl
 |cons p r q=>
  rewrite [bN,fP,fP,q]
  by_cases z:p.1=k
  ·rw[au z];show(match j==p.1 with|true=>some v|false=>_)=_;cases y:j==p.1 with
   |true=>exact(au ((eq_of_beq y).trans z)).symm
   |false=>rfl
  ·rw[ar z];cases y:j==p.1 with
   |true=>exact(ar λe=>z ((eq_of_beq y).symm.trans e)).symm
   |false=>rfl
theorem M7(l:List (Int×α))(k:Int)(v:α)(j:Int):(fu l k v).lookup j=if j=k then some v else l.lookup j:=by
 unfold fu
 by_cases z:l.any (λp=>p.1=k)=true
 ·rw[au z,YX]
  by_cases e:j=k
  ·rw[au e,au e,e];cases h:l.lookup k with
   |none=>exact dk ((bp Option.isSome h).symm.trans (jT.mp (wN.mp z))).symm
   |some x=>rfl
  ·rw[ar e,ar e]
 ·rw[ar z,List.lookup_append,fP]
  by_cases e:j=k
  ·rw[au e,e,hq];cases h:l.lookup k with
   |none=>rfl
   |some x=>exact absurd (wN.mpr (jT.mpr (bp Option.isSome h))) z
  ·rw[ar e,gU.mpr e];cases l.lookup j<;>rfl
theorem Nh{l:List (Int×α)}{p:Int×α}{k:Int}{v:α}(h:p∈fu l k v):p=(k,v)∨(p∈l/\p.1≠k):=by
 unfold fu at h;split at h
 ·obtain⟨q,g,e⟩:=bV.mp h
  by_cases z:q.1=k
  ·rw[au z] at e;exact .inl (e.symm.trans (by rw[z]))
  ·rw[ar z] at e;exact .inr ⟨e▸g,e▸z⟩
 ·rename_i j;exact(fk.mp h).elim (λy=>.inr ⟨y,λe=>j (qI.mpr ⟨p,y,cA e⟩)⟩) λy=>.inl (fj.mp y)
theorem vI{d:List (Int×α)}{g:Int->Option α}(h:gv d g)(k:Int)(v:α):gv (fu d k v) (λx=>if x=k then some v else g x):=
 ⟨GQ h.1 k v,λx=>by rw[M7,h.2]⟩
theorem Hr:∀(d acc:List (Int×α)),((acc++d).map (·.1)).Nodup->d.foldl (λacc p=>fu acc p.1 p.2) acc=acc++d:=by
 intro y
 induction y with
 |nil=>
  intro acc γ;exact(nd acc).symm
 |cons p r z=>
  intro acc h
  have j:fu acc p.1 p.2=acc++[p]:=ar λκ=>by
   rw[kD,r4] at h;exact h.2.2 p.1 (wN.mp κ) p.1 bH rfl
  rw[i6,j,z (acc++[p]) (by rw[ml];exact h),ml];rfl
theorem Gj{d:List (Int×α)}(h:(d.map (·.1)).Nodup){p:Int×α}(z:p∈d):d.lookup p.1=some p.2:=ti h p z
theorem qcE{a b:List (Int×α)}{g:Int->Option α}(z:gv a g)(y:gv b g):a.length=b.length:=by
 have h:=((Cm z.1 y.1).mpr λx=>by rw[jT,jT,z.2,y.2]).length_eq;rwa [bt,bt] at h
theorem B2(l:List (Int×α))(k:Int)(v:α):(fu l k v).length<=l.length+1:=by
 unfold fu;split
 ·rw[bt];exact c9 _
 ·rw[eL];exact a7 _
theorem Jq(F:α->α->α)(l:List (Int×α))(k:Int)(v:α):(j8 F l k v).length<=l.length+1:=by unfold j8;split<;>exact B2 _ _ _
theorem EI(up:List (Int×α)->Int×α->List (Int×α))(h:∀l p,(up l p).length<=l.length+1):∀r l:List (Int×α),(r.foldl up l).length<=l.length+r.length:=by
 intro y
 induction y with
 |nil=>
  intro l;exact a7 _
 |cons p r z=>
  intro l;exact aJ (z (up l p)) (aJ (m4 (h l p) _) (gV (lu _ 1 _)))
theorem Ni(F:α->α->α)(bU bR:List (Int×α)):(k7 F bU bR).length<=bU.length+bR.length:=by
 have h:=EI (λacc p=>fu acc p.1 p.2) (λl p=>B2 l p.1 p.2) bU [];rw[v8,hr] at h;exact aJ (EI (λacc p=>j8 F acc p.1 p.2) (λl p=>Jq F l p.1 p.2) bR _) (m4 h _)
theorem qcF(g:α->D)(l:List (Int×α))(k:Int):(dM g l).any (λp=>p.1=k)=l.any (λp=>p.1=k):=by unfold dM;rw[List.any_map];rfl
theorem yQ(g:α->D)(l:List (Int×α))(k:Int)(v:α):stored (dM g l) k (g v)=dM g (fu l k v):=by
 unfold stored fu;rw[qcF];split
 ·unfold dM;rw[cP,cP];refine m5 λp _=>?_;show(if p.1=k then(p.1,g v) else(p.1,g p.2))=((if p.1=k then(p.1,v) else p).1,g (if p.1=k then(p.1,v) else p).2);split<;>rfl
 ·unfold dM;rw[kD];rfl
theorem HC(g:α->D)(k:Int):∀l:List (Int×α),(dM g l).lookup k=(l.lookup k).map g:=by
 intro y
 induction y with
 |nil=>
  exact rfl
 |cons p r z=>
  show List.lookup k ((p.1,g p.2)::dM g r)=_;rw[fP,fP];cases k==p.1 with
  |true=>rfl
  |false=>exact z
theorem Pe(g:α->D)(i:Int):∀l:List (Int×α),(dM g l).any (λp=>p.1==i)=(l.lookup i).isSome:=by
 intro j
 induction j with
 |nil=>
  exact rfl
 |cons p r y=>
  show(p.1==i||(dM g r).any λp=>p.1==i)=_;rw[fP,y];cases z:i==p.1 with
  |true=>rw[h5.mpr (eq_of_beq z).symm];rfl
  |false=>rw[gU.mpr (gT (gU.mp z))];rfl
theorem Pf(g:α->D)(l:List (Int×α)):(dM g l).length=l.length:=bt ..
end
noncomputable def hn(l:List (Int×Int)):List (Int×D):=l.map λp=>(p.1,.int p.2)
def tabI(l:List (Int×Int)):D:=.aX (hn l)
abbrev Φ(l:List (Int×Int))(k v:Int):List (Int×Int):=fu l k v
theorem qcK(l:List (Int×Int))(k v:Int):stored (hn l) k (.int v)=hn (Φ l k v):=yQ D.int l k v
theorem B9(l:List (Int×Int))(k:Int):(hn l).lookup k=(l.lookup k).map D.int:=HC D.int k l
theorem qcJ(l:List (Int×Int))(i:Int):(hn l).any (λp=>p.1==i)=(l.lookup i).isSome:=Pe D.int i l
abbrev Dv(l:List (Int×Int))(k v:Int):List (Int×Int):=j8 (· +·) l k v
abbrev merge(bU bR:List (Int×Int)):List (Int×Int):=k7 (· +·) bU bR
theorem u7(h:n<=16777216):dE n=true:=by unfold dE;rw[zv];exact h
section count
def pO(d:D)(a:Int)(c:Option aC):Γ:=[("callers",ξ d),("nc",ο a),("calls",c)]
theorem count_loop k d:∀(vs:List Int) a c,∃z,ec (gm "count_calls") (iU (sB "count_calls" 1)) (λy=>bw (S k) 57 [] (gm "count_calls") (c_ (sB "count_calls" 1)) y) (vs.map D.int) (pO d a c)=some (pO d (a+vs.sum) z,.next):=by
 intro q
 induction q with
 |nil=>
  intro a c;exact⟨c,by rw[List.sum_nil,h4];rfl⟩
 |cons v vs j=>
  intro a c;obtain⟨z,h⟩:=j (a+v) (ο v);refine⟨z,?_⟩;rw[bN,kU (σ1:=pO d a (ο v)) (σ':=pO d (a+v) (ο v)) .k .k,h,f6,j4]
theorem z9 k l:fn (k+1) "count_calls" [tabI l]=some (.int (l.map (·.2)).sum):=by
 obtain⟨u,h⟩:=count_loop k (tabI l) (l.map (·.2)) 0 none;have q:fn (k+1) "count_calls" [tabI l]=(bw (S k) 60 [] (gm "count_calls") [sB "count_calls" 0,sB "count_calls" 1,sB "count_calls" 2] [("callers",ξ (tabI l)),("nc",none),("calls",none)]).bind (λr=>jX r.2):=.k;have ag:aK (S k) 59 [] (gm "count_calls") (sB "count_calls" 0) [("callers",ξ (tabI l)),("nc",none),("calls",none)]=some (pO (tabI l) 0 none,.next):=.k;have z:aK (S k) 58 [] (gm "count_calls") (sB "count_calls" 1) (pO (tabI l) 0 none)=ec (gm "count_calls") (iU (sB "count_calls" 1)) (λy=>bw (S k) 57 [] (gm "count_calls") (c_ (sB "count_calls" 1)) y) ((hn l).map λp=>p.2) (pO (tabI l) 0 none):=.k;have j:((hn l).map λp=>p.2)=(l.map (·.2)).map D.int:=by unfold hn;rw[cP,cP];rfl
 rw[j,h] at z;have g:∀a c,aK (S k) 57 [] (gm "count_calls") (sB "count_calls" 2) (pO (tabI l) a c)=some (pO (tabI l) a c,.ret (.int a)):=λa c=>by kernel_rfl
 rw[q,bj ag,bj z,mH (g _ _),mg];rfl
end count
section Sn
def fo(t s:D)(l:List (Int×D))(f c:Option aC):Γ:=[("target",ξ t),("source",ξ s),("new_callers",some (.own (.aX l))),("func",f),("caller",c)]
abbrev gw:=gm "add_callers"
noncomputable abbrev iQ:List Str:=["new_callers"]
def QZ:Stmt:=d9 (c_ (sB "add_callers" 1)) 0
theorem Q_ k t s l i d (ζ:dE (l.length+1)=true):bw (S k) 57 iQ gw (c_ (sB "add_callers" 1)) (fo t s l (ο i) (ξ d))=some (fo t s (stored l i d) (ο i) (ξ d),.next):=by
 rw[show c_ (sB "add_callers" 1)=[QZ] from .k,bj (ub (v:=d) (j:=.int i) (d:=.aX l) .k .k .k .k (yy ζ)),eG]
 kernel_rfl
def ow:Stmt:=d9 (c_ (sB "add_callers" 2)) 0
def ox:Stmt:=d9 (gN ow) 0
def Q2:Stmt:=d9 (fG ox) 0
def Q1:Stmt:=d9 (fG ow) 0
def wL:Stmt:=d9 (gN ox) 0
variable(k:Nat){α:Type}(g:α->D)
theorem Ld(t s:D){n:Nat}{st:Stmt}(e:∀d i f c l,iR gw (iU st) (.tup [.int i,d]) (fo t s l f c)=some (fo t s l (ο i) (ξ d)))(up:List (Int×α)->Int×α->List (Int×α))(v:∀l p,(up l p).length<=l.length+1)
 (turn:∀l p,l.length+1<=16777216->bw (S k) n iQ gw (c_ st) (fo t s (dM g l) (ο p.1) (ξ (g p.2)))=some (fo t s (dM g (up l p)) (ο p.1) (ξ (g p.2)),.next)):∀(r l:List (Int×α)) (f c:Option aC),l.length+r.length<=16777216->
 ∃z y,ec gw (iU st) (λj=>bw (S k) n iQ gw (c_ st) j) ((dM g r).map λp=>D.tup [.int p.1,p.2]) (fo t s (dM g l) f c)=some (fo t s (dM g (r.foldl up l)) z y,.next):=by
 intro u
 induction u with
 |nil=>
  intro l f c γ;exact⟨f,c,.k⟩
 |cons p r q=>
  intro l f c h;rw[dG,mf r.length,<-qK] at h;refine ai (q (up l p) (ο p.1) (ξ (g p.2)) (aJ (m4 (v l p) _) h)) λz y h'=>⟨z,y,?_⟩;rw[show dM g (p::r)=(p.1,g p.2)::dM g r from rfl,bN,kU (σ1:=fo t s (dM g l) (ο p.1) (ξ (g p.2))) (e _ _ _ _ _) (turn l p (aJ (c8 ..) h)),h',i6]
variable(F:α->α->α)(ik:∀t s l i v a,l.length+1<=16777216->l.lookup i=some (g a)->aK (S k) 53 iQ gw ox (fo t s l (ο i) (ξ (g v)))=some (fo t s (stored l i (g (F a v))) (ο i) (ξ (g v)),.next))
include ik
theorem VV(t s:D)(l:List (Int×α))(p:Int×α)(ζ:l.length+1<=16777216):bw (S k) 56 iQ gw (c_ (sB "add_callers" 2)) (fo t s (dM g l) (ο p.1) (ξ (g p.2)))=some (fo t s (dM g (j8 F l p.1 p.2)) (ο p.1) (ξ (g p.2)),.next):=by
 have ρ:aK (S k) 55 iQ gw ow (fo t s (dM g l) (ο p.1) (ξ (g p.2)))=bw (S k) 54 iQ gw (if(dM g l).any (λq=>q.1==p.1) then gN ow else fG ow) (fo t s (dM g l) (ο p.1) (ξ (g p.2))):=gG .k .k;have z:(dM g l).length+1<=16777216:=by rw[Pf];exact ζ
 rw[Pe] at ρ;rw[show c_ (sB "add_callers" 2)=[ow] from .k,bj (σ':=fo t s (dM g (j8 F l p.1 p.2)) (ο p.1) (ξ (g p.2))) ?_,eG];rw[ρ];unfold j8;cases y:l.lookup p.1 with
 |none=>
  rw[show(if(none:Option α).isSome=true then gN ow else fG ow)=[Q1] from .k,bj (ub (v:=g p.2) (j:=.int p.1) (d:=.aX (dM g l)) .k .k .k .k ((yy (u7 z)).trans (by rw[yQ]))),eG]
  kernel_rfl
 |some a=>
  rw[show(if(some a).isSome=true then gN ow else fG ow)=[ox] from .k,bj (ik t s (dM g l) p.1 p.2 a z (by rw[HC,y];rfl)),eG,yQ]
theorem J1(bU bR:List (Int×α))(h:bU.length+bR.length<=16777216):fn (k+1) "add_callers" [.aX (dM g bU),.aX (dM g bR)]=some (.aX (dM g (k7 F bU bR))):=by
 generalize ω:D.aX (dM g bU)=t;generalize hs:D.aX (dM g bR)=s;have q:fn (k+1) "add_callers" [t,s]=(bw (S k) 60 iQ gw [sB "add_callers" 0,sB "add_callers" 1,sB "add_callers" 2,sB "add_callers" 3] [("target",ξ t),("source",ξ s),("new_callers",none),("func",none),("caller",none)]).bind (λr=>jX r.2):=.k;have ag:aK (S k) 59 iQ gw (sB "add_callers" 0) [("target",ξ t),("source",ξ s),("new_callers",none),("func",none),("caller",none)]=some (fo t s (dM g []) none none,.next):=.k;have y:aK (S k) 58 iQ gw (sB "add_callers" 1) (fo t s (dM g []) none none)=ec gw (iU (sB "add_callers" 1)) (λz=>bw (S k) 57 iQ gw (c_ (sB "add_callers" 1)) z) ((dM g bU).map λp=>D.tup [.int p.1,p.2]) (fo t s (dM g []) none none):=by subst ω;kernel_rfl
 refine ai (Ld k g t s (st:=sB "add_callers" 1) (n:=57) (λd i f c l=>by kernel_rfl) (λacc p=>fu acc p.1 p.2) (λl p=>B2 l p.1 p.2) (λl p ζ=>(Q_ k t s (dM g l) p.1 (g p.2) (u7 (by rw[Pf];exact ζ))).trans (by rw[yQ])) bU [] none none (by rw[v8,hr];exact aJ (c8 ..) h)) λf1 c1 ε=>?_;have j:∀l f c,aK (S k) 57 iQ gw (sB "add_callers" 2) (fo t s l f c)=ec gw (iU (sB "add_callers" 2)) (λz=>bw (S k) 56 iQ gw (c_ (sB "add_callers" 2)) z) ((dM g bR).map λp=>D.tup [.int p.1,p.2]) (fo t s l f c):=λl f c=>by subst hs;kernel_rfl
 refine ai (Ld k g t s (st:=sB "add_callers" 2) (n:=56) (λd i f c l=>by kernel_rfl) (λacc p=>j8 F acc p.1 p.2) (λl p=>Jq F l p.1 p.2) (VV k g F ik t s) bR (bU.foldl (λacc p=>fu acc p.1 p.2) []) f1 c1 (aJ (m4 (EI _ (λl p=>B2 l p.1 p.2) bU []) _) (by rw[v8,hr];exact h))) λf2 c2 e=>?_;have u:∀l f c,aK (S k) 56 iQ gw (sB "add_callers" 3) (fo t s l f c)=some (fo t s l f c,.ret (.aX l)):=λl f c=>by kernel_rfl
 rw[q,bj ag,bj (y.trans ε),bj ((j _ _ _).trans e),mH (u _ _ _)];rfl
omit ik
theorem z5(bU bR:List (Int×Int))(h:bU.length+bR.length<=16777216):fn (k+1) "add_callers" [tabI bU,tabI bR]=some (tabI (merge bU bR)):=
 J1 k D.int (· +·) (λt s l i v a ζ y=>by
  have z:aK (S k) 53 iQ gw ox (fo t s l (ο i) (ο v))=bw (S k) 52 iQ gw (fG ox) (fo t s l (ο i) (ο v)):=gG (c:=false) .k .k;rw[z,show fG ox=[Q2] from .k,bj (Jh (d:=.aX l) (j:=.int i) (a:=a) (b:=v) .k .k .k (show l.lookup i=_ from y) .k (yy (u7 ζ))),eG]
  kernel_rfl) bU bR h
end Sn
noncomputable abbrev ia:=Int×Int×Int
def t3(v:ia):D:=.tup [.int v.1,.int v.2.1,.int v.2.2]
def qy(l:List (Int×ia)):List (Int×D):=l.map λp=>(p.1,t3 p.2)
def l_(l:List (Int×ia)):D:=.aX (qy l)
theorem qcH(l:List (Int×ia))(k:Int)(v:ia):stored (qy l) k (t3 v)=qy (fu l k v):=yQ t3 l k v
def lD(a b:ia):ia:=(a.1+b.1,a.2.1+b.2.1,a.2.2+b.2.2)
abbrev qe(bU bR:List (Int×ia)):List (Int×ia):=k7 (λo n=>lD n o) bU bR
section
theorem RI k t s l i a b c x y z (h:l.lookup i=some (.tup [.int x,.int y,.int z])):μ (S k) 50 gw (aO wL) (fo t s l (ο i) (ξ (.tup [.int a,.int b,.int c])))=some (.tup [.int (a+x),.int (b+y),.int (c+z)]):=by
 have he:eY (aO wL)=some (Str.ofString "tuple",bk (aO wL)):=.k;have j:glob (S k) gw (fo t s l (ο i) (ξ (.tup [.int a,.int b,.int c]))) (Str.ofString "tuple")=some (.ty "tuple"):=.k;have e:HH (S k) (μ (S k) 49) gw (fo t s l (ο i) (ξ (.tup [.int a,.int b,.int c]))) (bk (aO wL))=((l.lookup i).bind λd=>(lG d).bind λm=>(some [a,b,c]).bind λns=>(intsOf m).bind λms=>aS (dE ns.length&&Nat.beq ns.length ms.length) (some (.tup (rX ns ms)))):=.k;exact oK he (aa j (dI (wE rfl (e.trans (by rw[h];rfl)))))
theorem J0(k:Nat)(bU bR:List (Int×ia))(h:bU.length+bR.length<=16777216):fn (k+1) "add_callers" [l_ bU,l_ bR]=some (l_ (qe bU bR)):=
 J1 k t3 (λo n=>lD n o) (λt s l i v a ζ q=>by
  have y:aK (S k) 53 iQ gw ox (fo t s l (ο i) (ξ (t3 v)))=bw (S k) 52 iQ gw (gN ox) (fo t s l (ο i) (ξ (t3 v))):=gG (c:=true) .k .k;have z:=RI k t s l i v.1 v.2.1 v.2.2 a.1 a.2.1 a.2.2 q;rw[y,show gN ox=[wL] from .k];refine(bj (ub (n:=50) (v:=t3 (lD v a)) (j:=.int i) (d:=.aX l) .k z .k .k (yy (u7 ζ)))).trans ?_;rw[eG]
  kernel_rfl) bU bR h
end
def ent(a b c d:D)(l:List (Int×Int)):D:=.tup [a,b,c,d,tabI l]
section
variable(k:Nat)(a b c d e f g h:D)(bU bR:List (Int×Int))
abbrev K2:Γ:=[("target",ξ (ent a b c d bU)),("source",ξ (ent e f g h bR)),("cc",none),("nc",none),("tt",none),("ct",none),("callers",none),("t_cc",none),("t_nc",none),("t_tt",none),("t_ct",none),("t_callers",none)]
abbrev K3:Γ:=[("target",ξ (ent a b c d bU)),("source",ξ (ent e f g h bR)),("cc",ξ e),("nc",ξ f),("tt",ξ g),("ct",ξ h),("callers",ξ (tabI bR)),("t_cc",none),("t_nc",none),("t_tt",none),("t_ct",none),("t_callers",none)]
abbrev Ax:Γ:=[("target",ξ (ent a b c d bU)),("source",ξ (ent e f g h bR)),("cc",ξ e),("nc",ξ f),("tt",ξ g),("ct",ξ h),("callers",ξ (tabI bR)),("t_cc",ξ a),("t_nc",ξ b),("t_tt",ξ c),("t_ct",ξ d),("t_callers",ξ (tabI bU))]
theorem VG:fn (k+2) "add_func_stats" [ent a b c d bU,ent e f g h bR]=((bw (S (k+1)) 60 [] (gm "add_func_stats") [sB "add_func_stats" 0,sB "add_func_stats" 1,sB "add_func_stats" 2] (K2 a b c d e f g h bU bR)).bind λr=>jX r.2):=.k
theorem VH S:aK S 59 [] (gm "add_func_stats") (sB "add_func_stats" 0) (K2 a b c d e f g h bU bR)=some (K3 a b c d e f g h bU bR,.next):=.k
theorem VI S:aK S 58 [] (gm "add_func_stats") (sB "add_func_stats" 1) (K3 a b c d e f g h bU bR)=some (Ax a b c d e f g h bU bR,.next):=.k
def lO(i:Nat):Expr:=(bk (aO (sB "add_func_stats" 2))).getD i aD
theorem Ay{S:dH}(he:pI (lO i)=some (.Add,eC (lO i),eu (lO i)))(ε:operand (μ S 54) (gm "add_func_stats") (eC (lO i)) σ=some u)(z:operand (μ S 54) (gm "add_func_stats") (eu (lO i)) σ=some v)(h:binop .Add u v=some w):μ S 55 (gm "add_func_stats") (lO i) σ=some w:=dp he ε z h
theorem VJ(ε:binop .Add e a=some z)(u:binop .Add f b=some y)(q:binop .Add g c=some j)(bu:binop .Add h d=some x4)(ζ:bU.length+bR.length<=16777216):aK (S (k+1)) 57 [] (gm "add_func_stats") (sB "add_func_stats" 2) (Ax a b c d e f g h bU bR)=some (Ax a b c d e f g h bU bR,.ret (ent z y j x4 (merge bU bR))):=by
 have κ:μ (S (k+1)) 55 (gm "add_func_stats") (lO 4) (Ax a b c d e f g h bU bR).freeze=some (tabI (merge bU bR)):=ht (x:="add_callers") (es:=bk (lO 4)) (ds:=[tabI bU,tabI bR]) .k .k .k .k (z5 k bU bR ζ);have hs:bk (aO (sB "add_func_stats" 2))=[lO 0,lO 1,lO 2,lO 3,lO 4]:=.k;exact wG .k (ng (ds:=[z,y,j,x4,tabI (merge bU bR)]) .k (by
  rw[hs];exact bW (Ay .k .k .k ε) (bW (Ay .k .k .k u) (bW (Ay .k .k .k q) (bW (Ay .k .k .k bu) (bW κ eE))))) (e5 rfl))
theorem qbX(ε:binop .Add e a=some y)(u:binop .Add f b=some j)(z:binop .Add g c=some q)(bu:binop .Add h d=some x4)(ζ:bU.length+bR.length<=16777216):
 fn (k+2) "add_func_stats" [ent a b c d bU,ent e f g h bR]=some (ent y j q x4 (merge bU bR)):=by
 rw[VG,bj (VH a b c d e f g h bU bR _),bj (VI a b c d e f g h bU bR _),mH (VJ k a b c d e f g h bU bR ε u z bu ζ)];rfl
end
end Internal.e8
namespace Internal
def b1(e:Expr):Expr:=(bk e).getD 0 aD
def o5(e:Expr):Expr:=((ug e).bind λc=>some c.1).getD aD
def u'(e:Expr):Pos:=((ug e).bind λc=>some c.2.2.1).getD N1
section
variable{S:dH}{n:Nat}{K:Kinds}{σ:Γ}{e:Expr}{l:List D}{ns:List Int}{x:Int}
theorem lZ(hm:yk op=false)(z:asName e=none)(h:μ S n K e σ=some a):u5 (μ S n) K op e σ=some a:=by
 unfold u5;rw[hm];exact(rL z).trans h
theorem j5(he:eY e=some (Str.ofString "len",[b1 e]))(z:glob S K σ (Str.ofString "len")=some (.bi "len"))(hs:BW S (μ S n) K σ [b1 e]=none)(h:operand (μ S n) K (b1 e) σ=some (.lst l))(ζ:l.length<=16777216):μ S (n+1) K e σ=some (.int l.length):=Qh he z hs h ζ
theorem Ql(he:eY e=some (Str.ofString "len",[b1 e]))(z:glob S K σ (Str.ofString "len")=some (.bi "len"))(hs:(DF [b1 e]).bind (λc=>(oP S K σ c.1).bind λn=>some (n,c.2))=some ("set",b1 (b1 e)))(h:operand (μ S n) K (b1 (b1 e)) σ=some (.lst l))(ζ:l.length+1<4096)(ρ:intsOf l=some ns):μ S (n+1) K e σ=some (.int (unlike ns)):=
 oK he (aa z (dI (π hs λc q ε=>π q λm q j=>aa ε (aa j (wE (h5.mpr (bp Prod.fst (ae q))) (aa ((bp (λy=>operand (μ S n) K y σ) (bp Prod.snd (ae q))).trans h) (aa (a:=l) rfl (wE (cA ζ) (aa ρ rfl)))))))))
theorem Dd(he:eY e=some (Str.ofString "sum",[b1 e]))(z:glob S K σ (Str.ofString "sum")=some (.bi "sum"))(h:operand (μ S n) K (b1 e) σ=some (.lst l))(ζ:l.length<=16777216)(ρ:intsOf l=some ns):μ S (n+1) K e σ=some (.int ns.sum):=Qn he z h ζ ρ
theorem Qf(he:eY e=some (Str.ofString "int",[b1 e]))(z:glob S K σ (Str.ofString "int")=some (.ty "int"))(h:operand (μ S n) K (b1 e) σ=some a)(ω:rT "int" [a]=some d):μ S (n+1) K e σ=some d:=oK he (aa z (c5 rfl (aa (a:=[a]) (aa h rfl) ω)))
theorem C_(he:ug e=some (o5 e,Str.ofString "count",u' e,[b1 e]))(hm:hg (o5 e) (u' e) (pP e)=true)(h:operand (μ S n) K (o5 e) σ=some (.lst l))(z:μ S n K (b1 e) σ=some (.int x))(ρ:intsOf l=some ns):μ S (n+1) K e σ=some (.int (ns.count x:Nat)):=
 (Al he).trans (wE (by rw[hm];rfl) (c5 rfl (c5 rfl (c5 rfl (aa h (aa (a:=[.int x]) (aa z rfl) (dI (aa (a:=l) rfl (aa (a:=D.int x) rfl (aa (a:=x) rfl (aa ρ (dI (wE rfl rfl)))))))))))))
theorem zA(he:ug e=some (o5 e,Str.ofString "index",u' e,[b1 e]))(hm:hg (o5 e) (u' e) (pP e)=true)(h:operand (μ S n) K (o5 e) σ=some (.lst l))(y:μ S n K (b1 e) σ=some (.int x))(ρ:intsOf l=some ns)(ζ:ns.length<=16777216)(z:jF x ns=some j):μ S (n+1) K e σ=some (.int (j:Nat)):=
 (Al he).trans (wE (by rw[hm];rfl) (c5 rfl (c5 rfl (c5 rfl (aa h (aa (a:=[.int x]) (aa y rfl) (dI (aa (a:=l) rfl (aa (a:=D.int x) rfl (aa (a:=x) rfl (aa ρ (c5 rfl (wE (by rw[jO ζ];rfl) (aa z rfl))))))))))))))
end
theorem k9{K:Kinds}(he:pI e=some (.Mult,eC e,eu e))(ε:operand (μ S n) K (eC e) σ=some (.int x))(z:operand (μ S n) K (eu e) σ=some (.int y))(j:x.natAbs<2^64):μ S (n+1) K e σ=some (.int (x*y)):=
 dp he ε z (dI (wE (cA j) rfl))
theorem hP{K:Kinds}(he:pI e=some (.Add,eC e,eu e))(ε:operand (μ S n) K (eC e) σ=some (.int x))(z:operand (μ S n) K (eu e) σ=some (.int y)):μ S (n+1) K e σ=some (.int (x+y)):=dp he ε z rfl
theorem O7{K:Kinds}(he:pI e=some (.Sub,eC e,eu e))(ε:operand (μ S n) K (eC e) σ=some (.int x))(z:operand (μ S n) K (eu e) σ=some (.int y)):μ S (n+1) K e σ=some (.int (x-y)):=dp he ε z rfl
theorem cq{K:Kinds}(z:asName e=none)(h:μ S n K e σ=some d):operand (μ S n) K e σ=some d:=(rL z).trans h
theorem Ll{K:Kinds}{α:Type} f pr g {l:List α}:
 (∀a∈l,∃σ',iR K t (f a) σ=some σ'/\tD j σ' ifs=some (pr a)/\(pr a=true->k σ'=some (g a)))->lQ j K t ifs k σ (l.map f)=some ((l.filter pr).flatMap g):=by
 induction l with
 |nil=>exact λ_=>rfl
 |cons a l z=>
  exact λh=>ν (h a bH) λσ' q=>by
   refine aa q.1 (aa q.2.1 ?_);have z:=z λx u=>h x (b3 _ u);cases y:pr a with
   |false=>rw[y3 (by rw[y];nofun)];exact z
   |true=>rw[y2 y];exact aa (q.2.2 y) (aa z rfl)
theorem EU{K:Kinds}{α:Type} f g {l:List α}
 (h:∀a∈l,∃σ',iR K t (f a) σ=some σ'/\k σ'=some (g a)):lQ y K t [] k σ (l.map f)=some (l.flatMap g):=
 (Ll f (λγ=>true) g λa z=>ν (h a z) λσ' q=>⟨σ',q.1,rfl,λγ=>q.2⟩).trans (by rw[y_.mpr (λγ γ=>rfl)])
theorem g0{K:Kinds}{α:Type} f g {l:List α}
 (h:∀a∈l,∃σ',iR K t (f a) σ=some σ'/\k σ'=some [g a]):lQ z K t [] k σ (l.map f)=some (l.map g):=
 (EU f (λa=>[g a]) h).trans (by rw[KX])
theorem mJ{K:Kinds}{α:Type} f pr g {l:List α}
 (h:∀a∈l,∃σ',iR K t (f a) σ=some σ'/\tD z σ' ifs=some (pr a)/\(pr a=true->k σ'=some [g a])):lQ z K t ifs k σ (l.map f)=some ((l.filter pr).map g):=
 (Ll f pr (λa=>[g a]) h).trans (by rw[KX])
theorem ry l:intsOf (l.map .int)=some l:=by
 induction l with
 |nil=>rfl
 |cons a l z=>exact bp (λo:Option (List Int)=>o.bind λl=>some (a::l)) z
def ED(st:Stmt):Option (Str×Expr):=(lE st).bind j_
def lN(st:Stmt):Expr:=eR ((ED st).bind λc=>some c.2)
theorem Jj{K:Kinds}{st:Stmt}(z:ED st=some (x,lN st))(j:sv st=none)(u:σ.gQ x=some (.own (.lst l)))(h:μ S n K (lN st) σ=some (.lst m))(ζ:l.length+m.length<=16777216):
 aK S (n+1) own K st σ=some (σ.set x (.own (.lst (l++m))),.next):=
 π z λe z ε=>eO ε λq=>Stmt.Expr.elim (motive_2:=λy=>lE y=some e->sv y=none->aK S (n+1) own K y σ=_) st q (λaB p ε j=>by
  rw[<-ae ε] at z;have g:jA aB=none:=j;exact c5 (by rw[g];rfl) (dI (aa (f:=λc=>Ez S n K c.1 c.2 σ) z (aa (a:=.lst l) (aa u rfl) (aa (a:=l) rfl (aa h (aa (a:=m) rfl (wE (jO ζ) rfl)))))))) ε j
def Bw(st:Stmt):Option (Str×Expr×Expr):=(lE st).bind zX
theorem QT{K:Kinds}{st:Stmt}(z:Bw st=some (x,i,y))(h0:(lE st).bind (λe=>alt ((jA e).bind λ_=>some ()) (alt ((j_ e).bind λ_=>some ()) ((eY e).bind λ_=>some ())))=none)
 (r:σ.gQ x=some (.gn ks)) (ρ:μ S n K i σ=some (.int k)) (t:ks.contains k=true) (bq:σ.get (cz k)=some (.own (.lst l))) (v:μ S n K y σ=some d) (ζ:l.length+1<=16777216):
 aK S (n+1) own K st σ=some (σ.set (cz k) (.own (.lst (l++[d]))),.next):=
 π z λe z ε=>eO ε λq=>Stmt.Expr.elim (motive_2:=λj=>lE j=some e->(lE j).bind (λe=>alt ((jA e).bind λ_=>some ()) (alt ((j_ e).bind λ_=>some ()) ((eY e).bind λ_=>some ())))=none->aK S (n+1) own K j σ=_) st q (λaB p ε h0=>by
  rw[<-ae ε] at z;have h0:alt ((jA aB).bind λ_=>some ()) (alt ((j_ aB).bind λ_=>some ()) ((eY aB).bind λ_=>some ()))=none:=h0;have g:jA aB=none:=by
   cases h:jA aB with
   |none=>rfl
   |some c=>rw[h] at h0;exact aQ h0.symm
  rw[g] at h0;have u:j_ aB=none:=by
   cases h:j_ aB with
   |none=>rfl
   |some c=>rw[h] at h0;exact aQ h0.symm
  rw[u] at h0;have κ:eY aB=none:=by
   cases h:eY aB with
   |none=>rfl
   |some c=>rw[h] at h0;exact aQ h0.symm
  exact c5 (by rw[g];rfl) (c5 (by rw[u];rfl) (c5 (by rw[κ];rfl) (aa (f:=λc=>EA S n K c.1 c.2.1 c.2.2 σ) z (aa (a:=ks) (aa r rfl) (aa ρ (aa (a:=k) rfl (wE t (aa (a:=.lst l) (aa bq rfl) (aa (a:=l) rfl (aa v (wE (jO ζ) rfl)))))))))))) ε h0
theorem BN(n:Nat):rN 0 (n:Int) 1=(List.range n).map λk=>D.int ((k:Nat):Int):=by
 unfold rN;have e:(Builtin.Range.rangeSize 0 (n:Int) 1).toNat=n:=by
  rw[rangeSize_one];split<;>lia
 rw[e];refine m5 λk z=>?_
 congr 1;lia
theorem jM{l:List Int}(z:k<l.length)(ζ:l.length<=2^61):index (.lst (l.map .int)) (.int (k:Nat))=some (.int (l.getD k 0)):=
 FY .l (by rw[m8,qH,fi z,hJ,fi z];rfl) (by rw[bt];exact ζ)
end Internal
namespace Internal.cw
open PySem.Float64
noncomputable def a6(n:Int):UInt64:=ofFrac (decide (n<0)) n.natAbs 16384
theorem Right.uniq{neg:Bool}{W D:Nat}(l:0<D)(h:Right r neg W D)(h':Right U neg W D):r=U:=by
 obtain⟨t,e,ζ,f,R⟩:=h;obtain⟨j,aB,Y,p,T⟩:=h'
 suffices h:t=j by rw[e,aB,h]
 by_cases ρ:t=infMag
 ·rw[ρ];exact(p.mpr (f.mp ρ)).symm
 ·have Q:j≠infMag:=λq=>ρ (f.mpr (p.mp q));have n:=R (tP ζ ρ);have Z:=T (tP Y Q);have key:∀a b:Nat,a<b->(∀j,dist W (D*V a)<=dist W (D*V j)/\(V j≠V a->dist W (D*V a)=dist W (D*V j)->a%2=0))->(∀j,dist W (D*V b)<=dist W (D*V j)/\(V j≠V b->dist W (D*V b)=dist W (D*V j)->b%2=0))->False:=by
   intro a b i g9 k6;have v1:=V_lt i;have u:dist W (D*V a)=dist W (D*V b):=mn (g9 b).1 (k6 a).1;have k_:=(g9 b).2 (i7 v1) u;have la:=(k6 a).2 (fQ v1) u.symm;have v2:V a<V (a+1):=V_lt (iH a);have v:V (a+1)<V b:=V_lt (tP i λe=>by
    rw[<-e,n8,k_] at la;exact absurd la .d)
   have c1:D*V a<D*V (a+1):=Nat.mul_lt_mul_of_pos_left v2 l;have c2:D*V (a+1)<D*V b:=Nat.mul_lt_mul_of_pos_left v l;have g:=(g9 (a+1)).1;generalize D*V a=x at*;generalize D*V (a+1)=y at*;generalize D*V b=z at*;unfold dist at u g;rcases Nat.le_total W y with q|q
   ·rw[Ct q,hr] at g;exact absurd (c7 (Il q c2) (aJ (nc _ (W-z)) (u▸g))) (lz _)
   ·rw[Ct q] at g;exact absurd (c7 (Nat.sub_lt_sub_left (c7 c1 q) c1) (aJ (c8 _ (x-W)) g)) (lz _)
  rcases CK t j with h|h|h
  ·exact(key t j h n Z).elim
  ·exact h
  ·exact(key j t h Z n).elim
theorem EK{neg:Bool}(κ:0<c)(z:0<b):ofFrac neg (c*a) (c*b)=ofFrac neg a b:=
 Right.uniq (W:=a*2^1074) (D:=b) z (ofFrac_right (mi κ z) (by generalize (2:Nat)^1074=K;ac_rfl) z) (ofFrac_right z (by generalize (2:Nat)^1074=K;ac_rfl) z)
theorem qaC:(2:Nat)^1074=2^1060*16384:=by rw[show(1074:Nat)=1060+14 from rfl,Nat.pow_add]
theorem EN neg N:Right (ofFrac neg N 16384) neg (N*2^1060) 1:=ofFrac_right .d (by rewrite [qaC];generalize (2:Nat)^1060=K;ac_rfl) .d
theorem fits(h0:N≠0)(h:N<=2^52):∃t,V t=N*2^1060:=by
 have bU:2^N.log2<=N:=Nat.log2_self_le h0;have bR:N<2^(N.log2+1):=Nat.lt_log2_self;have z:N.log2<=52:=Nat.le_of_not_lt λq=>absurd (aJ (aJ (Nat.pow_le_pow_right .d q) bU) h) .d;generalize N.log2=L at*;refine⟨(1008+L)*2^52+N*2^(52-L),?_⟩;rw[V_at]
 ·rw[tX,<-Nat.pow_add,show 52-L+(1008+L)=1060 by rw[mf 1008,<-qK,CG z]]
 ·have:N*2^(52-L)<=2^(L+1)*2^(52-L):=r0 _ (dy bR);rwa [<-Nat.pow_add,show L+1+(52-L)=53 by rw[lu,Iy z]] at this
 ·left;have:2^L*2^(52-L)<=N*2^(52-L):=r0 _ bU;rwa [<-Nat.pow_add,Iy z] at this
theorem qbE(h:N<=2^52):¬(1*((2^54-1)*2^2045)<=2*(N*2^1060)):=by
 intro q;have ε:2*(N*2^1060)<=2*(2^52*2^1060):=j1 2 (r0 _ h);exact absurd (aJ q ε) (by decide+kernel)
theorem oL(h:n.natAbs<=2^52):(∃m e,decode (a6 n)=.fin (decide (n<0)) m e)/\val (a6 n)=n*((2^1060:Nat):Int):=by
 by_cases h0:n=0
 ·subst h0;have e:decode (a6 0)=.fin false 0 (-1074):=.k;refine⟨⟨0,-1074,e⟩,?_⟩;rw[val_eq e,Int.zero_mul];rfl
 ·obtain⟨t,e,ζ,g,r⟩:=EN (decide (n<0)) n.natAbs;have u:n.natAbs≠0:=λq=>h0 (Int.natAbs_eq_zero.mp q);have y:t<infMag:=tP ζ λq=>qbE h (g.mp q);obtain⟨t0,j⟩:=fits u h;have hd:=(r y t0).1;have p:V t=n.natAbs*2^1060:=by
   rw[j] at hd;generalize n.natAbs*2^1060=W at*;generalize V t=v at*;unfold dist at hd;rw[wc,wc,Nat.sub_self,hr,wd,Nat.add_eq_zero_iff] at hd;exact mn (Ik hd.2) (Ik hd.1)
  obtain⟨m,f,hm,_⟩:=decode_pack (decide (n<0)) y;have aB:a6 n=pack (decide (n<0)) t:=e;refine⟨⟨m,f,by rw[aB];exact hm⟩,?_⟩;rw[aB,val_pack _ y,p,sgn_mul]
  congr 1
  unfold sgn
  by_cases z:n<0
  ·rw[cA z,au rfl,Int.ofNat_natAbs_of_nonpos (h3 z),Int.neg_neg]
  ·rw[gE z];exact Cy (gu.mp z)
theorem Az:(n*((2^1060:Nat):Int)).natAbs=n.natAbs*2^1060:=by rw[CW,Int.natAbs_natCast]
theorem wm:(0:Int)<((2^1060:Nat):Int):=hL.mpr (Nat.two_pow_pos _)
theorem t_:n*((2^1060:Nat):Int)=0↔n=0:=⟨λh=>(Int.mul_eq_zero.mp h).elim id λq=>absurd q (zq wm),λh=>by rw[h,Int.zero_mul]⟩
theorem I2:decide (n*((2^1060:Nat):Int)<0)=decide (n<0):=by
 apply zj.mpr;exact⟨λh=>zw.mp λq=>absurd (Int.mul_nonneg q (h3 wm)) (zw.mpr h),λh=>Int.mul_neg_of_neg_of_pos h wm⟩
theorem K7:zero false=a6 0:=.k
theorem EM(g:a.natAbs<=2^52)(u:b.natAbs<=2^52):add (a6 a) (a6 b)=a6 (a+b):=by
 obtain⟨⟨m,e,j⟩,z⟩:=oL g;obtain⟨⟨k,f,db⟩,y⟩:=oL u;have R:=add_right j db;rw[z,y,<-Int.add_mul] at R
 by_cases h:a+b=0
 ·rw[R.1 (t_.mpr h),h,<-K7]
  congr 1
  by_cases q:a<0
  ·rw[cA q,gE λr=>absurd h (Int.ne_of_lt (Int.add_lt_add q r))];rfl
  ·rw[gE q];rfl
 ·have R:=R.2 (λq=>h (t_.mp q));rw[I2,Az] at R;exact Right.uniq .d R (EN _ _)
theorem K6(g:a.natAbs<=2^52)(u:b.natAbs<=2^52):sub (a6 a) (a6 b)=a6 (a-b):=by
 obtain⟨⟨m,e,j⟩,z⟩:=oL g;obtain⟨⟨k,f,db⟩,y⟩:=oL u;have R:=sub_right j db;rw[z,y,<-Int.sub_mul] at R
 by_cases h:a-b=0
 ·rw[R.1 (t_.mpr h),h,<-K7]
  congr 1
  rw[Int.sub_eq_zero.mp h];cases decide (b<0)<;>rfl
 ·have R:=R.2 (λq=>h (t_.mp q));rw[I2,Az] at R;exact Right.uniq .d R (EN _ _)
theorem K4(u:a.natAbs<=2^52)(v:b.natAbs<=2^52)(h:0<b):div (a6 a) (a6 b)=ofFrac (decide (a<0)) a.natAbs b.natAbs:=by
 obtain⟨⟨m,e,g⟩,j⟩:=oL u;obtain⟨⟨k,f,db⟩,y⟩:=oL v;rw[gE (gu.mpr (h3 h))] at db;have p:k≠0:=by
  intro q;rw[val_eq db,q,Nat.zero_mul] at y;exact zq h (t_.mp (show b*((2^1060:Nat):Int)=0 from y.symm))
 have R:=div_right g db p;rw[j,y,Az,Az,Bool.bne_false] at R;have z:0<b.natAbs:=Int.natAbs_pos.mpr (zq h);exact Right.uniq (mi z (Nat.two_pow_pos _)) R (ofFrac_right z (by generalize (2:Nat)^1060=K;generalize (2:Nat)^1074=L;ac_rfl) (mi z (Nat.two_pow_pos _)))
theorem VK(q:a.natAbs<=2^52)(g:b.natAbs<=2^52):cmp (a6 a) (a6 b)=some (compare a b):=by
 obtain⟨⟨m,e,j⟩,z⟩:=oL q;obtain⟨⟨k,f,db⟩,y⟩:=oL g;rw[cmp_right j db,z,y];rcases Int.lt_trichotomy a b with h|h|h
 ·rw[Int.compare_eq_lt.mpr h,Int.compare_eq_lt.mpr (Int.mul_lt_mul_of_pos_right h wm)]
 ·subst h;simp
 ·rw[Int.compare_eq_gt.mpr h,Int.compare_eq_gt.mpr (Int.mul_lt_mul_of_pos_right h wm)]
theorem K5(y:a.natAbs<=2^52):Float64.isNaN (a6 a)=false:=by
 obtain⟨⟨m,e,z⟩,j⟩:=oL y;unfold Float64.isNaN;rw[z]
theorem VL(j:a.natAbs<=2^52)(h:a≠0):isZero (a6 a)=false:=by
 obtain⟨⟨m,e,y⟩,z⟩:=oL j;unfold isZero;rw[y];cases m with
 |zero=>
  rw[val_eq y,Nat.zero_mul] at z;have q:=t_.mp (show a*((2^1060:Nat):Int)=0 by rw[<-z];unfold sgn;split<;>rfl);exact absurd q h
 |succ m=>rfl
theorem cmp_self(h:decode x=.fin a m e):cmp x x=some .eq:=by rw[cmp_right h h,Int.compare_eq_eq.mpr rfl]
theorem Vw{neg:Bool}(hd:0<d)(z:n<2^1023):∃m e,decode (ofFrac neg n d)=.fin neg m e:=by
 have h:roundMag n d<infMag:=tP (by rw[roundMag_min];exact n4 ..) λq=>PySem.Flt.quot_fits (sg:=neg) hd z (by
  unfold ofFrac;rw[q];cases neg<;>kernel_rfl)
 obtain⟨m,e,ε,_⟩:=decode_pack neg h;exact⟨m,e,by unfold ofFrac;exact ε⟩
end Internal.cw
namespace Internal.e8
def f1:UInt64:=cj 1 1
def f2:UInt64:=cj 2 1
def f4:UInt64:=cj 4 1
def xk:UInt64:=cj 6 1
def dX(r g b:UInt64):UInt64:=mI Float64.gt r [g,b]
def fJ(r g b:UInt64):UInt64:=mI Float64.lt r [g,b]
noncomputable abbrev θ(x:UInt64):Option aC:=ξ (.υ x)
noncomputable def dK(r g b:UInt64)(z y j v s rc q u h:Option aC:=none):Γ:=[("r",θ r),("g",θ g),("b",θ b),("maxc",z),("minc",y),("rangec",j),("v",v),("s",s),("rc",rc),("gc",q),("bc",u),("h",h)]
def uY(r g z rc y j:UInt64):Option UInt64:=match e' .Eq (.υ r) (.υ z) with
 |some true=>some (Float64.sub j y)
 |some false=>(match e' .Eq (.υ g) (.υ z) with
  |some true=>some (Float64.sub (Float64.add f2 rc) j)
  |some false=>some (Float64.sub (Float64.add f4 y) rc)
  |none=>none)
 |none=>none
def tE(h:UInt64):UInt64:=(Float64.divmod (Float64.div h xk) f1).2
section
variable(k:Nat)(r g b:UInt64)
noncomputable abbrev gR:=gm "rgb_to_hsv"
abbrev d6(i:Nat):Stmt:=sB "rgb_to_hsv" i
theorem Me:lJ "rgb_to_hsv" =[d6 0,d6 1,d6 2,d6 3,d6 4,d6 5,d6 6,d6 7,d6 8,d6 9,d6 10,d6 11]:=.k
theorem Xw s rc q v h (bu:e' .Eq (.υ (fJ r g b)) (.υ (dX r g b))=some false) (n:binop .Div (.υ (Float64.sub (dX r g b) (fJ r g b))) (.υ (dX r g b))=some (.υ s))
 (x:binop .Div (.υ (Float64.sub (dX r g b) r)) (.υ (Float64.sub (dX r g b) (fJ r g b)))=some (.υ rc)) (T:binop .Div (.υ (Float64.sub (dX r g b) g)) (.υ (Float64.sub (dX r g b) (fJ r g b)))=some (.υ q))
 (U:binop .Div (.υ (Float64.sub (dX r g b) b)) (.υ (Float64.sub (dX r g b) (fJ r g b)))=some (.υ v)) (p:uY r g (dX r g b) rc q v=some h):
 fn (k+1) "rgb_to_hsv" [.υ r,.υ g,.υ b]=some (.tup [.υ (tE h),.υ s,.υ (dX r g b)]):=by
 have i:fn (k+1) "rgb_to_hsv" [.υ r,.υ g,.υ b]=((bw (S k) 60 [] gR (lJ "rgb_to_hsv") (dK r g b)).bind λr=>jX r.2):=.k;have s0:aK (S k) 59 [] gR (d6 0) (dK r g b)=some (dK r g b (θ (dX r g b)),.next):=.k;have s1:∀z,aK (S k) 58 [] gR (d6 1) (dK r g b z)=some (dK r g b z (θ (fJ r g b)),.next):=λz=>by kernel_rfl
 have s2:∀z y,aK (S k) 57 [] gR (d6 2) (dK r g b (θ z) (θ y))=some (dK r g b (θ z) (θ y) (θ (Float64.sub z y)),.next):=λz y=>by kernel_rfl
 have s3:∀z y j,aK (S k) 56 [] gR (d6 3) (dK r g b (θ z) (θ y) (θ j))=some (dK r g b (θ z) (θ y) (θ j) (θ z),.next):=λz y j=>by kernel_rfl
 generalize dX r g b=z at*;generalize fJ r g b=y at*;generalize V:Float64.sub z y=j at*
 have s4:aK (S k) 55 [] gR (d6 4) (dK r g b (θ z) (θ y) (θ j) (θ z))=some (dK r g b (θ z) (θ y) (θ j) (θ z),.next):=by
  have t:b9 (S k) 54 gR (aO (d6 4)) (dK r g b (θ z) (θ y) (θ j) (θ z))=some false:=
   e_ .k (fl (op:=.Eq) (a:=.υ y) (b:=.υ z) .k .k .k .k bu)
  rw[gG (c:=false) .k t,show(if false=true then gN (d6 4) else fG (d6 4))=[] from .k,eG]
 have s5:aK (S k) 54 [] gR (d6 5) (dK r g b (θ z) (θ y) (θ j) (θ z))=some (dK r g b (θ z) (θ y) (θ j) (θ z) (θ s),.next):=by
  rw[fB (d:=.υ s) .k .k (dp (op:=.Div) .k .k .k n)]
  kernel_rfl
 have Y:aK (S k) 53 [] gR (d6 6) (dK r g b (θ z) (θ y) (θ j) (θ z) (θ s))=some (dK r g b (θ z) (θ y) (θ j) (θ z) (θ s) (θ rc),.next):=by
  rw[fB (d:=.υ rc) .k .k (dp (op:=.Div) .k .k .k x)]
  kernel_rfl
 have W:aK (S k) 52 [] gR (d6 7) (dK r g b (θ z) (θ y) (θ j) (θ z) (θ s) (θ rc))=some (dK r g b (θ z) (θ y) (θ j) (θ z) (θ s) (θ rc) (θ q),.next):=by
  rw[fB (d:=.υ q) .k .k (dp (op:=.Div) .k .k .k T)]
  kernel_rfl
 have Z:aK (S k) 51 [] gR (d6 8) (dK r g b (θ z) (θ y) (θ j) (θ z) (θ s) (θ rc) (θ q))=some (dK r g b (θ z) (θ y) (θ j) (θ z) (θ s) (θ rc) (θ q) (θ v),.next):=by
  rw[fB (d:=.υ v) .k .k (dp (op:=.Div) .k .k .k U)]
  kernel_rfl
 have P:aK (S k) 50 [] gR (d6 9) (dK r g b (θ z) (θ y) (θ j) (θ z) (θ s) (θ rc) (θ q) (θ v))=some (dK r g b (θ z) (θ y) (θ j) (θ z) (θ s) (θ rc) (θ q) (θ v) (θ h),.next):=by
  unfold uY at p
  have t1:∀c,e' .Eq (.υ r) (.υ z)=some c->b9 (S k) 49 gR (aO (d6 9)) (dK r g b (θ z) (θ y) (θ j) (θ z) (θ s) (θ rc) (θ q) (θ v))=some c:=λc κ=>
   e_ .k (fl (op:=.Eq) (a:=.υ r) (b:=.υ z) .k .k .k .k κ)
  have bP:∀c,e' .Eq (.υ g) (.υ z)=some c->b9 (S k) 47 gR (aO (d9 (fG (d6 9)) 0)) (dK r g b (θ z) (θ y) (θ j) (θ z) (θ s) (θ rc) (θ q) (θ v))=some c:=λc κ=>
   e_ .k (fl (op:=.Eq) (a:=.υ g) (b:=.υ z) .k .k .k .k κ)
  cases f:e' .Eq (.υ r) (.υ z) with
  |none=>rw[f] at p;exact aQ p
  |some c1=>
   rw[f] at p;rw[gG (c:=c1) .k (t1 c1 f)];cases c1 with
   |true=>
    have:=ae p;subst this
    kernel_rfl
   |false=>
    cases e:e' .Eq (.υ g) (.υ z) with
    |none=>rw[e] at p;exact aQ p
    |some c2=>
     rw[e] at p;rw[show(if false=true then gN (d6 9) else fG (d6 9))=[d9 (fG (d6 9)) 0] from .k]
     have u:aK (S k) 48 [] gR (d9 (fG (d6 9)) 0) (dK r g b (θ z) (θ y) (θ j) (θ z) (θ s) (θ rc) (θ q) (θ v))=some (dK r g b (θ z) (θ y) (θ j) (θ z) (θ s) (θ rc) (θ q) (θ v) (θ h),.next):=by
      rw[gG (c:=c2) .k (bP c2 e)];cases c2 with
      |true=>
       have:=ae p;subst this
       kernel_rfl
      |false=>
       have:=ae p;subst this
       kernel_rfl
     rw[bj u,eG]
 have Q:aK (S k) 49 [] gR (d6 10) (dK r g b (θ z) (θ y) (θ j) (θ z) (θ s) (θ rc) (θ q) (θ v) (θ h))=some (dK r g b (θ z) (θ y) (θ j) (θ z) (θ s) (θ rc) (θ q) (θ v) (θ (tE h)),.next):=.k;have R:∀t,aK (S k) 48 [] gR (d6 11) (dK r g b (θ z) (θ y) (θ j) (θ z) (θ s) (θ rc) (θ q) (θ v) (θ t))=some (dK r g b (θ z) (θ y) (θ j) (θ z) (θ s) (θ rc) (θ q) (θ v) (θ t),.ret (.tup [.υ t,.υ s,.υ z])):=λt=>by kernel_rfl
 have l:=s2 z y;rw[V] at l;rw[i,Me,bj s0,bj (s1 _),bj l,bj (s3 _ _ _),bj s4,bj s5,bj Y,bj W,bj Z,bj P,bj Q,mH (R _)];rfl
end
def xl:UInt64:=cj 1 2
noncomputable def cY(r g b:UInt64)(y j z q l s rc u v h:Option aC:=none):Γ:=[("r",θ r),("g",θ g),("b",θ b),("maxc",y),("minc",j),("sumc",z),("rangec",q),("l",l),("s",s),("rc",rc),("gc",u),("bc",v),("h",h)]
def BV(j y q z l:UInt64):Option D:=match e' .LtE (.υ l) (.υ xl) with
 |some true=>binop .Div (.υ z) (.υ q)
 |some false=>binop .Div (.υ z) (.υ (Float64.sub (Float64.sub f2 j) y))
 |none=>none
section
variable(k:Nat)(r g b:UInt64)
noncomputable abbrev fI:=gm "rgb_to_hls"
abbrev cZ(i:Nat):Stmt:=sB "rgb_to_hls" i
theorem LX:lJ "rgb_to_hls" =[cZ 0,cZ 1,cZ 2,cZ 3,cZ 4,cZ 5,cZ 6,cZ 7,cZ 8,cZ 9,cZ 10,cZ 11,cZ 12]:=.k
theorem W4 l s rc v p h (ζ:Float64.div (Float64.add (dX r g b) (fJ r g b)) f2=l) (bu:e' .Eq (.υ (fJ r g b)) (.υ (dX r g b))=some false) (i:BV (dX r g b) (fJ r g b) (Float64.add (dX r g b) (fJ r g b)) (Float64.sub (dX r g b) (fJ r g b)) l=some (.υ s))
 (U:binop .Div (.υ (Float64.sub (dX r g b) r)) (.υ (Float64.sub (dX r g b) (fJ r g b)))=some (.υ rc)) (L:binop .Div (.υ (Float64.sub (dX r g b) g)) (.υ (Float64.sub (dX r g b) (fJ r g b)))=some (.υ v))
 (N:binop .Div (.υ (Float64.sub (dX r g b) b)) (.υ (Float64.sub (dX r g b) (fJ r g b)))=some (.υ p)) (e:uY r g (dX r g b) rc v p=some h):
 fn (k+1) "rgb_to_hls" [.υ r,.υ g,.υ b]=some (.tup [.υ (tE h),.υ l,.υ s]):=by
 have V:fn (k+1) "rgb_to_hls" [.υ r,.υ g,.υ b]=((bw (S k) 60 [] fI (lJ "rgb_to_hls") (cY r g b)).bind λr=>jX r.2):=.k;have s0:aK (S k) 59 [] fI (cZ 0) (cY r g b)=some (cY r g b (θ (dX r g b)),.next):=.k;have s1:∀z,aK (S k) 58 [] fI (cZ 1) (cY r g b z)=some (cY r g b z (θ (fJ r g b)),.next):=λz=>by kernel_rfl
 have s2:∀z y,aK (S k) 57 [] fI (cZ 2) (cY r g b (θ z) (θ y))=some (cY r g b (θ z) (θ y) (θ (Float64.add z y)),.next):=λz y=>by kernel_rfl
 have s3:∀z y j,aK (S k) 56 [] fI (cZ 3) (cY r g b (θ z) (θ y) (θ j))=some (cY r g b (θ z) (θ y) (θ j) (θ (Float64.sub z y)),.next):=λz y j=>by kernel_rfl
 have W:∀z y j q,aK (S k) 55 [] fI (cZ 4) (cY r g b (θ z) (θ y) (θ j) (θ q))=some (cY r g b (θ z) (θ y) (θ j) (θ q) (θ (Float64.div j f2)),.next):=λz y j q=>by kernel_rfl
 generalize dX r g b=z at*;generalize fJ r g b=y at*;generalize T:Float64.add z y=j at*;generalize O:Float64.sub z y=q at*
 have s4:aK (S k) 54 [] fI (cZ 5) (cY r g b (θ z) (θ y) (θ j) (θ q) (θ l))=some (cY r g b (θ z) (θ y) (θ j) (θ q) (θ l),.next):=by
  have t:b9 (S k) 53 fI (aO (cZ 5)) (cY r g b (θ z) (θ y) (θ j) (θ q) (θ l))=some false:=
   e_ .k (fl (op:=.Eq) (a:=.υ y) (b:=.υ z) .k .k .k .k bu)
  rw[gG (c:=false) .k t,show(if false=true then gN (cZ 5) else fG (cZ 5))=[] from .k,eG]
 have s5:aK (S k) 53 [] fI (cZ 6) (cY r g b (θ z) (θ y) (θ j) (θ q) (θ l))=some (cY r g b (θ z) (θ y) (θ j) (θ q) (θ l) (θ s),.next):=by
  unfold BV at i
  have t1:∀c,e' .LtE (.υ l) (.υ xl)=some c->b9 (S k) 52 fI (aO (cZ 6)) (cY r g b (θ z) (θ y) (θ j) (θ q) (θ l))=some c:=λc κ=>
   e_ .k (fl (op:=.LtE) (a:=.υ l) (b:=.υ xl) .k .k .k .k κ)
  cases f:e' .LtE (.υ l) (.υ xl) with
  |none=>rw[f] at i;exact aQ i
  |some c1=>
   rw[f] at i;rw[gG (c:=c1) .k (t1 c1 f)];cases c1 with
   |true=>
    rw[show(if true=true then gN (cZ 6) else fG (cZ 6))=[d9 (gN (cZ 6)) 0] from .k]
    have u:aK (S k) 51 [] fI (d9 (gN (cZ 6)) 0) (cY r g b (θ z) (θ y) (θ j) (θ q) (θ l))=some (cY r g b (θ z) (θ y) (θ j) (θ q) (θ l) (θ s),.next):=by
     rw[fB (d:=.υ s) .k .k (dp (op:=.Div) .k .k .k i)]
     kernel_rfl
    rw[bj u,eG]
   |false=>
    rw[show(if false=true then gN (cZ 6) else fG (cZ 6))=[d9 (fG (cZ 6)) 0] from .k]
    have u:aK (S k) 51 [] fI (d9 (fG (cZ 6)) 0) (cY r g b (θ z) (θ y) (θ j) (θ q) (θ l))=some (cY r g b (θ z) (θ y) (θ j) (θ q) (θ l) (θ s),.next):=by
     rw[fB (d:=.υ s) .k .k (dp (op:=.Div) .k .k .k i)]
     kernel_rfl
    rw[bj u,eG]
 have R:aK (S k) 52 [] fI (cZ 7) (cY r g b (θ z) (θ y) (θ j) (θ q) (θ l) (θ s))=some (cY r g b (θ z) (θ y) (θ j) (θ q) (θ l) (θ s) (θ rc),.next):=by
  rw[fB (d:=.υ rc) .k .k (dp (op:=.Div) .k .k .k U)]
  kernel_rfl
 have P:aK (S k) 51 [] fI (cZ 8) (cY r g b (θ z) (θ y) (θ j) (θ q) (θ l) (θ s) (θ rc))=some (cY r g b (θ z) (θ y) (θ j) (θ q) (θ l) (θ s) (θ rc) (θ v),.next):=by
  rw[fB (d:=.υ v) .k .k (dp (op:=.Div) .k .k .k L)]
  kernel_rfl
 have Q:aK (S k) 50 [] fI (cZ 9) (cY r g b (θ z) (θ y) (θ j) (θ q) (θ l) (θ s) (θ rc) (θ v))=some (cY r g b (θ z) (θ y) (θ j) (θ q) (θ l) (θ s) (θ rc) (θ v) (θ p),.next):=by
  rw[fB (d:=.υ p) .k .k (dp (op:=.Div) .k .k .k N)]
  kernel_rfl
 have F:aK (S k) 49 [] fI (cZ 10) (cY r g b (θ z) (θ y) (θ j) (θ q) (θ l) (θ s) (θ rc) (θ v) (θ p))=some (cY r g b (θ z) (θ y) (θ j) (θ q) (θ l) (θ s) (θ rc) (θ v) (θ p) (θ h),.next):=by
  unfold uY at e
  have t1:∀c,e' .Eq (.υ r) (.υ z)=some c->b9 (S k) 48 fI (aO (cZ 10)) (cY r g b (θ z) (θ y) (θ j) (θ q) (θ l) (θ s) (θ rc) (θ v) (θ p))=some c:=λc κ=>
   e_ .k (fl (op:=.Eq) (a:=.υ r) (b:=.υ z) .k .k .k .k κ)
  have bP:∀c,e' .Eq (.υ g) (.υ z)=some c->b9 (S k) 46 fI (aO (d9 (fG (cZ 10)) 0)) (cY r g b (θ z) (θ y) (θ j) (θ q) (θ l) (θ s) (θ rc) (θ v) (θ p))=some c:=λc κ=>
   e_ .k (fl (op:=.Eq) (a:=.υ g) (b:=.υ z) .k .k .k .k κ)
  cases f:e' .Eq (.υ r) (.υ z) with
  |none=>rw[f] at e;exact aQ e
  |some c1=>
   rw[f] at e;rw[gG (c:=c1) .k (t1 c1 f)];cases c1 with
   |true=>
    have:=ae e;subst this
    kernel_rfl
   |false=>
    cases n:e' .Eq (.υ g) (.υ z) with
    |none=>rw[n] at e;exact aQ e
    |some c2=>
     rw[n] at e;rw[show(if false=true then gN (cZ 10) else fG (cZ 10))=[d9 (fG (cZ 10)) 0] from .k]
     have u:aK (S k) 47 [] fI (d9 (fG (cZ 10)) 0) (cY r g b (θ z) (θ y) (θ j) (θ q) (θ l) (θ s) (θ rc) (θ v) (θ p))=some (cY r g b (θ z) (θ y) (θ j) (θ q) (θ l) (θ s) (θ rc) (θ v) (θ p) (θ h),.next):=by
      rw[gG (c:=c2) .k (bP c2 n)];cases c2 with
      |true=>
       have:=ae e;subst this
       kernel_rfl
      |false=>
       have:=ae e;subst this
       kernel_rfl
     rw[bj u,eG]
 have I:aK (S k) 48 [] fI (cZ 11) (cY r g b (θ z) (θ y) (θ j) (θ q) (θ l) (θ s) (θ rc) (θ v) (θ p) (θ h))=some (cY r g b (θ z) (θ y) (θ j) (θ q) (θ l) (θ s) (θ rc) (θ v) (θ p) (θ (tE h)),.next):=.k;have H:∀t,aK (S k) 47 [] fI (cZ 12) (cY r g b (θ z) (θ y) (θ j) (θ q) (θ l) (θ s) (θ rc) (θ v) (θ p) (θ t))=some (cY r g b (θ z) (θ y) (θ j) (θ q) (θ l) (θ s) (θ rc) (θ v) (θ p) (θ t),.ret (.tup [.υ t,.υ l,.υ s])):=λt=>by kernel_rfl
 have Y:=s2 z y;rw[T] at Y;have x:=s3 z y j;rw[O] at x;have Z:=W z y j q;rw[ζ] at Z;rw[V,LX,bj s0,bj (s1 _),bj Y,bj x,bj Z,bj s4,bj s5,bj R,bj P,bj Q,bj F,bj I,mH (H _)];rfl
end
noncomputable def ip(h s v:UInt64)(i f p q t:Option aC:=none):Γ:=[("h",θ h),("s",θ s),("v",θ v),("i",i),("f",f),("p",p),("q",q),("t",t)]
def BH(s v:UInt64):UInt64:=Float64.mul v (Float64.sub f1 s)
def BM(s v f:UInt64):UInt64:=Float64.mul v (Float64.sub f1 (Float64.mul s f))
def B6(s v f:UInt64):UInt64:=Float64.mul v (Float64.sub f1 (Float64.mul s (Float64.sub f1 f)))
noncomputable def Oh(i:Nat)(v p q t:UInt64):UInt64×UInt64×UInt64:=match i with
 |0=>(v,t,p)|1=>(q,v,p)|2=>(p,v,t)|3=>(p,q,v)|4=>(t,p,v)|_=>(v,p,q)
section
variable(k:Nat)(h s v:UInt64)
noncomputable abbrev nV:=gm "hsv_to_rgb"
abbrev fg(i:Nat):Stmt:=sB "hsv_to_rgb" i
theorem Xm:lJ "hsv_to_rgb" =[fg 0,fg 1,fg 2,fg 3,fg 4,fg 5,fg 6,fg 7,fg 8,fg 9,fg 10,fg 11,fg 12]:=.k
noncomputable def Og(x:UInt64×UInt64×UInt64):D:=.tup [.υ x.1,.υ x.2.1,.υ x.2.2]
theorem qaU i (j:Nat) f (h0:e' .Eq (.υ s) (.υ (cj 0 1))=some false) (ε:rT "int" [.υ (Float64.mul h xk)]=some (.int i)) (n:binop .Sub (.υ (Float64.mul h xk)) (.int i)=some (.υ f)) (e:Int.fmod i 6=(j:Int)) (y:j<6):
 fn (k+1) "hsv_to_rgb" [.υ h,.υ s,.υ v]=some (Og (Oh j v (BH s v) (BM s v f) (B6 s v f))):=by
 have z:fn (k+1) "hsv_to_rgb" [.υ h,.υ s,.υ v]=((bw (S k) 60 [] nV (lJ "hsv_to_rgb") (ip h s v)).bind λr=>jX r.2):=.k
 have s0:aK (S k) 59 [] nV (fg 0) (ip h s v)=some (ip h s v,.next):=by
  have t:b9 (S k) 58 nV (aO (fg 0)) (ip h s v)=some false:=
   e_ .k (fl (op:=.Eq) (a:=.υ s) (b:=.υ (cj 0 1)) .k .k .k .k h0)
  rw[gG (c:=false) .k t,show(if false=true then gN (fg 0) else fG (fg 0))=[] from .k,eG]
 have s1:aK (S k) 58 [] nV (fg 1) (ip h s v)=some (ip h s v (ο i),.next):=by
  have u:μ (S k) 57 nV (aO (fg 1)) (ip h s v)=some (.int i):=Qf .k .k .k ε;rw[fB (d:=.int i) .k .k u]
  kernel_rfl
 have s2:aK (S k) 57 [] nV (fg 2) (ip h s v (ο i))=some (ip h s v (ο i) (θ f),.next):=by
  rw[fB (d:=.υ f) .k .k (dp (op:=.Sub) .k .k .k n)]
  kernel_rfl
 have s3:aK (S k) 56 [] nV (fg 3) (ip h s v (ο i) (θ f))=some (ip h s v (ο i) (θ f) (θ (BH s v)),.next):=.k;have s4:∀p,aK (S k) 55 [] nV (fg 4) (ip h s v (ο i) (θ f) p)=some (ip h s v (ο i) (θ f) p (θ (BM s v f)),.next):=λp=>by kernel_rfl
 have s5:∀p q,aK (S k) 54 [] nV (fg 5) (ip h s v (ο i) (θ f) p q)=some (ip h s v (ο i) (θ f) p q (θ (B6 s v f)),.next):=λp q=>by kernel_rfl
 have g:∀p q t,aK (S k) 53 [] nV (fg 6) (ip h s v (ο i) (θ f) p q t)=some (ip h s v (ο j) (θ f) p q t,.next):=λp q t=>by
  have:aK (S k) 53 [] nV (fg 6) (ip h s v (ο i) (θ f) p q t)=some (ip h s v (ο (Int.fmod i 6)) (θ f) p q t,.next):=.k;rw[this,e]
 generalize BH s v=p at*;generalize BM s v f=q at*;generalize B6 s v f=t at*;rw[z,Xm,bj s0,bj s1,bj s2,bj s3,bj (s4 _),bj (s5 _ _),bj (g _ _ _)];have κ:j=0∨j=1∨j=2∨j=3∨j=4∨j=5:=.l;rcases κ with rfl|rfl|rfl|rfl|rfl|rfl<;>kernel_rfl
end
open Internal.cw
section
variable(k:Nat)(r g b:UInt64)
theorem Xv(bu:e' .Eq (.υ (fJ r g b)) (.υ (dX r g b))=some true):fn (k+1) "rgb_to_hsv" [.υ r,.υ g,.υ b]=some (.tup [.υ (cj 0 1),.υ (cj 0 1),.υ (dX r g b)]):=by
 have q:fn (k+1) "rgb_to_hsv" [.υ r,.υ g,.υ b]=((bw (S k) 60 [] gR (lJ "rgb_to_hsv") (dK r g b)).bind λr=>jX r.2):=.k;have s0:aK (S k) 59 [] gR (d6 0) (dK r g b)=some (dK r g b (θ (dX r g b)),.next):=.k;have s1:∀z,aK (S k) 58 [] gR (d6 1) (dK r g b z)=some (dK r g b z (θ (fJ r g b)),.next):=λz=>by kernel_rfl
 have s2:∀z y,aK (S k) 57 [] gR (d6 2) (dK r g b (θ z) (θ y))=some (dK r g b (θ z) (θ y) (θ (Float64.sub z y)),.next):=λz y=>by kernel_rfl
 have s3:∀z y j,aK (S k) 56 [] gR (d6 3) (dK r g b (θ z) (θ y) (θ j))=some (dK r g b (θ z) (θ y) (θ j) (θ z),.next):=λz y j=>by kernel_rfl
 generalize dX r g b=z at*;generalize fJ r g b=y at*;generalize u:Float64.sub z y=j at*;have s4:aK (S k) 55 [] gR (d6 4) (dK r g b (θ z) (θ y) (θ j) (θ z))=some (dK r g b (θ z) (θ y) (θ j) (θ z),.ret (.tup [.υ (cj 0 1),.υ (cj 0 1),.υ z])):=by
  have t:b9 (S k) 54 gR (aO (d6 4)) (dK r g b (θ z) (θ y) (θ j) (θ z))=some true:=
   e_ .k (fl (op:=.Eq) (a:=.υ y) (b:=.υ z) .k .k .k .k bu)
  rw[gG (c:=true) .k t]
  kernel_rfl
 rw[q,Me,bj s0,bj (s1 _),bj (s2 _ _),bj (s3 _ _ _),u,mH s4];rfl
theorem W3(bu:e' .Eq (.υ (fJ r g b)) (.υ (dX r g b))=some true):fn (k+1) "rgb_to_hls" [.υ r,.υ g,.υ b]=some (.tup [.υ (cj 0 1),.υ (Float64.div (Float64.add (dX r g b) (fJ r g b)) f2),.υ (cj 0 1)]):=by
 have p:fn (k+1) "rgb_to_hls" [.υ r,.υ g,.υ b]=((bw (S k) 60 [] fI (lJ "rgb_to_hls") (cY r g b)).bind λr=>jX r.2):=.k;have s0:aK (S k) 59 [] fI (cZ 0) (cY r g b)=some (cY r g b (θ (dX r g b)),.next):=.k;have s1:∀z,aK (S k) 58 [] fI (cZ 1) (cY r g b z)=some (cY r g b z (θ (fJ r g b)),.next):=λz=>by kernel_rfl
 have s2:∀z y,aK (S k) 57 [] fI (cZ 2) (cY r g b (θ z) (θ y))=some (cY r g b (θ z) (θ y) (θ (Float64.add z y)),.next):=λz y=>by kernel_rfl
 have s3:∀z y j,aK (S k) 56 [] fI (cZ 3) (cY r g b (θ z) (θ y) (θ j))=some (cY r g b (θ z) (θ y) (θ j) (θ (Float64.sub z y)),.next):=λz y j=>by kernel_rfl
 have v:∀z y j q,aK (S k) 55 [] fI (cZ 4) (cY r g b (θ z) (θ y) (θ j) (θ q))=some (cY r g b (θ z) (θ y) (θ j) (θ q) (θ (Float64.div j f2)),.next):=λz y j q=>by kernel_rfl
 generalize dX r g b=z at*;generalize fJ r g b=y at*;generalize e:Float64.add z y=j at*;generalize f:Float64.sub z y=q at*;generalize u:Float64.div j f2=l at*;have s4:aK (S k) 54 [] fI (cZ 5) (cY r g b (θ z) (θ y) (θ j) (θ q) (θ l))=some (cY r g b (θ z) (θ y) (θ j) (θ q) (θ l),.ret (.tup [.υ (cj 0 1),.υ l,.υ (cj 0 1)])):=by
  have t:b9 (S k) 53 fI (aO (cZ 5)) (cY r g b (θ z) (θ y) (θ j) (θ q) (θ l))=some true:=
   e_ .k (fl (op:=.Eq) (a:=.υ y) (b:=.υ z) .k .k .k .k bu)
  rw[gG (c:=true) .k t]
  kernel_rfl
 rw[p,LX,bj s0,bj (s1 _),bj (s2 _ _),e,bj (s3 _ _ _),f,bj (v _ _ _ _),u,mH s4];rfl
end
open Internal.cw
abbrev h_(a:Int):Prop:=a.natAbs<=2^40
abbrev aV(n:Nat):UInt64:=a6 n
noncomputable abbrev fr(a b:Nat):UInt64:=Float64.ofFrac false a b
theorem h_.b(h:h_ a):a.natAbs<=2^52:=aJ h .d
theorem Bv(n:Nat):decide ((n:Int)<0)=false:=gE (gu.mpr (m7 n))
theorem z7(z:h_ a)(y:h_ b):Float64.cmp (a6 a) (a6 b)=some (if a<b then .lt else if a=b then .eq else .gt):=by
 rw[VK z.b y.b];rfl
theorem V'(z:h_ a)(y:h_ b):Float64.gt (a6 a) (a6 b)=decide (b<a):=by
 unfold Float64.gt;rw[z7 z y]
 by_cases h:a<b
 ·rw[au h,gE (gu.mpr (h3 h))];rfl
 ·rw[ar h]
  by_cases e:a=b
  ·rw[au e,gE (gu.mpr (zr e))];rfl
  ·rw[ar e,cA ((CH (gu.mp h)).resolve_right λq=>e q.symm)];rfl
theorem Y2(z:h_ a)(y:h_ b):Float64.lt (a6 a) (a6 b)=decide (a<b):=by
 unfold Float64.lt;rw[z7 z y]
 by_cases h:a<b
 ·rw[au h,cA h];rfl
 ·rw[ar h,gE h]
  by_cases e:a=b
  ·rw[au e];rfl
  ·rw[ar e];rfl
theorem KG(z:h_ a)(y:h_ b):e' .Eq (.υ (a6 a)) (.υ (a6 b))=some (decide (a=b)):=by
 show aS (!(Float64.isNaN (a6 a))&& !(Float64.isNaN (a6 b))) (some (Float64.cmp (a6 a) (a6 b)==some .eq))=_;rw[K5 z.b,K5 y.b,z7 z y]
 by_cases h:a<b
 ·rw[au h,gE (Int.ne_of_lt h)];rfl
 ·rw[ar h]
  by_cases e:a=b
  ·rw[au e,cA e];rfl
  ·rw[ar e,gE e];rfl
theorem YL(z:h_ a)(y:h_ b):e' .LtE (.υ (a6 a)) (.υ (a6 b))=some (decide (a<=b)):=by
 show some (Float64.cmp (a6 a) (a6 b)==some .lt||Float64.cmp (a6 a) (a6 b)==some .eq)=_;rw[z7 z y]
 by_cases h:a<b
 ·rw[au h,cA (h3 h)];rfl
 ·rw[ar h]
  by_cases e:a=b
  ·rw[au e,cA (zr e)];rfl
  ·rw[ar e,gE λq=>(CH q).elim h e];rfl
theorem Ee(z:a<=2^40)(y:b<=2^40)(h:0<b):Float64.div (aV a) (aV b)=fr a b:=by
 rw[K4 (h_.b (a:=a) z) (h_.b (a:=b) y) (hL.mpr h),Bv];rfl
theorem z0(y:a<=2^40)(z:b<=2^40)(h:0<b):binop .Div (.υ (aV a)) (.υ (aV b))=some (.υ (fr a b)):=by
 show alt (aS (!(Float64.isZero (aV b))) (some (D.υ (Float64.div (aV a) (aV b))))) _=_;rw[VL (h_.b (a:=b) z) (zq (hL.mpr h)),Ee y z h];rfl
theorem Hu(z:a<=2^40)(h:b<=a):Float64.sub (aV a) (aV b)=aV (a-b):=by
 rw[K6 (h_.b (a:=a) z) (h_.b (a:=b) (aJ h z)),<-CY h]
theorem Js(z:a<=2^40)(y:b<=2^40):Float64.add (aV a) (aV b)=aV (a+b):=EM (h_.b (a:=a) z) (h_.b (a:=b) y)
theorem pW(κ:0<c)(z:0<b):fr (c*a) (c*b)=fr a b:=EK κ z
theorem EL(n:Nat):aV n=fr n 16384:=by unfold aV a6;rw[Bv];rfl
theorem Ow(z:a<=2^40)(y:b<=2^40):(if Float64.gt (aV b) (aV a)=true then aV b else aV a)=aV (max a b):=by
 rw[V' (a:=b) (b:=a) y z]
 by_cases q:a<b
 ·rw[au (cA (hL.mpr q)),vX (dy q)]
 ·rw[ar (λr=>q (hL.mp (cU r))),Nat.max_eq_left (e7.mp q)]
theorem Ox(z:a<=2^40)(y:b<=2^40):(if Float64.lt (aV b) (aV a)=true then aV b else aV a)=aV (min a b):=by
 rw[Y2 (a:=b) (b:=a) y z]
 by_cases q:b<a
 ·rw[au (cA (hL.mpr q)),tT (dy q)]
 ·rw[ar (λr=>q (hL.mp (cU r))),m' (e7.mp q)]
theorem Nf(ε:x<=h)(g:y<=h)(j:z<=h)(bq:h<=2^40)(e:x=h∨y=h∨z=h):dX (aV x) (aV y) (aV z)=aV h:=by
 have m:=Nat.max_le.mpr ⟨ε,g⟩;unfold dX;show(if Float64.gt (aV z) (if Float64.gt (aV y) (aV x) then aV y else aV x) then aV z else(if Float64.gt (aV y) (aV x) then aV y else aV x))=aV h;rw[Ow (aJ ε bq) (aJ g bq),Ow (aJ m bq) (aJ j bq)];exact bp aV (mn (Nat.max_le.mpr ⟨m,j⟩) (e.elim (λq=>q▸aJ (Nat.le_max_left ..) (Nat.le_max_left ..)) (·.elim (λq=>q▸aJ (Nat.le_max_right ..) (Nat.le_max_left ..)) λq=>q▸Nat.le_max_right ..)))
theorem Nn(ε:l<=x)(p:l<=y)(v:l<=z)(j:x<=2^40)(g:y<=2^40)(u:z<=2^40)(e:x=l∨y=l∨z=l):fJ (aV x) (aV y) (aV z)=aV l:=by
 unfold fJ;show(if Float64.lt (aV z) (if Float64.lt (aV y) (aV x) then aV y else aV x) then aV z else(if Float64.lt (aV y) (aV x) then aV y else aV x))=aV l;rw[Ox j g,Ox (aJ (n4 ..) j) u];exact bp aV (mn (e.elim (λq=>q▸aJ (n4 ..) (n4 ..)) (·.elim (λq=>q▸aJ (n4 ..) (CN ..)) λq=>q▸CN ..)) (Nat.le_min.mpr ⟨Nat.le_min.mpr ⟨ε,p⟩,v⟩))
theorem EF:f2=aV (8*4096):=by decide+kernel
theorem Wr:xl=aV 8192:=by decide+kernel
def s7(x y z:Nat):UInt64:=if x=8 then Float64.sub (fr (8-z) 8) (fr (8-y) 8) else if y=8 then Float64.sub (Float64.add f2 (fr (8-x) 8)) (fr (8-z) 8) else Float64.sub (Float64.add f4 (fr (8-y) 8)) (fr (8-x) 8)
structure fW(c l x y z:Nat):Prop where
 fp:0<c
 up:l+c*8+l<4096
 jP:x<=8
 jQ:y<=8
 u_:z<=8
 top:x=8∨y=8∨z=8
 bot:x=0∨y=0∨z=0
noncomputable abbrev cC(g c l x:Nat):Nat:=g*(l+c*x)
section
variable(k:Nat){g c l x y z w:Nat}(eS:0<g)(g1:g<=128)(H:fW c l x y z)
theorem tG(h:w<=8):cC g c l w<=cC g c l 8:=j1 g (r1 (j1 c h) l)
theorem Gg:g*l<=cC g c l w:=j1 g (c8 ..)
include g1 H in
theorem p7:cC g c l 8<=2^40:=aJ (Nat.mul_le_mul g1 (dy (e6 (c8 ..) H.up))) .d
include eS H in
theorem Ci:cC g c l w=cC g c l 8↔w=8:=⟨λh=>Nat.eq_of_mul_eq_mul_left H.fp (Nat.add_left_cancel (Nat.eq_of_mul_eq_mul_left eS h)),λh=>h▸rfl⟩
theorem PO:cC g c l 8-cC g c l w=g*c*(8-w):=by
 unfold cC;rw[<-Nat.mul_sub,Nat.add_sub_add_left,<-Nat.mul_sub,<-tX]
include g1 H in
theorem O8(h:w<=8):Float64.sub (aV (cC g c l 8)) (aV (cC g c l w))=aV (g*c*(8-w)):=by
 rw[Hu (p7 g1 H) (tG h),PO]
include g1 H in
theorem sub_0:Float64.sub (aV (cC g c l 8)) (aV (cC g c l 0))=aV (g*c*8):=O8 g1 H (eM 8)
include g1 H in
theorem BQ:g*c*(8-w)<=2^40:=aJ (gV PO.symm) (aJ (m3 ..) (p7 g1 H))
include eS g1 H
theorem quot(h:w<=8):binop .Div (.υ (Float64.sub (aV (cC g c l 8)) (aV (cC g c l w)))) (.υ (Float64.sub (aV (cC g c l 8)) (aV (cC g c l 0))))=some (.υ (fr (8-w) 8)):=by
 have p:=mi eS H.fp;rw[O8 g1 H h,sub_0 g1 H,z0 (BQ g1 H) (BQ (w:=0) g1 H) (mi p .d),pW p .d]
theorem Ak(h:w<=8):e' .Eq (.υ (aV (cC g c l w))) (.υ (aV (cC g c l 8)))=some (decide (w=8)):=by
 rw[KG (a:=cC g c l w) (b:=cC g c l 8) (aJ (tG h) (p7 g1 H)) (p7 g1 H)];exact bp some (zj.mpr (v'.trans (Ci eS H)))
theorem Mc:uY (aV (cC g c l x)) (aV (cC g c l y)) (aV (cC g c l 8)) (fr (8-x) 8) (fr (8-y) 8) (fr (8-z) 8)=some (s7 x y z):=by
 unfold uY s7;rw[Ak eS g1 H H.jP,Ak eS g1 H H.jQ]
 by_cases j:x=8
 ·rw[cA j,au j]
 ·rw[gE j,ar j]
  by_cases q:y=8
  ·rw[cA q,au q]
  ·rw[gE q,ar q]
theorem Nw:dX (aV (cC g c l x)) (aV (cC g c l y)) (aV (cC g c l z))=aV (cC g c l 8):=Nf (tG H.jP) (tG H.jQ) (tG H.u_) (p7 g1 H) (H.top.imp (Ci eS H).mpr (Or.imp (Ci eS H).mpr (Ci eS H).mpr))
theorem Nt:fJ (aV (cC g c l x)) (aV (cC g c l y)) (aV (cC g c l z))=aV (cC g c l 0):=by
 have e:∀{w},w<=8->cC g c l w<=2^40:=λh=>aJ (tG h) (p7 g1 H);have i:∀{w},w=0->cC g c l w=cC g c l 0:=λh=>h▸rfl;exact Nn Gg Gg Gg (e H.jP) (e H.jQ) (e H.u_) (H.bot.imp i (Or.imp i i))
theorem Xx:fn (k+1) "rgb_to_hsv" [.υ (aV (cC g c l x)),.υ (aV (cC g c l y)),.υ (aV (cC g c l z))]=some (.tup [.υ (tE (s7 x y z)),.υ (fr (c*8) (l+c*8)),.υ (aV (cC g c l 8))]):=by
 have e:binop .Div (.υ (Float64.sub (aV (cC g c l 8)) (aV (cC g c l 0)))) (.υ (aV (cC g c l 8)))=some (.υ (fr (c*8) (l+c*8))):=by
  have q:0<l+c*8:=zg _ (mi H.fp .d);rw[sub_0 g1 H,z0 (BQ (w:=0) g1 H) (p7 g1 H) (mi eS q),tX,pW eS q]
 have:=Xw k (aV (cC g c l x)) (aV (cC g c l y)) (aV (cC g c l z)) (fr (c*8) (l+c*8)) (fr (8-x) 8) (fr (8-y) 8) (fr (8-z) 8) (s7 x y z);rw[Nw eS g1 H,Nt eS g1 H] at this;exact this (Ak eS g1 H (eM 8)) e (quot eS g1 H H.jP) (quot eS g1 H H.jQ) (quot eS g1 H H.u_) (Mc eS g1 H)
end
noncomputable abbrev mid(c l:Nat):Nat:=l+c*8+l
section
variable(k:Nat){c l x y z:Nat}(H:fW c l x y z)
include H
theorem qbk:BV (aV (cC 8 c l 8)) (aV (cC 8 c l 0)) (aV (8*mid c l)) (aV (8*c*8)) (fr (mid c l) 4096)=some (.υ (fr (c*8) (min (mid c l) (4096-mid c l)))):=by
 have h:=p7 (g:=8) .d H;have g9:mid c l<=4096:=dy H.up;have m0:0<mid c l:=CO (zg _ (mi H.fp .d)) _;have r:8*c*8<=2^40:=BQ (w:=0) (g:=8) .d H;have u:fr (mid c l) 4096=aV (4*mid c l):=by rw[EL];exact(pW (c:=4) .d .d).symm
 have j:∀{n},n<=4096->8*n<=2^40:=λh=>aJ (j1 8 h) .d;unfold BV;rw[u,Wr,YL (a:=(4*mid c l:Nat)) (b:=(8192:Nat)) (aJ (j1 4 g9) .d) .d,tX]
 by_cases q:4*mid c l<=8192
 ·rw[cA (n7.mpr q)];show binop .Div _ _=_;have q:mid c l<=2048:=Nat.le_of_mul_le_mul_left q (by decide:0<4);rw[z0 (tX 8 c 8▸r) (j g9) (mi .d m0),pW .d m0,m' (aJ q (Im (r1 q 2048)))]
 ·rw[gE λr=>q (n7.mp r)];show binop .Div _ _=_;have q:2048<=mid c l:=dy (Nat.lt_of_mul_lt_mul_left (a:=4) (n9.mp q));have a1:l+c*8<=4096:=aJ (c8 ..) g9;have e:8*4096-cC 8 c l 8-cC 8 c l 0=8*(4096-mid c l):=by
   show 8*4096-8*(l+c*8)-8*l=_;rw[<-Nat.mul_sub,<-Nat.mul_sub,Nat.sub_sub]
  rw[EF,Hu .d (j1 8 a1),Hu (aJ (m3 ..) .d) (Im (aJ (gV (by rw[mf];exact(Nat.mul_add 8 (l+c*8) l).symm)) (j1 8 g9))),e,z0 (tX 8 c 8▸r) (j (m3 ..)) (mi .d (vV H.up)),pW .d (vV H.up),tT (aJ (Iw q 4096) q)]
theorem W5:fn (k+1) "rgb_to_hls" [.υ (aV (cC 8 c l x)),.υ (aV (cC 8 c l y)),.υ (aV (cC 8 c l z))]=some (.tup [.υ (tE (s7 x y z)),.υ (fr (mid c l) 4096),.υ (fr (c*8) (min (mid c l) (4096-mid c l)))]):=by
 have g:8<=128:=.d;have eS:0<8:=.d;have h:=p7 g H;have es:=qbk H;have a:Float64.add (aV (cC 8 c l 8)) (aV (cC 8 c l 0))=aV (8*mid c l):=(Js h (aJ (tG (eM 8)) h)).trans (bp aV (Nat.mul_add 8 (l+c*8) l).symm);have d:Float64.div (aV (8*mid c l)) f2=fr (mid c l) 4096:=by rw[EF,Ee (aJ (j1 8 (dy H.up)) .d) .d .d,pW eS .d]
 have:=W4 k (aV (cC 8 c l x)) (aV (cC 8 c l y)) (aV (cC 8 c l z)) (fr (mid c l) 4096) (fr (c*8) (min (mid c l) (4096-mid c l))) (fr (8-x) 8) (fr (8-y) 8) (fr (8-z) 8) (s7 x y z);rw[Nw eS g H,Nt eS g H,a] at this;exact this d (Ak eS g H (eM 8)) ((sub_0 g H).symm▸es) (quot eS g H H.jP) (quot eS g H H.jQ) (quot eS g H H.u_) (Mc eS g H)
end
open Internal.cw
noncomputable def vz(j f:Nat):Nat×Nat×Nat:=match j with
 |0=>(8,f,0)|1=>(8-f,8,0)|2=>(0,8,f)|3=>(0,8-f,8)|4=>(f,0,8)|_=>(8,0,8-f)
def ie(t h i:Nat):Nat:=match i with
 |0=>(vz (2*h+t/8) (t%8)).1|1=>(vz (2*h+t/8) (t%8)).2.1|_=>(vz (2*h+t/8) (t%8)).2.2
theorem qaT(V:Nat->UInt64)(f:Nat):∀j,Og (Oh j (V 8) (V 0) (V (8-f)) (V f))=.tup [.υ (V (vz j f).1),.υ (V (vz j f).2.1),.υ (V (vz j f).2.2)]
 |0|1|2|3|4|_+5=>rfl
noncomputable def fa{α:Type}(γ:α):Bool:=false
def Mx(o:Option D)(x:UInt64):Bool:=Option.casesOn o false λd=>D.casesOn d false fa fa (λy=>y==x) fa fa fa fa
theorem X5(h:Mx o x=true):o=some (.υ x):=by
 cases o with
 |none=>exact jo h
 |some d=>cases d<;>first|exact jo h|exact bp (λx=>some (D.υ x)) (eq_of_beq h)
def My(o:Option D)(i:Int):Bool:=Option.casesOn o false λd=>D.casesOn d false fa (λj=>i==j) fa fa fa fa fa
theorem X7(h:My o i=true):o=some (.int i):=by
 cases o with
 |none=>exact jo h
 |some d=>cases d<;>first|exact jo h|exact bp (λx=>some (D.int x)) (eq_of_beq h).symm
def qdw(n:Nat):Bool:=My (rT "int" [.υ (Float64.mul (cj n 48) xk)]) (n/8:Nat)&&Mx (binop .Sub (.υ (Float64.mul (cj n 48) xk)) (.int (n/8:Nat))) (aV (n%8*2048))&& !Float64.isInf (cj n 48)
theorem qdz:(List.range 144).all qdw=true:=by decide+kernel
noncomputable abbrev u9(s v b:Nat):Nat:=8*v*(4-s)+v*s*b
def N5(s v f:Nat):Bool:=BM (cj s 4) (cj v 4) (aV (f*2048))==aV (128*u9 s v (8-f))&&B6 (cj s 4) (cj v 4) (aV (f*2048))==aV (128*u9 s v f)
def N6(s v:Nat):Bool:=BH (cj s 4) (cj v 4)==aV (128*u9 s v 0)&&cj v 4==aV (128*u9 s v 8)&& !Float64.isInf (cj s 4)&& !Float64.isInf (cj v 4)&&e' .Eq (.υ (cj s 4)) (.υ (cj 0 1))==some false
theorem qaw:([1,2,3,4].all λs=>[1,2,3,4].all λv=>N6 s v&&(List.range 8).all λf=>N5 s v f)=true:=by decide+kernel
theorem four(ε:1<=x)(bu:x<=4):x∈[1,2,3,4]:=match x,ε,bu with
 |1,_,_=>.head _
 |2,_,_=>.tail _ (.head _)
 |3,_,_=>.tail _ (.tail _ (.head _))
 |4,_,_=>.tail _ (.tail _ (.tail _ (.head _)))
theorem below{n:Nat}{p:Nat->Bool}(h:(List.range n).all p=true)(z:x<n):p x=true:=er.mp h x (ek.mpr z)
section
variable(k:Nat){t s v h m f:Nat}
theorem part0(ε:1<=s)(bu:s<=4)(g1:1<=v)(eH:v<=4):N6 s v=true/\∀f,f<8->N5 s v f=true:=by
 have h:=band (er.mp (er.mp qaw s (four ε bu)) v (four g1 eH));exact⟨h.1,λf hf=>below h.2 hf⟩
def rD(t s v h i:Nat):Nat:=u9 s v (ie t h i)
def ni(t s v h i:Nat):Int:=rD t s v h i
def nP(t s v h:Nat):D:=.tup [.υ (a6 (128*ni t s v h 0)),.υ (a6 (128*ni t s v h 1)),.υ (a6 (128*ni t s v h 2))]
theorem qdy:((List.range 16).all λt=>(List.range 3).all λh=>(List.range 3).all λm=>decide (t+16*h+48*m<144/\(t+16*h+48*m)/8%6=2*h+t/8/\(t+16*h+48*m)%8=t%8/\2*h+t/8<6))=true:=by decide+kernel
theorem YF(ω:t<16)(bq:h<3)(hm:m<3)(ε:1<=s)(bu:s<=4)(g1:1<=v)(eH:v<=4):fn (k+1) "hsv_to_rgb" [.υ (cj (t+16*h+48*m:Nat) 48),.υ (cj s 4),.υ (cj v 4)]=some (nP t s v h):=by
 refine b2 (cU (below (below (below qdy ω) bq) hm)) λu g hf q=>?_;have T:=band (band (below qdz u)).1;have j:=X5 T.2;have P:=part0 ε bu g1 eH;have z:=band P.1;have P3:=band (band (band z.1).1).1;rw[hf] at j;have y:=band (P.2 (t%8) (Nat.mod_lt t .d));rw[qaU k _ _ _ _ (2*h+t/8) _ (eq_of_beq z.2) (X7 T.1) j ((t2 _ .d).trans (bp Int.ofNat g)) q,eq_of_beq P3.1,eq_of_beq y.1,eq_of_beq y.2,eq_of_beq P3.2];exact bp some (qaT (λb=>aV (128*u9 s v b)) (t%8) (2*h+t/8))
def uX(x y z p:Nat):Bool:=tE (s7 x y z)==fr (p%48) 48&&decide (x<=8/\y<=8/\z<=8/\(x=8∨y=8∨z=8)/\(x=0∨y=0∨z=0))
theorem XE:((List.range 16).all λt=>(List.range 3).all λh=>uX (ie t h 0) (ie t h 1) (ie t h 2) (t+16*h)&&uX (8-ie t h 0) (8-ie t h 1) (8-ie t h 2) (t+16*h+24))=true:=by decide+kernel
theorem Mb(ω:t<16)(bq:h<3):uX (ie t h 0) (ie t h 1) (ie t h 2) (t+16*h)=true/\uX (8-ie t h 0) (8-ie t h 1) (8-ie t h 2) (t+16*h+24)=true:=band (below (below XE ω) bq)
end
noncomputable def oD(row t s v least most z weak ring high low place fF both:Option aC:=none):Γ:=[("row",row),("angle",t),("share",s),("value",v),("least",least),("most",most),("strong",z),("weak",weak),("ring",ring),("high",high),("low",low),("place",place),("hue",fF),("both",both)]
noncomputable abbrev cJ:=gm "_law_due"
abbrev b0(i:Nat):Stmt:=sB "_law_due" i
noncomputable def hk(a b c:Int):D:=.lst [.int a,.int b,.int c]
def pU(a b c:Int):Int:=kT (λx m=>decide (x<m)) a [b,c]
def pV(a b c:Int):Int:=kT (λx m=>decide (m<x)) a [b,c]
theorem Oy(a b:Int):(if decide (b<a)=true then b else a)=min a b:=by
 by_cases q:b<a
 ·rw[au (cA q),CS (h3 q)]
 ·rw[ar λr=>q (cU r),CU (gu.mp q)]
theorem Oz(a b:Int):(if decide (a<b)=true then b else a)=max a b:=by
 by_cases q:a<b
 ·rw[au (cA q),CT (h3 q)]
 ·rw[ar λr=>q (cU r),Int.max_eq_left (gu.mp q)]
theorem xn a b c:pU a b c=min (min a b) c:=by
 show(if decide (c<if decide (b<a)=true then b else a)=true then c else if decide (b<a)=true then b else a)=_;rw[Oy,Oy]
theorem xo a b c:pV a b c=max (max a b) c:=by
 show(if decide ((if decide (a<b)=true then b else a)<c)=true then c else if decide (a<b)=true then b else a)=_;rw[Oz,Oz]
noncomputable def hj(t s v:Int):Int:=32*v+8*v*(4-s)+v*(32-s*((8-t).natAbs:Int))
noncomputable def tk(x y:Int):Int:=if decide (y<x) then y else x
def q8(ρ lo c4:Int):D:=.tup [.tup [.υ (cj (Int.fmod c4 48) 48),.υ (cj (ρ-lo) ρ),.υ (cj ρ 128)],.tup [.υ (cj (Int.fmod c4 48) 48),.υ (cj (ρ+lo) 4096),.υ (cj (ρ-lo) (tk (ρ+lo) (4096-(ρ+lo))))]]
theorem q7(h0:0<y)(z:x.natAbs<2^60):binop .Div (.int x) (.int y)=some (.υ (cj x y)):=by
 have h:Float64.isInf (cj x y)=false:=(Bool.not_eq_true _).mp (PySem.Flt.quot_fits (by omega) (c7 z (by decide+kernel)));show alt (aS (!(y==0)&& !(Float64.isInf (cj x y))) (some (D.υ (cj x y)))) _=_;rw[h,gU.mpr (zq h0)];rfl
section
variable(k:Nat)(a b c t s v least most:Int)
abbrev xb:Γ:=oD (ξ (hk a b c)) (ο t) (ο s) (ο v)
theorem qdM:lJ "_law_due" =[b0 0,b0 1,b0 2,b0 3,b0 4,b0 5]:=.k
theorem HL(j:v.natAbs<2^50):aK (S k) 59 [] cJ (b0 0) (xb a b c t s v)=some (oD (ξ (hk a b c)) (ο t) (ο s) (ο v) (ο (pU a b c)) (ο (pV a b c)) (ο (32*v)) (ο (8*v*(4-s))),.next):=by
 generalize hw:(bD (b0 0)).getD 3 aD=w;have z:μ (S k) 58 cJ w (xb a b c t s v)=some (.int (8*v*(4-s))):=by
  subst hw;exact dp (op:=.Mult) (a:=.int (8*v)) (b:=.int (4-s)) .k .k .k (dI (wE (cA (by omega)) rfl))
 have y:gf (S k) 58 [] cJ (xb a b c t s v) (cF (b0 0)) (bD (b0 0))=some [(Str.ofString "least",.val (.int (pU a b c))),(Str.ofString "most",.val (.int (pV a b c))),(Str.ofString "strong",.val (.int (32*v))),(Str.ofString "weak",.val (.int (8*v*(4-s))))]:=by
  rw[show cF (b0 0)=[(cF (b0 0)).getD 0 aD,(cF (b0 0)).getD 1 aD,(cF (b0 0)).getD 2 aD,(cF (b0 0)).getD 3 aD] from .k,show bD (b0 0)=[(bD (b0 0)).getD 0 aD,(bD (b0 0)).getD 1 aD,(bD (b0 0)).getD 2 aD,w] by subst hw;kernel_rfl];exact hx .k .k .k (hx .k .k .k (hx .k .k .k (hx .k .k z pK)))
 rw[qZ .k .k .k y .k]
 kernel_rfl
theorem HM ss ww (j:v.natAbs<2^50) (hs:s.natAbs<2^50):aK (S k) 58 [] cJ (b0 1) (oD (ξ (hk a b c)) (ο t) (ο s) (ο v) (ο least) (ο most) (ο ss) (ο ww))=some (oD (ξ (hk a b c)) (ο t) (ο s) (ο v) (ο least) (ο most) (ο ss) (ο ww) (ο (ss+ww+v*(32-s*((8-t).natAbs:Int)))),.next):=by
 have z:μ (S k) 54 cJ (eu (eu (eu (aO (b0 1))))) (oD (ξ (hk a b c)) (ο t) (ο s) (ο v) (ο least) (ο most) (ο ss) (ο ww))=some (.int (s*((8-t).natAbs:Int))):=
  dp (op:=.Mult) (a:=.int s) (b:=.int ((8-t).natAbs:Int)) .k .k .k (dI (wE (cA .l) rfl))
 have ag:μ (S k) 55 cJ (eu (eu (aO (b0 1)))) (oD (ξ (hk a b c)) (ο t) (ο s) (ο v) (ο least) (ο most) (ο ss) (ο ww))=some (.int (32-s*((8-t).natAbs:Int))):=
  dp (op:=.Sub) (a:=.int 32) (b:=.int (s*((8-t).natAbs:Int))) .k .k ((rL .k).trans z) rfl
 have y:μ (S k) 56 cJ (eu (aO (b0 1))) (oD (ξ (hk a b c)) (ο t) (ο s) (ο v) (ο least) (ο most) (ο ss) (ο ww))=some (.int (v*(32-s*((8-t).natAbs:Int)))):=
  dp (op:=.Mult) (a:=.int v) (b:=.int (32-s*((8-t).natAbs:Int))) .k .k ((rL .k).trans ag) (dI (wE (cA .l) rfl))
 have e:μ (S k) 57 cJ (aO (b0 1)) (oD (ξ (hk a b c)) (ο t) (ο s) (ο v) (ο least) (ο most) (ο ss) (ο ww))=some (.int (ss+ww+v*(32-s*((8-t).natAbs:Int)))):=
  dp (op:=.Add) (a:=.int (ss+ww)) (b:=.int (v*(32-s*((8-t).natAbs:Int)))) .k .k ((rL .k).trans y) rfl
 rw[fB .k .k e]
 kernel_rfl
variable(ss ww ring:Int)
abbrev fZ(high low place:Option aC):Γ:=oD (ξ (hk a b c)) (ο t) (ο s) (ο v) (ο least) (ο most) (ο ss) (ο ww) (ο ring) high low place
theorem HO st n H L P ε j y (ag:μ (S k) n cJ ((bD st).getD 0 aD) (fZ a b c t s v least most ss ww ring H L P)=some (.int ε)) (g:μ (S k) n cJ ((bD st).getD 1 aD) (fZ a b c t s v least most ss ww ring H L P)=some (.int j)) (u:μ (S k) n cJ ((bD st).getD 2 aD) (fZ a b c t s v least most ss ww ring H L P)=some (.int y))
 (r:w0 st=some (cF st,bD st)) (ω:cF st=[(cF st).getD 0 aD,(cF st).getD 1 aD,(cF st).getD 2 aD]) (he:bD st=[(bD st).getD 0 aD,(bD st).getD 1 aD,(bD st).getD 2 aD]) (z:(cF st).map asName=[some (Str.ofString "high"),some (Str.ofString "low"),some (Str.ofString "place")]) (κ:(!(bD st).all (constantsAlone 8)||(bD st).all (foldedForSure 8))=true):
 aK (S k) (n+1) [] cJ st (fZ a b c t s v least most ss ww ring H L P)=some (fZ a b c t s v least most ss ww ring (ο ε) (ο j) (ο y),.next):=by
 have q:asName ((cF st).getD 0 aD)=some (Str.ofString "high"):=by rw[ω] at z;exact(n6 z).1
 have p:asName ((cF st).getD 1 aD)=some (Str.ofString "low"):=by rw[ω] at z;exact(n6 (n6 z).2).1
 have e:asName ((cF st).getD 2 aD)=some (Str.ofString "place"):=by rw[ω] at z;exact(n6 (n6 (n6 z).2).2).1
 have f:gf (S k) n [] cJ (fZ a b c t s v least most ss ww ring H L P) (cF st) (bD st)=some [(Str.ofString "high",.val (.int ε)),(Str.ofString "low",.val (.int j)),(Str.ofString "place",.val (.int y))]:=by
  rw[ω,he];exact hx q .k ag (hx p .k g (hx e .k u pK))
 rw[qZ r (by rw[ω];exact aa (a:=Str.ofString "high") (aa (a:=_) rfl q) .k) .k f (by unfold ts;rw[κ];kernel_rfl)]
 kernel_rfl
def HK:Stmt:=d9 (gN (b0 3)) 0
def rU:Stmt:=d9 (fG (b0 3)) 0
def HJ:Stmt:=d9 (gN rU) 0
theorem HN(z:ring.natAbs<2^64):aK (S k) 57 [] cJ (b0 2) (fZ a b c t s v least most ss ww ring none none none)=some (fZ a b c t s v least most ss ww ring (ο (ring*least)) (ο (ring*least)) (ο 0),.next):=
 HO k a b c t s v least most ss ww ring (b0 2) 56 none none none (ring*least) (ring*least) 0 (k9 .k .k .k z) (k9 .k .k .k z) .k .k .k .k .k .k
variable(H L:Int)
theorem Ce:b9 (S k) 55 cJ (aO (b0 3)) (fZ a b c t s v least most ss ww ring (ο H) (ο L) (ο 0))=some (decide ((([a,b,c].count most:Nat):Int)=1)):=by
 have e:μ (S k) 53 cJ (fE (aO (b0 3))) (fZ a b c t s v least most ss ww ring (ο H) (ο L) (ο 0))=some (.int (([a,b,c].count most:Nat):Int)):=
  C_ (l:=[.int a,.int b,.int c]) (ns:=[a,b,c]) (x:=most) .k .k .k .k .k
 refine e_ .k (fl (op:=.Eq) (b:=.int 1) .k (lZ rfl .k e) .k .k ?_);show some ((([a,b,c].count most:Nat):Int)==1)=_
 congr 1
theorem qdL(z:ring.natAbs<2^64)(κ:[a,b,c].count most=1)(q:jF most [a,b,c]=some j):aK (S k) 56 [] cJ (b0 3) (fZ a b c t s v least most ss ww ring (ο H) (ο L) (ο 0))=some (fZ a b c t s v least most ss ww ring (ο (ring*least+ss)) (ο (ring*least+ww)) (ο (t+16*j)),.next):=by
 rw[gG .k (Ce k a b c t s v least most ss ww ring H L),κ,show(if decide (((1:Nat):Int)=1)=true then gN (b0 3) else fG (b0 3))=[HK] from .k];have y:μ (S k) 51 cJ (eu (eu ((bD HK).getD 2 aD))) (fZ a b c t s v least most ss ww ring (ο H) (ο L) (ο 0))=some (.int (j:Nat)):=zA (l:=[.int a,.int b,.int c]) (ns:=[a,b,c]) (x:=most) .k .k .k .k .k (e5 rfl) q
 have e:=HO k a b c t s v least most ss ww ring HK 53 (ο H) (ο L) (ο 0) (ring*least+ss) (ring*least+ww) (t+16*j)
  (hP .k (cq .k (k9 .k .k .k z)) .k) (hP .k (cq .k (k9 .k .k .k z)) .k)
  (hP .k .k (cq .k (k9 .k .k (cq .k y) .d))) .k .k .k .k .k
 rw[bj e,eG]
theorem PI(κ:([a,b,c].count most:Nat)≠1):aK (S k) 56 [] cJ (b0 3) (fZ a b c t s v least most ss ww ring (ο H) (ο L) (ο 0))=bw (S k) 55 [] cJ [rU] (fZ a b c t s v least most ss ww ring (ο H) (ο L) (ο 0)):=by
 rw[gG .k (Ce k a b c t s v least most ss ww ring H L),gE .l,show(if false=true then gN (b0 3) else fG (b0 3))=[rU] from .k]
theorem PH:b9 (S k) 53 cJ (aO rU) (fZ a b c t s v least most ss ww ring (ο H) (ο L) (ο 0))=some (decide (least<most)):=.k
theorem qdK(z:ring.natAbs<2^64)(κ:([a,b,c].count most:Nat)≠1)(ζ:least<most)(q:jF least [a,b,c]=some j):aK (S k) 56 [] cJ (b0 3) (fZ a b c t s v least most ss ww ring (ο H) (ο L) (ο 0))=some (fZ a b c t s v least most ss ww ring (ο (ring*most-ww)) (ο (ring*most-ss)) (ο (t+16*j+24)),.next):=by
 rw[PI k a b c t s v least most ss ww ring H L κ];have y:μ (S k) 48 cJ (eu (eu (eC ((bD HJ).getD 2 aD)))) (fZ a b c t s v least most ss ww ring (ο H) (ο L) (ο 0))=some (.int (j:Nat)):=zA (l:=[.int a,.int b,.int c]) (ns:=[a,b,c]) (x:=least) .k .k .k .k .k (e5 rfl) q
 have e:=HO k a b c t s v least most ss ww ring HJ 51 (ο H) (ο L) (ο 0) (ring*most-ww) (ring*most-ss) (t+16*j+24)
  (O7 .k (cq .k (k9 .k .k .k z)) .k) (O7 .k (cq .k (k9 .k .k .k z)) .k)
  (hP .k (cq .k (hP .k .k (cq .k (k9 .k .k (cq .k y) .d)))) .k) .k .k .k .k .k
 rw[bj ((gG .k (PH k a b c t s v least most ss ww ring H L)).trans (by rw[cA ζ,show(if true=true then gN rU else fG rU)=[HJ] from .k,bj e,eG])),eG]
theorem qdJ(κ:([a,b,c].count most:Nat)≠1)(ζ:¬least<most):aK (S k) 56 [] cJ (b0 3) (fZ a b c t s v least most ss ww ring (ο H) (ο L) (ο 0))=some (fZ a b c t s v least most ss ww ring (ο H) (ο L) (ο 0),.next):=by
 rw[PI k a b c t s v least most ss ww ring H L κ,bj ((gG .k (PH k a b c t s v least most ss ww ring H L)).trans (by rw[gE ζ,show(if false=true then gN rU else fG rU)=[] from .k,eG])),eG]
variable(c4:Int)
abbrev pQ(fF both:Option aC):Γ:=oD (ξ (hk a b c)) (ο t) (ο s) (ο v) (ο least) (ο most) (ο ss) (ο ww) (ο ring) (ο H) (ο L) (ο c4) fF both
theorem u_4:aK (S k) 55 [] cJ (b0 4) (fZ a b c t s v least most ss ww ring (ο H) (ο L) (ο c4))=some (pQ a b c t s v least most ss ww ring H L c4 (θ (cj (Int.fmod c4 48) 48)) (ο (H+L)),.next):=by
 have hm:(Int.fmod c4 48).natAbs<2^60:=by rw[t2 _ .d];lia
 have ag:μ (S k) 54 cJ ((bD (b0 4)).getD 0 aD) (fZ a b c t s v least most ss ww ring (ο H) (ο L) (ο c4))=some (.υ (cj (Int.fmod c4 48) 48)):=
  dp (op:=.Div) (a:=.int (Int.fmod c4 48)) (b:=.int 48) .k .k .k (q7 .d hm)
 have z:gf (S k) 54 [] cJ (fZ a b c t s v least most ss ww ring (ο H) (ο L) (ο c4)) (cF (b0 4)) (bD (b0 4))=some [(Str.ofString "hue",.val (.υ (cj (Int.fmod c4 48) 48))),(Str.ofString "both",.val (.int (H+L)))]:=by
  rw[show cF (b0 4)=[(cF (b0 4)).getD 0 aD,(cF (b0 4)).getD 1 aD] from .k,show bD (b0 4)=[(bD (b0 4)).getD 0 aD,(bD (b0 4)).getD 1 aD] from .k];exact hx .k .k ag (hx .k .k .k pK)
 generalize cj (Int.fmod c4 48) 48=y at*;rw[qZ .k .k .k z .k]
 kernel_rfl
def pj(i j:Nat):Expr:=(bk ((bk (aO (b0 5))).getD i aD)).getD j aD
theorem u_5(e:0<H)(l:0<=L)(r:H+L<4096):aK (S k) 54 [] cJ (b0 5) (pQ a b c t s v least most ss ww ring H L c4 (θ (cj (Int.fmod c4 48) 48)) (ο (H+L)))=some (pQ a b c t s v least most ss ww ring H L c4 (θ (cj (Int.fmod c4 48) 48)) (ο (H+L)),.ret (q8 H L c4)):=by
 unfold q8;generalize cj (Int.fmod c4 48) 48=z;have y:μ (S k) 51 cJ (pj 0 1) (pQ a b c t s v least most ss ww ring H L c4 (θ z) (ο (H+L))).freeze=some (.υ (cj (H-L) H)):=dp (op:=.Div) (a:=.int (H-L)) (b:=.int H) .k .k .k (q7 e (by omega));have j:μ (S k) 51 cJ (pj 0 2) (pQ a b c t s v least most ss ww ring H L c4 (θ z) (ο (H+L))).freeze=some (.υ (cj H 128)):=dp (op:=.Div) (a:=.int H) (b:=.int 128) .k .k .k (q7 .d (by omega));have q:μ (S k) 51 cJ (pj 1 1) (pQ a b c t s v least most ss ww ring H L c4 (θ z) (ο (H+L))).freeze=some (.υ (cj (H+L) 4096)):=dp (op:=.Div) (a:=.int (H+L)) (b:=.int 4096) .k .k .k (q7 .d (by omega));have g:μ (S k) 51 cJ (pj 1 2) (pQ a b c t s v least most ss ww ring H L c4 (θ z) (ο (H+L))).freeze=some (.υ (cj (H-L) (tk (H+L) (4096-(H+L))))):=dp (op:=.Div) (a:=.int (H-L)) (b:=.int (tk (H+L) (4096-(H+L)))) .k .k .k (q7 (by unfold tk;split<;>omega) (by omega));generalize cj (H-L) H=u at*;generalize cj H 128=p at*;generalize cj (H+L) 4096=f at*;generalize cj (H-L) (tk (H+L) (4096-(H+L)))=x4 at*;have t0:μ (S k) 52 cJ ((bk (aO (b0 5))).getD 0 aD) (pQ a b c t s v least most ss ww ring H L c4 (θ z) (ο (H+L))).freeze=some (.tup [.υ z,.υ u,.υ p]):=ng .k (by
  rw[show bk ((bk (aO (b0 5))).getD 0 aD)=[pj 0 0,pj 0 1,pj 0 2] from .k];exact bW .k (bW y (bW j eE))) (e5 rfl)
 have t1:μ (S k) 52 cJ ((bk (aO (b0 5))).getD 1 aD) (pQ a b c t s v least most ss ww ring H L c4 (θ z) (ο (H+L))).freeze=some (.tup [.υ z,.υ f,.υ x4]):=ng .k (by
  rw[show bk ((bk (aO (b0 5))).getD 1 aD)=[pj 1 0,pj 1 1,pj 1 2] from .k];exact bW .k (bW q (bW g eE))) (e5 rfl)
 exact wG .k (ng .k (by
  rw[show bk (aO (b0 5))=[(bk (aO (b0 5))).getD 0 aD,(bk (aO (b0 5))).getD 1 aD] from .k];exact bW t0 (bW t1 eE)) (e5 rfl))
end
open Internal.cw
theorem Ti k (h:∀z:dH,z=S k->(bw z 60 [] cJ [b0 0,b0 1,b0 2,b0 3,b0 4,b0 5] (xb a b c t s v)).bind (λr=>jX r.2)=x):fn (k+1) "_law_due" [hk a b c,.int t,.int s,.int v]=x:=by
 have y:fn (k+1) "_law_due" [hk a b c,.int t,.int s,.int v]=(bw (S k) 60 [] cJ (lJ "_law_due") (xb a b c t s v)).bind λr=>jX r.2:=.k;rw[y,qdM];exact h _ rfl
section
variable(k:Nat){a b c t s v:Int}
theorem Ks(y:v.natAbs<2^50)(hs:s.natAbs<2^50)(q:(hj t s v).natAbs<2^64)(hm:pU a b c=m)(u:pV a b c=M)
 (z:aK (S k) 56 [] cJ (b0 3) (fZ a b c t s v m M (32*v) (8*v*(4-s)) (hj t s v) (ο (hj t s v*m)) (ο (hj t s v*m)) (ο 0))=some (fZ a b c t s v m M (32*v) (8*v*(4-s)) (hj t s v) (ο H) (ο L) (ο c4),.next))
 (p:0<H) (g:0<=L) (j:H+L<4096):fn (k+1) "_law_due" [hk a b c,.int t,.int s,.int v]=some (q8 H L c4):=by
 refine Ti k λf e=>?_;have s0:=HL k a b c t s v y;rw[hm,u] at s0;rw[e,bj s0,bj (HM k a b c t s v _ _ _ _ y hs)];have s2:=HN k a b c t s v m M (32*v) (8*v*(4-s)) (hj t s v) q;unfold hj at s2 z;rw[bj s2,bj z,bj (u_4 k a b c t s v _ _ _ _ _ H L c4),mH (u_5 k a b c t s v _ _ _ _ _ H L c4 p g j)];rfl
end
abbrev pC(x:UInt64):Prop:=Float64.isNaN x=false/\Float64.cmp x x=some .eq
theorem qi(hd:0<d)(z:n<2^60):pC (fr n d):=
 ai (Vw (neg:=false) hd (c7 z (by decide+kernel))) λm e h=>⟨by unfold Float64.isNaN;rw[h],cmp_self h⟩
theorem uB n (h:pC x):gg (n+1) (.υ x) (.υ x)=some true:=by
 show aS (!(Float64.isNaN x)&& !(Float64.isNaN x)) (some (Float64.cmp x x==some .eq))=_;rw[h.1,h.2];rfl
theorem KC(ε:f x x=some true)(q:f y y=some true)(j:f z z=some true):ke f [x,y,z] [x,y,z]=some true:=aa ε (aa (aa q (aa (aa j (aa (a:=true) rfl rfl)) rfl)) rfl)
theorem NB(ε:pC a)(q:pC b)(z:pC c)(bu:pC d)(y:pC e)(j:pC f):
 e' .NotEq (.tup [.tup [.υ a,.υ b,.υ c],.tup [.υ d,.υ e,.υ f]]) (.tup [.tup [.υ a,.υ b,.υ c],.tup [.υ d,.υ e,.υ f]])=some false:=
 aa (a:=true) (show ke (gg 7) [.tup [.υ a,.υ b,.υ c],.tup [.υ d,.υ e,.υ f]] [.tup [.υ a,.υ b,.υ c],.tup [.υ d,.υ e,.υ f]]=some true from
  aa (show ke (gg 6) [.υ a,.υ b,.υ c] [.υ a,.υ b,.υ c]=some true from KC (uB 5 ε) (uB 5 q) (uB 5 z)) (aa (aa (show ke (gg 6) [.υ d,.υ e,.υ f] [.υ d,.υ e,.υ f]=some true from KC (uB 5 bu) (uB 5 y) (uB 5 j)) (aa (a:=true) rfl rfl)) rfl)) rfl
theorem Ed(h:0<b):cj (a:Nat) (b:Nat)=fr a b:=by
 unfold cj;rw[Bv,Bv];rfl
theorem Zg:tk (a:Nat) (b:Nat)=(min a b:Nat):=by
 unfold tk
 by_cases q:b<a
 ·rw[au (cA (hL.mpr q)),tT (dy q)]
 ·rw[ar (λr=>q (hL.mp (cU r))),m' (e7.mp q)]
def Af(c l p:Nat):D:=.tup [.tup [.υ (fr (p%48) 48),.υ (fr c (l+c)),.υ (fr (l+c) 128)],.tup [.υ (fr (p%48) 48),.υ (fr (l+c+l) 4096),.υ (fr c (min (l+c+l) (4096-(l+c+l))))]]
theorem Ku(h0:0<l+c)(up:l+c+l<4096):q8 (l+c:Nat) (l:Nat) (p:Nat)=Af c l p:=by
 have ag:((l+c:Nat):Int)-(l:Nat)=(c:Nat):=(CY (c8 ..)).symm.trans (bp Int.ofNat (Ie ..));have z:((l+c:Nat):Int)+(l:Nat)=(l+c+l:Nat):=rfl;have y:(4096:Int)-(l+c+l:Nat)=(4096-(l+c+l):Nat):=(CY (dy up)).symm;have j:Int.fmod (p:Nat) 48=(p%48:Nat):=t2 _ .d;have d:= @Ed;unfold q8 Af;rw[ag,z,y,j,Zg,<-d (a:=p%48) (b:=48) .d,<-d (a:=c) h0,<-d (a:=l+c) (b:=128) .d,<-d (a:=l+c+l) (b:=4096) .d,<-d (a:=c) (Nat.lt_min.mpr ⟨CO h0 l,vV up⟩)];rfl
def Told(k:Nat)(t s v:Nat)(R:D)(z j y:Int):Prop:=∃A B E,fn (k+1) "rgb_to_hsv" [.υ (a6 (128*z)),.υ (a6 (128*j)),.υ (a6 (128*y))]=some A/\fn (k+1) "rgb_to_hls" [.υ (a6 (8*z)),.υ (a6 (8*j)),.υ (a6 (8*y))]=some B/\
 fn (k+1) "_law_due" [R,.int (t:Nat),.int (s:Nat),.int (v:Nat)]=some E/\e' .NotEq (.tup [A,B]) E=some false
section
variable(k:Nat){t s v c l x y z p:Nat}
theorem qdp(fp:0<c)(up:l+c*8+l<4096)(bq:uX x y z p=true)(hd:fn (k+1) "_law_due" [R,.int (t:Nat),.int (s:Nat),.int (v:Nat)]=some (q8 (l+c*8:Nat) (l:Nat) (p:Nat))):Told k t s v R (l+c*x:Nat) (l+c*y:Nat) (l+c*z:Nat):=by
 refine bL (band bq) λbq hs=>b2 (cU hs) λjP jQ u_ j=>?_;have H:fW c l x y z:=⟨fp,up,jP,jQ,u_,j.1,j.2⟩;have e:=mi fp (by decide:0<8);have q:=zg l e;have u:l+c*8<2^60:=e6 (c8 _ l) (me up .d);have u8:c*8<2^60:=e6 (nc ..) u;have w:p%48<2^60:=me (Nat.mod_lt p .d) .d;refine⟨_,_,_,Xx k (g:=128) .d .d H,W5 k H,hd,?_⟩;rw[Ku q up,eq_of_beq bq,EL,show fr (cC 128 c l 8) 16384=fr (l+c*8) 128 from pW (c:=128) (b:=128) .d .d];exact NB (qi .d w) (qi q u8) (qi .d u) (qi .d w) (qi .d (me up .d)) (qi (Nat.lt_min.mpr ⟨CO q l,vV up⟩) u8)
theorem qdl(q:0<l)(up:l+l<4096)(hd:fn (k+1) "_law_due" [R,.int (t:Nat),.int (s:Nat),.int (v:Nat)]=some (q8 (l:Nat) (l:Nat) 0)):Told k t s v R (l:Nat) (l:Nat) (l:Nat):=by
 have g:∀n,n<=2^40->dX (aV n) (aV n) (aV n)=aV n/\fJ (aV n) (aV n) (aV n)=aV n/\e' .Eq (.υ (fJ (aV n) (aV n) (aV n))) (.υ (dX (aV n) (aV n) (aV n)))=some true:=λn h=>by
  have r:=a7 n;rw[Nf r r r h (.inl rfl),Nn r r r h h h (.inl rfl),KG (a:=n) (b:=n) h h,cA rfl];exact⟨rfl,rfl,rfl⟩
 have j:l<4096:=e6 (c8 ..) up;have A:=g (128*l) (aJ (j1 128 (dy j)) .d);have B:=g (8*l) (aJ (j1 8 (dy j)) .d);refine⟨_,_,_,Xv k (aV (128*l)) (aV (128*l)) (aV (128*l)) A.2.2,W3 k (aV (8*l)) (aV (8*l)) (aV (8*l)) B.2.2,hd,?_⟩;have e:q8 (l:Nat) (l:Nat) 0=Af 0 l 0:=Ku (c:=0) (p:=0) q up;have s:∀{d},0<d->fr 0 d=cj 0 1:=λ{d} h=>((bp (fr 0) (Nat.mul_one d).symm).trans (EK (a:=0) (b:=1) h .d)).trans (Ed .d).symm;have n:pC (cj 0 1):=(Ed (a:=0) (b:=1) .d)▸qi .d .d;rw[e];unfold Af;rw[A.1,B.1,B.2.1,Js (aJ (j1 8 (dy j)) .d) (aJ (j1 8 (dy j)) .d),<-Nat.mul_add,EF,Ee (aJ (j1 8 (dy up)) .d) .d .d,pW .d .d,EL,show fr (128*l) 16384=fr l 128 from pW (c:=128) (b:=128) .d .d,s (d:=48) .d,s (d:=l+0) q,s (d:=min (l+0+l) (4096-(l+0+l))) (Nat.lt_min.mpr ⟨CO q l,vV up⟩)];exact NB n n (qi .d (me j .d)) n (qi .d (me up .d)) n
end
def hW(t s v fp c1 c2 i:Nat):Int:=fp*ni t s v 0 i+c1*ni t s v 1 i+c2*ni t s v 2 i
def GA(t s v a b c i:Nat):Nat:=a*rD t s v 0 i+b*rD t s v 1 i+c*rD t s v 2 i
def pf(t s v:Nat):Nat:=rD t s v 0 0+rD t s v 1 0+rD t s v 2 0
noncomputable def dl(h i:Nat):Nat:=if i=h then 1 else 0
abbrev Bl(t s v a b c l x y z:Nat):Bool:=GA t s v a b c 0==l+v*s*x&&(GA t s v a b c 1==l+v*s*y&&GA t s v a b c 2==l+v*s*z)
abbrev Ai(ρ lo:Int)(t s v l:Nat):Bool:=decide (l+v*s*8+l<4096/\ρ=(l+v*s*8:Nat)/\lo=(l:Nat)/\(hj t s v).natAbs<2^64)
def N'(t s v m h:Nat):Bool:=(λl=>Ai (hj t s v*m+32*v) (hj t s v*m+8*v*(4-s)) t s v l&&Bl t s v (m+dl h 0) (m+dl h 1) (m+dl h 2) l (ie t h 0) (ie t h 1) (ie t h 2)) (m*pf t s v+8*v*(4-s))
def Nr(t s v m h:Nat):Bool:=(λl=>Ai (hj t s v*(m+1:Nat)-8*v*(4-s)) (hj t s v*(m+1:Nat)-32*v) t s v l&&Bl t s v (m+1-dl h 0) (m+1-dl h 1) (m+1-dl h 2) l (8-ie t h 0) (8-ie t h 1) (8-ie t h 2)) ((m+1)*pf t s v-32*v)
def Lm(t s v m:Nat):Bool:=Ai (hj t s v*(m+1:Nat)+v*s*8) (hj t s v*(m+1:Nat)) t s v ((m+1)*pf t s v)&&(decide (0<(m+1)*pf t s v)&&Bl t s v (m+1) (m+1) (m+1) ((m+1)*pf t s v) 0 0 0)
theorem Rl:((List.range 16).all λt=>[1,2,3,4].all λs=>[1,2,3,4].all λv=>(List.range 4).all λm=>((List.range 3).all λh=>N' t s v m h&&Nr t s v m h)&&(m==3||Lm t s v m))=true:=by decide+kernel
abbrev Oj(m h:Nat):Prop:=pU (m+dl h 0:Nat) (m+dl h 1:Nat) (m+dl h 2:Nat)=m/\pV (m+dl h 0:Nat) (m+dl h 1:Nat) (m+dl h 2:Nat)=(m+1:Nat)/\[((m+dl h 0:Nat):Int),(m+dl h 1:Nat),(m+dl h 2:Nat)].count ((m+1:Nat):Int)=1/\jF (m+1:Nat) [((m+dl h 0:Nat):Int),(m+dl h 1:Nat),(m+dl h 2:Nat)]=some h
abbrev Oi(m h:Nat):Prop:=pU (m+1-dl h 0:Nat) (m+1-dl h 1:Nat) (m+1-dl h 2:Nat)=m/\pV (m+1-dl h 0:Nat) (m+1-dl h 1:Nat) (m+1-dl h 2:Nat)=(m+1:Nat)/\[((m+1-dl h 0:Nat):Int),(m+1-dl h 1:Nat),(m+1-dl h 2:Nat)].count ((m+1:Nat):Int)≠1/\jF (m:Nat) [((m+1-dl h 0:Nat):Int),(m+1-dl h 1:Nat),(m+1-dl h 2:Nat)]=some h
theorem qbc:((List.range 4).all λm=>(List.range 3).all λh=>decide (Oj m h/\Oi m h))=true:=by decide+kernel
theorem Om(hm:m<4)(bq:h<3):Oj m h/\Oi m h:=cU (below (below qbc hm) bq)
section
variable(k:Nat){t s v m h:Nat}(ω:t<16)(bq:h<3)(ε:1<=s)(bu:s<=4)(g1:1<=v)(eH:v<=4)(hm:m<4)
include ω ε bu g1 eH hm
theorem HG:(∀h,h<3->N' t s v m h=true/\Nr t s v m h=true)/\(m≠3->Lm t s v m=true):=by
 have q:=band (below (er.mp (er.mp (below Rl ω) s (four ε bu)) v (four g1 eH)) hm);exact⟨λh bq=>band (below q.1 bq),λn=>(m6.mp q.2).resolve_left λe=>n (eq_of_beq e)⟩
omit hm
theorem Px{a b c:Nat}{ρ lo c4:Int}(M:Bl t s v a b c l x y z=true)(E:Ai ρ lo t s v l=true)(u:uX x y z p=true)(r:pU (a:Nat) (b:Nat) (c:Nat)=m)(f:pV (a:Nat) (b:Nat) (c:Nat)=(m+1:Nat))(i:c4=(p:Nat))
 (j:(hj t s v).natAbs<2^64->aK (S k) 56 [] cJ (b0 3) (fZ a b c t s v m (m+1:Nat) (32*v) (8*v*(4-s)) (hj t s v) (ο (hj t s v*m)) (ο (hj t s v*m)) (ο 0))=some (fZ a b c t s v m (m+1:Nat) (32*v) (8*v*(4-s)) (hj t s v) (ο ρ) (ο lo) (ο c4),.next)):
 Told k t s v (hk a b c) (hW t s v a b c 0) (hW t s v a b c 1) (hW t s v a b c 2):=by
 refine bL (band M) λm0 M=>bL (band M) λg9 k6=>b2 (cU E) λup g e q=>?_;have fp:=mi g1 ε;have j:=j q;rw[g,e,i] at j;have T:=qdp k fp up u (Ks k (e6 eH .d) (e6 bu .d) q r f j (hL.mpr (zg l (mi fp .d))) (m7 l) (hL.mpr up));rw[<-eq_of_beq m0,<-eq_of_beq g9,<-eq_of_beq k6] at T;exact T
include hm bq
theorem qdo:Told k t s v (hk (m+dl h 0:Nat) (m+dl h 1:Nat) (m+dl h 2:Nat)) (hW t s v (m+dl h 0) (m+dl h 1) (m+dl h 2) 0) (hW t s v (m+dl h 0) (m+dl h 1) (m+dl h 2) 1) (hW t s v (m+dl h 0) (m+dl h 1) (m+dl h 2) 2):=
 bL (band ((HG ω ε bu g1 eH hm).1 h bq).1) λE M=>b2 (Om hm bq).1 λq y rc j=>Px k ω ε bu g1 eH M E (Mb ω bq).1 q y rfl λz=>qdL k _ _ _ _ _ _ _ _ _ _ _ _ _ z rc j
theorem qdm:Told k t s v (hk (m+1-dl h 0:Nat) (m+1-dl h 1:Nat) (m+1-dl h 2:Nat)) (hW t s v (m+1-dl h 0) (m+1-dl h 1) (m+1-dl h 2) 0) (hW t s v (m+1-dl h 0) (m+1-dl h 1) (m+1-dl h 2) 1) (hW t s v (m+1-dl h 0) (m+1-dl h 1) (m+1-dl h 2) 2):=
 bL (band ((HG ω ε bu g1 eH hm).1 h bq).2) λE M=>b2 (Om hm bq).2 λq y rc j=>Px k ω ε bu g1 eH M E (Mb ω bq).2 q y rfl λz=>qdK k _ _ _ _ _ _ _ _ _ _ _ _ _ z rc (hL.mpr (iH m)) j
omit bq
theorem qdk(y:m≠3):Told k t s v (hk (m+1:Nat) (m+1:Nat) (m+1:Nat)) (hW t s v (m+1) (m+1) (m+1) 0) (hW t s v (m+1) (m+1) (m+1) 1) (hW t s v (m+1) (m+1) (m+1) 2):=by
 refine bL (band ((HG ω ε bu g1 eH hm).2 y)) λE M=>bL (band M) λh0 M=>bL (band M) λm0 M=>bL (band M) λg9 k6=>b2 (cU E) λup p z g=>?_;have f:pU (m+1:Nat) (m+1:Nat) (m+1:Nat)=(m+1:Nat)/\pV (m+1:Nat) (m+1:Nat) (m+1:Nat)=(m+1:Nat):=by rw[xn,xo,Int.min_self,Int.max_self,Int.min_self,Int.max_self];exact⟨rfl,rfl⟩
 have y:=qdJ k (m+1:Nat) (m+1:Nat) (m+1:Nat) t s v (m+1:Nat) (m+1:Nat) (32*v) (8*v*(4-s)) (hj t s v) (hj t s v*(m+1:Nat)) (hj t s v*(m+1:Nat)) (by simp) (CZ _);have j:(m+1)*pf t s v+(m+1)*pf t s v<4096:=e6 (m4 (c8 ..) _) up;have D:=Ks k (e6 eH .d) (e6 bu .d) g f.1 f.2 y (z▸hL.mpr (cU h0)) (z▸m7 _) (z▸hL.mpr j);rw[z] at D;have T:=qdl k (cU h0) j D;rw[Nat.mul_zero,Nat.add_zero] at m0 g9 k6;have u:hW t s v (m+1) (m+1) (m+1) 0=((m+1)*pf t s v:Nat):=bp Int.ofNat (eq_of_beq m0);have ag:hW t s v (m+1) (m+1) (m+1) 1=((m+1)*pf t s v:Nat):=bp Int.ofNat (eq_of_beq g9);have q:hW t s v (m+1) (m+1) (m+1) 2=((m+1)*pf t s v:Nat):=bp Int.ofNat (eq_of_beq k6);rw[u,ag,q];exact T
end
def shp(a b c:Nat):Bool:=(List.range 4).any λm=>(a==m+1&&(b==m+1&&(c==m+1&&decide (m≠3))))||(List.range 3).any λh=>(a==m+dl h 0&&(b==m+dl h 1&&c==m+dl h 2))||(a==m+1-dl h 0&&(b==m+1-dl h 1&&c==m+1-dl h 2))
theorem qbv:((List.range 11).all λa=>(List.range 11).all λb=>(List.range 11).all λc=> !decide (max (max a b) c<=min (min a b) c+1/\1<=a+b+c/\a+b+c<=10)||shp a b c)=true:=by decide+kernel
theorem qdn(k:Nat)(ω:t<16)(ε:1<=s)(bu:s<=4)(g1:1<=v)(eH:v<=4){fp c1 c2:Nat}(he:max (max fp c1) c2<=min (min fp c1) c2+1)(g:1<=fp+c1+c2)(j:fp+c1+c2<=10):Told k t s v (hk fp c1 c2) (hW t s v fp c1 c2 0) (hW t s v fp c1 c2 1) (hW t s v fp c1 c2 2):=by
 have a1:=qG (aJ (nc c2 _) j);have a2:=aJ (c8 _ c2) j;have q:=(m6.mp (below (below (below qbv (qG (aJ (c8 ..) a2))) (qG (aJ (nc ..) a2))) a1)).resolve_left λe=>of_decide_eq_false ((lx _).mp e) ⟨he,g,j⟩;refine ν (qI.mp q) λm q=>bL q λhm q=>(m6.mp q).elim (λq=>bL (band q) λy q=>bL (band q) λag q=>bL (band q) λz q=>?_) λq=>ν (qI.mp q) λh q=>bL q λbq q=>(m6.mp q).elim (λq=>bL (band q) λy q=>bL (band q) λag z=>?_) λq=>bL (band q) λy q=>bL (band q) λag z=>?_<;>rw[eq_of_beq y,eq_of_beq ag,eq_of_beq z]
 ·exact qdk k ω ε bu g1 eH (ek.mp hm) (cU q)
 ·exact qdo k ω (ek.mp bq) ε bu g1 eH (ek.mp hm)
 ·exact qdm k ω (ek.mp bq) ε bu g1 eH (ek.mp hm)
open Internal.cw
noncomputable def cG(c:Int):List Int:=[c,Int.fdiv c 4*4+3,12+Int.fmod c 4,15]
noncomputable def eD:List Int:=[0,1,2,4,5,6,8,9,10]
theorem M0 k (κ:c∈eD):fn (k+1) "_law_lines" [.int c]=some (.lst ((cG c).map .int)):=by
 simp only[eD,cn,oc,sa] at κ;rcases κ with rfl|rfl|rfl|rfl|rfl|rfl|rfl|rfl|rfl<;>kernel_rfl
theorem qk{α:Type}[BEq α][LawfulBEq α]:∀{l m:List α},l.Nodup->(∀x∈l,x∈m)->l.length<=m.length:=by
 intro u
 induction u with
 |nil=>
  intro m γ γ;exact eM _
 |cons x l g=>
  intro m h k;have q:=h2.mp h;have j:=k x bH;have:=g (m:=m.erase x) q.2 λy z=>(List.mem_erase_of_ne (λe=>q.1 (by rw[<-e];exact z))).mpr (k y (b3 _ z));rw[List.length_erase_of_mem j] at this;have:=Ig j;rw[dG];omega
def fy(T:List (Int×Int))(c:Nat->Int):Prop:=(T.map (·.1)).Nodup/\(∀p∈T,p.1=0∨p.1=1∨p.1=2)/\∀h:Nat,h<3->(T.lookup (h:Int)).getD 0=c h
theorem Rg l k v:Dv l k v=fu l k ((l.lookup k).getD 0+v):=by
 show j8 (· +·) l k v=_;unfold j8;cases l.lookup k with
 |none=>simp
 |some a=>rfl
theorem fy.add(H:fy T c){j:Nat}(y:j<3) v:fy (Dv T j v) λh=>c h+if h=j then v else 0:=by
 rw[Rg];refine⟨GQ H.1 _ _,λp z=>?_,λh bq=>?_⟩
 ·rcases Nh z with rfl|⟨z,_⟩
  ·exact(Bg y).imp (bp Int.ofNat) (Or.imp (bp Int.ofNat) (bp Int.ofNat))
  ·exact H.2.1 p z
 ·rw[M7];show _=c h+if h=j then v else 0
  by_cases e:h=j
  ·rw[au (by rw[e]),au e,e,Option.getD_some,H.2.2 j y]
  ·rw[ar (λq=>e (v'.mp q)),ar e,H.2.2 h bq,h4]
theorem fy.nil:fy [] λγ=>0:=⟨pn,λp z=>(nomatch z),λh bq=>rfl⟩
theorem fy.congr(H:fy T c)(h:∀j,j<3->c j=d j):fy T d:=⟨H.1,H.2.1,λj z=>(H.2.2 j z).trans (h j z)⟩
theorem Nl(h:(T.map (·.1)).Nodup) U:merge T U=U.foldl (λacc p=>Dv acc p.1 p.2) T:=by
 unfold merge k7;rw[Hr T [] (by rw[ly];exact h),ly]
theorem fy.one(H:fy T c){j:Nat}(z:j<3):fy (merge T [((j:Int),1)]) λh=>c h+if h=j then 1 else 0:=by
 rw[Nl H.1];exact H.add z 1
theorem fy.swap(H:fy T c){i j:Nat}(ρ:i<3)(z:j<3):fy (merge T [((i:Int),1),((j:Int),-1)]) λh=>c h+(if h=i then 1 else 0)+(if h=j then-1 else 0):=by
 rw[Nl H.1];exact(H.add ρ 1).add z (-1)
theorem fy.len(H:fy T c):T.length<=3:=by
 have h:∀x∈T.map (·.1),x∈([0,1,2]:List Int):=λx z=>by
  obtain⟨p,y,rfl⟩:=bV.mp z;rcases H.2.1 p y with e|e|e<;>simp [e]
 have:=qk H.1 h;rw[bt] at this;exact this
open Internal.cw
noncomputable abbrev lC:=Nat->Int
def Num(x:D)(n:Int):Prop:=x=.υ (a6 (128*n))∨(x=.int 0/\n=0)
def t7(e:D)(v:lC):Prop:=∃x y z T,e=ent x y z (.int (v 3)) T/\Num x (v 0)/\Num y (v 1)/\Num z (v 2)/\fy T λh=>v (4+h)
def qP(e:D)(v:lC):Prop:=∃T,e=ent (.υ (a6 (128*v 0))) (.υ (a6 (128*v 1))) (.υ (a6 (128*v 2))) (.int (v 3)) T/\fy T λh=>v (4+h)
theorem qP.ok(H:qP e v):t7 e v:=by
 obtain⟨T,h,ω⟩:=H;exact⟨_,_,_,T,h,.inl rfl,.inl rfl,.inl rfl,ω⟩
theorem Ep(H:qP e v)(h:∀i,i<7->v i=w i):qP e w:=by
 obtain⟨T,rfl,ω⟩:=H;exact⟨T,by rw[h 0 .d,h 1 .d,h 2 .d,h 3 .d],ω.congr λj z=>h (4+j) (CB z 4)⟩
def wu(m:D)(w:lC):Prop:=∃U:List (Int×Int),m=ent (.υ (a6 (128*w 0))) (.υ (a6 (128*w 1))) (.υ (a6 (128*w 2))) (.int (w 3)) U/\U.length<=3/\∀T c,fy T c->fy (merge T U) λh=>c h+w (4+h)
abbrev og(b:Nat)(v:lC):Prop:=∀i,i<3->(v i).natAbs<=b
theorem JQ{a b:Int}{x y:Nat}(h:a.natAbs<=x)(k:b.natAbs<=y):(a+b).natAbs<=x+y:=aJ (Int.natAbs_add_le a b) (r9 h k)
theorem DK{a b:Int}{x y:Nat}{p:Prop}[Decidable p](h:a.natAbs<=x)(k:b.natAbs<=y):(a+if p then b else 0).natAbs<=x+y:=by
 split
 ·exact JQ h k
 ·exact JQ (b:=0) h (eM y)
theorem um{n:Int}(h:n.natAbs<=2^40):(128*n).natAbs<=2^52:=CW 128 n▸aJ (j1 128 h) .d
theorem num_add(H:Num x n)(z:n.natAbs<=2^40)(hm:m.natAbs<=2^40):binop .Add (.υ (a6 (128*m))) x=some (.υ (a6 (128*(n+m)))):=by
 rcases H with rfl|⟨rfl,rfl⟩
 ·show some (D.υ (Float64.add (a6 (128*m)) (a6 (128*n))))=_;rw[EM (um hm) (um z),<-Int.mul_add,iI]
 ·show alt (aS (Ar 0) (some (D.υ (Float64.add (a6 (128*m)) (Float64.ofInt 0))))) (two kN kN (λx y=>aS (dE (x.length+y.length)) (some (.str (x++y)))) (.υ (a6 (128*m))) (.int 0))=_;rw[show Float64.ofInt 0=a6 0 by decide+kernel,EM (um hm) .d,h4,mg];rfl
theorem TR k (H:t7 e v) (M:wu m w) (p:og (2^35) v) (hw:og (2^35) w):∃aB,fn (k+2) "add_func_stats" [e,m]=some aB/\qP aB λi=>v i+w i:=by
 obtain⟨x,y,z,T,rfl,q,g,u,ω⟩:=H;obtain⟨U,rfl,f,hm⟩:=M;have b:=λi ρ=>aJ (p i ρ) (by decide:2^35<=2^40);have j:=λi ρ=>aJ (hw i ρ) (by decide:2^35<=2^40);refine⟨_,qbX k x y z (.int (v 3)) (.υ (a6 (128*w 0))) (.υ (a6 (128*w 1))) (.υ (a6 (128*w 2))) (.int (w 3)) T U (num_add q (b 0 .d) (j 0 .d)) (num_add g (b 1 .d) (j 1 .d)) (num_add u (b 2 .d) (j 2 .d)) (x4:=.int (w 3+v 3)) rfl (by have:=ω.len;lia),?_⟩;exact⟨merge T U,by rw[iI (w 3)],hm T _ ω⟩
noncomputable def kl:List Int:=[0,1,2,3,4,5,6,7,8,9,10,11,12,13,14,15]
structure eN(Ξ:List (Int×D))(E:Int->lC):Prop where
 nodup:(Ξ.map (·.1)).Nodup
 ent:∀p∈Ξ,p.1∈kl/\qP p.2 (E p.1)
 rest:∀l,l∉Ξ.map (·.1)->∀i,E l i=0
noncomputable def hP(E:Int->lC)(l:Int)(w:lC):Int->lC:=λj i=>E j i+if j=l then w i else 0
noncomputable def tJ:D:=.tup [.int 0,.int 0,.int 0,.int 0,.aX []]
theorem qfe:t7 tJ λγ=>0:=⟨.int 0,.int 0,.int 0,[],rfl,.inr ⟨rfl,rfl⟩,.inr ⟨rfl,rfl⟩,.inr ⟨rfl,rfl⟩,fy.nil⟩
theorem YY{Ξ:List (Int×D)}(h:Ξ.lookup l=some e):(l,e)∈Ξ:=lookup_mem h
theorem YZ:∀{Ξ:List (Int×D)} {l},Ξ.lookup l=none->l∉Ξ.map (·.1):=by
 intro j
 induction j with
 |nil=>
  intro l γ q;exact nomatch q
 |cons p r y=>
  intro l h q;rw[fP] at h;cases z:l==p.1 with
  |true=>rw[z] at h;exact jq h
  |false=>
   rw[z] at h;exact(cn.mp q).elim (λe=>gU.mp z e) (y h)
theorem TS(H:t7 e v)(h:∀i,i<7->v i=w i):t7 e w:=by
 obtain⟨x,y,z,T,rfl,q,g,u,ω⟩:=H;exact⟨x,y,z,T,by rw[h 3 .d],h 0 .d▸q,h 1 .d▸g,h 2 .d▸u,ω.congr λj p=>h (4+j) (CB p 4)⟩
theorem eN.at(H:eN Ξ E) l:t7 ((Ξ.lookup l).getD tJ) (E l):=by
 cases h:Ξ.lookup l with
 |some e=>exact(H.ent _ (YY h)).2.ok
 |none=>exact TS qfe λi γ=>(H.rest l (YZ h) i).symm
theorem MN(l:List (Int×D))(k:Int)(v:D):(stored l k v).map (·.1)=if k∈l.map (·.1) then l.map (·.1) else l.map (·.1)++[k]:=MM l k v
theorem eN.put(H:eN Ξ E){l:Int}(ζ:l∈kl){e:D}{w:lC}(he:qP e λi=>E l i+w i):eN (stored Ξ l e) (hP E l w) where
 nodup:=GQ H.nodup l e
 ent:=λp z=>by
  rcases Nh z with rfl|⟨z,g⟩
  ·exact⟨ζ,Ep he λi γ=>by unfold hP;rw[au rfl]⟩
  ·exact⟨(H.ent p z).1,Ep (H.ent p z).2 λi γ=>by unfold hP;rw[ar g,h4]⟩
 rest:=λj y i=>by
  rw[MN] at y;have ε:j∉Ξ.map (·.1):=λq=>y (by split<;>simp [q]);have u:j≠l:=λq=>y (by
   split
   ·rename_i r;rw[q];exact r
   ·rw[q];simp)
  unfold hP;rw[ar u,H.rest j ε i];rfl
def zF(Ξ z:List (Int×D))(ls:List Int):Prop:=∀l,l∈z.map (·.1)↔l∈Ξ.map (·.1)∨l∈ls
section
variable(k:Nat)
noncomputable abbrev lK:=gm "_law_book"
abbrev ja:Stmt:=sB "_law_book" 0
abbrev q4:Stmt:=d9 (c_ ja) 0
def ka(Ξ:List (Int×D))(c:Int)(m:D)(line:Option aC):Γ:=[("books",some (.own (.aX Ξ))),("call",ο c),("more",ξ m),("line",line)]
theorem R4 Ξ c l m aB (h:fn (k+2) "add_func_stats" [(Ξ.lookup l).getD tJ,m]=some aB) (z:Ξ.length+1<=16777216):
 bw (S (k+2)) 58 [] lK (c_ ja) (ka Ξ c m (ο l))=some (ka (stored Ξ l aB) c m (ο l),.next):=by
 have y:μ (S (k+2)) 55 lK (b1 (aO q4)) (ka Ξ c m (ο l))=some ((Ξ.lookup l).getD tJ):=by
  exact(Al (c:=(o5 (b1 (aO q4)),"get",u' (b1 (aO q4)),bk (b1 (aO q4)))) .k).trans (wE .k (c5 .k (c5 rfl (c5 rfl (aa (a:=.aX Ξ) .k (aa (a:=[.int l,tJ]) .k (c5 rfl (wE rfl (aa (a:=Ξ) rfl (aa (a:=(D.int l,tJ)) rfl (aa (a:=l) rfl rfl)))))))))))
 have e:μ (S (k+2)) 56 lK (aO q4) (ka Ξ c m (ο l))=some aB:=ht (x:="add_func_stats") (es:=[b1 (aO q4),(bk (aO q4)).getD 1 aD]) (ds:=[(Ξ.lookup l).getD tJ,m]) .k .k .k (bW y (bW .k eE)) h;rw[show c_ ja=[q4] from .k,bj (ub (v:=aB) (j:=.int l) (d:=.aX Ξ) .k e .k .k (yy (u7 z))),eG]
 kernel_rfl
theorem R3 c (M:wu m w) (hw:og (2^20) w):∀ls Ξ E q b,eN Ξ E->(∀l∈ls,l∈kl)->(∀l,og b (E l))->b+ls.length*2^20<=2^30->Ξ.length+ls.length<=16777216->
 ∃z u,ec lK (iU ja) (λp=>bw (S (k+2)) 58 [] lK (c_ ja) p) (ls.map .int) (ka Ξ c m q)=some (ka z c m u,.next)/\eN z (ls.foldl (λE l=>hP E l w) E)/\zF Ξ z ls:=by
 intro r
 induction r with
 |nil=>
  intro Ξ E q b H γ γ γ γ;exact⟨Ξ,q,rfl,H,λl=>by simp⟩
 |cons l ls f=>
  intro Ξ E q b H ζ v g y;rw[dG] at g y;rw[zt,wc,mf (ls.length*_),<-qK] at g;rw[mf ls.length,<-qK] at y;obtain⟨aB,ε,a⟩:=TR k (H.at l) M (λi ρ=>aJ (v l i ρ) (aJ (aJ (c8 ..) (aJ (c8 ..) g)) .d)) (λi ρ=>aJ (hw i ρ) .d);have h:=H.put (ζ l bH) a;have hlen:(stored Ξ l aB).length<=Ξ.length+1:=O5 Ξ l aB;obtain⟨z,u,t,bu,n⟩:=f (stored Ξ l aB) (hP E l w) (ο l) (b+2^20) h (λj x=>ζ j (b3 _ x)) (λj i ρ=>DK (v j i ρ) (hw i ρ)) g (aJ (m4 hlen _) y);refine⟨z,u,?_,bu,λj=>?_⟩
  ·rw[bN,kU (σ1:=ka Ξ c m (ο l)) (σ':=ka (stored Ξ l aB) c m (ο l)) .k (R4 k Ξ c l m aB ε (aJ (c8 ..) y)),t]
  ·rw[n j,MN]
   by_cases hm:l∈Ξ.map (·.1)
   ·rw[au hm,cn];exact⟨λq=>q.imp id .inr,λq=>q.elim .inl λq=>q.elim (λe=>.inl (e▸hm)) .inr⟩
   ·rw[ar hm,fk,fj,cn];exact⟨λq=>q.elim (λq=>q.imp id .inl) λq=>.inr (.inr q),λq=>q.elim (λq=>.inl (.inl q)) λq=>q.elim (λq=>.inl (.inr q)) .inr⟩
theorem MZ(κ:c∈eD):(∀l∈cG c,l∈kl)/\(cG c).Nodup:=by
 have:eD.all (λc=>(cG c).all (λl=>kl.contains l)&&decide (cG c).Nodup)=true:=by decide+kernel
 have h:=band (er.mp this c κ);exact⟨λl ζ=>iG.mp (er.mp h.1 l ζ),cU h.2⟩
theorem Vp w:∀(ls:List Int) E,ls.Nodup->∀j i,ls.foldl (λE l=>hP E l w) E j i=E j i+if j∈ls then w i else 0:=by
 intro g
 induction g with
 |nil=>
  intro E γ j i;simp
 |cons l ls y=>
  intro E h j i;have z:=h2.mp h;rw[i6,y _ z.2];unfold hP
  by_cases e:j=l
  ·rw[au e,ar (λq=>z.1 (e▸q)),au (by rw[e];exact bH)];exact h4 _
  ·rw[ar e]
   by_cases m:j∈ls
   ·rw[au m,au (b3 _ m),h4]
   ·rw[ar m,ar λq=>(cn.mp q).elim e m,h4]
theorem eN.congr(H:eN Ξ E)(h:∀l i,E l i=y l i):eN Ξ y:=⟨H.nodup,λp z=>⟨(H.ent p z).1,Ep (H.ent p z).2 λi γ=>h _ i⟩,λl ζ i=>(h l i).symm.trans (H.rest l ζ i)⟩
theorem JU(κ:c∈eD)(M:wu m w)(hw:og (2^20) w)(H:eN Ξ E)(v:∀l,og (2^20) (E l))(j:Ξ.length<=1000):
 ∃z,G6 G own defs 10000 (k+3) "_law_book" (.aX Ξ) [.int c,m]=some (.aX z)/\eN z (λl i=>E l i+if l∈cG c then w i else 0)/\zF Ξ z (cG c):=by
 obtain⟨z,g,ε,p,q⟩:=R3 k c M hw (cG c) Ξ E none (2^20) H (MZ κ).1 v (by rw[show(cG c).length=4 from rfl];decide) (by rw[show(cG c).length=4 from rfl];exact aJ (m4 j 4) .d);refine⟨z,?_,p.congr λl i=>Vp w _ E (MZ κ).2 l i,q⟩;have u:G6 G own defs 10000 (k+3) "_law_book" (.aX Ξ) [.int c,m]=(bw (S (k+2)) 60 [] lK [ja] (ka Ξ c m none)).bind λr=>aS (MA r.2) (p1 r.1 "books"):=.k
 have ρ:dj (S (k+2)) (μ (S (k+2)) 58) lK (aO ja) (noOwn (ed (ka Ξ c m none) (aO ja)))=some ((cG c).map .int):=by
  have ag:μ (S (k+2)) 58 lK (aO ja) (noOwn (ed (ka Ξ c m none) (aO ja)))=some (.lst ((cG c).map .int)):=ht (x:="_law_lines") (es:=bk (aO ja)) (ds:=[.int c]) .k .k .k .k (M0 (k+1) κ);exact c5 .k (c5 .k (aa (cq .k ag) rfl))
 have hf:aK (S (k+2)) 59 [] lK ja (ka Ξ c m none)=some (ka z c m g,.next):=(mA .k ρ .k).trans ((show ec lK (jf ja) (λy=>bw (S (k+2)) 58 [] lK (fb ja) y) ((cG c).map .int) (ed (ka Ξ c m none) (aO ja))=ec lK (iU ja) (λy=>bw (S (k+2)) 58 [] lK (c_ ja) y) ((cG c).map .int) (ka Ξ c m none) by congr 1).trans ε);rw[u,bj hf,eG]
 kernel_rfl
end
noncomputable abbrev oM:=gm "_law_weigh"
abbrev q'(i:Nat):Stmt:=sB "_law_weigh" i
noncomputable def pZ(t r:Option aC):Γ:=[("tables",t),("rows",r)]
noncomputable def iz(T:List (Int×Int)):List Int:=[(T.lookup 0).getD 0,(T.lookup 1).getD 0,(T.lookup 2).getD 0]
noncomputable def dY(r:List Int):D:=.lst (r.map .int)
def ll(r:List Int):Bool:=decide (1<pV (r.getD 0 0) (r.getD 1 0) (r.getD 2 0)-pU (r.getD 0 0) (r.getD 1 0) (r.getD 2 0))
noncomputable def ft(rows:List (List Int)):Int:=(rows.flatMap λr=>r.map λx=>x*x).sum
section
variable(k:Nat)
def sM:Expr:=aO (q' 0)
def ra:Expr:=cD sM
def pY:Expr:=cD ra
theorem VQ{K:Kinds} T h (he:sr pY=some (A6 pY,A8 pY,A7 pY)) (ε:b9 (S k) (n+1) K (A6 pY) σ=some ((hn T).any λp=>p.1==h)) (j:μ (S k) (n+1) K (A8 pY) σ=((hn T).lookup h)) (z:μ (S k) (n+1) K (A7 pY) σ=some (.int 0)):μ (S k) (n+2) K pY σ=some (.int ((T.lookup h).getD 0)):=by
 refine Qd he ε ?_;rw[qcJ];cases y:T.lookup h with
 |none=>exact z
 |some a=>exact j.trans (by rw[B9,y];rfl)
def x3(T:List (Int×Int)):Γ:=[(".0",none),("table",ξ (tabI T))]
theorem g_row T (t:D):μ (S k) 57 (bG sM).names ra (x3 T)=some (dY (iz T)):=by
 have z:su ra=some (pY,[bg ra],bG ra):=.k;have ρ:dj (S k) (μ (S k) 56) (bG sM).names (bg ra).iter (x3 T)=some (([0,1,2]:List Int).map .int):=.k;have:=fv (S:=S k) (n:=56) (K:=(bG sM).names) (σ:=(x3 T)) (items:=([0,1,2]:List Int).map .int) (out:=([0,1,2]:List Int).map λh=>.int ((T.lookup h).getD 0)) z .k ρ ?_ (e5 rfl)
 ·exact this
 ·refine g0 D.int _ λh bq=>⟨fH (bG ra).names (x3 T)|>.set "hue" (.val (.int h)),.k,hT ?_⟩;exact VQ (n:=54) k T h .k .k .k .k
theorem VS(z:List (List (Int×Int)))(y:z.length<=1000):μ (S k) 58 oM sM (pZ (ξ (.lst (z.map tabI))) none)=some (.lst (z.map λT=>dY (iz T))):=by
 refine fv (S:=S k) (n:=57) (K:=oM) (items:=z.map tabI) (elt:=ra) (g:=bg sM) (gs:=[]) (sc:=bG sM) .k .k .k ?_ f';exact g0 tabI _ λT j=>⟨(x3 T),.k,hT (g_row k T (tabI T))⟩
def wD(r:List Int):Prop:=∃a b c,r=[a,b,c]/\a.natAbs<2^60/\b.natAbs<2^60/\c.natAbs<2^60
def sN:Expr:=(bk (aO (q' 1))).getD 0 aD
def oN:Expr:=(bk (aO (q' 1))).getD 1 aD
theorem VX(rows:List (List Int))(z:∀r∈rows,wD r)(j:rows.length<=1000) t:μ (S k) 56 oM sN (pZ (ξ t) (ξ (.lst (rows.map dY)))).freeze=some (.lst ((rows.filter ll).map dY)):=by
 refine fv (S:=S k) (n:=55) (K:=oM) (items:=rows.map dY) (elt:=cD sN) (g:=bg sN) (gs:=[]) (sc:=bG sN) .k .k .k ?_ (by rw[bt];have:=gD ll rows;lia);refine mJ dY ll dY λr y=>?_;obtain⟨a,b,c,rfl,_⟩:=z r y;exact⟨[(".0",none),("row",ξ (dY [a,b,c]))],.k,by rw[show(bg sN).ifs=[(bg sN).ifs.getD 0 aD] from .k];exact l' .k,λ_=>by kernel_rfl⟩
theorem VT rows (z:∀r∈rows,wD r) (u:rows.length<=1000) t:μ (S k) 56 oM oN (pZ (ξ t) (ξ (.lst (rows.map dY)))).freeze=some (.int (ft rows)):=by
 have hlen:(rows.flatMap λr=>r.map λx=>x*x).length=3*rows.length:=by
  clear u
  induction rows with
  |nil=>rfl
  |cons r rows q=>
   obtain⟨a,b,c,rfl,_⟩:=z _ bH;rw[m_,eL,q λr y=>z r (b3 _ y)];simp;lia
 have e:μ (S k) 55 oM (b1 oN) (pZ (ξ t) (ξ (.lst (rows.map dY)))).freeze=some (.lst ((rows.flatMap λr=>r.map λx=>x*x).map .int)):=by
  refine fv (S:=S k) (n:=54) (K:=oM) (items:=rows.map dY) (elt:=cD (b1 oN)) (g:=bg (b1 oN)) (gs:=(sA (b1 oN)).drop 1) (sc:=bG (b1 oN)) .k .k .k ?_ (by rw[bt,hlen];lia);rw[List.map_flatMap];refine EU dY (λr=>(r.map λx=>x*x).map D.int) λr y=>?_;obtain⟨a,b,c,rfl,v,p,κ⟩:=z r y;refine⟨[(".0",none),("row",ξ (dY [a,b,c])),("part",none)],.k,?_⟩;rw[show(sA (b1 oN)).drop 1=[(sA (b1 oN)).getD 1 (bg oN)] from .k];refine wE .k (aa (a:=([a,b,c]:List Int).map .int) .k ?_);rw[cP];refine g0 D.int (D.int∘λx=>x*x) λx j=>⟨[(".0",none),("row",ξ (dY [a,b,c])),("part",ο x)],.k,hT (k9 .k .k .k ?_)⟩;simp only[cn,oc,sa] at j;rcases j with rfl|rfl|rfl<;>lia
 exact Dd .k .k (cq .k e) (by rw[bt,hlen];lia) (ry _)
theorem PS(z:List (List (Int×Int)))(q:z.length<=1000)(v:∀T∈z,wD (iz T)):fn (k+1) "_law_weigh" [.lst (z.map tabI)]=some (.tup [.lst (((z.map iz).filter ll).map dY),.int (ft (z.map iz))]):=by
 have f:fn (k+1) "_law_weigh" [.lst (z.map tabI)]=(bw (S k) 60 [] oM [q' 0,q' 1] (pZ (ξ (.lst (z.map tabI))) none)).bind λr=>jX r.2:=.k;have ag:aK (S k) 59 [] oM (q' 0) (pZ (ξ (.lst (z.map tabI))) none)=some (pZ (ξ (.lst (z.map tabI))) (ξ (.lst ((z.map iz).map dY))),.next):=by
  rw[fB .k .k (VS k z q),cP]
  kernel_rfl
 have j:∀r∈z.map iz,wD r:=λr p=>by obtain⟨T,e,rfl⟩:=bV.mp p;exact v T e
 have g:(z.map iz).length<=1000:=by rw[bt];exact q
 have u:aK (S k) 58 [] oM (q' 1) (pZ (ξ (.lst (z.map tabI))) (ξ (.lst ((z.map iz).map dY))))=some (pZ (ξ (.lst (z.map tabI))) (ξ (.lst ((z.map iz).map dY))),.ret (.tup [.lst (((z.map iz).filter ll).map dY),.int (ft (z.map iz))])):=
  wG .k (ng .k (by
   rw[show bk (aO (q' 1))=[sN,oN] from .k];exact bW (VX k _ j g _) (bW (VT k _ j g _) eE)) (e5 rfl))
 generalize D.lst (((z.map iz).filter ll).map dY)=x at*;generalize D.int (ft (z.map iz))=y at*;rw[f,bj ag,mH u];rfl
end
noncomputable abbrev br:=gm "_law_again"
abbrev b6(i:Nat):Stmt:=sB "_law_again" i
def df:List Str:=own "_law_again"
def WL(M:Nat->Option aC):Γ:=(List.range 10).map λk=>(cz (k:Nat),M k)
structure mv where
 k:Option aC
 mine:Option aC
 rows:Option aC
 single:Option aC
 line:Option aC
 row:Option aC
 at':Option aC
 left:Option aC
 turn:Option aC
 yt:Option aC
 chain:Option aC
 us:Option aC
 place:Option aC
 yj:Option aC
noncomputable def aW(l:List Nat):D:=.lst (l.map λk=>.int (k:Nat))
noncomputable def ak(cs:List Int):D:=.lst (cs.map .int)
def mv.Φ(X:mv)(cs hs:List Int)(p q:Int)(M:Nat->Option aC):Γ:=[(Str.ofString "calls",ξ (ak cs)),(Str.ofString "hues",ξ (ak hs)),(Str.ofString "pair",ξ (.tup [.int p,.int q])),(Str.ofString "k",X.k),(Str.ofString "mine",X.mine),(Str.ofString "rows",X.rows),(Str.ofString "single",X.single),(Str.ofString "line",X.line),(Str.ofString "row",X.row),(Str.ofString "at",X.at'),(Str.ofString "left",X.left),(Str.ofString "turn",X.turn),(Str.ofString "painted",X.yt),(Str.ofString "chain",X.chain),(Str.ofString "_",X.us),(Str.ofString "place",X.place),(Str.ofString "mates",X.yj)]++WL M
noncomputable def fs(hs:List Int)(p q:Int)(n:Nat):List Nat:=(List.range n).filter λk=>p==hs.getD k 0||(q==hs.getD k 0||false)
noncomputable def ey(cs:List Int)(mine:List Nat)(l:Int):List Nat:=mine.filter λk=>cs.getD k 0==l
noncomputable def eT(r:List Nat):List Nat:=r.drop (r.length/2*2)
section
variable(k:Nat)(cs hs:List Int)(p q:Int)(M:Nat->Option aC)(X:mv)
theorem Q3(ζ:hs.length=cs.length)(v:cs.length<=1000):aK (S k) 59 df br (b6 0) (X.Φ cs hs p q M)=some (mv.Φ {X with mine:=ξ (aW (fs hs p q cs.length))} cs hs p q M,.next):=by
 have z:μ (S k) 57 br (b1 (bg (aO (b6 0))).iter) (X.Φ cs hs p q M)=some (.int (cs.length:Nat)):=(j5 (l:=cs.map .int) .k .k .k .k f').trans (by rw[bt])
 have ρ:dj (S k) (μ (S k) 57) br (bg (aO (b6 0))).iter (X.Φ cs hs p q M)=some ((List.range cs.length).map λk=>D.int ((k:Nat):Int)):=
  dI (aa (a:=(Str.ofString "range",[b1 (bg (aO (b6 0))).iter])) .k (aa (a:="range") .k (dI (wE rfl (aa (bW z eE) (aa (a:=[(cs.length:Int)]) rfl (dI (aa (a:=(cs.length:Int)) rfl (wE (cA x5) (by rw[BN]))))))))))
 have e:μ (S k) 58 br (aO (b6 0)) (X.Φ cs hs p q M)=some (aW (fs hs p q cs.length)):=by
  refine fv (S:=S k) (n:=57) (K:=br) (elt:=cD (aO (b6 0))) (g:=bg (aO (b6 0))) (gs:=[]) (sc:=bG (aO (b6 0))) .k .k ρ ?_ (by rw[bt];unfold fs;have:=gD (λk=>p==hs.getD k 0||(q==hs.getD k 0||false)) (List.range cs.length);rw[hZ] at this;lia);refine mJ (λk=>D.int ((k:Nat):Int)) _ _ λj y=>⟨[(Str.ofString ".0",none),(Str.ofString "k",ο (j:Nat)),(Str.ofString "hues",ξ (ak hs)),(Str.ofString "pair",ξ (.tup [.int p,.int q]))],.k,?_,λ_=>by kernel_rfl⟩;have u:=ek.mp y;rw[show(bg (aO (b6 0))).ifs=[(bg (aO (b6 0))).ifs.getD 0 aD] from .k];refine l' (e_ .k (fl (op:=.In) (a:=.int (hs.getD j 0)) (b:=.tup [.int p,.int q]) .k ?_ .k .k ?_))
  ·exact dq (a:=ak hs) (b:=.int (j:Nat)) .k .k .k .k (jM .l .l)
  ·generalize hs.getD j 0=h
   kernel_rfl
 rw[fB .k .k e]
 kernel_rfl
end
theorem QS{S:dH}{own:List Str}{K:Kinds}{st:Stmt}(z:w0 st=some (cF st,bD st))(h:Ao S n own K (cF st) (bD st) σ=some r):aK S (n+1) own K st σ=some r:=(EB z).trans (dI h)
theorem ZM S n K σ e:yp S (n+1) K σ e=(ue e).bind λc=>(zU c.2.1).bind λes=>aS es.isEmpty ((jc S (μ S n) (b9 S n) K (pR (μ S n) c.2.2.2.names c.1 c.2.1) c.2.2.1 c.2.2.2 σ).bind Br):=rfl
theorem qbZ:∀l a,((a++l).map (·.1)).Nodup->storeAll a l=a++l:=by
 intro y
 induction y with
 |nil=>
  intro a γ;exact(nd a).symm
 |cons p l z=>
  intro a h
  have e:stored a p.1 p.2=a++[p]:=by
   unfold stored;rw[ar];intro q;obtain⟨r,j,e⟩:=qI.mp q;rw[kD,r4] at h;exact h.2.2 r.1 (pw (f:=(·.1)) j) p.1 (by simp) (cU e)
  show storeAll (stored a p.1 p.2) l=_;rw[e,z (a++[p]) (by rw[ml];exact h),ml];rfl
theorem U_{α:Type}(f:α->Int)(g:α->D):∀l:List α,(l.map λa=>D.tup [.int (f a),g a]).filterMap pairOf=l.map λa=>(f a,g a):=by
 intro y
 induction y with
 |nil=>
  exact rfl
 |cons a l z=>
  exact bp ((f a,g a)::·) (z)
theorem HE:∀{j:Nat},j<10->j=0∨j=1∨j=2∨j=3∨j=4∨j=5∨j=6∨j=7∨j=8∨j=9
 |0,_=>.inl rfl
 |1,_=>.inr (.inl rfl)
 |2,_=>.inr (.inr (.inl rfl))
 |3,_=>.inr (.inr (.inr (.inl rfl)))
 |4,_=>.inr (.inr (.inr (.inr (.inl rfl))))
 |5,_=>.inr (.inr (.inr (.inr (.inr (.inl rfl)))))
 |6,_=>.inr (.inr (.inr (.inr (.inr (.inr (.inl rfl))))))
 |7,_=>.inr (.inr (.inr (.inr (.inr (.inr (.inr (.inl rfl)))))))
 |8,_=>.inr (.inr (.inr (.inr (.inr (.inr (.inr (.inr (.inl rfl))))))))
 |9,_=>.inr (.inr (.inr (.inr (.inr (.inr (.inr (.inr (.inr rfl))))))))
 |j+10,h=>absurd h (e7.mpr (nc 10 j))
noncomputable def upd(M:Nat->Option aC)(j:Nat)(v:aC):Nat->Option aC:=λi=>if i=j then some v else M i
theorem Z3:∀{l},l.Nodup->oF l=true:=by
 intro j
 induction j with
 |nil=>
  intro γ;exact rfl
 |cons x l y=>
  intro h;have z:=h2.mp h;unfold oF;rw[y z.2,Bool.and_true,lx];exact(Bool.not_eq_true _).mp λq=>z.1 (iG.mp q)
section
variable(k:Nat)(cs hs:List Int)(p q:Int)(M:Nat->Option aC)(X:mv)
theorem OD(z:j<10) v:(X.Φ cs hs p q M).set (cz (j:Nat)) v=X.Φ cs hs p q (upd M j v):=by
 rcases HE z with rfl|rfl|rfl|rfl|rfl|rfl|rfl|rfl|rfl|rfl<;>kernel_rfl
theorem Lj(z:j<10):(X.Φ cs hs p q M).get (cz (j:Nat))=M j:=by
 rcases HE z with rfl|rfl|rfl|rfl|rfl|rfl|rfl|rfl|rfl|rfl<;>kernel_rfl
theorem qbn:∀(l:List Nat) M,(∀j∈l,j<10)->ez (X.Φ cs hs p q M) (p8 (l.map λj=>((j:Nat):Int)))=X.Φ cs hs p q (λi=>if i∈l then some (.own (.lst [])) else M i):=by
 intro y
 induction y with
 |nil=>
  intro M γ;show X.Φ cs hs p q M=_
  congr 1
 |cons j l z=>
  intro M h;show ez ((X.Φ cs hs p q M).set (cz (j:Nat)) (.own (.lst []))) (p8 (l.map λj=>((j:Nat):Int)))=_;rw[OD cs hs p q M X (h j bH),z _ λi ρ=>h i (b3 _ ρ)]
  congr 1
  funext i;unfold upd
  by_cases e:i=j
  ·rw[e];simp
  ·simp [e]
theorem WM(h:cz (i:Nat)=cz (j:Nat)):i=j:=by
 have:=bp (λx:Str=>x.cps[1]?) h;exact ae this
theorem WN(h:j<10):df.contains (cz (j:Nat))=true:=by
 rcases HE h with rfl|rfl|rfl|rfl|rfl|rfl|rfl|rfl|rfl|rfl<;>kernel_rfl
noncomputable def oC(l:List Nat):List Int:=l.map λj=>((j:Nat):Int)
def hM(mine:List Nat):mv:=⟨none,ξ (aW mine),none,none,none,none,none,none,none,none,none,none,none,none⟩
def mu(mine:List Nat):mv:={hM mine with rows:=some (.own (.lst [])),single:=some (.own (.lst [])),yj:=some (.gn (oC mine))}
theorem Q4 mine (hm:∀j∈mine,j<10) (hd:mine.Nodup):aK (S k) 58 df br (b6 1) ((hM mine).Φ cs hs p q λ_=>none)=some ((mu mine).Φ cs hs p q λi=>if i∈mine then some (.own (.lst [])) else none,.next):=by
 have hlen:mine.length<=10:=by
  have:=qk (m:=List.range 10) hd λj y=>ek.mpr (hm j y);rwa [hZ] at this
 have x:(oC mine).Nodup:=by
  unfold oC;exact CL.mpr (hd.imp λh e=>h (v'.mp e))
 have f:ue ((bD (b6 1)).getD 0 aD)=some (cD ((bD (b6 1)).getD 0 aD),iS ((bD (b6 1)).getD 0 aD),[bg ((bD (b6 1)).getD 0 aD)],bG ((bD (b6 1)).getD 0 aD)):=.k;have l:jc (S k) (μ (S k) 56) (b9 (S k) 56) br (pR (μ (S k) 56) (bG ((bD (b6 1)).getD 0 aD)).names (cD ((bD (b6 1)).getD 0 aD)) (iS ((bD (b6 1)).getD 0 aD))) [bg ((bD (b6 1)).getD 0 aD)] (bG ((bD (b6 1)).getD 0 aD)) ((hM mine).Φ cs hs p q λ_=>none)=some (mine.map λj=>D.tup [.int (j:Nat),.lst []]):=by
  refine D2 .k (show dj (S k) (μ (S k) 56) br (bg ((bD (b6 1)).getD 0 aD)).iter ((hM mine).Φ cs hs p q λ_=>none)=some (mine.map λj=>D.int ((j:Nat):Int)) from .k) ?_ f';exact g0 (λj=>D.int ((j:Nat):Int)) (λj=>D.tup [.int (j:Nat),.lst []]) λj y=>⟨[(".0",none),("k",ο (j:Nat))],.k,.k⟩
 have n:Br (mine.map λj=>D.tup [.int (j:Nat),.lst []])=some (oC mine):=by
  unfold Br;rw[U_ (λj:Nat=>(j:Int)) (λ_=>.lst []),qbZ _ [] (by rw[ly,cP];exact x)];refine(wE (er.mpr λr u=>?_) rfl).trans (by rw[ly,cP];rfl);obtain⟨j,_,rfl⟩:=bV.mp u;rfl
 have t:yp (S k) 57 br ((hM mine).Φ cs hs p q λ_=>none) ((bD (b6 1)).getD 0 aD)=some (oC mine):=(ZM ..).trans (aa f (aa (a:=[]) .k (wE rfl (aa l n))));have v:gf (S k) 57 df br ((hM mine).Φ cs hs p q λ_=>none) ((cF (b6 1)).drop 1) ((bD (b6 1)).drop 1)=some [(Str.ofString "rows",.own (.lst [])),(Str.ofString "single",.own (.lst []))]:=.k;refine(QS .k (aa (a:=((cF (b6 1)).getD 0 aD,(cF (b6 1)).drop 1)) .k (aa (a:=Str.ofString "mates") .k (wE .k (aa (a:=((bD (b6 1)).getD 0 aD,(bD (b6 1)).drop 1)) .k (aa t (wE (j0.mpr ⟨er.mpr λz g=>?_,Z3 ?_⟩) (aa v (wE .k rfl))))))))).trans ?_
 ·obtain⟨j,y,rfl⟩:=bV.mp g;exact j0.mpr ⟨cA (m7 j),WN (hm j y)⟩
 ·unfold p8 oC;rw[cP,cP];exact CL.mpr (hd.imp λh e=>h (WM e))
 ·rw[<-OC];have:=qbn cs hs p q (hM mine) mine (λ_=>none) hm;unfold oC;rw[this]
  kernel_rfl
end
def dP(mine:List Nat)(R:List (List Nat))(sg:List Nat)(line row:Option aC):mv:={mu mine with rows:=some (.own (.lst (R.map aW))),single:=some (.own (aW sg)),line:=line,row:=row}
abbrev pF:Stmt:=b6 2
abbrev pG:Stmt:=d9 (c_ pF) 0
abbrev Dt:Stmt:=d9 (c_ pF) 1
abbrev ov:Stmt:=d9 (c_ pF) 2
section
variable(k:Nat)(cs hs:List Int)(p q:Int)(M:Nat->Option aC)(mine:List Nat)
theorem qaZ l R sg row (hm:∀j∈mine,j<cs.length) (V:cs.length<=1000) (ζ:mine.length<=1000) (W:R.length<=1000) (Z:sg.length<=1000000):
 bw (S k) 56 df br (c_ pF) ((dP mine R sg (ο l) row).Φ cs hs p q M)=some ((dP mine (R++[ey cs mine l]) (sg++eT (ey cs mine l)) (ο l) (ξ (aW (ey cs mine l)))).Φ cs hs p q M,.next):=by
 have u:μ (S k) 54 br (aO pG) ((dP mine R sg (ο l) row).Φ cs hs p q M)=some (aW (ey cs mine l)):=by
  refine fv (S:=S k) (n:=53) (K:=br) (elt:=cD (aO pG)) (g:=bg (aO pG)) (gs:=[]) (sc:=bG (aO pG)) .k .k (show dj (S k) (μ (S k) 53) br (bg (aO pG)).iter ((dP mine R sg (ο l) row).Φ cs hs p q M)=some (mine.map λj=>D.int ((j:Nat):Int)) from .k) ?_ (by rw[bt];unfold ey;have:=gD (λk=>cs.getD k 0==l) mine;lia);refine mJ (λk=>D.int ((k:Nat):Int)) _ _ λj t=>⟨[(".0",none),("k",ο (j:Nat)),("calls",ξ (ak cs)),("line",ο l)],.k,?_,λ_=>by kernel_rfl⟩;rw[show(bg (aO pG)).ifs=[(bg (aO pG)).ifs.getD 0 aD] from .k];refine l' (e_ .k (fl (op:=.Eq) (a:=.int (cs.getD j 0)) (b:=.int l) .k (lZ rfl .k ?_) .k .k rfl));exact dq (a:=ak cs) (b:=.int (j:Nat)) .k .k .k .k (jM (hm j t) gA)
 have Y:(ey cs mine l).length<=mine.length:=gD _ _;generalize ey cs mine l=r at*
 have s0:aK (S k) 55 df br pG ((dP mine R sg (ο l) row).Φ cs hs p q M)=some ((dP mine R sg (ο l) (ξ (aW r))).Φ cs hs p q M,.next):=by
  rw[fB .k .k u]
  kernel_rfl
 have s1:aK (S k) 54 df br Dt ((dP mine R sg (ο l) (ξ (aW r))).Φ cs hs p q M)=some ((dP mine (R++[r]) sg (ο l) (ξ (aW r))).Φ cs hs p q M,.next):=by
  have e:=Jg (S:=S k) (n:=53) (own:=df) (K:=br) (st:=Dt) (σ:=(dP mine R sg (ο l) (ξ (aW r))).Φ cs hs p q M) (l:=R.map aW) (d:=aW r) .k .k .k (u7 (by rw[bt];lia));rw[e,show R.map aW++[aW r]=(R++[r]).map aW by rw[kD];rfl]
  kernel_rfl
 have y:μ (S k) 52 br (lN ov) ((dP mine (R++[r]) sg (ο l) (ξ (aW r))).Φ cs hs p q M)=some (aW (eT r)):=by
  have v:μ (S k) 49 br (eC (eC (eR ((jB (iB (lN ov))).bind λc=>c.1)))) ((dP mine (R++[r]) sg (ο l) (ξ (aW r))).Φ cs hs p q M)=some (.int (r.length:Nat)):=(j5 (l:=r.map λj=>D.int ((j:Nat):Int)) .k .k .k .k (by rw[bt];lia)).trans (by rw[bt]);have z:μ (S k) 50 br (eC (eR ((jB (iB (lN ov))).bind λc=>c.1))) ((dP mine (R++[r]) sg (ο l) (ξ (aW r))).Φ cs hs p q M)=some (.int (Int.fdiv (r.length:Nat) 2)):=dp (op:=.FloorDiv) .k (cq .k v) .k (w2 .d .d);have em:μ (S k) 51 br (eR ((jB (iB (lN ov))).bind λc=>c.1)) ((dP mine (R++[r]) sg (ο l) (ξ (aW r))).Φ cs hs p q M)=some (.int (Int.fdiv (r.length:Nat) 2*2)):=k9 .k (cq .k z) .k (by rw[y0 _ .d];lia);have κ:Int.fdiv (r.length:Nat) 2*2=((r.length/2*2:Nat):Int):=by rw[y0 _ .d];lia
  rw[κ] at em;refine(Ex (c:=(kx (lN ov),iB (lN ov))) .k).trans (aa (a:=aW r) .k (tp (a:=(some (eR ((jB (iB (lN ov))).bind λc=>c.1)),none)) .k (aa (a:=some ((r.length/2*2:Nat):Int)) ?_ (aa (a:=none) rfl ((qbz .l .l (by rw[bt];lia)).trans ?_)))))
  ·exact aa (f:=λd=>(dv d).bind λi=>some (some i)) em rfl
  ·unfold eT aW;rw[qH,List.map_drop]
 have s2:aK (S k) 53 df br ov ((dP mine (R++[r]) sg (ο l) (ξ (aW r))).Φ cs hs p q M)=some ((dP mine (R++[r]) (sg++eT r) (ο l) (ξ (aW r))).Φ cs hs p q M,.next):=by
  have h:(eT r).length<=r.length:=by unfold eT;rw[zl];lia
  have e:=Jj (S:=S k) (n:=52) (own:=df) (K:=br) (st:=ov) (σ:=(dP mine (R++[r]) sg (ο l) (ξ (aW r))).Φ cs hs p q M) (x:="single") (l:=sg.map λj=>D.int ((j:Nat):Int)) (m:=(eT r).map λj=>D.int ((j:Nat):Int)) .k .k .k y (by rw[bt,bt];lia);rw[e,<-kD]
  kernel_rfl
 rw[show c_ pF=[pG,Dt,ov] from .k,bj s0,bj s1,bj s2,eG]
theorem qaX(hm:∀j∈mine,j<cs.length)(f:cs.length<=1000)(ζ:mine.length<=1000):∀(ls:List Int) R sg line row,R.length+ls.length<=1000->sg.length+ls.length*1000<=1000000->
 ∃z y,ec br (iU pF) (λg=>bw (S k) 56 df br (c_ pF) g) (ls.map .int) ((dP mine R sg line row).Φ cs hs p q M)=some ((dP mine (R++ls.map (ey cs mine)) (sg++ls.flatMap λl=>eT (ey cs mine l)) z y).Φ cs hs p q M,.next):=by
 intro v
 induction v with
 |nil=>
  intro R sg line row γ γ;exact⟨line,row,by simp [ec]⟩
 |cons l ls u=>
  intro R sg line row ε e;rw[dG] at ε e;have t:(ey cs mine l).length<=mine.length:=gD _ _;have r:(eT (ey cs mine l)).length<=(ey cs mine l).length:=by unfold eT;rw[zl];lia
  obtain⟨z,y,h⟩:=u (R++[ey cs mine l]) (sg++eT (ey cs mine l)) (ο l) (ξ (aW (ey cs mine l))) (by rw[eL];simp;lia) (by rw[eL];lia);refine⟨z,y,?_⟩;rw[bN,kU (σ1:=(dP mine R sg (ο l) row).Φ cs hs p q M) (σ':=(dP mine (R++[ey cs mine l]) (sg++eT (ey cs mine l)) (ο l) (ξ (aW (ey cs mine l)))).Φ cs hs p q M) .k (qaZ k cs hs p q M mine l R sg row hm f ζ .l .l),h,ml,ml];rfl
noncomputable def gb:List Int:=[0,1,2,3,4,5,6,7,8,9,10]
def rP(cs:List Int)(mine:List Nat):List (List Nat):=gb.map (ey cs mine)
def ei(cs:List Int)(mine:List Nat):List Nat:=gb.flatMap λl=>eT (ey cs mine l)
theorem Q5(hm:∀j∈mine,j<cs.length)(y:cs.length<=1000)(ζ:mine.length<=1000):∃line row,aK (S k) 57 df br (b6 2) ((mu mine).Φ cs hs p q M)=some ((dP mine (rP cs mine) (ei cs mine) line row).Φ cs hs p q M,.next):=by
 obtain⟨line,row,h⟩:=qaX k cs hs p q M mine hm y ζ gb [] [] none none .d .d;refine⟨line,row,?_⟩;rw[ly,ly] at h;exact(mA (items:=gb.map .int) .k .k .k).trans ((show _=ec br (iU pF) (λz=>bw (S k) 56 df br (c_ pF) z) (gb.map .int) ((dP mine [] [] none none).Φ cs hs p q M) from .k).trans h)
noncomputable def qh(cs:List Int)(f:Int->Int)(sg:List Nat)(nm:Int):List Nat:=sg.filter λj=>f (cs.getD j 0)==nm
def jU(cs:List Int)(f:Int->Int)(sg:List Nat):List (List Nat):=([0,1,2]:List Int).map (qh cs f sg)
theorem Nz R sg line row st n f (z:ED st=some (Str.ofString "rows",lN st)) (y:sv st=none) (j:R.length<=1000)
 (he:μ (S k) n br (lN st) ((dP mine R sg line row).Φ cs hs p q M)=some (.lst ((jU cs f sg).map aW))):aK (S k) (n+1) df br st ((dP mine R sg line row).Φ cs hs p q M)=some ((dP mine (R++jU cs f sg) sg line row).Φ cs hs p q M,.next):=by
 have e:=Jj (S:=S k) (n:=n) (own:=df) (K:=br) (st:=st) (σ:=(dP mine R sg line row).Φ cs hs p q M) (x:="rows") (l:=R.map aW) (m:=(jU cs f sg).map aW) z y .k he (by rw[bt,bt,show(jU cs f sg).length=3 from rfl];lia);rw[e,<-kD]
 kernel_rfl
def s3:Expr:=lN (b6 3)
def s4:Expr:=lN (b6 4)
theorem Q6 R sg line row (hm:∀j∈sg,j<cs.length) (u:cs.length<=1000) (ζ:sg.length<=1000000) (z:R.length<=1000):aK (S k) 56 df br (b6 3) ((dP mine R sg line row).Φ cs hs p q M)=some ((dP mine (R++jU cs (λc=>Int.fdiv c 4) sg) sg line row).Φ cs hs p q M,.next):=by
 refine Nz k cs hs p q M mine R sg line row (b6 3) 55 _ .k .k z ?_;refine fv (S:=S k) (n:=54) (K:=br) (items:=([0,1,2]:List Int).map .int) (elt:=cD s3) (g:=bg s3) (gs:=[]) (sc:=bG s3) .k .k .k ?_ (e5 rfl);unfold jU;rw[cP];refine g0 D.int (aW∘qh cs (λc=>Int.fdiv c 4) sg) λnm _=>⟨[(Str.ofString ".0",none),(Str.ofString "name",ο nm),(Str.ofString "calls",ξ (ak cs)),(Str.ofString "single",some (.own (aW sg)))],.k,hT ?_⟩;refine fv (S:=S k) (n:=53) (elt:=cD (cD s3)) (g:=bg (cD s3)) (gs:=[]) (sc:=bG (cD s3)) .k .k (show dj (S k) (μ (S k) 53) (bG s3).names (bg (cD s3)).iter [(Str.ofString ".0",none),(Str.ofString "name",ο nm),(Str.ofString "calls",ξ (ak cs)),(Str.ofString "single",some (.own (aW sg)))]=some (sg.map λj=>D.int ((j:Nat):Int)) from .k) ?_ (by rw[bt];exact aJ (gD _ _) gA);refine mJ (λk=>D.int ((k:Nat):Int)) _ _ λj y=>⟨[(Str.ofString ".0",none),(Str.ofString "k",ο (j:Nat)),(Str.ofString "calls",ξ (ak cs)),(Str.ofString "name",ο nm)],.k,?_,λ_=>by kernel_rfl⟩;rw[show(bg (cD s3)).ifs=[(bg (cD s3)).ifs.getD 0 aD] from .k];refine l' (e_ .k (fl (op:=.Eq) (a:=.int (Int.fdiv (cs.getD j 0) 4)) (b:=.int nm) .k (lZ rfl .k ?_) .k .k rfl));exact dp (op:=.FloorDiv) (a:=.int (cs.getD j 0)) (b:=.int 4) .k (cq .k (dq (a:=ak cs) (b:=.int (j:Nat)) .k .k .k .k (jM (hm j y) gA))) .k (w2 .d .d)
theorem Q7 R sg line row (hm:∀j∈sg,j<cs.length) (u:cs.length<=1000) (ζ:sg.length<=1000000) (z:R.length<=1000):aK (S k) 55 df br (b6 4) ((dP mine R sg line row).Φ cs hs p q M)=some ((dP mine (R++jU cs (λc=>Int.fmod c 4) sg) sg line row).Φ cs hs p q M,.next):=by
 refine Nz k cs hs p q M mine R sg line row (b6 4) 54 _ .k .k z ?_;refine fv (S:=S k) (n:=53) (K:=br) (items:=([0,1,2]:List Int).map .int) (elt:=cD s4) (g:=bg s4) (gs:=[]) (sc:=bG s4) .k .k .k ?_ (e5 rfl);unfold jU;rw[cP];refine g0 D.int (aW∘qh cs (λc=>Int.fmod c 4) sg) λnm _=>⟨[(Str.ofString ".0",none),(Str.ofString "name",ο nm),(Str.ofString "calls",ξ (ak cs)),(Str.ofString "single",some (.own (aW sg)))],.k,hT ?_⟩;refine fv (S:=S k) (n:=52) (elt:=cD (cD s4)) (g:=bg (cD s4)) (gs:=[]) (sc:=bG (cD s4)) .k .k (show dj (S k) (μ (S k) 52) (bG s4).names (bg (cD s4)).iter [(Str.ofString ".0",none),(Str.ofString "name",ο nm),(Str.ofString "calls",ξ (ak cs)),(Str.ofString "single",some (.own (aW sg)))]=some (sg.map λj=>D.int ((j:Nat):Int)) from .k) ?_ (by rw[bt];exact aJ (gD _ _) gA);refine mJ (λk=>D.int ((k:Nat):Int)) _ _ λj y=>⟨[(Str.ofString ".0",none),(Str.ofString "k",ο (j:Nat)),(Str.ofString "calls",ξ (ak cs)),(Str.ofString "name",ο nm)],.k,?_,λ_=>by kernel_rfl⟩;rw[show(bg (cD s4)).ifs=[(bg (cD s4)).ifs.getD 0 aD] from .k];refine l' (e_ .k (fl (op:=.Eq) (a:=.int (Int.fmod (cs.getD j 0) 4)) (b:=.int nm) .k (lZ rfl .k ?_) .k .k rfl));exact dp (op:=.Mod) (a:=.int (cs.getD j 0)) (b:=.int 4) .k (cq .k (dq (a:=ak cs) (b:=.int (j:Nat)) .k .k .k .k (jM (hm j y) gA))) .k (DN .d)
end
def d8(mine:List Nat)(R:List (List Nat))(sg:List Nat)(line row at':Option aC):mv:={dP mine R sg line row with rows:=ξ (.lst (R.map aW)),at':=at'}
def d0(mine:List Nat)(m:Nat->List Nat):Nat->Option aC:=λi=>if i∈mine then some (.own (aW (m i))) else none
noncomputable def nu(m:Nat->List Nat)(x y:Nat):Nat->List Nat:=λi=>if i=x then m i++[y] else m i
def jz(m:Nat->List Nat)(e:Nat×Nat):Nat->List Nat:=nu (nu m e.2 e.1) e.1 e.2
abbrev qd:Stmt:=b6 5
abbrev jR:Stmt:=d9 (c_ qd) 0
abbrev M':Stmt:=d9 (c_ jR) 0
abbrev Na:Stmt:=d9 (c_ jR) 1
def NP(st:Stmt):Expr:=eR ((Bw st).bind λc=>some c.2.1)
def NR(st:Stmt):Expr:=eR ((Bw st).bind λc=>some c.2.2)
theorem Mo(ρ:i<l.length)(ζ:l.length<=2^61):index (aW l) (.int (i:Nat))=some (.int (l.getD i 0:Nat)):=
 FY .l (by rw[m8,qH,fi ρ,hJ,fi ρ];rfl) (by rw[bt];exact ζ)
section
variable(k:Nat)(cs hs:List Int)(p q:Int)(mine:List Nat)(R:List (List Nat))(sg:List Nat)(line:Option aC)
theorem NS(u:∀j∈mine,j<10) m row at' st n (z:x∈mine) (hlen:(m x).length<=1000000) (f:Bw st=some (Str.ofString "mates",NP st,NR st)) (h0:(lE st).bind (λe=>alt ((jA e).bind λ_=>some ()) (alt ((j_ e).bind λ_=>some ()) ((eY e).bind λ_=>some ())))=none)
 (ρ:μ (S k) n br (NP st) ((d8 mine R sg line row at').Φ cs hs p q (d0 mine m))=some (.int (x:Nat))) (v:μ (S k) n br (NR st) ((d8 mine R sg line row at').Φ cs hs p q (d0 mine m))=some (.int (y:Nat))):
 aK (S k) (n+1) df br st ((d8 mine R sg line row at').Φ cs hs p q (d0 mine m))=some ((d8 mine R sg line row at').Φ cs hs p q (d0 mine (nu m x y)),.next):=by
 have g:=Lj cs hs p q (d0 mine m) (d8 mine R sg line row at') (u x z);have r:d0 mine m x=some (.own (aW (m x))):=au z;rw[r] at g;rw[QT (ks:=oC mine) (k:=(x:Nat)) (l:=(m x).map λk=>D.int ((k:Nat):Int)) (d:=.int (y:Nat)) f h0 .k ρ (iG.mpr (bV.mpr ⟨x,z,rfl⟩)) g v (by rw[bt];lia),OD cs hs p q (d0 mine m) _ (u x z)]
 congr 3
 funext i;unfold upd d0 nu
 by_cases e:i=x
 ·rw[au e,e,au z,au rfl];unfold aW;rw[kD];rfl
 ·rw[ar e]
  by_cases h:i∈mine
  ·rw[au h,au h,ar e]
  ·rw[ar h,ar h]
theorem qap(f:∀j∈mine,j<10) m r (W:∀j∈r,j∈mine) (U:r.length<=1000) i (ε:1<=i) (ρ:i<r.length) (hlen:∀x,(m x).length+2<=1000000):
 bw (S k) 51 df br (c_ jR) ((d8 mine R sg line (ξ (aW r)) (ο (i:Nat))).Φ cs hs p q (d0 mine m))=some ((d8 mine R sg line (ξ (aW r)) (ο (i:Nat))).Φ cs hs p q (d0 mine (jz m (r.getD (i-1) 0,r.getD i 0))),.next):=by
 have mem:∀j,j<r.length->r.getD j 0∈mine:=λj t=>W _ (by rw[hJ,fi t];exact vZ t);have ag:((i:Nat):Int)-1=((i-1:Nat):Int):=.l;have h:=Mo (l:=r) ρ gA;have a:=Mo (l:=r) (i:=i-1) .l gA;have Y:=mem i ρ;have Z:=mem (i-1) .l;unfold jz;dsimp only;generalize r.getD i 0=x at*;generalize r.getD (i-1) 0=y at*;have v:∀z n (e:Expr),nx e=some (kx e,iB e)->jB (iB e)=none->operand (μ (S k) n) br (kx e) ((d8 mine R sg line (ξ (aW r)) (ο (i:Nat))).Φ cs hs p q (d0 mine z))=some (aW r)->μ (S k) n br (iB e) ((d8 mine R sg line (ξ (aW r)) (ο (i:Nat))).Φ cs hs p q (d0 mine z))=some (.int (i:Nat))->μ (S k) (n+1) br e ((d8 mine R sg line (ξ (aW r)) (ο (i:Nat))).Φ cs hs p q (d0 mine z))=some (.int (x:Nat)):=λz n e ε u g bu=>dq ε u g bu h;have b_:∀z n (e:Expr),nx e=some (kx e,iB e)->jB (iB e)=none->operand (μ (S k) n) br (kx e) ((d8 mine R sg line (ξ (aW r)) (ο (i:Nat))).Φ cs hs p q (d0 mine z))=some (aW r)->μ (S k) n br (iB e) ((d8 mine R sg line (ξ (aW r)) (ο (i:Nat))).Φ cs hs p q (d0 mine z))=some (.int ((i:Nat)-1))->μ (S k) (n+1) br e ((d8 mine R sg line (ξ (aW r)) (ο (i:Nat))).Φ cs hs p q (d0 mine z))=some (.int (y:Nat)):=λz n e ε u g bu=>dq ε u g bu (by rw[ag];exact a);have s0:=NS k cs hs p q mine R sg line f m (ξ (aW r)) (ο (i:Nat)) M' 49 (x:=x) (y:=y) Y (by have:=hlen x;lia) .k .k (v m 48 _ .k .k .k .k) (b_ m 48 _ .k .k .k .k)
 have V:(nu m x y y).length<=1000000:=by
  have:=hlen y;unfold nu;split
  ·rw[eL];simp;lia
  ·lia
 have s1:=NS k cs hs p q mine R sg line f (nu m x y) (ξ (aW r)) (ο (i:Nat)) Na 48 (x:=y) (y:=x) Z V .k .k (b_ (nu m x y) 47 _ .k .k .k .k) (v (nu m x y) 47 _ .k .k .k .k);rw[show c_ jR=[M',Na] from .k,bj s0,bj s1,eG]
theorem Jr m e x:(jz m e x).length<=(m x).length+2:=by
 unfold jz nu;split<;>split<;>simp<;>omega
noncomputable def nz(n:Nat):List Nat:=(List.range (n/2)).map λi=>2*i+1
def ff(r:List Nat):List (Nat×Nat):=(nz r.length).map λi=>(r.getD (i-1) 0,r.getD i 0)
theorem qao(t:∀j∈mine,j<10) r (f:∀j∈r,j∈mine) (g:r.length<=1000):∀(l:List Nat) m at',(∀i∈l,1<=i/\i<r.length)->(∀x,(m x).length+2*l.length<=1000000)->
 ∃z,ec br (iU jR) (λu=>bw (S k) 51 df br (c_ jR) u) (l.map λi=>D.int ((i:Nat):Int)) ((d8 mine R sg line (ξ (aW r)) at').Φ cs hs p q (d0 mine m))=some ((d8 mine R sg line (ξ (aW r)) z).Φ cs hs p q (d0 mine ((l.map λi=>(r.getD (i-1) 0,r.getD i 0)).foldl jz m)),.next):=by
 intro e
 induction e with
 |nil=>
  intro m at' γ γ;exact⟨at',rfl⟩
 |cons i l v=>
  intro m at' ε y;simp only[dG] at y
  obtain⟨z,h⟩:=v (jz m (r.getD (i-1) 0,r.getD i 0)) (ο (i:Nat)) (λj n=>ε j (b3 _ n)) λx=>by
   have:=y x;have:=Jr m (r.getD (i-1) 0,r.getD i 0) x;lia
  refine⟨z,?_⟩;have b:=ε i bH;rw[bN,kU (σ1:=(d8 mine R sg line (ξ (aW r)) (ο (i:Nat))).Φ cs hs p q (d0 mine m)) (σ':=(d8 mine R sg line (ξ (aW r)) (ο (i:Nat))).Φ cs hs p q (d0 mine (jz m (r.getD (i-1) 0,r.getD i 0)))) .k (qap k cs hs p q mine R sg line t m r f g i b.1 b.2 λx=>by have:=y x;lia),h];rfl
theorem RJ(n:Nat):rN 1 (n:Int) 2=(nz n).map λi=>D.int ((i:Nat):Int):=by
 unfold rN nz;have e:(Builtin.Range.rangeSize 1 (n:Int) 2).toNat=n/2:=by
  rw[Ha];split<;>lia
 rw[e,cP];refine m5 λk z=>?_;show D.int _=D.int _
 congr 1
 push_cast;lia
theorem JP(h:i∈nz n):1<=i/\i<n:=by
 obtain⟨j,z,rfl⟩:=bV.mp h;have:=ek.mp z;lia
theorem DH n:(nz n).length<=n:=by unfold nz;rw[bt,hZ];lia
theorem qaY(e:∀j∈mine,j<10) r (u:∀j∈r,j∈mine) (y:r.length<=1000) m at' (hlen:∀x,(m x).length+2*r.length<=1000000):
 ∃z,bw (S k) 53 df br (c_ qd) ((d8 mine R sg line (ξ (aW r)) at').Φ cs hs p q (d0 mine m))=some ((d8 mine R sg line (ξ (aW r)) z).Φ cs hs p q (d0 mine ((ff r).foldl jz m)),.next):=by
 obtain⟨z,h⟩:=qao k cs hs p q mine R sg line e r u y (nz r.length) m at' (λi ρ=>JP ρ) λx=>by
  have:=hlen x;have:=DH r.length;omega
 refine⟨z,?_⟩;have v:μ (S k) 51 br ((bk (aO jR)).getD 1 aD) (noOwn ((d8 mine R sg line (ξ (aW r)) at').Φ cs hs p q (d0 mine m)))=some (.int (r.length:Nat)):=(j5 (l:=r.map λj=>D.int ((j:Nat):Int)) .k .k .k .k f').trans (by rw[bt])
 have ρ:dj (S k) (μ (S k) 51) br (aO jR) (noOwn (ed ((d8 mine R sg line (ξ (aW r)) at').Φ cs hs p q (d0 mine m)) (aO jR)))=some ((nz r.length).map λi=>D.int ((i:Nat):Int)):=by
  rw[show ed ((d8 mine R sg line (ξ (aW r)) at').Φ cs hs p q (d0 mine m)) (aO jR)=(d8 mine R sg line (ξ (aW r)) at').Φ cs hs p q (d0 mine m) from .k];refine dI (aa (a:=(Str.ofString "range",[(bk (aO jR)).getD 0 aD,(bk (aO jR)).getD 1 aD,(bk (aO jR)).getD 2 aD])) .k (aa (a:="range") .k (dI (wE rfl (aa (bW (d:=.int 1) .k (bW v (bW (d:=.int 2) .k eE))) (aa (a:=[1,(r.length:Int),2]) rfl ?_))))));exact c5 rfl (c5 rfl (aa (a:=(1,(r.length:Int),2)) rfl (wE (j0.mpr ⟨j0.mpr ⟨cA (show(r.length:Int).natAbs<2^40 by omega),rfl⟩,rfl⟩) (by rw[RJ]))))
 rw[show c_ qd=[jR] from .k,bj ((mA .k ρ .k).trans ((show _=ec br (iU jR) (λg=>bw (S k) 51 df br (c_ jR) g) ((nz r.length).map λi=>D.int ((i:Nat):Int)) ((d8 mine R sg line (ξ (aW r)) at').Φ cs hs p q (d0 mine m)) by congr 1).trans h)),eG];rfl
theorem qba(n:∀j∈mine,j<10):∀(rs:List (List Nat)) m row at',(∀r∈rs,(∀j∈r,j∈mine)/\r.length<=1000)->(∀x,(m x).length+2000*rs.length<=1000000)->
 ∃y g,ec br (iU qd) (λv=>bw (S k) 53 df br (c_ qd) v) (rs.map aW) ((d8 mine R sg line row at').Φ cs hs p q (d0 mine m))=some ((d8 mine R sg line y g).Φ cs hs p q (d0 mine ((rs.flatMap ff).foldl jz m)),.next):=by
 intro t
 induction t with
 |nil=>
  intro m row at' γ γ;exact⟨row,at',rfl⟩
 |cons r rs f=>
  intro m row at' ε u;simp only[dG] at u;have z:=ε r bH;obtain⟨a1,ag⟩:=qaY k cs hs p q mine R sg line n r z.1 z.2 m at' λx=>by have:=u x;lia
  have a:∀(l:List (Nat×Nat)) (m:Nat->List Nat) x,(l.foldl jz m x).length<=(m x).length+2*l.length:=λl=>by
   induction l with
   |nil=>intro m x;simp
   |cons e l i=>
    intro m x;have:=i (jz m e) x;have:=Jr m e x;rw[i6,dG];lia
  obtain⟨y,g,h⟩:=f ((ff r).foldl jz m) (ξ (aW r)) a1 (λr z=>ε r (b3 _ z)) λx=>by
   have:=u x;have:=a (ff r) m x;have:(ff r).length<=r.length:=by unfold ff;rw[bt];exact DH _
   lia
  refine⟨y,g,?_⟩;rw[bN,kU (σ1:=(d8 mine R sg line (ξ (aW r)) at').Φ cs hs p q (d0 mine m)) .k ag,h,m_,List.foldl_append]
theorem Q8(g:∀j∈mine,j<10) row (ε:∀r∈R,(∀j∈r,j∈mine)/\r.length<=1000) (u:R.length<=100):
 ∃z at',aK (S k) 54 df br qd ((dP mine R sg line row).Φ cs hs p q λi=>if i∈mine then some (.own (.lst [])) else none)=some ((d8 mine R sg line z at').Φ cs hs p q (d0 mine ((R.flatMap ff).foldl jz λ_=>[])),.next):=by
 obtain⟨z,at',h⟩:=qba k cs hs p q mine R sg line g R (λ_=>[]) row none ε λx=>by simp;lia
 refine⟨z,at',?_⟩;have hf:ed ((dP mine R sg line row).Φ cs hs p q λi=>if i∈mine then some (.own (.lst [])) else none) (aO qd)=(d8 mine R sg line row none).Φ cs hs p q (d0 mine λ_=>[]):=.k
 have ρ:dj (S k) (μ (S k) 53) br (aO qd) (noOwn (ed ((dP mine R sg line row).Φ cs hs p q λi=>if i∈mine then some (.own (.lst [])) else none) (aO qd)))=some (R.map aW):=by
  rw[hf];kernel_rfl
 have y:=mA (own:=df) .k ρ .k;rw[hf] at y;exact y.trans h
end
theorem QU{S:dH}{own:List Str}{K:Kinds}{st:Stmt}(y:w0 st=some (cF st,bD st))(h0:((JF (cF st)).bind λx=>if x==jV then none else some ())=some ())(ω:ph σ=some σ1)(h:gf S n own K σ1 (cF st) (bD st)=some vs)(κ:ts vs (bD st)=true):aK S (n+1) own K st σ=some (ez σ1 vs,.next):=
 (EB y).trans (c5 (π h0 λx h0 z=>π z λt z ω=>aa ω (aa z (by rw[show(x==jV)=false from vS λq=>by rw[au q] at h0;exact aQ h0];rfl))) (aa ω (aa h (wE κ rfl))))
theorem ty_list(ζ:l.length<=16777216):rT "list" [.lst l]=some (.lst l):=c5 rfl (wE rfl (aa (a:=.lst l) rfl (aa (a:=l) rfl (wE (jO ζ) rfl))))
theorem Qi{S:dH}{K:Kinds}(he:eY e=some (Str.ofString "list",[b1 e]))(z:glob S K σ (Str.ofString "list")=some (.ty "list"))(h:operand (μ S n) K (b1 e) σ=some (.lst l))(ζ:l.length<=16777216):μ S (n+1) K e σ=some (.lst l):=oK he (aa z (c5 rfl (aa (a:=[.lst l]) (aa h rfl) (ty_list ζ))))
theorem Yy{A:Type}{f:D->Option Int} g (h:A->Int):∀{l:List A},(∀a∈l,f (g a)=some (h a))->keyed f (l.map g)=some (l.map λa=>(h a,g a)):=by
 intro y
 induction y with
 |nil=>
  intro γ;exact rfl
 |cons a l z=>
  intro hf;exact aa (hf a bH) (aa (z λb j=>hf b (b3 _ j)) rfl)
theorem M6{f:Nat->D}{l:List Nat}:∀{j},j∈l->(l.map λ(i:Nat)=>((i:Int),f i)).lookup ((j:Nat):Int)=some (f j):=by
 induction l with
 |nil=>exact λh=>nomatch h
 |cons i l z=>
  intro j h;rw[bN,fP]
  by_cases e:j=i
  ·rw[e,hq]
  ·rw[gU.mpr λq=>e (v'.mp q)];exact z ((cn.mp h).resolve_left e)
def Bh(mine:List Nat)(m:Nat->List Nat):D:=.aX (mine.map λ(j:Nat)=>((j:Int),aW (m j)))
structure ib where
 k:Option aC
 line:Option aC
 row:Option aC
 at':Option aC
 chain:Option aC
 us:Option aC
 place:Option aC
def ib.as(Y:ib)(mine:List Nat)(R:List (List Nat))(sg:List Nat)(m:Nat->List Nat)(left turn yt:Option aC):mv:=⟨Y.k,ξ (aW mine),ξ (.lst (R.map aW)),some (.own (aW sg)),Y.line,Y.row,Y.at',left,turn,yt,Y.chain,Y.us,Y.place,ξ (Bh mine m)⟩
def ib.Φ(Y:ib)(cs hs:List Int)(p q:Int)(mine:List Nat)(R:List (List Nat))(sg:List Nat)(m:Nat->List Nat)(left turn yt:Option aC):Γ:=(Y.as mine R sg m left turn yt).Φ cs hs p q λ_=>none
def kv(m:Nat->List Nat)(mine:List Nat):List Nat:=(hl (mine.map λj=>(((m j).length:Int),j))).map (·.2)
section
variable(k:Nat)(cs hs:List Int)(p q:Int)(mine:List Nat)(R:List (List Nat))(sg:List Nat)(line row at':Option aC)(m:Nat->List Nat)
noncomputable abbrev pE:ib:=⟨none,line,row,at',none,none,none⟩
theorem Ra(v:∀j∈mine,j<10):ph ((d8 mine R sg line row at').Φ cs hs p q (d0 mine m))=some ((pE line row at').Φ cs hs p q mine R sg m none none none):=by
 have ag:(((d8 mine R sg line row at').Φ cs hs p q (d0 mine m)).gQ jV).bind yh=some (oC mine):=.k;have u:∀l:List Nat,(∀j∈l,j∈mine)->BO ((d8 mine R sg line row at').Φ cs hs p q (d0 mine m)) (oC l)=some (l.map λ(j:Nat)=>((j:Int),aW (m j))):=by
  intro l
  induction l with
  |nil=>intro _;rfl
  |cons j l g=>
   intro h;have z:=h j bH;have y:=Lj cs hs p q (d0 mine m) (d8 mine R sg line row at') (v j z);rw[show d0 mine m j=some (.own (aW (m j))) from au z] at y;exact aa (a:=aW (m j)) (aa y rfl) (aa (g λi ρ=>h i (b3 _ ρ)) rfl)
 unfold ph;rw[ag];dsimp only;rw[u mine λj z=>z];unfold ib.Φ ib.as Bh;generalize (D.aX (mine.map λ(j:Nat)=>((j:Int),aW (m j))))=x
 kernel_rfl
def l0:Expr:=(bD (b6 6)).getD 0 aD
theorem Q'(hlen:mine.length<=60)(g:∀j∈mine,(m j).length<=1000):μ (S k) 52 br l0 ((pE line row at').Φ cs hs p q mine R sg m none none none)=some (aW (kv m mine)):=by
 have ag:μ (S k) 52 br l0 ((pE line row at').Φ cs hs p q mine R sg m none none none)=aS (decide ((mine.map λj=>D.int ((j:Nat):Int)).length<64)) ((keyed (keyOf (μ (S k) 51) (lY (Be l0).names) (Gb l0) (Gd l0) ((pE line row at').Φ cs hs p q mine R sg m none none none)) (mine.map λj=>D.int ((j:Nat):Int))).bind λks=>some (.lst ((hl ks).map (·.2)))):=.k;have u:keyed (keyOf (μ (S k) 51) (lY (Be l0).names) (Gb l0) (Gd l0) ((pE line row at').Φ cs hs p q mine R sg m none none none)) (mine.map λj=>D.int ((j:Nat):Int))=some (mine.map λj=>(((m j).length:Int),D.int ((j:Nat):Int))):=by
  refine Yy (λj:Nat=>D.int (j:Int)) (λj=>((m j).length:Int)) λj z=>?_;have y:μ (S k) 51 (lY (Be l0).names) (Gd l0) ((fH (lY (Be l0).names) ((pE line row at').Φ cs hs p q mine R sg m none none none)).set (Gb l0) (.val (.int (j:Nat))))=some (.int ((m j).length:Nat)):=by
   refine(j5 (l:=(m j).map λi=>D.int ((i:Nat):Int)) .k .k .k (cq .k (dq (a:=Bh mine m) (b:=.int (j:Nat)) .k .k .k .k ?_)) (by rw[bt];have:=g j z;lia)).trans (by rw[bt]);exact M6 (f:=λj=>aW (m j)) z
  exact aa y rfl
 rw[ag,u];refine(wE (cA (by rw[bt];lia)) rfl).trans ?_;show some (D.lst _)=some (aW (kv m mine));unfold aW kv;have:=OP (λj:Nat=>D.int (j:Int)) (mine.map λj=>(((m j).length:Int),j));rw[cP] at this
 congr 2
 rw[show(mine.map λj=>(((m j).length:Int),D.int ((j:Nat):Int)))=mine.map ((λq:Int×Nat=>(q.1,D.int ((q.2:Nat):Int)))∘λj=>(((m j).length:Int),j)) from rfl,this,cP,cP];rfl
theorem Q9(v:∀j∈mine,j<10)(hlen:mine.length<=60)(e:∀j∈mine,(m j).length<=1000)(bq:hs.length<=1000):aK (S k) 53 df br (b6 6) ((d8 mine R sg line row at').Φ cs hs p q (d0 mine m))=some ((pE line row at').Φ cs hs p q mine R sg m (ξ (aW (kv m mine))) (ο 0) (some (.own (ak hs))),.next):=by
 have y:=Q' k cs hs p q mine R sg line row at' m hlen e;generalize z:(pE line row at').Φ cs hs p q mine R sg m none none none=σ1 at y;have g:μ (S k) 52 br ((bD (b6 6)).getD 2 aD) σ1=some (ak hs):=by
  subst z;exact Qi (l:=hs.map .int) .k .k .k f'
 have u:gf (S k) 52 df br σ1 (cF (b6 6)) (bD (b6 6))=some [(Str.ofString "left",.val (aW (kv m mine))),(Str.ofString "turn",.val (.int 0)),(Str.ofString "painted",.own (ak hs))]:=by
  rw[show cF (b6 6)=[(cF (b6 6)).getD 0 aD,(cF (b6 6)).getD 1 aD,(cF (b6 6)).getD 2 aD] from .k,show bD (b6 6)=[l0,(bD (b6 6)).getD 1 aD,(bD (b6 6)).getD 2 aD] from .k];exact hx .k .k y (hx .k .k (by subst z;kernel_rfl) (DI .k (by subst z;kernel_rfl) g pK))
 rw[QU .k .k ((Ra cs hs p q mine R sg line row at' m v).trans (by rw[z])) u .k];subst z;generalize kv m mine=l
 kernel_rfl
end
abbrev iy(i:Nat):Stmt:=d9 (kA (b6 7)) i
noncomputable def ha(m:Nat->List Nat)(c:List Nat):List Nat:=c++((m (c.getLastD 0)).filter λk=> !c.contains k).take 1
noncomputable def mb(m:Nat->List Nat):Nat->List Nat->List Nat
 |0,c=>c
 |n+1,c=>mb m n (ha m c)
def chainOf(m:Nat->List Nat)(lf:List Nat):List Nat:=mb m lf.length (lf.take 1)
noncomputable def iq(p q:Int)(i:Nat):Int:=if i%2=0 then p else q
noncomputable def eg(p q:Int):Nat->List Nat->List Int->List Int
 |_,[],h=>h
 |i,k::c,h=>eg p q (i+1) c (h.set k (iq p q i))
theorem G2(p q:Int):∀(c:List Nat) (i:Nat) (h:List Int),(eg p q i c h).length=h.length:=by
 intro y
 induction y with
 |nil=>
  intro γ γ;exact rfl
 |cons k c z=>
  intro i h;exact(z (i+1) _).trans v7
theorem Yb(x:Nat):∀l:List Nat,isIn (.int (x:Nat)) (l.map λj=>D.int ((j:Nat):Int))=some (l.contains x):=by
 intro g
 induction g with
 |nil=>
  exact rfl
 |cons y l z=>
  show(some (((y:Nat):Int)==(x:Nat))).bind _=_;show(isIn (.int (x:Nat)) (l.map λj=>D.int ((j:Nat):Int))).bind _=_;rw[z,List.contains_cons];show some (((y:Nat):Int)==(x:Nat)||l.contains x)=some (x==y||l.contains x)
  congr 2
  by_cases e:x=y
  ·rw[e];simp
  ·rw[gU.mpr e,gU.mpr λq=>e (v'.mp q).symm]
theorem NN(x:Nat)(l:List Nat):e' .NotIn (.int (x:Nat)) (aW l)=some (!l.contains x):=by
 show alt none ((some (l.map λj=>D.int ((j:Nat):Int))).bind λl=>(isIn (.int (x:Nat)) l).bind λb=>some !b)=_;show(isIn (.int (x:Nat)) (l.map λj=>D.int ((j:Nat):Int))).bind _=_;rw[Yb];rfl
theorem XS{c:List Nat}(κ:c≠[])(ζ:c.length<=2^60):index (aW c) (.int (-1))=some (.int (c.getLastD 0:Nat)):=by
 have h0:0<c.length:=List.length_pos_iff.mpr κ;show aS (decide ((-1:Int).natAbs<2^62)) (uk (c.map λj=>D.int ((j:Nat):Int)) (-1))=_;refine wE .d ?_;unfold uk;rw[ar .d,au (by rw[bt];lia),bt,show((-1:Int)+c.length).toNat=c.length-1 by lia,m8,Co,List.getLast?_eq_getElem?];rw[fi .l];rfl
section
variable(k:Nat)(cs hs:List Int)(p q:Int)(mine:List Nat)(R:List (List Nat))(sg:List Nat)(m:Nat->List Nat)
def de(Y:ib)(lf:List Nat)(t:Nat)(h:List Int):Γ:=Y.Φ cs hs p q mine R sg m (ξ (aW lf)) (ο (t:Nat)) (some (.own (ak h)))
theorem p_0(Y:ib)(lf:List Nat)(t:Nat)(h:List Int)(ζ:lf.length<=1000):aK (S k) 50 df br (iy 0) (de cs hs p q mine R sg m Y lf t h)=some (de cs hs p q mine R sg m {Y with chain:=ξ (aW (lf.take 1))} lf t h,.next):=by
 have e:=IP (S:=S k) (n:=48) (K:=br) (σ:=de cs hs p q mine R sg m Y lf t h) (e:=aO (iy 0)) (l:=lf.map λj=>D.int ((j:Nat):Int)) (i:=1) .k .k .k .d .d f';rw[fB .k .k e,show((lf.map λj=>D.int ((j:Nat):Int)).take (1:Int).toNat)=(lf.take 1).map λj=>D.int ((j:Nat):Int) by rw[List.map_take];rfl]
 kernel_rfl
abbrev pN:Stmt:=iy 1
abbrev w9:Stmt:=d9 (c_ pN) 0
def q5:Expr:=kx (eu (aO w9))
theorem qbY(Y:ib)(lf:List Nat)(t:Nat)(h:List Int)(c:List Nat)(u:aC)(κ:c≠[])(U:c.length<=1000)(W:c.getLastD 0∈mine)(Z:(m (c.getLastD 0)).length<=1000):bw (S k) 48 df br (c_ pN) (de cs hs p q mine R sg m {Y with chain:=ξ (aW c),us:=some u} lf t h)=some (de cs hs p q mine R sg m {Y with chain:=ξ (aW (ha m c)),us:=some u} lf t h,.next):=by
 have x:∀n,μ (S k) (n+6) br (bg q5).iter (de cs hs p q mine R sg m {Y with chain:=ξ (aW c),us:=some u} lf t h)=some (aW (m (c.getLastD 0))):=λn=>by
  refine dq (a:=Bh mine m) (b:=.int (c.getLastD 0:Nat)) .k .k .k (dq (a:=aW c) (b:=.int (-1)) .k .k .k .k (XS κ gA)) ?_;exact M6 (f:=λj=>aW (m j)) W
 have hit:dj (S k) (μ (S k) 43) br (bg q5).iter (de cs hs p q mine R sg m {Y with chain:=ξ (aW c),us:=some u} lf t h)=some ((m (c.getLastD 0)).map λj=>D.int ((j:Nat):Int)):=nh .k (cq .k (x 37)) rfl;have z:μ (S k) 44 br q5 (de cs hs p q mine R sg m {Y with chain:=ξ (aW c),us:=some u} lf t h)=some (aW ((m (c.getLastD 0)).filter λk=> !c.contains k)):=by
  refine fv (S:=S k) (n:=43) (K:=br) (elt:=cD q5) (g:=bg q5) (gs:=[]) (sc:=bG q5) .k .k hit ?_ (by rw[bt];exact aJ (gD _ _) gA);refine mJ (λk=>D.int ((k:Nat):Int)) _ _ λj T=>⟨[(".0",none),("k",ο (j:Nat)),("chain",ξ (aW c))],.k,?_,λ_=>by kernel_rfl⟩;rw[show(bg q5).ifs=[(bg q5).ifs.getD 0 aD] from .k];exact l' (e_ .k (fl (op:=.NotIn) (a:=.int (j:Nat)) (b:=aW c) .k .k .k .k (NN j c)))
 generalize hU:(m (c.getLastD 0)).filter (λk=> !c.contains k)=F at z;have r:F.length<=1000:=by rw[<-hU];exact aJ (gD _ _) Z
 have y:μ (S k) 45 br (eu (aO w9)) (de cs hs p q mine R sg m {Y with chain:=ξ (aW c),us:=some u} lf t h)=some (aW (F.take 1)):=by
  have e:=IP (S:=S k) (n:=44) (K:=br) (σ:=de cs hs p q mine R sg m {Y with chain:=ξ (aW c),us:=some u} lf t h) (e:=eu (aO w9)) (l:=F.map λj=>D.int ((j:Nat):Int)) (i:=1) .k (cq .k z) .k .d .d f';rw[e];unfold aW;rw[List.map_take];rfl
 have v:μ (S k) 46 br (aO w9) (de cs hs p q mine R sg m {Y with chain:=ξ (aW c),us:=some u} lf t h)=some (aW (ha m c)):=by
  refine dp (op:=.Add) (a:=aW c) (b:=aW (F.take 1)) .k .k (cq .k y) ?_;unfold aW ha;rw[hU,kD];exact z2 (by rw[eL,bt,bt];have:=y7 1 F;lia)
 generalize ha m c=V at*;rw[show c_ pN=[w9] from .k,bj (fB .k .k v),eG]
 kernel_rfl
theorem OY{m:Nat->List Nat}{c:List Nat}(κ:c≠[]):ha m c≠[]:=λe=>κ (List.append_eq_nil_iff.mp e).1
theorem OW{m:Nat->List Nat}{c:List Nat}:(ha m c).length<=c.length+1:=by unfold ha;rw[eL];have:=y7 1 ((m (c.getLastD 0)).filter λk=> !c.contains k);lia
theorem OX{m:Nat->List Nat}{mine c:List Nat}(hm:∀j∈mine,∀i∈m j,i∈mine)(κ:c≠[])(h:∀j∈c,j∈mine):∀j∈ha m c,j∈mine:=λj z=>by
 rcases fk.mp z with z|z
 ·exact h j z
 ·exact hm _ (h _ (by rw[Co,List.getLast?_eq_some_getLast κ];exact List.getLast_mem κ)) j (gr.mp (Io z)).1
theorem qen(hm:∀j∈mine,∀i∈m j,i∈mine)(r:∀j∈mine,(m j).length<=1000)(lf:List Nat)(t:Nat)(h:List Int):∀(l:List Nat) (Y:ib) (c:List Nat),c≠[]->(∀j∈c,j∈mine)->c.length+l.length<=1000->
 ∃z,ec br (iU pN) (λu=>bw (S k) 48 df br (c_ pN) u) (l.map λj=>D.int ((j:Nat):Int)) (de cs hs p q mine R sg m {Y with chain:=ξ (aW c)} lf t h)=some (de cs hs p q mine R sg m {Y with chain:=ξ (aW (mb m l.length c)),us:=z} lf t h,.next):=by
 intro f
 induction f with
 |nil=>
  intro Y c γ γ γ;exact⟨Y.us,rfl⟩
 |cons j l v=>
  intro Y c κ y hlen;rw[dG] at hlen;have g:c.getLastD 0∈mine:=y _ (by rw[Co,List.getLast?_eq_some_getLast κ];exact List.getLast_mem κ);obtain⟨z,e⟩:=v {Y with us:=ο (j:Nat)} (ha m c) (OY κ) (OX hm κ y) (by have:=OW (m:=m) (c:=c);lia);refine⟨z,?_⟩;rw[bN,kU (σ1:=de cs hs p q mine R sg m {Y with chain:=ξ (aW c),us:=ο (j:Nat)} lf t h) .k (qbY k cs hs p q mine R sg m Y lf t h c _ κ .l g (r _ g))];exact e
end
theorem qel{m:Nat->List Nat}(n:Nat):∀c:List Nat,(mb m n c).length<=c.length+n:=by
 induction n with
 |zero=>exact λc=>a7 _
 |succ n z=>exact λc=>aJ (z (ha m c)) (aJ (m4 OW n) (gV (lu _ 1 n)))
theorem qem{m:Nat->List Nat}{mine:List Nat}(hm:∀j∈mine,∀i∈m j,i∈mine):∀(n:Nat) (c:List Nat),c≠[]->(∀j∈c,j∈mine)->∀j∈mb m n c,j∈mine:=by
 intro y
 induction y with
 |zero=>
  intro c γ h;exact h
 |succ n z=>
  intro c κ h;exact z (ha m c) (OY κ) (OX hm κ h)
theorem XD(p q:Int)(i t:Nat):iq p q (i+t)=if Int.fmod ((i:Nat)+(t:Nat)) 2=0 then p else q:=by
 unfold iq;rw[t2 _ .d]
 by_cases h:(i+t)%2=0
 ·exact(au h).trans (au (show((i:Nat)+(t:Nat):Int)%2=0 from CE.mpr h)).symm
 ·exact(ar h).trans (ar (show¬((i:Nat)+(t:Nat):Int)%2=0 from λq=>h (CE.mp q))).symm
abbrev hU:Stmt:=iy 2
abbrev nI:Stmt:=d9 (c_ hU) 0
section
variable(k:Nat)(cs hs:List Int)(p q:Int)(mine:List Nat)(R:List (List Nat))(sg:List Nat)(m:Nat->List Nat)
theorem p_1(hm:∀j∈mine,∀i∈m j,i∈mine)(g:∀j∈mine,(m j).length<=1000)(lf:List Nat)(t:Nat)(h:List Int)(Y:ib)(h0:lf≠[])(u:∀j∈lf,j∈mine)(ζ:lf.length<=100):
 ∃z,aK (S k) 49 df br (iy 1) (de cs hs p q mine R sg m {Y with chain:=ξ (aW (lf.take 1))} lf t h)=some (de cs hs p q mine R sg m {Y with chain:=ξ (aW (chainOf m lf)),us:=z} lf t h,.next):=by
 obtain⟨z,e⟩:=qen k cs hs p q mine R sg m hm g lf t h lf Y (lf.take 1) (by cases lf with|nil=>exact(h0 rfl).elim|cons a r=>simp) (λj v=>u j (Io v)) (by have:=y7 1 lf;lia);refine⟨z,?_⟩;have ρ:dj (S k) (μ (S k) 48) br (aO pN) (noOwn (ed (de cs hs p q mine R sg m {Y with chain:=ξ (aW (lf.take 1))} lf t h) (aO pN)))=some (lf.map λj=>D.int ((j:Nat):Int)):=.k;exact(mA .k ρ .k).trans ((show _=ec br (iU pN) (λy=>bw (S k) 48 df br (c_ pN) y) (lf.map λj=>D.int ((j:Nat):Int)) (de cs hs p q mine R sg m {Y with chain:=ξ (aW (lf.take 1))} lf t h) from .k).trans e)
theorem qak(Y:ib)(lf:List Nat)(t i j:Nat)(h:List Int)(y:j<h.length)(ζ:h.length<=1000):bw (S k) 47 df br (c_ hU) (de cs hs p q mine R sg m {Y with place:=ο (i:Nat),k:=ο (j:Nat)} lf t h)=some (de cs hs p q mine R sg m {Y with place:=ο (i:Nat),k:=ο (j:Nat)} lf t (h.set j (iq p q (i+t))),.next):=by
 have e:μ (S k) 45 br (aO nI) (de cs hs p q mine R sg m {Y with place:=ο (i:Nat),k:=ο (j:Nat)} lf t h)=some (.int (iq p q (i+t))):=by
  refine dq (a:=.tup [.int p,.int q]) (b:=.int (Int.fmod ((i:Nat)+(t:Nat)) 2)) .k .k .k .k ?_;rw[XD];have z:Int.fmod ((i:Nat)+(t:Nat)) 2=0∨Int.fmod ((i:Nat)+(t:Nat)) 2=1:=by rw[t2 _ .d];exact(sb (i+t)).imp (bp Int.ofNat) (bp Int.ofNat)
  rcases z with z|z<;>rw[z]<;>rfl
 have ex:=ub (S:=S k) (n:=45) (own:=df) (K:=br) (st:=nI) (σ:=de cs hs p q mine R sg m {Y with place:=ο (i:Nat),k:=ο (j:Nat)} lf t h) (v:=.int (iq p q (i+t))) (j:=.int (j:Nat)) (d:=ak h) (d':=ak (h.set j (iq p q (i+t)))) .k e .k .k ?_
 ·rw[show c_ hU=[nI] from .k,bj ex,eG]
  kernel_rfl
 ·refine aa (a:=(j:Int)) rfl (dI (aa (a:=h.map .int) rfl (wE (j0.mpr ⟨j0.mpr ⟨cA (me y (e6 ζ .d)),cA (m7 j)⟩,cA (by rw[bt];exact y)⟩) ?_)));unfold ak;rw[qH,<-List.map_set]
theorem qaj(lf:List Nat)(t:Nat):∀(c:List Nat) (Y:ib) (i:Nat) (h:List Int),(∀j∈c,j<h.length)->h.length<=1000->
 ∃c4 k',ec br (iU hU) (λy=>bw (S k) 47 df br (c_ hU) y) (kc (i:Nat) (c.map λj=>D.int ((j:Nat):Int))) (de cs hs p q mine R sg m Y lf t h)=some (de cs hs p q mine R sg m {Y with place:=c4,k:=k'} lf t (eg p q (i+t) c h),.next):=by
 intro u
 induction u with
 |nil=>
  intro Y i h γ γ;exact⟨Y.place,Y.k,rfl⟩
 |cons j c g=>
  intro Y i h z ζ;obtain⟨c4,k',e⟩:=g {Y with place:=ο (i:Nat),k:=ο (j:Nat)} (i+1) (h.set j (iq p q (i+t))) (λx v=>by rw[v7];exact z x (b3 _ v)) (by rw[v7];exact ζ);refine⟨c4,k',?_⟩;rw[bN];unfold kc;rw[kU (σ1:=de cs hs p q mine R sg m {Y with place:=ο (i:Nat),k:=ο (j:Nat)} lf t h) .k (qak k cs hs p q mine R sg m Y lf t i j h (z j bH) ζ)];rw[show((i:Nat):Int)+1=((i+1:Nat):Int) from rfl,e];show _=some (de cs hs p q mine R sg m _ lf t (eg p q (i+t+1) c (h.set j (iq p q (i+t)))),cw.next);rw[show i+t+1=i+1+t from lu i t 1]
theorem p_2(Y:ib)(lf:List Nat)(t:Nat)(h:List Int)(c:List Nat)(κ:∀j∈c,j<h.length)(ζ:h.length<=1000)(y:c.length<=1000):
 ∃c4 k',aK (S k) 48 df br (iy 2) (de cs hs p q mine R sg m {Y with chain:=ξ (aW c)} lf t h)=some (de cs hs p q mine R sg m {Y with chain:=ξ (aW c),place:=c4,k:=k'} lf t (eg p q t c h),.next):=by
 obtain⟨c4,k',e⟩:=qaj k cs hs p q mine R sg m lf t c {Y with chain:=ξ (aW c)} 0 h κ ζ;refine⟨c4,k',?_⟩
 have ρ:dj (S k) (μ (S k) 47) br (aO hU) (noOwn (ed (de cs hs p q mine R sg m {Y with chain:=ξ (aW c)} lf t h) (aO hU)))=some (kc 0 (c.map λj=>D.int ((j:Nat):Int))):=by
  rw[show ed (de cs hs p q mine R sg m {Y with chain:=ξ (aW c)} lf t h) (aO hU)=de cs hs p q mine R sg m {Y with chain:=ξ (aW c)} lf t h from .k];exact zE (x:=(bk (aO hU)).getD 0 aD) .k .k .k f'
 rw[hr] at e;exact(mA .k ρ .k).trans ((show _=ec br (iU hU) (λz=>bw (S k) 47 df br (c_ hU) z) (kc ((0:Nat):Int) (c.map λj=>D.int ((j:Nat):Int))) (de cs hs p q mine R sg m {Y with chain:=ξ (aW c)} lf t h) from .k).trans e)
def rC:Expr:=(bD (iy 3)).getD 0 aD
def Hz:Expr:=(bD (iy 3)).getD 1 aD
theorem p_3(Y:ib)(lf:List Nat)(t:Nat)(h:List Int)(c:List Nat)(f:c.length<=1000)(ζ:lf.length<=1000):aK (S k) 47 df br (iy 3) (de cs hs p q mine R sg m {Y with chain:=ξ (aW c)} lf t h)=some (de cs hs p q mine R sg m {Y with chain:=ξ (aW c)} (lf.filter λk=> !c.contains k) ((t+c.length)%2) h,.next):=by
 have u:μ (S k) 46 br rC (de cs hs p q mine R sg m {Y with chain:=ξ (aW c)} lf t h)=some (aW (lf.filter λk=> !c.contains k)):=by
  refine fv (S:=S k) (n:=45) (K:=br) (elt:=cD rC) (g:=bg rC) (gs:=[]) (sc:=bG rC) .k .k (show dj (S k) (μ (S k) 45) br (bg rC).iter (de cs hs p q mine R sg m {Y with chain:=ξ (aW c)} lf t h)=some (lf.map λj=>D.int ((j:Nat):Int)) from .k) ?_ (by rw[bt];exact aJ (gD _ _) gA);refine mJ (λk=>D.int ((k:Nat):Int)) _ _ λj r=>⟨[(Str.ofString ".0",none),(Str.ofString "k",ο (j:Nat)),(Str.ofString "chain",ξ (aW c))],.k,?_,λ_=>by kernel_rfl⟩;rw[show(bg rC).ifs=[(bg rC).ifs.getD 0 aD] from .k];exact l' (e_ .k (fl (op:=.NotIn) (a:=.int (j:Nat)) (b:=aW c) .k .k .k .k (NN j c)))
 have ag:μ (S k) 46 br Hz (de cs hs p q mine R sg m {Y with chain:=ξ (aW c)} lf t h)=some (.int ((t+c.length)%2:Nat)):=by
  have v:μ (S k) 44 br (eu (eC Hz)) (de cs hs p q mine R sg m {Y with chain:=ξ (aW c)} lf t h)=some (.int (c.length:Nat)):=(j5 (l:=c.map λj=>D.int ((j:Nat):Int)) .k .k .k .k f').trans (by rw[bt]);refine(dp (op:=.Mod) (a:=.int ((t:Nat)+(c.length:Nat))) (b:=.int 2) .k (cq .k (Internal.hP .k .k (cq .k v))) .k (DN .d)).trans ?_;rw[t2 _ .d];congr 2
 generalize lf.filter (λk=> !c.contains k)=e at*;generalize (t+c.length)%2=z at*;have y:gf (S k) 46 df br (de cs hs p q mine R sg m {Y with chain:=ξ (aW c)} lf t h) (cF (iy 3)) (bD (iy 3))=some [(Str.ofString "left",.val (aW e)),(Str.ofString "turn",.val (.int (z:Nat)))]:=by
  rw[show cF (iy 3)=[(cF (iy 3)).getD 0 aD,(cF (iy 3)).getD 1 aD] from .k,show bD (iy 3)=[rC,Hz] from .k];exact hx .k .k u (hx .k .k ag pK)
 rw[qZ .k .k .k y .k]
 kernel_rfl
noncomputable def o'(m:Nat->List Nat)(p q:Int):Nat->List Nat->Nat->List Int->List Int
 |0,_,_,h=>h
 |n+1,lf,t,h=>if lf=[] then h else o' m p q n (lf.filter λk=> !(chainOf m lf).contains k) ((t+(chainOf m lf).length)%2) (eg p q t (chainOf m lf) h)
theorem R9(hm:∀j∈mine,∀i∈m j,i∈mine)(l:∀j∈mine,(m j).length<=1000)(Y:ib)(lf:List Nat)(t:Nat)(h:List Int)(h0:lf≠[])(u:∀j∈lf,j∈mine)(ζ:lf.length<=100)(bq:∀j∈mine,j<h.length)(e:h.length<=1000):
 ∃n,bw (S k) 51 df br (kA (b6 7)) (de cs hs p q mine R sg m Y lf t h)=some (de cs hs p q mine R sg m n (lf.filter λk=> !(chainOf m lf).contains k) ((t+(chainOf m lf).length)%2) (eg p q t (chainOf m lf) h),.next):=by
 have f:lf.take 1≠[]:=by cases lf with|nil=>exact(h0 rfl).elim|cons a r=>simp
 have g:(chainOf m lf).length<=1000:=by
  exact aJ (qel lf.length (lf.take 1)) (aJ (r9 (y7 1 lf) ζ) .d)
 have v:∀j∈chainOf m lf,j∈mine:=qem hm lf.length (lf.take 1) f λj y=>u j (Io y);have s0:=p_0 k cs hs p q mine R sg m Y lf t h (aJ ζ .d);obtain⟨z,s1⟩:=p_1 k cs hs p q mine R sg m hm l lf t h Y h0 u ζ;generalize chainOf m lf=c at*;obtain⟨c4,k',s2⟩:=p_2 k cs hs p q mine R sg m {Y with us:=z} lf t h c (λj y=>bq j (v j y)) e g;have s3:=p_3 k cs hs p q mine R sg m {Y with us:=z,place:=c4,k:=k'} lf t (eg p q t c h) c g (aJ ζ .d);refine⟨{Y with us:=z,place:=c4,k:=k',chain:=ξ (aW c)},?_⟩;rw[show kA (b6 7)=[iy 0,iy 1,iy 2,iy 3] from .k,bj s0,bj s1,bj s2,bj s3,eG]
theorem PR(Y:ib)(lf:List Nat)(t:Nat)(h:List Int):b9 (S k) 51 br (pk (b6 7)) (de cs hs p q mine R sg m Y lf t h)=some (!decide (lf=[])):=by
 refine e_ .k (fl (op:=.NotEq) (a:=aW lf) (b:=.lst []) .k .k .k .k ?_);cases lf with
 |nil=>rfl
 |cons a r=>
  rw[gE (List.cons_ne_nil a r)];rfl
theorem Wx{m:Nat->List Nat}:∀(n:Nat) (c:List Nat) (a:Nat),a∈c->a∈mb m n c:=by
 intro y
 induction y with
 |zero=>
  intro γ γ h;exact h
 |succ n z=>
  intro c a h;exact z (ha m c) a (fk.mpr (.inl h))
theorem MU{m:Nat->List Nat}{lf:List Nat}(h0:lf≠[]):(lf.filter λk=> !(chainOf m lf).contains k).length<lf.length:=by
 cases lf with
 |nil=>exact(h0 rfl).elim
 |cons a r=>
  have z:a∈chainOf m (a::r):=Wx _ _ a (by simp);rw[y3 (by rw[iG.mpr z];exact zd)];have:=gD (λk=> !(chainOf m (a::r)).contains k) r;exact qG this
theorem qew(hm:∀j∈mine,∀i∈m j,i∈mine)(L:∀j∈mine,(m j).length<=1000):∀(N:Nat) (lf:List Nat) (Y:ib) (t:Nat) (h:List Int),lf.length<N->(∀j∈lf,j∈mine)->lf.length<=100->(∀j∈mine,j<h.length)->h.length<=1000->
 ∃F H O,mc (λy=>b9 (S k) 51 br (pk (b6 7)) y) (λy=>bw (S k) 51 df br (kA (b6 7)) y) N (de cs hs p q mine R sg m Y lf t h)=some (de cs hs p q mine R sg m F H O (o' m p q lf.length lf t h),.next):=by
 intro T
 induction T with
 |zero=>
  intro lf Y t h u γ γ γ γ;exact absurd u (qJ _)
 |succ N U=>
  intro lf Y t h u W ζ bq x
  by_cases h0:lf=[]
  ·subst h0;refine⟨Y,[],t,?_⟩;exact aa (PR k cs hs p q mine R sg m Y [] t h) rfl
  ·obtain⟨V,ag⟩:=R9 k cs hs p q mine R sg m hm L Y lf t h h0 W ζ bq x;have g:=MU (m:=m) h0;have I:∀j∈(lf.filter λk=> !(chainOf m lf).contains k),j∈mine:=λj v=>W j (gr.mp v).1;obtain⟨f,r,bP,P⟩:=U (lf.filter λk=> !(chainOf m lf).contains k) V ((t+(chainOf m lf).length)%2) (eg p q t (chainOf m lf) h) (c7 g (i5 u)) I (aJ (dy g) ζ) (λj v=>by rw[G2];exact bq j v) (by rw[G2];exact x);refine⟨f,r,bP,?_⟩;rw[HV ((PR k cs hs p q mine R sg m Y lf t h).trans (by rw[gE h0];rfl)) ag,P];have mono:∀(a b:Nat) (l:List Nat) (t:Nat) (h:List Int),l.length<=a->a<=b->o' m p q a l t h=o' m p q b l t h:=by
    intro a
    induction a with
    |zero=>
     intro b l t h ζ _;have:l=[]:=pv.mp (wd.mp ζ);subst this;cases b with
     |zero=>rfl
     |succ b=>unfold o';rw[au rfl]
    |succ a Q=>
     intro b l t h ζ Z;cases b with
     |zero=>exact absurd Z (Nat.not_succ_le_zero a)
     |succ b=>
      unfold o'
      by_cases z:l=[]
      ·rw[au z,au z]
      ·rw[ar z,ar z];have:=MU (m:=m) z;exact Q b _ _ _ (i5 (c7 this ζ)) (Nat.le_of_succ_le_succ Z)
   cases e:lf.length with
   |zero=>exact(h0 (pv.mp e)).elim
   |succ n=>
    show _=some (de cs hs p q mine R sg m f r bP (if lf=[] then h else o' m p q n (lf.filter λk=> !(chainOf m lf).contains k) ((t+(chainOf m lf).length)%2) (eg p q t (chainOf m lf) h)),cw.next);rw[ar h0,mono _ n _ _ _ (a7 _) (i5 (j2 g e))]
end
def i_(cs:List Int)(mine:List Nat):List (List Nat):=(rP cs mine++jU cs (λc=>Int.fdiv c 4) (ei cs mine))++jU cs (λc=>Int.fmod c 4) (ei cs mine)
def g_(cs:List Int)(mine:List Nat):Nat->List Nat:=((i_ cs mine).flatMap ff).foldl jz λ_=>[]
def hQ(cs hs:List Int)(p q:Int):List Int:=o' (g_ cs (fs hs p q cs.length)) p q (fs hs p q cs.length).length (kv (g_ cs (fs hs p q cs.length)) (fs hs p q cs.length)) 0 hs
theorem Gy(h:j∈fs hs p q n):j<n:=ek.mp (gr.mp h).1
theorem Nq hs p q n:(fs hs p q n).Nodup:=List.nodup_range.filter _
theorem Zo hs p q n:(fs hs p q n).length<=n:=by
 have:=gD (λk=>p==hs.getD k 0||(q==hs.getD k 0||false)) (List.range n);rwa [hZ] at this
theorem Hm(h:j∈ei cs mine):j∈mine:=by
 obtain⟨l,_,h⟩:=vY.mp h;exact(gr.mp (Ip h)).1
theorem NV r:(eT r).length<=1:=by unfold eT;rw[zl];omega
theorem OG cs mine:(ei cs mine).length<=11:=by
 have:∀ls:List Int,(ls.flatMap λl=>eT (ey cs mine l)).length<=ls.length:=λls=>by
  induction ls with
  |nil=>simp
  |cons l ls z=>
   rw[m_,eL,dG];have:=NV (ey cs mine l);lia
 exact this gb
theorem BR(h:r∈i_ cs mine):∀j∈r,j∈mine:=by
 intro j z;rcases fk.mp h with h|h
 ·rcases fk.mp h with h|h
  ·obtain⟨l,_,rfl⟩:=bV.mp h;exact(gr.mp z).1
  ·obtain⟨l,_,rfl⟩:=bV.mp h;exact Hm (gr.mp z).1
 ·obtain⟨l,_,rfl⟩:=bV.mp h;exact Hm (gr.mp z).1
theorem Ol(hm:mine.length<=10)(h:r∈i_ cs mine):r.length<=11:=by
 have hs:=OG cs mine;rcases fk.mp h with h|h
 ·rcases fk.mp h with h|h
  ·obtain⟨l,_,rfl⟩:=bV.mp h;have:(ey cs mine l).length<=mine.length:=gD _ _;lia
  ·obtain⟨l,_,rfl⟩:=bV.mp h;exact aJ (gD _ _) hs
 ·obtain⟨l,_,rfl⟩:=bV.mp h;exact aJ (gD _ _) hs
theorem getD_mem{r:List Nat}(h:i<r.length):r.getD i 0∈r:=by
 rw[hJ,fi h];exact vZ h
theorem qas(h:e∈ff r):e.1∈r/\e.2∈r:=by
 obtain⟨i,ρ,rfl⟩:=bV.mp h;have:=JP ρ;exact⟨getD_mem (by omega),getD_mem this.2⟩
theorem Vr:∀(E:List (Nat×Nat)) m x,(E.foldl jz m) x=m x++E.flatMap λe=>(if x=e.2 then[e.1] else[])++(if x=e.1 then[e.2] else[]):=by
 intro j
 induction j with
 |nil=>
  intro m x;simp
 |cons e E y=>
  intro m x;rw[i6,y,m_,<-ml]
  congr 1
  unfold jz nu
  by_cases ε:x=e.1
  ·rw[au ε,au ε]
   by_cases z:x=e.2
   ·rw[au z,au z,ml]
   ·rw[ar z,ar z];simp
  ·rw[ar ε,ar ε]
   by_cases z:x=e.2
   ·rw[au z,au z];simp
   ·rw[ar z,ar z];simp
def pz(cs:List Int)(mine:List Nat):List (Nat×Nat):=(i_ cs mine).flatMap ff
theorem Gp cs mine x:g_ cs mine x=(pz cs mine).flatMap λe=>(if x=e.2 then[e.1] else[])++(if x=e.1 then[e.2] else[]):=by
 unfold g_ pz;rw[Vr];rfl
theorem Em(h:e∈pz cs mine):e.1∈mine/\e.2∈mine:=by
 obtain⟨r,z,he⟩:=vY.mp h;have:=qas he;exact⟨BR z _ this.1,BR z _ this.2⟩
theorem Nc:y∈g_ cs mine x↔(y,x)∈pz cs mine∨(x,y)∈pz cs mine:=by
 rw[Gp,vY];constructor
 ·rintro ⟨e,he,h⟩
  rcases fk.mp h with h|h
  ·by_cases q:x=e.2
   ·rw[au q] at h;rw[fj.mp h,q];exact .inl he
   ·rw[ar q] at h;exact nomatch h
  ·by_cases q:x=e.1
   ·rw[au q] at h;rw[fj.mp h,q];exact .inr he
   ·rw[ar q] at h;exact nomatch h
 ·rintro (h|h)
  ·exact⟨_,h,by simp⟩
  ·exact⟨_,h,by simp⟩
theorem Nd:∀j∈mine,∀i∈g_ cs mine j,i∈mine:=λj _ i ρ=>(Nc.mp ρ).elim (λh=>(Em h).1) λh=>(Em h).2
theorem TL(hm:mine.length<=10):(pz cs mine).length<=200:=by
 have:∀R:List (List Nat),(∀r∈R,r.length<=11)->(R.flatMap ff).length<=11*R.length:=λR=>by
  induction R with
  |nil=>intro _;simp
  |cons r R y=>
   intro h;rw[m_,eL,dG];have:=y λr z=>h r (b3 _ z);have ε:=h r bH;have:(ff r).length<=r.length:=by unfold ff;rw[bt];exact DH _
   lia
 have:=this (i_ cs mine) λr z=>Ol hm z;have e:(i_ cs mine).length=17:=rfl;unfold pz;lia
theorem Y4(hm:mine.length<=10) x:(g_ cs mine x).length<=1000:=by
 have:∀E:List (Nat×Nat),(E.flatMap λe=>(if x=e.2 then[e.1] else[])++(if x=e.1 then[e.2] else[])).length<=2*E.length:=λE=>by
  induction E with
  |nil=>simp
  |cons e E z=>
   rw[m_,eL,eL,dG];have a:(if x=e.2 then[e.1] else[]).length<=1:=by split<;>simp
   have b:(if x=e.1 then[e.2] else[]).length<=1:=by split<;>simp
   lia
 have h:=this (pz cs mine);have:=TL (cs:=cs) hm;rw[Gp];lia
theorem OQ m mine:(kv m mine).Perm mine:=by
 have h:=(BZ (mine.map λj=>(((m j).length:Int),j))).map (·.2);rw[cP] at h;unfold kv;refine h.trans ?_;rw[show((λx:Int×Nat=>x.2)∘λj=>(((m j).length:Int),j))=id from rfl,List.map_id]
theorem Ri k p q (ζ:hs.length=cs.length) (I:cs.length<=10):fn (k+1) "_law_again" [ak cs,ak hs,.tup [.int p,.int q]]=some (ak (hQ cs hs p q)):=by
 have Q:fn (k+1) "_law_again" [ak cs,ak hs,.tup [.int p,.int q]]=(bw (S k) 60 df br [b6 0,b6 1,b6 2,b6 3,b6 4,b6 5,b6 6,b6 7,b6 8] (mv.Φ ⟨none,none,none,none,none,none,none,none,none,none,none,none,none,none⟩ cs hs p q λ_=>none)).bind λr=>jX r.2:=.k;have s0:=Q3 k cs hs p q (λ_=>none) ⟨none,none,none,none,none,none,none,none,none,none,none,none,none,none⟩ ζ gA;unfold hQ;have L:=Nq hs p q cs.length;have H:=Zo hs p q cs.length;have g:∀j∈fs hs p q cs.length,j<cs.length:=λj y=>Gy y;generalize fs hs p q cs.length=mine at*;have e:∀j∈mine,j<10:=λj y=>c7 (g j y) I;have n:aK (S k) 59 df br (b6 0) (mv.Φ ⟨none,none,none,none,none,none,none,none,none,none,none,none,none,none⟩ cs hs p q λ_=>none)=some ((hM mine).Φ cs hs p q λ_=>none,.next):=s0;have s1:=Q4 k cs hs p q mine e L;obtain⟨line,row,s2⟩:=Q5 k cs hs p q (λi=>if i∈mine then some (.own (.lst [])) else none) mine g gA .l;have P:=OG cs mine;have W:∀j∈ei cs mine,j<cs.length:=λj y=>g j (Hm y);have s3:=Q6 k cs hs p q (λi=>if i∈mine then some (.own (.lst [])) else none) mine (rP cs mine) (ei cs mine) line row W gA gA (show(rP cs mine).length<=1000 from e5 rfl);have s4:=Q7 k cs hs p q (λi=>if i∈mine then some (.own (.lst [])) else none) mine (rP cs mine++jU cs (λc=>Int.fdiv c 4) (ei cs mine)) (ei cs mine) line row W gA gA (show(rP cs mine++jU cs (λc=>Int.fdiv c 4) (ei cs mine)).length<=1000 from e5 rfl);obtain⟨f,at',s5⟩:=Q8 k cs hs p q mine (i_ cs mine) (ei cs mine) line e row (λr Y=>⟨BR Y,by have:=Ol (cs:=cs) (mine:=mine) .l Y;lia⟩) (show(i_ cs mine).length<=100 from e5 rfl);have x:aK (S k) 54 df br (b6 5) ((dP mine (rP cs mine++jU cs (λc=>Int.fdiv c 4) (ei cs mine)++jU cs (λc=>Int.fmod c 4) (ei cs mine)) (ei cs mine) line row).Φ cs hs p q λi=>if i∈mine then some (.own (.lst [])) else none)=some ((d8 mine (i_ cs mine) (ei cs mine) line f at').Φ cs hs p q (d0 mine (g_ cs mine)),.next):=s5;have a:=λj (y:j∈mine)=>Y4 (cs:=cs) (mine:=mine) .l j;have N:=Q9 k cs hs p q mine (i_ cs mine) (ei cs mine) line f at' (g_ cs mine) e .l a .l;have u:=OQ (g_ cs mine) mine;obtain⟨T,U,Z,V⟩:=qew k cs hs p q mine (i_ cs mine) (ei cs mine) (g_ cs mine) Nd a 10000 (kv (g_ cs mine) mine) (pE line f at') 0 hs (by rw[u.length_eq];lia) (λj y=>u.mem_iff.mp y) (by rw[u.length_eq];lia) (λj y=>by rw[ζ];exact g j y) .l;rw[u.length_eq] at V;have t:∀σ,aK (S k) 52 df br (b6 7) σ=mc (λv=>b9 (S k) 51 br (pk (b6 7)) v) (λv=>bw (S k) 51 df br (kA (b6 7)) v) 10000 σ:=λσ=>by kernel_rfl
 have O:∀h,aK (S k) 51 df br (b6 8) (de cs hs p q mine (i_ cs mine) (ei cs mine) (g_ cs mine) T U Z h)=some (de cs hs p q mine (i_ cs mine) (ei cs mine) (g_ cs mine) T U Z h,.ret (ak h)):=λh=>by
  generalize g_ cs mine=m;generalize i_ cs mine=R;generalize ei cs mine=sg
  kernel_rfl
 rw[Q,bj n,bj s1,bj s2,bj s3,bj s4];rw[bj x,bj N];refine(bp (λz=>z.bind λr=>jX r.2) ((bj ((t _).trans V)).trans (mH (O _)))).trans ?_;rfl
theorem k_(i:Nat):i%2≠(i+1)%2:=λh=>by
 rw[n8] at h;rcases sb i with e|e<;>rw[e] at h<;>exact absurd h .d
theorem la(t:Nat)(h:a%2=b%2):(t+a)%2=(t+b)%2:=by rw[n8,h,<-n8]
theorem G1{t a b:Nat}(h:(t+a)%2=(t+b)%2):a%2=b%2:=by
 have:=la t h;rwa [<-qK,<-qK,<-Nat.two_mul,Nat.mul_add_mod,Nat.mul_add_mod] at this
theorem vo{a b:Nat}(h:a%2≠(b+1)%2):a%2=b%2:=by
 rw[n8] at h;rcases sb a with e|e<;>rcases sb b with g|g<;>rw[e,g] at h⊢<;>exact absurd rfl h
structure nt(f:Nat->Nat->Option Nat)(m:Nat->List Nat):Prop where
 per:∀t x,f (t+2) x=f t x
 sym:∀t x y,f t x=some y->f t y=some x
 ne:∀t x y,f t x=some y->x≠y
 yj:∀x,m x=(f 0 x).toList++(f 1 x).toList
section
variable{f:Nat->Nat->Option Nat}{m:Nat->List Nat}(H:nt f m)
include H
theorem nt.mod:∀t x,f t x=f (t%2) x
 |0,x=>rfl
 |1,x=>rfl
 |t+2,x=>by rw[H.per,nt.mod t,Nat.add_mod_right]
theorem nt.eq(h:s%2=t%2) x:f s x=f t x:=by rw[H.mod s,H.mod t,h]
theorem nt.mem t:y∈m x↔f t x=some y∨f (t+1) x=some y:=by
 rw[H.yj,fk,Option.mem_toList,Option.mem_toList];rcases sb t with h|h
 ·rw[H.eq (s:=t) (t:=0) h,H.eq (s:=t+1) (t:=1) (by rw[n8,h])]
 ·rw[H.eq (s:=t) (t:=1) h,H.eq (s:=t+1) (t:=0) (by rw[n8,h])];exact Or.comm
theorem nt.len t x:(m x).length=(f t x).toList.length+(f (t+1) x).toList.length:=by
 rw[H.yj,eL];rcases sb t with h|h
 ·rw[H.eq (s:=t) (t:=0) h,H.eq (s:=t+1) (t:=1) (by rw[n8,h])]
 ·rw[H.eq (s:=t) (t:=1) h,H.eq (s:=t+1) (t:=0) (by rw[n8,h]),mf]
theorem nt.symm(h:y∈m x):x∈m y:=by
 rcases(H.mem 0).mp h with h|h
 ·exact(H.mem 0).mpr (.inl (H.sym _ _ _ h))
 ·exact(H.mem 0).mpr (.inr (H.sym _ _ _ h))
end
structure Way(f:Nat->Nat->Option Nat)(lf c:List Nat):Prop where
 ne:0<c.length
 vg:c.Nodup
 sub:∀j∈c,j∈lf
 head:c.getD 0 0=lf.getD 0 0
 Jt:∃t,∀i,i+1<c.length->f (t+i) (c.getD i 0)=some (c.getD (i+1) 0)
theorem Lh{c:List Nat}(h:0<c.length):c.getLastD 0=c.getD (c.length-1) 0:=by
 rw[hJ,<-List.getLast?_eq_getElem?,Co]
theorem getD_inj{c:List Nat}(hd:c.Nodup)(ρ:i<c.length)(z:j<c.length)(h:c.getD i 0=c.getD j 0):i=j:=by
 rw[hJ,hJ,fi ρ,fi z] at h;exact(List.getElem_inj hd).mp h
theorem uL{c d:List Nat}(h:i<c.length):(c++d).getD i 0=c.getD i 0:=by
 rw[hJ,hJ,List.getElem?_append_left h]
theorem EO{c d:List Nat}:(c++d).getD (c.length+i) 0=d.getD i 0:=by
 rw[hJ,hJ,List.getElem?_append_right (c8 ..),Ie]
theorem TP{c:List Nat}:(c++[w]).getD c.length 0=w:=EO (i:=0)
theorem yl{c:List Nat}(h:x∈c):∃j,j<c.length/\c.getD j 0=x:=by
 obtain⟨j,z,e⟩:=y8 h;exact⟨j,z,by rw[hJ,fi z];exact e⟩
theorem Hq m c:(ha m c=c/\∀w∈m (c.getLastD 0),w∈c)∨∃w,ha m c=c++[w]/\w∈m (c.getLastD 0)/\w∉c:=by
 unfold ha;cases e:(m (c.getLastD 0)).filter λk=> !c.contains k with
 |nil=>
  refine .inl ⟨by simp,λw hw=>?_⟩;have:=Ij.mp e w hw
  simpa using this
 |cons w r=>
  have hw:w∈(m (c.getLastD 0)).filter λk=> !c.contains k:=by rw[e];exact bH
  have:=gr.mp hw;exact .inr ⟨w,by simp,this.1,by simpa using this.2⟩
theorem Dw{f:Nat->Nat->Option Nat}{c:List Nat}(z:c.length=n+1)(ω:∀i,i+1<c.length->f (t+i) (c.getD i 0)=some (c.getD (i+1) 0))(e:f (t+n) (c.getD n 0)=some w):∀i,i+1<(c++[w]).length->f (t+i) ((c++[w]).getD i 0)=some ((c++[w]).getD (i+1) 0):=λi ρ=>by
 rw[eL,y5,z] at ρ;rcases tO (i5 ρ) with h|h
 ·rw[<-z] at h;rw[uL (vW h),uL h];exact ω i h
 ·obtain rfl:=m2 h;rw[uL (z▸iH i),<-z,TP];exact e
section
variable{f:Nat->Nat->Option Nat}{m:Nat->List Nat}(H:nt f m){lf:List Nat}(κ:∀x∈lf,∀y∈m x,y∈lf)
include H κ
theorem qeq(W:Way f lf c):Way f lf (ha m c):=by
 rcases Hq m c with⟨h,_⟩|⟨w,h,hw,g⟩
 ·rw[h];exact W
 ·obtain⟨n,ζ⟩:∃n,c.length=n+1:=⟨c.length-1,(CG W.ne).symm⟩;have q:n<c.length:=ζ▸iH n;rw[Lh W.ne,ζ,Nat.add_sub_cancel] at hw;rw[h];refine⟨eL.symm▸zg _ Nat.one_pos,?_,?_,by rw[uL W.ne];exact W.head,?_⟩
  ·exact r4.mpr ⟨W.vg,h2.mpr ⟨oc,List.Pairwise.nil⟩,λa u b v e=>g (by rw[<-fj.mp v,<-e];exact u)⟩
  ·intro j z;rcases fk.mp z with z|z
   ·exact W.sub j z
   ·rw[fj.mp z];exact κ _ (W.sub _ (getD_mem q)) _ hw
  ·obtain⟨t,ω⟩:=W.Jt;cases n with
   |zero=>exact((H.mem 0).mp hw).elim (λe=>⟨0,Dw ζ (λi ρ=>absurd (y4 (j2 ρ ζ)) (qJ i)) e⟩) λe=>⟨1,Dw ζ (λi ρ=>absurd (y4 (j2 ρ ζ)) (qJ i)) e⟩
   |succ k=>
    have a:=H.sym _ _ _ (ω k q);rcases(H.mem (t+k)).mp hw with e|e
    ·rw[a] at e;exact(g (by rw[<-ae e];exact getD_mem (vW q))).elim
    ·exact⟨t,Dw ζ ω e⟩
theorem qer:∀n c,Way f lf c->Way f lf (mb m n c)/\(ha m (mb m n c)=mb m n c∨(mb m n c).length=c.length+n):=by
 intro j
 induction j with
 |zero=>
  intro c W;exact⟨W,.inr rfl⟩
 |succ n z=>
  intro c W;obtain⟨W',h⟩:=z (ha m c) (qeq H κ W);refine⟨W',?_⟩;rcases h with h|h
  ·exact .inl h
  ·rcases Hq m c with⟨ε,_⟩|⟨w,ε,_,_⟩
   ·have:∀n,mb m n c=c:=λn=>by
     induction n with
     |zero=>rfl
     |succ n q=>show mb m n (ha m c)=c;rw[ε];exact q
    refine .inl ?_;rw[this];exact ε
   ·refine .inr ?_;show(mb m n (ha m c)).length=_;rw[h,ε,eL,y5];lia
theorem Sp(h0:lf≠[]):Way f lf (chainOf m lf)/\ha m (chainOf m lf)=chainOf m lf:=by
 have z:Way f lf (lf.take 1):=by
  cases lf with
  |nil=>exact(h0 rfl).elim
  |cons a r=>exact⟨by simp,by simp,by simp,by simp,0,λi ρ=>by simp at ρ⟩
 obtain⟨W,h⟩:=qer H κ lf.length (lf.take 1) z;refine⟨W,h.elim id λh=>?_⟩;exact absurd (qk (m:=lf) W.vg W.sub) (n9.mpr (h▸Nat.lt_add_of_pos_left z.ne))
theorem qep(W:Way f lf c)(hs:ha m c=c)(Q:∀x∈lf,(m (lf.getD 0 0)).length<=(m x).length)(ρ:i<c.length)(l:y∈m (c.getD i 0)):∃j,j<c.length/\c.getD j 0=y/\i%2≠j%2:=by
 obtain⟨t,ω⟩:=W.Jt;obtain⟨n,ζ⟩:∃n,c.length=n+1:=⟨c.length-1,(CG W.ne).symm⟩;have v:n<c.length:=ζ▸iH n;have U:∀w∈m (c.getD n 0),w∈c:=by
  rcases Hq m c with⟨_,h⟩|⟨w,h,_,_⟩
  ·rw[Lh W.ne,ζ] at h;exact h
  ·rw[hs] at h;have:=bp List.length h;simp at this
 have T:∀w,f (t+n) (c.getD n 0)=some w->w=c.getD 0 0/\n%2≠0%2∨n=0:=by
  intro w hw;obtain⟨j,p,e⟩:=yl (U w ((H.mem (t+n)).mpr (.inl hw)));subst e;have r:=H.sym _ _ _ hw;have V:j<n:=tP (i5 (j2 p ζ)) λe=>H.ne _ _ _ hw (by rw[e])
  by_cases z:n%2=j%2
  ·have Y:j+1<c.length:=ζ▸zk V;rw[H.eq (la t z),ω j Y] at r;exact absurd (getD_inj W.vg Y v (ae r)▸z).symm (k_ j)
  ·cases j with
   |zero=>exact .inl ⟨rfl,z⟩
   |succ j=>
    have R:=vW p;rw[H.eq (la t (vo z)),H.sym _ _ _ (ω j p)] at r;exact absurd (getD_inj W.vg R v (ae r)) (fQ (vW V))
 cases i with
 |zero=>
  cases n with
  |zero=>
   obtain⟨j,p,e⟩:=yl (U y l);obtain rfl:j=0:=Nat.lt_one_iff.mp (j2 p ζ);exact(((H.mem 0).mp l).elim (λa=>H.ne _ _ _ a e) λa=>H.ne _ _ _ a e).elim
  |succ k=>
   have Z:=ω 0 (ζ▸zk (r_ k));rcases(H.mem t).mp l with a|a
   ·exact⟨1,ζ▸zk (r_ k),ae (Z.symm.trans a),by decide⟩
   ·have hd:=Q (c.getD (k+1) 0) (W.sub _ (getD_mem v));have b:=H.sym _ _ _ (ω k v);rw[<-W.head,H.len t (c.getD 0 0),a,show f t (c.getD 0 0)=some (c.getD 1 0) from Z,H.len (t+k),b] at hd;cases e:f (t+k+1) (c.getD (k+1) 0) with
    |none=>rw[e] at hd;simp at hd
    |some w=>
     rcases T w e with⟨hw,z⟩|q
     ·have g:=H.sym _ _ _ e;rw[hw,H.eq (s:=t+k+1) (la t (a:=k+1) (b:=1) (vo (b:=1) z)),a] at g;exact⟨k+1,v,(ae g).symm,z.symm⟩
     ·exact nomatch q
 |succ i=>
  have b:=H.sym _ _ _ (ω i ρ);rcases(H.mem (t+i)).mp l with a|a
  ·rw[b] at a;exact⟨i,vW ρ,ae a,(k_ i).symm⟩
  ·rcases tO (i5 (ζ▸ρ:i+1<n+1)) with u|u
   ·have u:i+1+1<c.length:=ζ▸zk u;exact⟨i+1+1,u,ae ((ω (i+1) u).symm.trans a),k_ (i+1)⟩
   ·subst u;rcases T y a with⟨hw,z⟩|q
    ·exact⟨0,W.ne,hw.symm,z⟩
    ·exact nomatch q
end
noncomputable def l7(m:Nat->List Nat):Nat->List Nat->List Nat
 |0,_=>[]
 |n+1,lf=>if lf=[] then[] else chainOf m lf++l7 m n (lf.filter λk=> !(chainOf m lf).contains k)
theorem L' p q i:iq p q (i%2)=iq p q i:=by unfold iq;rw[Nat.mod_mod]
theorem XC p q (h:i%2=j%2):iq p q i=iq p q j:=by rw[<-L' p q i,h,L']
theorem qah p q:∀c h {i j},i%2=j%2->eg p q i c h=eg p q j c h:=by
 intro y
 induction y with
 |nil=>
  intro γ γ γ γ;exact rfl
 |cons k c z=>
  intro h i j e;show eg p q (i+1) c _=eg p q (j+1) c _;rw[XC p q e];exact z _ (by rw[n8,e,<-n8])
theorem qaf p q:∀c d i h,eg p q i (c++d) h=eg p q (i+c.length) d (eg p q i c h):=by
 intro y
 induction y with
 |nil=>
  intro γ γ γ;exact rfl
 |cons k c z=>
  intro d i h;show eg p q (i+1) (c++d) _=_;rw[z,dG,show i+1+c.length=i+(c.length+1) from lu i 1 _];rfl
theorem qai m p q:∀n lf t h,o' m p q n lf t h=eg p q t (l7 m n lf) h:=by
 intro y
 induction y with
 |zero=>
  intro γ γ γ;exact rfl
 |succ n z=>
  intro lf t h;unfold o' l7
  by_cases e:lf=[]
  ·rw[au e,au e];rfl
  ·rw[ar e,ar e,z,qaf];exact qah p q _ _ (Nat.mod_mod _ _)
theorem Lg{h:List Int} v (z:k<h.length) x:(h.set k v).getD x 0=if x=k then v else h.getD x 0:=by
 rw[hJ,hJ,List.getElem?_set]
 by_cases e:x=k
 ·subst e;rw[au rfl,au rfl,au z];rfl
 ·rw[ar e,ar (gT e)]
theorem N2 p q:∀c i h,(∀j∈c,j<h.length)->∀x,x∉c->(eg p q i c h).getD x 0=h.getD x 0:=by
 intro g
 induction g with
 |nil=>
  intro γ γ γ γ γ;exact rfl
 |cons k c y=>
  intro i h bq x z;show(eg p q (i+1) c _).getD x 0=_;rw[y _ _ (λj u=>by rw[v7];exact bq j (b3 _ u)) x λe=>z (b3 _ e),Lg _ (bq k bH),ar λe=>z (by rw[e];exact bH)]
theorem qag p q:∀c i h,c.Nodup->(∀j∈c,j<h.length)->∀a,a<c.length->(eg p q i c h).getD (c.getD a 0) 0=iq p q (i+a):=by
 intro v
 induction v with
 |nil=>
  intro γ γ γ γ γ z;exact absurd z (qJ _)
 |cons k c u=>
  intro i h hd bq a z;show(eg p q (i+1) c _).getD _ 0=_;have g:=h2.mp hd;have y:∀j∈c,j<(h.set k (iq p q i)).length:=λj e=>by rw[v7];exact bq j (b3 _ e)
  cases a with
  |zero=>
   show(eg p q (i+1) c _).getD k 0=_;rw[N2 p q c _ _ y k g.1,Lg _ (bq k bH),au rfl];rfl
  |succ a=>
   show(eg p q (i+1) c _).getD (c.getD a 0) 0=_;rw[u (i+1) _ g.2 y a (by simpa using z),show i+1+a=i+(a+1) from lu i 1 a]
theorem qbm(H:nt f m):∀n lf,lf.length<=n->lf.Nodup->(∀x∈lf,∀y∈m x,y∈lf)->lf.Pairwise (λa b=>(m a).length<=(m b).length)->
 (l7 m n lf).Nodup/\(∀x,x∈l7 m n lf↔x∈lf)/\∀i,i<(l7 m n lf).length->∀y∈m ((l7 m n lf).getD i 0),∃j,j<(l7 m n lf).length/\(l7 m n lf).getD j 0=y/\i%2≠j%2:=by
 intro n
 induction n with
 |zero=>
  intro lf V γ γ γ;obtain rfl:lf=[]:=List.eq_nil_of_length_eq_zero (wd.mp V);exact⟨List.Pairwise.nil,λx=>Iff.rfl,λi ρ=>absurd ρ (qJ _)⟩
 |succ n Q=>
  intro lf V hd κ v;unfold l7
  by_cases h0:lf=[]
  ·rw[au h0,h0];exact⟨List.Pairwise.nil,λx=>Iff.rfl,λi ρ=>absurd ρ (qJ _)⟩
  ·rw[ar h0];obtain⟨W,hs⟩:=Sp H κ h0;have T:∀x∈lf,(m (lf.getD 0 0)).length<=(m x).length:=λx q=>by
    cases lf with
    |nil=>exact nomatch q
    |cons a r=>
     rcases cn.mp q with e|e
     ·rw[e];exact a7 _
     ·exact(qF.mp v).1 x e
   have U:=λ{i:Nat} (ρ:i<(chainOf m lf).length) {y:Nat} (z:y∈m ((chainOf m lf).getD i 0))=>qep H κ W hs T ρ z;generalize O:chainOf m lf=C at*;have g:∀x,x∈lf.filter (λk=> !C.contains k)↔x∈lf/\x∉C:=λx=>by rw[gr];simp
   have hlen:(lf.filter λk=> !C.contains k).length<=n:=by
    have R:=W.ne;have:C.length+(lf.filter λk=> !C.contains k).length<=lf.length:=by
      rw[<-eL];refine qk (r4.mpr ⟨W.vg,hd.filter _,λa l b Y e=>((g b).mp Y).2 (e▸l)⟩) λx q=>?_;rcases fk.mp q with h|h
      ·exact W.sub x h
      ·exact((g x).mp h).1
    exact Nat.le_of_succ_le_succ (aJ (aJ (gV (mf _ 1)) (m4 R _)) (aJ this V))
   have P:∀x∈C,∀y∈m x,y∈C:=λx q y z=>by
    obtain⟨i,ρ,e⟩:=yl q;obtain⟨j,u,aB,_⟩:=U ρ (by rw[e];exact z);rw[<-aB];exact getD_mem u
   obtain⟨s1,s2,s3⟩:=Q (lf.filter λk=> !C.contains k) hlen (hd.filter _) (λx q y z=>(g y).mpr ⟨κ x ((g x).mp q).1 y z,λh=>((g x).mp q).2 (P y h x (H.symm z))⟩) (v.filter _);generalize l7 m n (lf.filter λk=> !C.contains k)=Z at*;refine⟨r4.mpr ⟨W.vg,s1,λa l b Y e=>((g b).mp ((s2 b).mp Y)).2 (e▸l)⟩,λx=>?_,λi ρ y z=>?_⟩
   ·rw[fk,s2,g];constructor
    ·rintro (h|h)
     ·exact W.sub x h
     ·exact h.1
    ·intro h
     by_cases e:x∈C
     ·exact .inl e
     ·exact .inr ⟨h,e⟩
   ·rw[eL] at ρ⊢
    by_cases p:i<C.length
    ·rw[uL p] at z;obtain⟨j,u,e,v⟩:=U p z;exact⟨j,c7 u (c8 ..),by rw[uL u];exact e,v⟩
    ·obtain⟨t,rfl⟩:∃t,i=C.length+t:=⟨i-C.length,(Iy (e7.mp p)).symm⟩;rw[EO] at z;obtain⟨j,u,e,v⟩:=s3 t (Nat.lt_of_add_lt_add_left ρ) y z;exact⟨C.length+j,CB u _,by rw[EO];exact e,λe=>v (G1 e)⟩
theorem N4 a b r:ff (a::b::r)=(a,b)::ff r:=by
 unfold ff nz;rw[dG,dG,show(r.length+1+1)/2=r.length/2+1 from Nat.add_div_right r.length (z:=2) .d,Cs,bN,bN,cP,cP,cP];rfl
theorem NW a b r:eT (a::b::r)=eT r:=by
 unfold eT;rw[dG,dG,show(r.length+1+1)/2=r.length/2+1 from Nat.add_div_right r.length (z:=2) .d,show(r.length/2+1)*2=r.length/2*2+1+1 from zt ..];rfl
noncomputable def ends(E:List (Nat×Nat)):List Nat:=E.flatMap λe=>[e.1,e.2]
theorem Kz:∀r,ends (ff r)++eT r=r
 |[]=>rfl
 |[a]=>by simp [ff,nz,ends,eT]
 |a::b::r=>by
  rw[N4,NW];show a::b::(ends (ff r)++eT r)=_;rw[Kz r]
noncomputable def hY(E:List (Nat×Nat))(x:Nat):List Nat:=E.flatMap λe=>(if x=e.2 then[e.1] else[])++(if x=e.1 then[e.2] else[])
theorem Hl x:∀E,(hY E x).length=(ends E).count x:=by
 intro j
 induction j with
 |nil=>
  exact rfl
 |cons e E y=>
  show(((if x=e.2 then[e.1] else[])++(if x=e.1 then[e.2] else[]))++hY E x).length=(e.1::e.2::ends E).count x;rw[eL,eL,y,r8,r8]
  by_cases ε:x=e.1
  ·by_cases z:x=e.2
   ·simp [<-ε,<-z];lia
   ·simp [<-ε,z,gT z];lia
  ·by_cases z:x=e.2
   ·simp [ε,<-z,gT ε];lia
   ·simp [ε,z,gT ε,gT z]
theorem Hk:y∈hY E x↔(y,x)∈E∨(x,y)∈E:=by
 unfold hY;rw[vY];constructor
 ·rintro ⟨e,he,h⟩
  rcases fk.mp h with h|h
  ·by_cases q:x=e.2
   ·rw[au q] at h;rw[fj.mp h,q];exact .inl he
   ·rw[ar q] at h;exact nomatch h
  ·by_cases q:x=e.1
   ·rw[au q] at h;rw[fj.mp h,q];exact .inr he
   ·rw[ar q] at h;exact nomatch h
 ·rintro (h|h)
  ·exact⟨_,h,by simp⟩
  ·exact⟨_,h,by simp⟩
theorem TQ{E}:∀{x},(x,x)∈E->2<=(ends E).count x:=by
 induction E with
 |nil=>exact λh=>nomatch h
 |cons e E z=>
  intro x h;show 2<=(e.1::e.2::ends E).count x;rw[r8,r8];rcases cn.mp h with h|h
  ·rw[<-h,hq];exact nc _ _
  ·exact aJ (z h) (aJ (c8 ..) (c8 ..))
theorem LJ{l:List Nat}(h:l.length<=1):l.head?.toList=l:=by
 cases l with
 |nil=>rfl
 |cons a r=>
  cases r with
  |nil=>rfl
  |cons b r=>simp at h
theorem qdA{kH lA:List (Nat×Nat)}(h0:∀x,(ends kH).count x<=1)(ε:∀x,(ends lA).count x<=1)(hm:∀x,m x=hY kH x++hY lA x):nt (λt x=>(hY (if t%2=0 then kH else lA) x).head?) m:=by
 have j:∀t:Nat,∀x,(ends (if t%2=0 then kH else lA)).count x<=1:=λt x=>by
  by_cases e:t%2=0
  ·rw[au e];exact h0 x
  ·rw[ar e];exact ε x
 refine⟨λt x=>by simp only[Nat.add_mod_right],λt x y h=>?_,λt x y h=>?_,λx=>?_⟩
 ·have z:=j t y;generalize (if t%2=0 then kH else lA)=E at*;have a:y∈hY E x:=List.mem_of_head? h;have b:x∈hY E y:=Hk.mpr (Hk.mp a).symm;rw[<-Hl] at z;cases e:hY E y with
  |nil=>rw[e] at b;exact nomatch b
  |cons u r=>
   rw[e] at b z;cases r with
   |nil=>rw[fj.mp b];rfl
   |cons v r=>simp at z
 ·intro e;subst e;have z:=j t x;have a:=Hk.mp (List.mem_of_head? h);exact absurd (aJ (TQ (a.elim id id)) z) .d
 ·rw[hm];show hY kH x++hY lA x=(hY kH x).head?.toList++(hY lA x).head?.toList;rw[LJ (by rw[Hl];exact h0 x),LJ (by rw[Hl];exact ε x)]
def kH(cs:List Int)(mine:List Nat):List (Nat×Nat):=(rP cs mine++jU cs (λc=>Int.fdiv c 4) (ei cs mine)).flatMap ff
def lA(cs:List Int)(mine:List Nat):List (Nat×Nat):=(jU cs (λc=>Int.fmod c 4) (ei cs mine)).flatMap ff
theorem qbw E F x:hY (E++F) x=hY E x++hY F x:=y9
theorem Y5 cs mine x:g_ cs mine x=hY (kH cs mine) x++hY (lA cs mine) x:=by
 rw[Gp,<-qbw,kH,lA,<-y9];rfl
theorem count_filter P x:∀z:List Nat,(z.filter P).count x=if P x then z.count x else 0:=by
 intro j
 induction j with
 |nil=>
  simp
 |cons a z y=>
  rw[mm,r8]
  by_cases h:P a
  ·rw[au h,r8,y]
   by_cases e:a=x
   ·rw[<-e,au h,au h]
   ·have:(a==x)=false:=by simpa using e
    simp only[this];split<;>rfl
  ·rw[ar h,y]
   by_cases e:a=x
   ·rw[<-e,ar h,ar h]
   ·have:(a==x)=false:=by simpa using e
    simp only[this];split<;>rfl
theorem SJ(g:Nat->Int)(z:List Nat) x:∀L:List Int,L.Nodup->(L.flatMap λl=>z.filter λj=>g j==l).count x=if g x∈L then z.count x else 0:=by
 intro u
 induction u with
 |nil=>
  intro γ;simp
 |cons l L q=>
  intro hd;have y:=h2.mp hd;rw[m_,r5,q y.2,count_filter]
  by_cases e:g x=l
  ·have:g x∉L:=λh=>y.1 (e▸h);simp [e,y.1]
  ·simp [e]
theorem z_(g:Nat->Int)(z:List Nat) x {L:List Int} (y:L.Nodup):(L.flatMap λl=>z.filter λj=>g j==l).count x<=z.count x:=by
 rw[SJ g z x L y];split<;>first|exact a7 _|exact eM _
theorem Aj x A:∀L:List Int,(ends ((L.map A).flatMap ff)).count x+(L.flatMap λl=>eT (A l)).count x=(L.flatMap A).count x:=by
 intro y
 induction y with
 |nil=>
  exact rfl
 |cons l L z=>
  rw[bN,m_,m_,m_,r5,r5,<-z,show ends (ff (A l)++(L.map A).flatMap ff)=ends (ff (A l))++ends ((L.map A).flatMap ff) from y9,r5];have:(A l).count x=(ends (ff (A l))).count x+(eT (A l)).count x:=by rw[<-r5,Kz]
  rw[this];exact Nat.add_add_add_comm ..
theorem Tq cs (hd:mine.Nodup) x:(ends (kH cs mine)).count x<=1:=by
 have a:=Aj x (ey cs mine) gb;have b:=Aj x (qh cs (λc=>Int.fdiv c 4) (ei cs mine)) [0,1,2];have c:=z_ (λj=>cs.getD j 0) mine x (L:=gb) .d;have d:=z_ (λj=>Int.fdiv (cs.getD j 0) 4) (ei cs mine) x (L:=[0,1,2]) .d;have e:mine.count x<=1:=List.nodup_iff_count.mp hd x;have g:(gb.flatMap (ey cs mine)).count x=(gb.flatMap λl=>mine.filter λj=>cs.getD j 0==l).count x:=by
  congr 2
 have y:(([0,1,2]:List Int).flatMap (qh cs (λc=>Int.fdiv c 4) (ei cs mine))).count x=(([0,1,2]:List Int).flatMap λl=>(ei cs mine).filter λj=>Int.fdiv (cs.getD j 0) 4==l).count x:=rfl;have q:(ei cs mine).count x=(gb.flatMap λl=>eT (ey cs mine l)).count x:=rfl;have z:(ends (kH cs mine)).count x=(ends ((gb.map (ey cs mine)).flatMap ff)).count x+(ends ((([0,1,2]:List Int).map (qh cs (λc=>Int.fdiv c 4) (ei cs mine))).flatMap ff)).count x:=by
  rw[<-r5];unfold kH;rw[y9];exact bp (List.count x) y9
 rw[z];exact aJ (r1 (aJ (c8 ..) (aJ (gV (b.trans y)) (aJ d (gV q)))) _) (aJ (gV (a.trans g)) (aJ c e))
theorem qbx cs (hd:mine.Nodup) x:(ei cs mine).count x<=1:=by
 have a:=Aj x (ey cs mine) gb;have c:=z_ (λj=>cs.getD j 0) mine x (L:=gb) .d;have e:mine.count x<=1:=List.nodup_iff_count.mp hd x;have y:(gb.flatMap (ey cs mine)).count x=(gb.flatMap λl=>mine.filter λj=>cs.getD j 0==l).count x:=by
  congr 2
 have z:(ei cs mine).count x=(gb.flatMap λl=>eT (ey cs mine l)).count x:=rfl;rw[z];exact aJ (nc ..) (aJ (gV (a.trans y)) (aJ c e))
theorem Tt cs (hd:mine.Nodup) x:(ends (lA cs mine)).count x<=1:=by
 have b:=Aj x (qh cs (λc=>Int.fmod c 4) (ei cs mine)) [0,1,2];have d:=z_ (λj=>Int.fmod (cs.getD j 0) 4) (ei cs mine) x (L:=[0,1,2]) .d;have e:=qbx cs hd x;have y:(([0,1,2]:List Int).flatMap (qh cs (λc=>Int.fmod c 4) (ei cs mine))).count x=(([0,1,2]:List Int).flatMap λl=>(ei cs mine).filter λj=>Int.fmod (cs.getD j 0) 4==l).count x:=rfl;have z:(ends (lA cs mine)).count x=(ends ((([0,1,2]:List Int).map (qh cs (λc=>Int.fmod c 4) (ei cs mine))).flatMap ff)).count x:=rfl;rw[z];exact aJ (c8 ..) (aJ (gV (b.trans y)) (aJ d e))
theorem qdB cs (hd:mine.Nodup):nt (λt x=>(hY (if t%2=0 then kH cs mine else lA cs mine) x).head?) (g_ cs mine):=qdA (Tq cs hd) (Tt cs hd) (Y5 cs mine)
theorem qbM m (z:mine.Pairwise (· <·)):(kv m mine).Pairwise λa b=>(m a).length<=(m b).length:=by
 have h:((mine.map λj=>(((m j).length:Int),j))).Pairwise λa b=>a.2<b.2:=CL.mpr z;have p:=OO h;have y:∀q∈hl (mine.map λj=>(((m j).length:Int),j)),q.1=((m q.2).length:Int):=λq u=>by
  obtain⟨j,_,e⟩:=bV.mp ((BZ _).mem_iff.mp u);rw[<-e]
 unfold kv;rw[CL];refine p.imp_of_mem λ{a b} z v h=>?_;have ag:=y a z;have g:=y b v;unfold nj at h;rw[ag,g] at h;exact h.elim (λh=>n7.mp (h3 h)) λh=>n7.mp (zr h.1)
noncomputable def cy(s:Nat->Int)(r:List Nat):Int:=(r.map s).sum
theorem fh s a r:cy s (a::r)=s a+cy s r:=by simp [cy]
theorem qcn s a b:cy s (a++b)=cy s a+cy s b:=by simp [cy]
theorem qcq s (h:a.Perm b):cy s a=cy s b:=by
 induction h with
 |nil=>rfl
 |cons x _ z=>rw[fh,fh,z]
 |swap x y l=>rw[fh,fh,fh,fh];exact zh ..
 |trans _ _ b_ b5=>exact b_.trans b5
theorem Pa s:∀r,(∀e∈ff r,s e.1+s e.2=0)->cy s r=cy s (eT r)
 |[],_=>rfl
 |[a],_=>by simp [eT]
 |a::b::r,h=>by
  rw[N4] at h;rw[NW,fh,fh,<-Pa s r λe he=>h e (b3 _ he)];have:=h (a,b) bH;rw[<-j4,show s a+s b=0 from this,mg]
theorem qcp(z:r.length<=1)(hs:∀x∈r,s x=1∨s x= -1): -1<=cy s r/\cy s r<=1:=by
 cases r with
 |nil=>exact(⟨by decide,by decide⟩: -1<=(0:Int)/\(0:Int)<=1)
 |cons a r=>
  cases r with
  |nil=>
   have:=hs a bH;rw[fh,show cy s []=0 from rfl,h4];rcases this with e|e<;>rw[e]<;>exact⟨by decide,by decide⟩
  |cons b r=>simp at z
noncomputable def q0(i:Nat):Int:=if i%2=0 then 1 else-1
theorem Jv(h:i%2≠j%2):q0 i+q0 j=0:=by
 unfold q0;rcases sb i with a|a<;>rcases sb j with b|b<;>rw[a,b] at h⊢<;>first|rfl|exact absurd rfl h
theorem qcm s:∀c i,(∀a,a<c.length->s (c.getD a 0)=q0 (i+a))->cy s c=0∨cy s c=q0 i:=by
 intro y
 induction y with
 |nil=>
  intro γ γ;exact .inl rfl
 |cons k c z=>
  intro i h;have h0:s k=q0 i:=h 0 (by simp)
  have j:=z (i+1) λa q=>by
   have:=h (a+1) (by simpa using q);rw[show i+(a+1)=i+1+a from lu i a 1] at this;exact this
  rw[fh,h0];exact j.elim (λe=>.inr (by rw[e,h4])) λe=>.inl (by rw[e];exact Jv (k_ i))
theorem qcj(z v:Int):∀L:List Int,z∉L->(L.map λl=>if z=l then v else 0).sum=0:=by
 intro j
 induction j with
 |nil=>
  intro γ;exact rfl
 |cons l L y=>
  intro h;rw[bN,f6,y λe=>h (b3 _ e),ar λe=>h (by rw[e];exact bH)];rfl
theorem O_(z v:Int)(L:List Int):L.Nodup->z∈L->(L.map λl=>if z=l then v else 0).sum=v:=by
 induction L with
 |nil=>exact λ_ h=>nomatch h
 |cons l L j=>
  intro hd h;have y:=h2.mp hd;rw[bN,f6]
  by_cases e:z=l
  ·rw[au e,qcj z v L (by rw[e];exact y.1),h4]
  ·rw[ar e,j y.2 ((cn.mp h).resolve_left e),mg]
theorem O9(f g:Int->Int):∀L:List Int,(L.map λl=>f l+g l).sum=(L.map f).sum+(L.map g).sum:=by
 intro y
 induction y with
 |nil=>
  exact rfl
 |cons l L z=>
  rw[bN,f6,z,bN,bN,f6,f6,j4,j4,zh (g l)]
theorem qcv s (c:Nat->Int) (P:Int->Bool) {L:List Int} (v:L.Nodup):∀z:List Nat,(∀j∈z,c j∈L)->cy s (z.filter λj=>P (c j))=(L.map λl=>if P l then cy s (z.filter λj=>c j==l) else 0).sum:=by
 intro u
 induction u with
 |nil=>
  intro γ
  have:∀L:List Int,(L.map λl=>if P l then cy s (([]:List Nat).filter λj=>c j==l) else 0).sum=0:=λL=>by
   induction L with
   |nil=>rfl
   |cons l L y=>
    rw[bN,f6,y];split<;>rfl
  exact(this L).symm
 |cons j z g=>
  intro h;have y:=g λi ρ=>h i (b3 _ ρ);have p:=h j bH
  have e:(L.map λl=>if P l then cy s ((j::z).filter λj=>c j==l) else 0).sum=(L.map λl=>(if c j=l then(if P (c j) then s j else 0) else 0)+(if P l then cy s (z.filter λj=>c j==l) else 0)).sum:=by
   congr 1
   refine m5 λl _=>?_
   by_cases e:c j=l
   ·rw[mm,au (show(c j==l)=true by simpa using e),fh,au e,e]
    by_cases q:P l=true
    ·simp only[au q]
    ·simp only[ar q];rfl
   ·rw[mm,ar (show¬(c j==l)=true by simpa using e),ar e];exact(mg _).symm
  rw[e,O9,<-y,O_ _ _ L v p,mm];split
  ·rw[fh]
  ·exact(mg _).symm
theorem U'(P:Int->Bool) s (hm:∀j∈mine,cs.getD j 0∈gb):cy s ((ei cs mine).filter λj=>P (cs.getD j 0))=(gb.map λl=>if P l then cy s (eT (ey cs mine l)) else 0).sum:=by
 have:∀L:List Int,cy s ((L.flatMap λl=>eT (ey cs mine l)).filter λj=>P (cs.getD j 0))=(L.map λl=>if P l then cy s (eT (ey cs mine l)) else 0).sum:=λL=>by
  induction L with
  |nil=>rfl
  |cons l L q=>
   rw[m_,IB,qcn,q,bN,f6]
   congr 1
   have y:∀j∈eT (ey cs mine l),cs.getD j 0=l:=λj z=>by
    have:=(gr.mp (Ip z)).2
    simpa using this
   by_cases h:P l
   ·rw[au h,y_.mpr λj z=>by rw[y j z];exact h]
   ·rw[ar h,Ij.mpr λj z=>by rw[y j z];exact h];rfl
 exact this gb
noncomputable def sgn(p:Int)(H:List Int)(j:Nat):Int:=if H.getD j 0=p then 1 else-1
def Test(P:Int->Bool):Prop:=(∃l,P=λc=>c==l)∨(∃nm,nm∈([0,1,2]:List Int)/\((P=λc=>Int.fdiv c 4==nm)∨P=λc=>Int.fmod c 4==nm))∨P=λ_=>true
structure wh(cs hs H:List Int)(p q:Int):Prop where
 len:H.length=hs.length
 out:∀x,x∉fs hs p q cs.length->H.getD x 0=hs.getD x 0
 A9:∀x∈fs hs p q cs.length,H.getD x 0=p∨H.getD x 0=q
 Uz:∀P,Test P-> -1<=cy (sgn p H) ((fs hs p q cs.length).filter λj=>P (cs.getD j 0))/\cy (sgn p H) ((fs hs p q cs.length).filter λj=>P (cs.getD j 0))<=1
theorem SY(ζ:hs.length=cs.length)(κ:∀c∈cs,c∈gb)(g7:p≠q):wh cs hs (hQ cs hs p q) p q:=by
 have V:=Nq hs p q cs.length;have H:(fs hs p q cs.length).Pairwise (· <·):=List.pairwise_lt_range.filter _;have A:∀j∈fs hs p q cs.length,j<hs.length:=λj z=>by rw[ζ];exact Gy z
 have Y:∀j∈fs hs p q cs.length,cs.getD j 0∈gb:=λj z=>by
  refine κ _ ?_;have:=Gy z;rw[hJ,fi this];exact vZ this
 unfold hQ;rw[qai];have t9:=qdB cs V;generalize g4:fs hs p q cs.length=mine at*;have f:=OQ (g_ cs mine) mine;obtain⟨s1,s2,s3⟩:=qbm t9 mine.length (kv (g_ cs mine) mine) (by rw[f.length_eq];exact a7 _) (f.nodup_iff.mpr V) (λx g y C=>f.mem_iff.mpr (Nd x (f.mem_iff.mp g) y C)) (qbM _ H);have u:∀x,x∈l7 (g_ cs mine) mine.length (kv (g_ cs mine) mine)↔x∈mine:=λx=>(s2 x).trans f.mem_iff;generalize E3:l7 (g_ cs mine) mine.length (kv (g_ cs mine) mine)=Z at*;have O:∀j∈Z,j<hs.length:=λj z=>A j ((u j).mp z);have N:∀a,a<Z.length->(eg p q 0 Z hs).getD (Z.getD a 0) 0=iq p q a:=λa v=>by
  have:=qag p q Z 0 hs s1 O a v;rwa [hr] at this
 have U:∀a,a<Z.length->sgn p (eg p q 0 Z hs) (Z.getD a 0)=q0 a:=λa v=>by
  unfold sgn q0;rw[N a v];unfold iq
  by_cases e:a%2=0
  ·rw[au e,au e,au rfl]
  ·rw[ar e,ar e,ar (gT g7)]
 have F:∀x∈mine,sgn p (eg p q 0 Z hs) x=1∨sgn p (eg p q 0 Z hs) x= -1:=λx _=>by unfold sgn;split<;>simp
 have E:∀e∈pz cs mine,sgn p (eg p q 0 Z hs) e.1+sgn p (eg p q 0 Z hs) e.2=0:=λe he=>by
  have g:=(Em he).1;obtain⟨i,ρ,n⟩:=yl ((u _).mpr g);obtain⟨j,z,nG,B⟩:=s3 i ρ e.2 (by rw[n];exact Nc.mpr (.inr he));rw[<-n,<-nG,U i ρ,U j z];exact Jv B
 have Q:∀r∈i_ cs mine,cy (sgn p (eg p q 0 Z hs)) r=cy (sgn p (eg p q 0 Z hs)) (eT r):=λr t=>Pa _ r λe he=>E e (vY.mpr ⟨r,t,he⟩);have W:∀r∈i_ cs mine,-1<=cy (sgn p (eg p q 0 Z hs)) r/\cy (sgn p (eg p q 0 Z hs)) r<=1:=λr t=>by
  rw[Q r t];exact qcp (NV r) λx g=>F x (BR t x (Ip g))
 have R:∀l∈gb,ey cs mine l∈i_ cs mine:=λl ζ=>Cx _ (Cx _ (bV.mpr ⟨l,ζ,rfl⟩));have T:∀P:Int->Bool,cy (sgn p (eg p q 0 Z hs)) (mine.filter λj=>P (cs.getD j 0))=cy (sgn p (eg p q 0 Z hs)) ((ei cs mine).filter λj=>P (cs.getD j 0)):=λP=>by
  rw[U' P _ Y,qcv _ _ P (L:=gb) .d mine Y]
  congr 1
  refine m5 λl ζ=>?_;rw[<-Q _ (R l ζ)];rfl
 refine⟨G2 p q Z 0 hs,?_,?_,?_⟩<;>rw[g4]
 ·exact λx g=>N2 p q Z 0 hs O x λh=>g ((u x).mp h)
 ·intro x g;obtain⟨i,ρ,n⟩:=yl ((u x).mpr g);rw[<-n,N i ρ];unfold iq;split
  ·exact .inl rfl
  ·exact .inr rfl
 ·intro P jh;rcases jh with⟨l,rfl⟩|⟨nm,I,rfl|rfl⟩|rfl
  ·by_cases h:l∈gb
   ·exact W _ (R l h)
   ·have:(mine.filter λj=>cs.getD j 0==l)=[]:=Ij.mpr λj z e=>h (by
     have aB:cs.getD j 0=l:=by simpa using e
     rw[<-aB];exact Y j z)
    simp only[this];exact(⟨by decide,by decide⟩: -1<=(0:Int)/\(0:Int)<=1)
  ·rw[T λc=>Int.fdiv c 4==nm];exact W _ (Cx _ (Cu _ (bV.mpr ⟨nm,I,rfl⟩)))
  ·rw[T λc=>Int.fmod c 4==nm];exact W _ (Cu _ (bV.mpr ⟨nm,I,rfl⟩))
  ·rw[y_.mpr λ_ _=>rfl,<-qcq _ ((Cm s1 V).mpr u)];have:=qcm _ Z 0 λa v=>by rw[hr];exact U a v
   rcases this with e|e<;>rw[e]<;>exact⟨by decide,by decide⟩
end Internal.e8
namespace Internal.e8.Cut
section
theorem OL{i:Nat}(ζ:l.length<=16777216):slice (.str (bI l)) none (some (i:Int))=some (.str (bI (l.take i))):=c5 rfl (aa (a:=bI l) rfl (wE (jO (by rw[qs];exact ζ)) (by rw[qbA])))
theorem qbB{i:Nat}(ζ:l.length<=16777216):slice (.str (bI l)) (some (i:Int)) none=some (.str (bI (l.drop i))):=c5 rfl (aa (a:=bI l) rfl (wE (jO (by rw[qs];exact ζ)) (by rw[qbC])))
end
noncomputable def k1(s:Int):Bool:=decide (s<=54)
def Tok(s:Int):Prop:=(7<=s/\s<=54)∨(261<=s/\s<=263)
noncomputable def Ch:List Int->Prop
 |[]=>True
 |[_]=>True
 |a::b::r=>¬(k1 a=true/\k1 b=true)/\Ch (b::r)
noncomputable def cps(s:String):List Nat:=(Str.ofString s).cps.toList
noncomputable def PD:List String:=["(",")","[","]",":",",",";","+","-","*","/","|","&","<",">","=",".","%","{","}","==","!=","<=",">=","~","^","<<",">>","**","+=","-=","*=","/=","%=","&=","|=","^=","<<=",">>=","**=","//","//=","@","@=","->","...",":=","!"]
def bC(s:Int):List Nat:=if s<256 then cps (PD.getD (s-7).toNat "") else[(s-159).toNat]
noncomputable def yS:List Int:=(List.range 48).map (λ(k:Nat)=>(k:Int)+7)++(List.range 3).map (λ(k:Nat)=>(k:Int)+261)
theorem vL(h:Tok s):s∈yS:=by
 unfold yS;rw[fk,bV,bV];rcases h with h|h
 ·refine ν (Int.le.dest h.1) λk e=>.inl ⟨k,ek.mpr ?_,(iI _ _).trans e⟩;have g:=h.2;rw[<-e] at g;exact qG (n7.mp (Int.le_of_add_le_add_left (b:=(k:Int)) (c:=47) g))
 ·refine ν (Int.le.dest h.1) λk e=>.inr ⟨k,ek.mpr ?_,(iI _ _).trans e⟩;have g:=h.2;rw[<-e] at g;exact qG (n7.mp (Int.le_of_add_le_add_left (b:=(k:Int)) (c:=2) g))
def jm(l:List Nat):Bool:=toks.any λp=>p.1==bI l
noncomputable def BC(c:Nat):Bool:= !(decide (97<=c)&&decide (c<=122))
theorem XW:toks.all (λp=>decide (p.1.cps.size<=1)||p.1.cps.toList.all BC)=true:=by decide+kernel
theorem XX(h:jm l=true)(ζ:2<=l.length):∀c∈l,BC c=true:=by
 unfold jm at h;obtain⟨p,y,e⟩:=qI.mp h;have z:=er.mp XW p y;have aB:=eq_of_beq e;rw[aB] at z;unfold bI at z;simp only[gp,Bool.or_eq_true,vU,er] at z;rcases z with z|z
 ·exact absurd z (n9.mpr ζ)
 ·exact z
def yR(s:Int):Bool:=decide (1<=(bC s).length)&&decide ((bC s).length<=3)&&(if k1 s then jm (bC s) else decide ((bC s).length=1)&&(bC s).all λc=> !BC c)
theorem Ca:yS.all yR=true:=by decide+kernel
def pick(l:List Nat):List Nat:=if jm (l.take 3) then l.take 3 else if jm (l.take 2) then l.take 2 else l.take 1
theorem YK n (h:n<=3) (ε:1<=n):n=1∨n=2∨n=3:=(by decide:∀n,n<4->1<=n->n=1∨n=2∨n=3) n (qG h) ε
theorem qaz(hs:Tok s)(V:∀x∈R,Tok x)(κ:Ch (s::R)):pick (bC s++(R.map bC).flatten)=bC s:=by
 have ε:=er.mp Ca s (vL hs);unfold yR at ε;simp only[pl,vU] at ε;obtain⟨⟨bU,T⟩,hm⟩:=ε;have v:∀{y:Int},Tok y->k1 y=false->∃c,bC y=[c]/\BC c=false:=by
  intro y g Q;have hf:=er.mp Ca y (vL g);unfold yR at hf;rw[Q] at hf;simp only[pl,vU,px,n_] at hf;obtain⟨_,q,z⟩:=hf;obtain⟨c,e⟩:=List.length_eq_one_iff.mp q;refine⟨c,e,?_⟩;rw[e] at z
  simpa using z
 have nonempty:∀{y:Int},Tok y->∃c t,bC y=c::t:=by
  intro y g;have hf:=er.mp Ca y (vL g);unfold yR at hf;simp only[pl,vU] at hf;cases h:bC y with
  |nil=>rw[h] at hf;simp at hf
  |cons c t=>exact⟨c,t,rfl⟩
 have long:∀i,(bC s).length<i->(bC s++(R.map bC).flatten).take i=bC s∨jm ((bC s++(R.map bC).flatten).take i)=false:=by
  intro i ρ;cases R with
  |nil=>left;simp only[List.map_nil,List.flatten_nil,nd];exact tM (dy ρ)
  |cons y R=>
   right;have g:=V y bH;refine ai (nonempty g) λc t f=>?_
   have e:(bC s++((y::R).map bC).flatten).take i=bC s++c::((t++(R.map bC).flatten).take (i-(bC s).length-1)):=by
    rw[bN,m9,f,List.take_append,tM (dy ρ)]
    congr 1
    rw[<-CG (vV ρ:1<=i-(bC s).length)];rfl
   cases Y:jm ((bC s++((y::R).map bC).flatten).take i) with
   |false=>rfl
   |true=>
    exfalso;rw[e] at Y;have a:=XX Y (by rw[eL];exact r9 bU (tS (eM _)))
    by_cases Z:k1 s=true
    ·have W:k1 y=false:=by
      cases p:k1 y with
      |false=>rfl
      |true=>exact(κ.1 ⟨Z,p⟩).elim
     obtain⟨n,aB,u⟩:=v g W;rw[aB] at f;cases f;rw[a c (by simp)] at u;exact dk u
    ·obtain⟨n,aB,u⟩:=v hs (by simpa using Z);rw[a n (by rw[aB];simp)] at u;exact dk u
 have j:(bC s++(R.map bC).flatten).take (bC s).length=bC s:=by simp
 have l:k1 s=true->jm (bC s)=true:=λh=>by rw[h] at hm;simpa using hm
 have one:k1 s=false->(bC s).length=1:=λh=>by obtain⟨c,e,_⟩:=v hs h;rw[e];rfl
 unfold pick;have U:=YK _ T bU;have r:(bC s).length≠1->k1 s=true:=λh=>by
  cases p:k1 s with
  |true=>rfl
  |false=>exact(h (one p)).elim
 rcases U with h|h|h
 ·rw[h] at j;rcases long 3 (by rw[h];decide) with z|z
  ·rcases long 2 (by rw[h];decide) with q|q
   ·rw[z,q,j];repeat' split
    all_goals first|rfl|contradiction
   ·rw[z,q,j]
    repeat' split
    all_goals first|rfl|contradiction
  ·rw[z];rcases long 2 (by rw[h];decide) with q|q
   ·rw[q,j];simp
   ·rw[q,j];simp
 ·rw[h] at j;have ω:=l (r (by rw[h];decide));rcases long 3 (by rw[h];decide) with z|z
  ·rw[z,au ω]
  ·rw[z,j,ω];simp
 ·rw[h] at j;have ω:=l (r (by rw[h];decide));rw[j,au ω]
noncomputable abbrev cJ:=gm "_law_cut"
noncomputable abbrev qB:List Str:=["symbols"]
def b0(i:Nat):Stmt:=d9 (kA (sB "_law_cut" 1)) i
def i4(l:List Nat)(dm:List D)(pc:Option aC):Γ:=[("text",ξ (.str (bI l))),("symbols",some (.own (.lst dm))),("piece",pc)]
theorem qdI:kA (sB "_law_cut" 1)=[b0 0,b0 1,b0 2]:=.k
def qA:Expr:=kx (aO (b0 0))
def yW:Kinds:=(bG qA).names
def Cd:Expr:=((bg qA).ifs).getD 0 aD
def uC1:Expr:=(uu Cd).getD 0 aD
def PF:Expr:=(uu Cd).getD 1 aD
section
variable(k:Nat)(l:List Nat)(dm:List D)(pc:Option aC)
def yV(i:Nat):Γ:=(fH yW (i4 l dm pc)).set "size" (.val (.int i))
theorem Ce(ζ:l.length<=16777216) i (ρ:i=3∨i=2∨i=1):b9 (S k) 53 yW Cd (yV l dm pc i)=some (i==1||jm (l.take i)):=by
 refine Dn (c1:=uC1) (c2:=PF) .k ?_ λγ=>e_ .k (Qe .k (x:=bI (l.take i)) (t:=toks) ?_ (by rcases ρ with rfl|rfl|rfl<;>kernel_rfl))
 ·rcases ρ with rfl|rfl|rfl<;>kernel_rfl
 ·have e:μ (S k) 48 yW (fE PF) (yV l dm pc i)=slice (.str (bI l)) none (some (i:Int)):=by rcases ρ with rfl|rfl|rfl<;>kernel_rfl
  rw[e,OL ζ]
theorem qdP(ζ:l.length<=16777216) i (ρ:i=3∨i=2∨i=1):μ (S k) 53 yW (cD qA) (yV l dm pc i)=some (.str (bI (l.take i))):=by
 have e:μ (S k) 53 yW (cD qA) (yV l dm pc i)=slice (.str (bI l)) none (some (i:Int)):=by rcases ρ with rfl|rfl|rfl<;>kernel_rfl
 rw[e,OL ζ]
def tF(l:List Nat):D->Bool|.int i=>(i.toNat==1||jm (l.take i.toNat))|_=>false
def yU(l:List Nat):D->List D|.int i=>[.str (bI (l.take i.toNat))]|_=>[]
theorem qdN(ζ:l.length<=16777216):μ (S k) 54 cJ qA (i4 l dm pc)=some (.lst ((([D.int 3,D.int 2,D.int 1]).filter (tF l)).flatMap (yU l))):=by
 refine fv (elt:=cD qA) (g:=bg qA) (gs:=[]) (sc:=bG qA) (items:=[D.int 3,D.int 2,D.int 1]) .k .k .k ?_ ?_
 ·rw[show(bg qA).ifs=[Cd] from .k];refine V8 (pr:=tF l) (g:=yU l) λd hd=>?_;have z:∃i:Nat,(i=3∨i=2∨i=1)/\d=.int (i:Int):=by
   simp only[cn,oc,sa] at hd;rcases hd with rfl|rfl|rfl
   ·exact⟨3,.inl rfl,rfl⟩
   ·exact⟨2,.inr (.inl rfl),rfl⟩
   ·exact⟨1,.inr (.inr rfl),rfl⟩
  obtain⟨i,ρ,rfl⟩:=z;refine⟨yV l dm pc i,?_,?_,λγ=>?_⟩
  ·rcases ρ with rfl|rfl|rfl<;>kernel_rfl
  ·exact l' (Ce k l dm pc ζ i ρ)
  ·exact hT (qdP k l dm pc ζ i ρ)
 ·have:((([D.int 3,D.int 2,D.int 1]).filter (tF l)).flatMap (yU l)).length<=3:=by
   simp only[mm,List.filter_nil]
   repeat' split
   all_goals simp [yU]
  lia
theorem qdR:∃r,(([D.int 3,D.int 2,D.int 1]).filter (tF l)).flatMap (yU l)=.str (bI (pick l))::r:=by
 unfold pick;have j:tF l (.int 3)=jm (l.take 3):=by show((3:Int).toNat==1||jm (l.take (3:Int).toNat))=_;rw[show(3:Int).toNat=3 from rfl];simp
 have z:tF l (.int 2)=jm (l.take 2):=by show((2:Int).toNat==1||jm (l.take (2:Int).toNat))=_;rw[show(2:Int).toNat=2 from rfl];simp
 have ag:tF l (.int 1)=true:=by show((1:Int).toNat==1||jm (l.take (1:Int).toNat))=_;rw[show(1:Int).toNat=1 from rfl];simp
 cases y:jm (l.take 3) with
 |true=>rw[y2 (by rw[j,y])];exact⟨_,rfl⟩
 |false=>
  rw[y3 (by rw[j,y];decide)];cases q:jm (l.take 2) with
  |true=>rw[y2 (by rw[z,q])];exact⟨_,rfl⟩
  |false=>
   rw[y3 (by rw[z,q];decide),y2 ag];exact⟨_,rfl⟩
theorem HL(ζ:l.length<=16777216):aK (S k) 56 qB cJ (b0 0) (i4 l dm pc)=some (i4 l dm (ξ (.str (bI (pick l)))),.next):=by
 obtain⟨r,z⟩:=qdR l;have e:μ (S k) 55 cJ (aO (b0 0)) (i4 l dm pc)=some (.str (bI (pick l))):=by
  refine dq (b:=.int 0) .k .k (by rw[rL .k];exact qdN k l dm pc ζ) .k ?_;rw[z];rfl
 rw[fB .k .k e]
 kernel_rfl
theorem qdQ:∀s∈yS,μ (S k) 54 cJ (aO (b0 1)) (i4 l dm (ξ (.str (bI (bC s)))))=some (.int s):=by
 refine r2.mp ?_
 kernel_rfl
theorem HM s (hs:Tok s) (ζ:dm.length<=16000000):aK (S k) 55 qB cJ (b0 1) (i4 l dm (ξ (.str (bI (bC s)))))=some (i4 l (dm++[.int s]) (ξ (.str (bI (bC s)))),.next):=by
 rw[Jg (l:=dm) .k .k (qdQ k l dm s (vL hs)) (by unfold dE;rw[zv];lia)]
 kernel_rfl
theorem qdO:∀s∈yS,μ (S k) 53 cJ (aO (b0 2)) (i4 l dm (ξ (.str (bI (bC s)))))=slice (.str (bI l)) (some ((bC s).length:Int)) none:=by
 refine r2.mp ?_
 kernel_rfl
theorem HN s (hs:Tok s) (ζ:l.length<=16777216):aK (S k) 54 qB cJ (b0 2) (i4 l dm (ξ (.str (bI (bC s)))))=some (i4 (l.drop (bC s).length) dm (ξ (.str (bI (bC s)))),.next):=by
 rw[fB .k .k ((qdO k l dm s (vL hs)).trans (qbB ζ))]
 kernel_rfl
end
theorem He(hs:Tok s):1<=(bC s).length/\(bC s).length<=3:=by
 have hf:=er.mp Ca s (vL hs);unfold yR at hf;simp only[pl,vU] at hf;exact hf.1
theorem qdS k s R dm pc (hs:Tok s) (j:∀x∈R,Tok x) (κ:Ch (s::R)) (ζ:(bC s++(R.map bC).flatten).length<=16777216) (y:dm.length<=16000000):
 bw (S k) 57 qB cJ (kA (sB "_law_cut" 1)) (i4 (bC s++(R.map bC).flatten) dm pc)=some (i4 ((R.map bC).flatten) (dm++[.int s]) (ξ (.str (bI (bC s)))),.next):=by
 have z:=HL k (bC s++(R.map bC).flatten) dm pc ζ;rw[qaz hs j κ] at z;rw[qdI,bj z,bj (HM k _ _ s hs y),bj (HN k _ _ s hs ζ),eG,List.drop_left]
theorem PG k l dm pc:b9 (S k) 57 cJ (pk (sB "_law_cut" 1)) (i4 l dm pc)=some (!(bI l=="")):=.k
theorem qbj(h:l≠[]):(bI l=="")=false:=by
 rw[gU];intro e;have:bI l=bI []:=e;exact h (qbi this)
theorem qaR{q:List Int}:(∀x∈q,Tok x)->((q.map bC).flatten).length<=q.length*3:=by
 induction q with
 |nil=>exact λ_=>a7 _
 |cons z q j=>
   intro y;rw[bN,m9,eL,dG,Nat.succ_mul,mf];exact r9 (j λx g=>y x (b3 _ g)) (He (y z bH)).2
theorem qaS{l:List Nat}(hs:Tok s)(e:bC s++l=[]):False:=
 absurd (He hs).1 (by rw[(List.append_eq_nil_iff.mp e).1];decide)
theorem qdT k R:∀dm pc N,R.length<N->(∀x∈R,Tok x)->Ch R->R.length+dm.length<=100000->
 ∃j,mc (λy=>b9 (S k) 57 cJ (pk (sB "_law_cut" 1)) y) (λy=>bw (S k) 57 qB cJ (kA (sB "_law_cut" 1)) y) N (i4 ((R.map bC).flatten) (dm.map D.int) pc)=some (i4 [] ((dm++R).map D.int) j,.next):=by
 induction R with
 |nil=>
  intro dm pc N h u v p;cases N with
  |zero=>exact nomatch h
  |succ N=>exact⟨pc,aa (PG k [] (dm.map D.int) pc) (by rw[nd];rfl)⟩
 |cons s R g=>
  intro dm pc N h ω κ z;cases N with
  |zero=>exact nomatch h
  |succ N=>
   have hs:=ω s bH;have ε:=aJ (qaR ω) (r0 3 (aJ (c8 _ _) z));rw[dG,Nat.succ_add] at z;refine ν (g (dm++[s]) (ξ (.str (bI (bC s)))) N (y4 h) (λx q=>ω x (b3 _ q)) (by cases R with|nil=>trivial|cons _ _=>exact κ.2) (by rw[eL];exact z)) λj e=>⟨j,?_⟩;rw[bN,m9] at ε⊢;rw[ml,kD] at e;exact(HV ((PG k _ _ pc).trans (by rw[qbj λe=>qaS hs e];rfl)) (qdS k s R _ pc hs (λx q=>ω x (b3 _ q)) κ (aJ ε .d) (by rw[bt];exact aJ (nc _ _) (aJ (zf z) .d)))).trans e
theorem SO k R (ω:∀x∈R,Tok x) (κ:Ch R) (v:R.length<9000):fn (k+1) "_law_cut" [.str (bI ((R.map bC).flatten))]=some (.lst ((R++[0]).map .int)):=by
 have q:fn (k+1) "_law_cut" [.str (bI ((R.map bC).flatten))]=((bw (S k) 60 qB cJ [sB "_law_cut" 0,sB "_law_cut" 1,sB "_law_cut" 2] [("text",ξ (.str (bI ((R.map bC).flatten)))),("symbols",none),("piece",none)]).bind λr=>jX r.2):=.k;have ag:aK (S k) 59 qB cJ (sB "_law_cut" 0) [("text",ξ (.str (bI ((R.map bC).flatten)))),("symbols",none),("piece",none)]=some (i4 ((R.map bC).flatten) (([]:List Int).map D.int) none,.next):=.k;have y:∀σ,aK (S k) 58 qB cJ (sB "_law_cut" 1) σ=mc (λz=>b9 (S k) 57 cJ (pk (sB "_law_cut" 1)) z) (λz=>bw (S k) 57 qB cJ (kA (sB "_law_cut" 1)) z) 10000 σ:=λσ=>by kernel_rfl
 obtain⟨u,j⟩:=qdT k R [] none 10000 .l ω κ (by simp;lia);have g:μ (S k) 56 cJ (aO (sB "_law_cut" 2)) (i4 [] (([]++R).map D.int) u).freeze=some (.lst ((R++[0]).map .int)):=by
  refine dp (a:=.lst (R.map D.int)) (b:=.lst [.int 0]) (op:=.Add) .k .k .k ?_;rw[z2 (by simp;lia)];simp
 rw[q,bj ag,bj ((y _).trans j),mH (wG .k g)];rfl
end Internal.e8.Cut
namespace Internal.e8
theorem lj:∀{r},(∀k∈r,s k=t k)->cy s r=cy t r:=by
 intro y
 induction y with
 |nil=>
  intro γ;exact rfl
 |cons a r z=>
  intro h;rw[fh,fh,h a bH,z λk j=>h k (b3 _ j)]
theorem pg s t:∀r,cy (λk=>s k+t k) r=cy s r+cy t r:=by
 intro y
 induction y with
 |nil=>
  exact rfl
 |cons a r z=>
  rw[fh,fh,fh,z,j4,j4,zh (t a)]
theorem qcr s t:∀r,cy (λk=>s k-t k) r=cy s r-cy t r:=by
 intro y
 induction y with
 |nil=>
  exact rfl
 |cons a r z=>
  rw[fh,fh,fh,z,zb,zb,zb,Int.neg_add,j4,j4,zh (-t a)]
theorem B5 s c:∀r,cy (λk=>s k*c) r=cy s r*c:=by
 intro y
 induction y with
 |nil=>
  exact(Int.zero_mul c).symm
 |cons a r z=>
  rw[fh,fh,z,Int.add_mul]
theorem Hv s P:∀r,cy s (r.filter P)=cy (λk=>if P k then s k else 0) r:=by
 intro y
 induction y with
 |nil=>
  exact rfl
 |cons a r z=>
  rw[mm,fh]
  by_cases h:P a
  ·rw[au h,au h,fh,z]
  ·rw[ar h,ar h,z,mg]
theorem qco:∀{r},(∀k∈r,0<=s k/\s k<=b)->0<=cy s r/\cy s r<=r.length*b:=by
 intro y
 induction y with
 |nil=>
  intro γ;rw[show cy s []=0 from rfl];simp
 |cons a r z=>
  intro h;have i:=z λk q=>h k (b3 _ q);have j:=h a bH;rw[fh,dG];exact⟨zo j.1 i.1,by rw[Int.natCast_add,Int.add_mul,Int.natCast_one,Int.one_mul,iI (_*b)];exact tW j.2 i.2⟩
def inc(c h:Nat->Int)(l g:Int)(k:Nat):Int:=if l∈cG (c k) then(if h k=g then 1 else 0) else 0
def cnt(c h:Nat->Int)(n:Nat)(l g:Int):Int:=cy (inc c h l g) (List.range n)
theorem XY c h l g k:0<=inc c h l g k/\inc c h l g k<=1:=by
 unfold inc;split
 ·split<;>decide
 ·decide
theorem J' c h n l g:0<=cnt c h n l g/\cnt c h n l g<=n:=by
 have:=qco (s:=inc c h l g) (b:=1) (r:=List.range n) λk _=>XY c h l g k;rwa [hZ,Int.mul_one] at this
noncomputable def vJ(l:Int):Int->Bool:=if l=15 then λ_=>true else if l%4=3 then λc=>Int.fdiv c 4==Int.fdiv l 4 else if 12<=l then λc=>Int.fmod c 4==l-12 else λc=>c==l
theorem qcZ:∀l∈kl,Test (vJ l):=by
 intro l ζ;simp only[kl,cn,oc,sa] at ζ
 rcases ζ with rfl|rfl|rfl|rfl|rfl|rfl|rfl|rfl|rfl|rfl|rfl|rfl|rfl|rfl|rfl|rfl<;>
  first
  |exact .inl ⟨_,rfl⟩
  |exact .inr (.inl ⟨0,by decide,.inl rfl⟩)
  |exact .inr (.inl ⟨1,by decide,.inl rfl⟩)
  |exact .inr (.inl ⟨2,by decide,.inl rfl⟩)
  |exact .inr (.inl ⟨0,by decide,.inr rfl⟩)
  |exact .inr (.inl ⟨1,by decide,.inr rfl⟩)
  |exact .inr (.inl ⟨2,by decide,.inr rfl⟩)
  |exact .inr (.inr rfl)
theorem qcY(ζ:l∈kl)(κ:c∈eD):vJ l c=decide (l∈cG c):=by
 have:kl.all (λl=>eD.all λc=>vJ l c==decide (l∈cG c))=true:=by decide+kernel
 exact eq_of_beq (er.mp (er.mp this l ζ) c κ)
noncomputable def b4:List Int:=[0,1,2]
theorem qbT(hs:z+y=a+b)(ε: -1<=z-y)(j:z-y<=1):z*z+y*y<=a*a+b*b/\(2<=a-b->z*z+y*y<=a*a+b*b-2):=by
 obtain⟨t,rfl⟩:∃t,z=a-t:=⟨a-z,by lia⟩;obtain rfl:y=b+t:=.l;obtain⟨e,he⟩:∃e,a-b=2*t+e:=⟨a-b-2*t,by lia⟩;obtain rfl:a=b+2*t+e:=.l;have k:(b+2*t+e)*(b+2*t+e)+b*b-((b+2*t+e-t)*(b+2*t+e-t)+(b+t)*(b+t))=2*(t*(t+e)):=by grind
 have p0:0<=t*(t+e):=by
  rcases Int.lt_trichotomy t 0 with h|h|h
  ·exact Int.mul_nonneg_of_nonpos_of_nonpos .l .l
  ·subst h;simp
  ·exact Int.mul_nonneg .l .l
 refine⟨by lia,λh=>?_⟩;have:0<t*(t+e):=Int.mul_pos .l .l;lia
section
variable{cs hs H:List Int}{p q:Int}
noncomputable def ψ(l:List Int)(k:Nat):Int:=l.getD k 0
theorem j'(h:k<l.length):ψ l k∈l:=by
 show l.getD k 0∈l;rw[hJ,fi h];exact vZ h
theorem Bk(z:k<cs.length):k∈fs hs p q cs.length↔ψ hs k=p∨ψ hs k=q:=by
 unfold fs;rw[gr,ek];show(k<cs.length/\(p==ψ hs k||(q==ψ hs k||false))=true)↔_;simp only[Bool.or_eq_true,h5,C1,z,true_and];exact or_congr eq_comm eq_comm
variable(gW:wh cs hs H p q)(cX:∀c∈cs,c∈eD)(g7:p≠q)
include gW cX g7
theorem S1 l:cnt (ψ cs) (ψ H) cs.length l p+cnt (ψ cs) (ψ H) cs.length l q=cnt (ψ cs) (ψ hs) cs.length l p+cnt (ψ cs) (ψ hs) cs.length l q:=by
 unfold cnt;rw[<-pg,<-pg];refine lj λk y=>?_;have z:=ek.mp y;unfold inc
 by_cases ζ:l∈cG (ψ cs k)
 ·rw[au ζ,au ζ,au ζ,au ζ]
  by_cases m:k∈fs hs p q cs.length
  ·have a:ψ H k=p∨ψ H k=q:=gW.A9 k m;have b:=(Bk z).mp m;rcases a with a|a<;>rcases b with b|b<;>simp [a,b,g7,gT g7]
  ·have a:ψ H k=ψ hs k:=gW.out k m;rw[a]
 ·rw[ar ζ,ar ζ,ar ζ,ar ζ]
theorem S0 l (ε:r≠p) (y:r≠q):cnt (ψ cs) (ψ H) cs.length l r=cnt (ψ cs) (ψ hs) cs.length l r:=by
 unfold cnt;refine lj λk j=>?_;have z:=ek.mp j;unfold inc
 by_cases m:k∈fs hs p q cs.length
 ·have a:ψ H k=p∨ψ H k=q:=gW.A9 k m;have b:=(Bk z).mp m;rcases a with a|a<;>rcases b with b|b<;>simp [a,b,gT ε,gT y]
 ·have a:ψ H k=ψ hs k:=gW.out k m;rw[a]
theorem SV(ζ:l∈kl): -1<=cnt (ψ cs) (ψ H) cs.length l p-cnt (ψ cs) (ψ H) cs.length l q/\cnt (ψ cs) (ψ H) cs.length l p-cnt (ψ cs) (ψ H) cs.length l q<=1:=by
 have h:=gW.Uz (vJ l) (qcZ l ζ);unfold cnt;rw[<-qcr];have e:cy (λk=>inc (ψ cs) (ψ H) l p k-inc (ψ cs) (ψ H) l q k) (List.range cs.length)=cy (sgn p H) ((fs hs p q cs.length).filter λj=>vJ l (cs.getD j 0)):=by
  rw[Hv];rw[show fs hs p q cs.length=(List.range cs.length).filter λk=>decide (k∈fs hs p q cs.length) from ?_,Hv]
  ·refine lj λk z=>?_;have y:=ek.mp z;have ω:=qcY ζ (cX _ (j' y));rw[show vJ l (cs.getD k 0)=decide (l∈cG (ψ cs k)) from ω,show sgn p H k=if ψ H k=p then 1 else-1 from rfl];unfold inc
   by_cases m:k∈fs hs p q cs.length
   ·rw[au (cA m)];have a:ψ H k=p∨ψ H k=q:=gW.A9 k m;generalize ψ H k=x at*
    by_cases ζ:l∈cG (ψ cs k)
    ·rw[au ζ,au ζ,au (cA ζ)];rcases a with a|a
     ·rw[a,au rfl,ar g7,au rfl];rfl
     ·rw[a,au rfl,ar (gT g7),ar (gT g7)];rfl
    ·rw[ar ζ,ar ζ,ar (λh=>ζ (cU h))];rfl
   ·rw[ar (λh=>m (cU h))];have a:ψ H k=ψ hs k:=gW.out k m;have b:=λh=>m ((Bk y).mpr h);rw[a,ar λh=>b (.inl h),ar λh=>b (.inr h)];split<;>rfl
  ·have:∀k∈List.range cs.length,(p==hs.getD k 0||(q==hs.getD k 0||false))=decide (k∈fs hs p q cs.length):=λk z=>by
    have m:=Bk (hs:=hs) (p:=p) (q:=q) (ek.mp z);rw[Bool.eq_iff_iff,decide_eq_true_iff,m];show(p==ψ hs k||(q==ψ hs k||false))=true↔_;simp only[Bool.or_eq_true,h5,C1];exact or_congr eq_comm eq_comm
   exact List.filter_congr this
 rw[e];exact h
end
def lh(c h:Nat->Int)(n:Nat)(l:Int):Int:=cnt c h n l 0*cnt c h n l 0+cnt c h n l 1*cnt c h n l 1+cnt c h n l 2*cnt c h n l 2
def rS(c h:Nat->Int)(n:Nat):Int:=(kl.map (lh c h n)).sum
theorem ir(h:x∈b4):x=0∨x=1∨x=2:=by simpa [b4] using h
theorem qch(g7:p≠q)(y:p∈b4)(z:q∈b4):∃r,r≠p/\r≠q/\∀f:Int->Int,f 0+f 1+f 2=f p+f q+f r:=by
 rcases ir y with rfl|rfl|rfl<;>rcases ir z with rfl|rfl|rfl
 ·exact(g7 rfl).elim
 ·exact⟨2,by decide,by decide,λf=>rfl⟩
 ·exact⟨1,by decide,by decide,λf=>tQ ..⟩
 ·exact⟨2,by decide,by decide,λf=>bp (· +f 2) (iI ..)⟩
 ·exact(g7 rfl).elim
 ·exact⟨0,by decide,by decide,λf=>(j4 ..).trans (iI ..)⟩
 ·exact⟨1,by decide,by decide,λf=>(iI ..).trans (j4 ..).symm⟩
 ·exact⟨0,by decide,by decide,λf=>(bp (· +f 2) (iI ..)).trans ((iI ..).trans (j4 ..).symm)⟩
 ·exact(g7 rfl).elim
theorem Ke(gW:wh cs hs H p q)(cX:∀c∈cs,c∈eD)(g7:p≠q)(j:p∈b4)(z:q∈b4)(ζ:l∈kl):
 lh (ψ cs) (ψ H) cs.length l<=lh (ψ cs) (ψ hs) cs.length l/\(2<=cnt (ψ cs) (ψ hs) cs.length l p-cnt (ψ cs) (ψ hs) cs.length l q->lh (ψ cs) (ψ H) cs.length l<=lh (ψ cs) (ψ hs) cs.length l-2):=by
 have d:=SV gW cX g7 ζ;have k:=qbT (S1 gW cX g7 l) d.1 d.2;obtain⟨r,ε,y,e⟩:=qch g7 j z;have f:=λh=>e λg=>cnt (ψ cs) h cs.length l g*cnt (ψ cs) h cs.length l g;have o:=S0 gW cX g7 l ε y;rw[show lh (ψ cs) (ψ H) cs.length l=_ from f (ψ H),show lh (ψ cs) (ψ hs) cs.length l=_ from f (ψ hs),o];exact⟨Ir k.1 _,λh=>kF (Ir (k.2 h) _) (zr (tQ _ (-2) _))⟩
theorem qct{f g:Int->Int}:∀{L:List Int},(∀l∈L,f l<=g l)->(L.map f).sum<=(L.map g).sum:=by
 intro y
 induction y with
 |nil=>
  intro γ;exact Int.le_refl _
 |cons l L z=>
  intro h;have:=z λj q=>h j (b3 _ q);rw[bN,bN,f6,f6];exact tW (h l bH) this
theorem qcu{f g:Int->Int}{L:List Int}:(∀l∈L,f l<=g l)->x∈L->f x<=g x-2->(L.map f).sum<=(L.map g).sum-2:=by
 induction L with
 |nil=>exact λ_ z=>nomatch z
 |cons l L u=>
  intro h z q;rw[bN,bN,f6,f6];rcases cn.mp z with rfl|z
  ·have:=tW q (qct λj y=>h j (b3 _ y));rwa [zb,tQ] at this
  ·have:=tW (h l bH) (u (λj y=>h j (b3 _ y)) z q);rwa [zb,<-j4] at this
theorem SX(gW:wh cs hs H p q)(cX:∀c∈cs,c∈eD)(g7:p≠q)(y:p∈b4)(z:q∈b4)(ζ:l∈kl)(u:2<=cnt (ψ cs) (ψ hs) cs.length l p-cnt (ψ cs) (ψ hs) cs.length l q):
 rS (ψ cs) (ψ H) cs.length<=rS (ψ cs) (ψ hs) cs.length-2:=
 qcu (λj g=>(Ke gW cX g7 y z g).1) ζ ((Ke gW cX g7 y z ζ).2 u)
theorem SW(gW:wh cs hs H p q)(ζ:hs.length=cs.length)(cS:∀h∈hs,h∈b4)(u:p∈b4)(g:q∈b4):∀h∈H,h∈b4:=by
 intro h bq;obtain⟨j,z,e⟩:=y8 bq;have aB:H.getD j 0=h:=by rw[hJ,fi z];exact e
 have y:j<hs.length:=by rw[<-gW.len];exact z
 by_cases m:j∈fs hs p q cs.length
 ·rcases gW.A9 j m with a|a
  ·rw[<-aB,a];exact u
  ·rw[<-aB,a];exact g
 ·rw[<-aB,gW.out j m];exact cS _ (j' y)
noncomputable abbrev aA:=gm "law"
def aM(i:Nat):Stmt:=sB "law" i
def cc:List Str:=own "law"
structure ah where
 Ov:Option aC
 NT:Option aC
 place:Option aC
 number:Option aC
 whole:Option aC
 typed:Option aC
 k:Option aC
 drawn:Option aC
 signs:Option aC
 Jx:Option aC
 share:Option aC
 value:Option aC
 MR:Option aC
 fF:Option aC
 symbols:Option aC
 symbol:Option aC
 calls:Option aC
 Md:Option aC
 JV:Option aC
 call:Option aC
 line:Option aC
 PK:Option aC
 OU:Option aC
 once:Option aC
 more:Option aC
 shift:Option aC
 red:Option aC
 green:Option aC
 blue:Option aC
 table:Option aC
 mine:Option aC
 OF:Option aC
 Kr:Option aC
 rows:Option aC
noncomputable def ah.Φ(X:ah):Γ:=[(Str.ofString "script",X.Ov),(Str.ofString "numbers",X.NT),(Str.ofString "place",X.place),(Str.ofString "number",X.number),(Str.ofString "whole",X.whole),(Str.ofString "typed",X.typed),(Str.ofString "k",X.k),(Str.ofString "drawn",X.drawn),(Str.ofString "signs",X.signs),(Str.ofString "angle",X.Jx),(Str.ofString "share",X.share),(Str.ofString "value",X.value),(Str.ofString "lamps",X.MR),(Str.ofString "hue",X.fF),(Str.ofString "symbols",X.symbols),(Str.ofString "symbol",X.symbol),(Str.ofString "calls",X.calls),(Str.ofString "hues",X.Md),(Str.ofString "books",X.JV),(Str.ofString "call",X.call),(Str.ofString "line",X.line),(Str.ofString "uneven",X.PK),(Str.ofString "squares",X.OU),(Str.ofString "once",X.once),(Str.ofString "more",X.more),(Str.ofString "shift",X.shift),(Str.ofString "red",X.red),(Str.ofString "green",X.green),(Str.ofString "blue",X.blue),(Str.ofString "table",X.table),(Str.ofString "mine",X.mine),(Str.ofString "shares",X.OF),(Str.ofString "due",X.Kr),(Str.ofString "rows",X.rows)]
noncomputable def ah.nil:ah:=⟨none,none,none,none,none,none,none,none,none,none,none,none,none,none,none,none,none,none,none,none,none,none,none,none,none,none,none,none,none,none,none,none,none,none⟩
noncomputable def ah.hX(X:ah)(v:Option aC):ah:={X with Ov:=v}
noncomputable def ah.fK(X:ah)(v:Option aC):ah:={X with NT:=v}
noncomputable def ah.hH(X:ah)(v:Option aC):ah:={X with place:=v}
noncomputable def ah.hi(X:ah)(v:Option aC):ah:={X with number:=v}
noncomputable def ah.hp(X:ah)(v:Option aC):ah:={X with whole:=v}
noncomputable def ah.js(X:ah)(v:Option aC):ah:={X with typed:=v}
noncomputable def ah.yc(X:ah)(v:Option aC):ah:={X with k:=v}
noncomputable def ah.gJ(X:ah)(v:Option aC):ah:={X with drawn:=v}
noncomputable def ah.iA(X:ah)(v:Option aC):ah:={X with signs:=v}
noncomputable def ah.j9(X:ah)(v:Option aC):ah:={X with Jx:=v}
noncomputable def ah.ku(X:ah)(v:Option aC):ah:={X with share:=v}
noncomputable def ah.ky(X:ah)(v:Option aC):ah:={X with value:=v}
noncomputable def ah.iv(X:ah)(v:Option aC):ah:={X with MR:=v}
noncomputable def ah.g8(X:ah)(v:Option aC):ah:={X with fF:=v}
noncomputable def ah.jY(X:ah)(v:Option aC):ah:={X with symbols:=v}
noncomputable def ah.nY(X:ah)(v:Option aC):ah:={X with symbol:=v}
noncomputable def ah.fC(X:ah)(v:Option aC):ah:={X with calls:=v}
noncomputable def ah.eI(X:ah)(v:Option aC):ah:={X with Md:=v}
noncomputable def ah.fY(X:ah)(v:Option aC):ah:={X with JV:=v}
noncomputable def ah.gZ(X:ah)(v:Option aC):ah:={X with call:=v}
noncomputable def ah.mQ(X:ah)(v:Option aC):ah:={X with line:=v}
noncomputable def ah.vN(X:ah)(v:Option aC):ah:={X with PK:=v}
noncomputable def ah.pd(X:ah)(v:Option aC):ah:={X with OU:=v}
noncomputable def ah.l4(X:ah)(v:Option aC):ah:={X with once:=v}
noncomputable def ah.k8(X:ah)(v:Option aC):ah:={X with more:=v}
noncomputable def ah.yJ(X:ah)(v:Option aC):ah:={X with shift:=v}
noncomputable def ah.qaP(X:ah)(v:Option aC):ah:={X with red:=v}
noncomputable def ah.V_(X:ah)(v:Option aC):ah:={X with green:=v}
noncomputable def ah.R5(X:ah)(v:Option aC):ah:={X with blue:=v}
noncomputable def ah.qcT(X:ah)(v:Option aC):ah:={X with table:=v}
noncomputable def ah.Zn(X:ah)(v:Option aC):ah:={X with mine:=v}
noncomputable def ah.l8(X:ah)(v:Option aC):ah:={X with OF:=v}
noncomputable def ah.Eh(X:ah)(v:Option aC):ah:={X with Kr:=v}
noncomputable def ah.rQ(X:ah)(v:Option aC):ah:={X with rows:=v}
theorem YI:lJ "law" =[aM 0,aM 1,aM 2,aM 3,aM 4,aM 5,aM 6,aM 7,aM 8,aM 9,aM 10,aM 11,aM 12,aM 13,aM 14,aM 15,aM 16,aM 17,aM 18,aM 19,aM 20,aM 21]:=.k
noncomputable abbrev bE(d:D):Option aC:=some (.own d)
theorem Vg(a b:Nat):Int.fmod (a:Int) (b:Int)=((a%b:Nat):Int):=by
 rw[t2 _ (m7 b)];rfl
theorem uH x b (z:0<b):∃i:Nat,i<b/\Int.fmod x (b:Int)=i:=by
 have ε:=Int.fmod_nonneg_of_pos x (show(0:Int)<(b:Int) by omega);have y:=Int.fmod_lt_of_pos x (show(0:Int)<(b:Int) by omega);exact⟨(Int.fmod x b).toNat,by omega,by omega⟩
theorem qaB{l:List Int}(h:i<l.length)(ζ:l.length<=1000000) v:putAt (.lst (l.map .int)) (.int (i:Nat)) (.int v)=some (.lst ((l.set i v).map .int)):=by
 refine aa (a:=((i:Nat):Int)) rfl (dI (aa (a:=l.map D.int) rfl (wE ?_ ?_)))
 ·rw[bt,qH];simp only[pl,vU];omega
 ·rw[qH,List.map_set]
section
variable(k:Nat)(X:ah)
theorem z_0:aK (S k) 59 cc aA (aM 0) (X.Φ)=some (ah.Φ (X.fK (bE (ak [3,30,7,56,13,33,59,30,19,14570]))),.next):=.k
abbrev H2:Stmt:=d9 (c_ (aM 1)) 0
theorem qfb(ζ:l.length=10)(p:Nat) v:∃y,y.length=10/\bw (S k) 57 cc aA (c_ (aM 1)) (ah.Φ (((X.fK (bE (ak l))).hH (ο p)).hi (ο v)))=some (ah.Φ (((X.fK (bE (ak y))).hH (ο p)).hi (ο v)),.next):=by
 have ρ:μ (S k) 55 aA (uh H2) (ah.Φ (((X.fK (bE (ak l))).hH (ο p)).hi (ο v)))=some (.int ((p%10:Nat):Int)):=by
  have e:μ (S k) 55 aA (uh H2) (ah.Φ (((X.fK (bE (ak l))).hH (ο p)).hi (ο v)))=some (.int (Int.fmod p 10)):=.k;rw[e,show(10:Int)=((10:Nat):Int) from rfl,Vg]
 have z:p%10<l.length:=.l;refine⟨l.set (p%10) (l.getD (p%10) 0+v),by rw[v7];exact ζ,?_⟩;rw[show c_ (aM 1)=[H2] from .k,bj (Jh (a:=l.getD (p%10) 0) (b:=v) (j:=.int (p%10:Nat)) (d:=ak l) .k .k ρ (jM z .l) .k (qaB z .l _)),eG]
 kernel_rfl
theorem qfa:∀(ns:List Int) (n:Nat) {l} (ζ:l.length=10) p q,∃z,z.length=10/\∃e u,ec aA (iU (aM 1)) (λy=>bw (S k) 57 cc aA (c_ (aM 1)) y) (kc n (ns.map .int)) (ah.Φ (((X.fK (bE (ak l))).hH p).hi q))=some (ah.Φ (((X.fK (bE (ak z))).hH e).hi u),.next):=by
 intro g
 induction g with
 |nil=>
  intro n l ζ p q;exact⟨l,ζ,p,q,rfl⟩
 |cons v ns j=>
  intro n l ζ p q;obtain⟨bU,t,ε⟩:=qfb k X ζ n v;obtain⟨bR,r,la,f,i⟩:=j (n+1) t (ο n) (ο v);refine⟨bR,r,la,f,?_⟩;rw[bN];unfold kc;rw[kU (σ1:=ah.Φ (((X.fK (bE (ak l))).hH (ο n)).hi (ο v))) .k ε];exact i
theorem z_1(g:ns.length<=63)(ζ:l.length=10):∃z,z.length=10/\∃j y,aK (S k) 58 cc aA (aM 1) (ah.Φ ((X.hX (ξ (ak ns))).fK (bE (ak l))))=some (ah.Φ ((((X.hX (ξ (ak ns))).fK (bE (ak z))).hH j).hi y),.next):=by
 obtain⟨z,q,j,y,h⟩:=qfa k (X.hX (ξ (ak ns))) (ns.take 60) 0 ζ X.place X.number;refine⟨z,q,j,y,?_⟩;have e:operand (μ (S k) 57) aA ((bk (aO (aM 1))).getD 0 aD) (noOwn (ah.Φ ((X.hX (ξ (ak ns))).fK (bE (ak l)))))=slice (ak ns) none (some 60):=.k;unfold ak at e;rw[OM .d .d (by simp;lia),show(60:Int).toNat=60 from rfl,<-List.map_take] at e;exact(mA (st:=aM 1) .k (zE .k .k e (by simp;lia)) .k).trans h
theorem z_2(ζ:l.length=10):aK (S k) 57 cc aA (aM 2) (ah.Φ (X.fK (bE (ak l))))=some (ah.Φ ((X.fK (bE (ak l))).hp (ο l.sum)),.next):=by
 have e:μ (S k) 56 aA (aO (aM 2)) (ah.Φ (X.fK (bE (ak l))))=some (.int l.sum):=Dd (l:=l.map .int) .k .k .k (by rw[bt];lia) (ry l);rw[fB .k .k e]
 kernel_rfl
def ho:D:=.lst (Cut.PD.map λs=>.str (bI (Cut.cps s)))
theorem z_3:aK (S k) 56 cc aA (aM 3) X.Φ=some (ah.Φ (X.js (ξ ho)),.next):=by
 have e:μ (S k) 55 aA (aO (aM 3)) X.Φ=some ho:=.k;rw[fB .k .k e]
 kernel_rfl
noncomputable abbrev mz:=Int×Int×Int
noncomputable def qz(t:mz):D:=.tup [.int t.1,.int t.2.1,.int t.2.2]
noncomputable def gy(dr:List mz):D:=.lst (dr.map qz)
def nr(t:mz):Prop:=t.1∈b4/\t.2.1∈b4/\t.2.2∈b4
noncomputable def kd(n:Nat):List Int->List (Nat×Int)
 |[]=>[]
 |a::l=>(n,a)::kd (n+1) l
noncomputable def Eo(p:Nat×Int):D:=.tup [.int (p.1:Nat),.int p.2]
theorem SH:∀l (n:Nat),kc n (l.map .int)=(kd n l).map Eo:=by
 intro y
 induction y with
 |nil=>
  intro γ;exact rfl
 |cons a l z=>
  intro n;rw[bN];unfold kc kd;rw[bN,show((n:Int)+1)=((n+1:Nat):Int) from rfl,z];rfl
theorem Er l:∀n,(kd n l).length=l.length:=by
 induction l with
 |nil=>exact λ_=>rfl
 |cons a l z=>exact λn=>bp (· +1) (z (n+1))
theorem TU:∀(a b:List Int) (n:Nat),kd n (a++b)=kd n a++kd (n+a.length) b:=by
 intro y
 induction y with
 |nil=>
  intro γ γ;exact rfl
 |cons x a z=>
  intro b n;exact bp ((n,x)::·) ((z b (n+1)).trans (by rw[lu];rfl))
theorem TV(l:List Int):∀(n:Nat) (p:Nat×Int),p∈kd n l->p.1<n+l.length:=by
 induction l with
 |nil=>exact λn p h=>nomatch h
 |cons a l z=>exact λn p h=>(cn.mp h).elim (λe=>e▸Nat.lt_add_of_pos_right (r_ _)) λh=>j2 (z (n+1) p h) (lu n 1 _)
noncomputable def sF(p:Nat×Int):Bool:=decide (p.1<5)|| !decide (Int.fmod (Int.fdiv p.2 27) 4=3)
noncomputable def Kp(p:Nat×Int):mz:=(Int.fmod p.2 3,Int.fmod (Int.fdiv p.2 3) 3,Int.fmod (Int.fdiv p.2 9) 3)
theorem EH x:Int.fmod x 3∈b4:=by
 obtain⟨i,ρ,e⟩:=uH x 3 .d;rw[show(3:Int)=((3:Nat):Int) from rfl,e];have:i=0∨i=1∨i=2:=.l;rcases this with rfl|rfl|rfl<;>decide
def mG:Expr:=aO (aM 4)
theorem z_4(ζ:l.length=10):∃dr,(∀t∈dr,nr t)/\5<=dr.length/\dr.length<=10/\aK (S k) 55 cc aA (aM 4) (ah.Φ (X.fK (bE (ak l))))=some (ah.Φ ((X.fK (bE (ak l))).gJ (ξ (gy dr))),.next):=by
 refine⟨((kd 0 l).filter sF).map Kp,?_,?_,?_,?_⟩
 ·intro t ω;obtain⟨p,_,rfl⟩:=bV.mp ω;exact⟨EH _,EH _,EH _⟩
 ·have z:(kd 0 (l.take 5)).filter sF=kd 0 (l.take 5):=y_.mpr λp y=>m6.mpr (.inl (cA (c7 (TV _ 0 p y) (aJ (gV (hr _)) (y7 5 l)))));rw[bt,<-List.take_append_drop 5 l,TU,IB,eL,z,Er,List.length_take,ζ];exact c8 5 _
 ·rw[bt];have:=gD sF (kd 0 l);rw[Er,ζ] at this;exact this
 ·have hit:dj (S k) (μ (S k) 53) aA (bg mG).iter (ah.Φ (X.fK (bE (ak l))))=some ((kd 0 l).map Eo):=by
   rw[<-SH];exact zE (x:=b1 (bg mG).iter) (l:=l.map .int) .k .k .k (by rw[bt];lia)
  have e:μ (S k) 54 aA mG (ah.Φ (X.fK (bE (ak l))))=some (gy (((kd 0 l).filter sF).map Kp)):=by
   refine fv (S:=S k) (n:=53) (K:=aA) (elt:=cD mG) (g:=bg mG) (gs:=[]) (sc:=bG mG) .k .k hit ?_ ?_
   ·rw[cP];refine mJ Eo sF _ λp _=>⟨[(Str.ofString ".0",none),(Str.ofString "k",ο (p.1:Nat)),(Str.ofString "number",ο p.2)],.k,?_,λ_=>by kernel_rfl⟩;rw[show(bg mG).ifs=[(bg mG).ifs.getD 0 aD] from .k];refine l' ?_;unfold sF;refine Dn (c1:=(uu ((bg mG).ifs.getD 0 aD)).getD 0 aD) (c2:=(uu ((bg mG).ifs.getD 0 aD)).getD 1 aD) .k ?_ λ_=>?_
    ·have:b9 (S k) 51 (bG mG).names ((uu ((bg mG).ifs.getD 0 aD)).getD 0 aD) [(Str.ofString ".0",none),(Str.ofString "k",ο (p.1:Nat)),(Str.ofString "number",ο p.2)]=some (decide ((p.1:Int)<5)):=.k;rw[this];exact bp some (zj.mpr ⟨λh=>by lia,λh=>by lia⟩)
    ·kernel_rfl
   ·rw[bt,bt];have:=gD sF (kd 0 l);rw[Er,ζ] at this;lia
  rw[fB .k .k e]
  kernel_rfl
def kQ:Expr:=aO (aM 5)
def s5:Expr:=cD kQ
def Ou:Expr:=eC (eu s5)
def Ot:Expr:=eu Ou
def BU:Expr:=eC Ot
def qb(W j:Int):Γ:=[(".0",none),("k",ο j),("whole",ο W)]
theorem qbg W j:∃w,μ (S k) 48 (bG kQ).names BU (qb W j)=some (.int w)/\w.natAbs<2^64/\∀z,μ (S k) 48 (bG kQ).names BU (qb W z)=some (.int w):=by
 obtain⟨m,hm,e⟩:=uH (Int.fdiv W 48) 4 .d;have h:∀z,μ (S k) 48 (bG kQ).names BU (qb W z)=index (.tup [.int 1,.int 5,.int 7,.int 11]) (.int (Int.fmod (Int.fdiv W 48) 4)):=λz=>by kernel_rfl
 rw[show(4:Int)=((4:Nat):Int) from rfl,e] at h;have c:m=0∨m=1∨m=2∨m=3:=.l;rcases c with rfl|rfl|rfl|rfl
 ·exact⟨1,(h j).trans rfl,by decide,λz=>(h z).trans rfl⟩
 ·exact⟨5,(h j).trans rfl,by decide,λz=>(h z).trans rfl⟩
 ·exact⟨7,(h j).trans rfl,by decide,λz=>(h z).trans rfl⟩
 ·exact⟨11,(h j).trans rfl,by decide,λz=>(h z).trans rfl⟩
theorem qbf(h:μ (S k) 48 (bG kQ).names BU (qb W j)=some (.int w))(hw:w.natAbs<2^64):μ (S k) 52 (bG kQ).names s5 (qb W j)=some (.int (7+Int.fmod (W+w*j) 48)):=by
 have ag:μ (S k) 49 (bG kQ).names Ot (qb W j)=some (.int (w*j)):=k9 .k (cq .k h) .k hw;have z:μ (S k) 50 (bG kQ).names Ou (qb W j)=some (.int (W+w*j)):=Internal.hP .k .k (cq .k ag);have y:μ (S k) 51 (bG kQ).names (eu s5) (qb W j)=some (.int (Int.fmod (W+w*j) 48)):=dp (op:=.Mod) (a:=.int (W+w*j)) (b:=.int 48) .k (cq .k z) .k (DN .d);exact Internal.hP .k .k (cq .k y)
theorem z_5 W:∃a b c,(∀s∈[a,b,c],7<=s/\s<=54)/\aK (S k) 54 cc aA (aM 5) (ah.Φ (X.hp (ο W)))=some (ah.Φ ((X.hp (ο W)).iA (ξ (ak [a,b,c]))),.next):=by
 obtain⟨w,_,hw,h⟩:=qbg k W 0;have z:∀x:Int,7<=7+Int.fmod x 48/\7+Int.fmod x 48<=54:=λx=>by
  have ε:=Int.fmod_nonneg_of_pos x (show(0:Int)<48 by decide);have y:=Int.fmod_lt_of_pos x (show(0:Int)<48 by decide);lia
 refine⟨7+Int.fmod (W+w*0) 48,7+Int.fmod (W+w*1) 48,7+Int.fmod (W+w*2) 48,?_,?_⟩
 ·intro s hs;simp only[cn,oc,sa] at hs;rcases hs with rfl|rfl|rfl<;>exact z _
 ·have e:μ (S k) 53 aA kQ (ah.Φ (X.hp (ο W)))=some (ak [7+Int.fmod (W+w*0) 48,7+Int.fmod (W+w*1) 48,7+Int.fmod (W+w*2) 48]):=by
   refine fv (S:=S k) (n:=52) (K:=aA) (items:=([0,1,2]:List Int).map .int) (elt:=cD kQ) (g:=bg kQ) (gs:=[]) (sc:=bG kQ) .k .k .k ?_ (e5 rfl);rw[show(bg kQ).ifs=[] from .k];exact g0 (l:=([0,1,2]:List Int)) D.int (λj=>D.int (7+Int.fmod (W+w*j) 48)) λj _=>⟨qb W j,.k,hT (qbf k (h j) hw)⟩
  rw[fB .k .k e]
  kernel_rfl
theorem z_6 W:∃t s v:Nat,t<16/\(1<=s/\s<=4)/\(1<=v/\v<=4)/\Int.fmod W 16=t/\aK (S k) 53 cc aA (aM 6) (ah.Φ (X.hp (ο W)))=some (ah.Φ ((((X.hp (ο W)).j9 (ο (t:Nat))).ku (ο (s:Nat))).ky (ο (v:Nat))),.next):=by
 have ag:μ (S k) 52 aA ((bD (aM 6)).getD 0 aD) (ah.Φ (X.hp (ο W)))=some (.int (Int.fmod W 16)):=.k;have y:μ (S k) 52 aA ((bD (aM 6)).getD 1 aD) (ah.Φ (X.hp (ο W)))=some (.int (1+Int.fmod (Int.fdiv W 384) 4)):=.k;have j:μ (S k) 52 aA ((bD (aM 6)).getD 2 aD) (ah.Φ (X.hp (ο W)))=some (.int (1+Int.fmod (Int.fdiv W 1536) 4)):=.k;obtain⟨b_,ε,g1⟩:=uH W 16 .d;obtain⟨b5,u,g2⟩:=uH (Int.fdiv W 384) 4 .d;obtain⟨z,g,g3⟩:=uH (Int.fdiv W 1536) 4 .d;rw[show(16:Int)=((16:Nat):Int) from rfl,g1] at ag;rw[show(4:Int)=((4:Nat):Int) from rfl] at y j;rw[g2,show 1+(b5:Int)=((1+b5:Nat):Int) by push_cast;rfl] at y;rw[g3,show 1+(z:Int)=((1+z:Nat):Int) by push_cast;rfl] at j;refine⟨b_,1+b5,1+z,ε,by lia,by lia,g1,?_⟩;have q:gf (S k) 52 cc aA (ah.Φ (X.hp (ο W))) (cF (aM 6)) (bD (aM 6))=some [(Str.ofString "angle",.val (.int (b_:Nat))),(Str.ofString "share",.val (.int (1+b5:Nat))),(Str.ofString "value",.val (.int (1+z:Nat)))]:=by
  have t1:cF (aM 6)=[(cF (aM 6)).getD 0 aD,(cF (aM 6)).getD 1 aD,(cF (aM 6)).getD 2 aD]:=.k;have bP:bD (aM 6)=[(bD (aM 6)).getD 0 aD,(bD (aM 6)).getD 1 aD,(bD (aM 6)).getD 2 aD]:=.k;rw[t1];rw[bP];exact hx .k .k ag (hx .k .k y (hx .k .k j pK))
 rw[qZ .k .k .k q .k]
 kernel_rfl
def lM:Expr:=aO (aM 7)
def z4:Expr:=cD lM
def oA(i:Nat):Expr:=(bk z4).getD i aD
def rx(W:Int)(t s v:Nat)(j:Int):Γ:=[(".0",none),("k",ο j),("angle",ο (t:Nat)),("share",ο (s:Nat)),("value",ο (v:Nat)),("whole",ο W)]
theorem z_7 W (ω:t<16) (ε:1<=s/\s<=4) (y:1<=v/\v<=4):aK (S (k+1)) 52 cc aA (aM 7) (ah.Φ ((((X.hp (ο W)).j9 (ο (t:Nat))).ku (ο (s:Nat))).ky (ο (v:Nat))))=some (ah.Φ (((((X.hp (ο W)).j9 (ο (t:Nat))).ku (ο (s:Nat))).ky (ο (v:Nat))).iv (ξ (.lst [nP t s v 0,nP t s v 1,nP t s v 2]))),.next):=by
 obtain⟨m,hm,g⟩:=uH (Int.fdiv W 6144) 3 .d;have e:μ (S (k+1)) 51 aA lM (ah.Φ ((((X.hp (ο W)).j9 (ο (t:Nat))).ku (ο (s:Nat))).ky (ο (v:Nat))))=some (.lst [nP t s v 0,nP t s v 1,nP t s v 2]):=by
  refine fv (S:=S (k+1)) (n:=50) (K:=aA) (items:=([0,1,2]:List Nat).map λj=>D.int ((j:Nat):Int)) (elt:=cD lM) (g:=bg lM) (gs:=[]) (sc:=bG lM) .k .k .k ?_ (e5 rfl);rw[show(bg lM).ifs=[] from .k];refine g0 (l:=([0,1,2]:List Nat)) (λj=>D.int ((j:Nat):Int)) (nP t s v) λj i=>⟨rx W t s v j,.k,hT ?_⟩;have r:j<3:=by simp at i;lia
  have em:μ (S (k+1)) 46 (bG lM).names (eC (eu (eC (oA 0)))) (rx W t s v j)=some (.int (Int.fmod (Int.fdiv W 6144) 3)):=.k;rw[show(3:Int)=((3:Nat):Int) from rfl,g] at em;have q:μ (S (k+1)) 47 (bG lM).names (eu (eC (oA 0))) (rx W t s v j)=some (.int ((m:Nat)*48)):=k9 .k (cq .k em) .k gA;have f:μ (S (k+1)) 47 (bG lM).names (eC (eC (oA 0))) (rx W t s v j)=some (.int ((t:Nat)+16*(j:Nat))):=.k;have z:μ (S (k+1)) 48 (bG lM).names (eC (oA 0)) (rx W t s v j)=some (.int ((t:Nat)+16*(j:Nat)+(m:Nat)*48)):=Internal.hP .k (cq .k f) (cq .k q);rw[show(t:Int)+16*(j:Nat)+(m:Nat)*48=((t+16*j+48*m:Nat):Int) by push_cast;lia] at z;have p:μ (S (k+1)) 49 (bG lM).names (oA 0) (rx W t s v j)=some (.υ (cj (t+16*j+48*m:Nat) 48)):=dp (op:=.Div) (a:=.int (t+16*j+48*m:Nat)) (b:=.int 48) .k (cq .k z) .k (q7 .d .l);have ag:μ (S (k+1)) 49 (bG lM).names (oA 1) (rx W t s v j)=some (.υ (cj s 4)):=dp (op:=.Div) (a:=.int s) (b:=.int 4) .k .k .k (q7 .d .l);have u:μ (S (k+1)) 49 (bG lM).names (oA 2) (rx W t s v j)=some (.υ (cj v 4)):=dp (op:=.Div) (a:=.int v) (b:=.int 4) .k .k .k (q7 .d .l);exact ht (x:="hsv_to_rgb") (es:=[oA 0,oA 1,oA 2]) .k .k .k (bW p (bW ag (bW u eE))) (YF k ω r hm ε.1 ε.2 y.1 y.2)
 rw[fB .k .k e]
 kernel_rfl
end
open Cut (bC Ch k1)
noncomputable def nX(sg:List Int)(h:Int):Int:=sg.getD h.toNat 0
def a'(sg:List Int)(t:mz):List Int:=[261+t.1,51,261+t.2.1,nX sg t.2.2]
def fO(sg:List Int)(dr:List mz):List Int:=dr.flatMap (a' sg)
def sh(sg:List Int):Prop:=∃a b c,sg=[a,b,c]/\∀s∈sg,7<=s/\s<=54
theorem BX(H:sh sg)(bq:h∈b4):7<=nX sg h/\nX sg h<=54:=by
 obtain⟨a,b,c,rfl,hs⟩:=H;rcases ir bq with rfl|rfl|rfl
 ·exact hs a (by simp)
 ·exact hs b (by simp)
 ·exact hs c (by simp)
theorem qa(h:x∈b4):0<=x/\x<=2:=by rcases ir h with rfl|rfl|rfl<;>decide
theorem qdj(H:sh sg)(hd:∀t∈dr,nr t):∀s∈fO sg dr,Cut.Tok s:=by
 intro s hs;obtain⟨t,ω,h⟩:=vY.mp hs;obtain⟨ε,y,z⟩:=hd t ω;have a:=qa ε;have b:=qa y;have c:=BX H z;simp only[a',cn,oc,sa] at h;unfold Cut.Tok;rcases h with rfl|rfl|rfl|rfl<;>omega
theorem ye(h:x∈b4):k1 (261+x)=false:=by
 have:=qa h;unfold k1;exact gE .l
theorem Pw:∀{dr},(∀t∈dr,nr t)->Ch (fO sg dr)
 |[],_=>trivial
 |[t],h=>by
  obtain⟨ε,z,j⟩:=h t bH;have a:=ye ε;have b:=ye z;show Ch [261+t.1,51,261+t.2.1,nX sg t.2.2];refine⟨λq=>?_,λq=>?_,λq=>?_,trivial⟩
  ·rw[a] at q;exact dk q.1.symm
  ·rw[b] at q;exact dk q.2.symm
  ·rw[b] at q;exact dk q.1.symm
 |t::u::dr,h=>by
  obtain⟨ε,z,j⟩:=h t bH;have a:=ye ε;have b:=ye z;have c:=ye (h u (by simp)).1;have y:=Pw (sg:=sg) (dr:=u::dr) λx g=>h x (b3 _ g);show Ch ([261+t.1,51,261+t.2.1,nX sg t.2.2]++fO sg (u::dr));have e:fO sg (u::dr)=(261+u.1)::([51,261+u.2.1,nX sg u.2.2]++fO sg dr):=rfl;rw[e] at y⊢;refine⟨λq=>?_,λq=>?_,λq=>?_,λq=>?_,y⟩
  ·rw[a] at q;exact dk q.1.symm
  ·rw[b] at q;exact dk q.2.symm
  ·rw[b] at q;exact dk q.1.symm
  ·rw[c] at q;exact dk q.2.symm
theorem HF sg:∀dr,(fO sg dr).length=4*dr.length:=by
 intro y
 induction y with
 |nil=>
  exact rfl
 |cons t dr z=>
  show([261+t.1,51,261+t.2.1,nX sg t.2.2]++fO sg dr).length=_;rw[eL,z,dG];simp;lia
theorem qbh a b:bI a++bI b=bI (a++b):=by
 show(⟨a.toArray++b.toArray⟩:Str)=⟨(a++b).toArray⟩;rw[CD]
section
variable(k:Nat)(X:ah)
def u1:Expr:=(bk (aO (aM 8))).getD 0 aD
def nN:Expr:=(bk u1).getD 0 aD
def Ba:Expr:=cD nN
def x2(sg:List Int)(t:mz):Γ:=[(".0",none),("caller",ο t.1),("callee",ο t.2.1),("hue",ο t.2.2),("signs",ξ (ak sg)),("typed",ξ ho)]
theorem qdG:∀s∈(List.range 48).map (λ(n:Nat)=>(n:Int)+7),index ho (.int (s-7))=some (.str (bI (bC s))):=by
 refine r2.mp ?_
 kernel_rfl
theorem qdH(h:7<=s/\s<=54):index ho (.int (s-7))=some (.str (bI (bC s))):=
 qdG s (bV.mpr ⟨(s-7).toNat,ek.mpr .l,by lia⟩)
theorem Ym(H:sh sg)(ω:nr t):μ (S k) 46 (bG nN).names (eu Ba) (x2 sg t)=some (.str (bI (bC (nX sg t.2.2)))):=by
 have hs:=BX H ω.2.2;obtain⟨a,b,c,rfl,_⟩:=H;obtain⟨t1,bP,t3⟩:=t;have h:μ (S k) 45 (bG nN).names (iB (eu Ba)) (x2 [a,b,c] (t1,bP,t3))=some (.int (nX [a,b,c] t3-7)):=by
  have z:=ω.2.2;rcases ir z with e|e|e<;>subst e<;>kernel_rfl
 exact dq (a:=ho) .k .k .k h (qdH hs)
theorem Yl sg (ω:nr t):μ (S k) 46 (bG nN).names (eC Ba) (x2 sg t)=some (.str (bI (bC (261+t.1)++(bC 51++bC (261+t.2.1))))):=by
 obtain⟨t1,bP,t3⟩:=t;obtain⟨ε,z,_⟩:=ω;rcases ir ε with e|e|e<;>rcases ir z with aB|aB|aB<;>subst e<;>subst aB<;>kernel_rfl
theorem rO(h:Cut.Tok s):(bC s).length<=3:=(Cut.He h).2
theorem Cc(h:7<=s/\s<=54):Cut.Tok s:=.inl h
theorem Cb(h:x∈b4):Cut.Tok (261+x):=.inr (by have:=qa h;lia)
theorem Yk(H:sh sg)(ω:nr t):μ (S k) 47 (bG nN).names Ba (x2 sg t)=some (.str (bI ((a' sg t).map bC).flatten)):=by
 refine dp (op:=.Add) .k (cq .k (Yl k sg ω)) (cq .k (Ym k H ω)) ?_;have a:=rO (Cb ω.1);have b:=rO (Cb ω.2.1);have c:=rO (Cc (BX H ω.2.2));have d:(bC 51).length<=3:=rO (Cc ⟨by decide,by decide⟩);show aS (dE ((bI (bC (261+t.1)++(bC 51++bC (261+t.2.1)))).length+(bI (bC (nX sg t.2.2))).length)) (some (D.str (bI (bC (261+t.1)++(bC 51++bC (261+t.2.1)))++bI (bC (nX sg t.2.2)))))=_;refine wE (jO ?_) ?_
 ·rw[qs,qs,eL,eL];lia
 ·rw[qbh];unfold a';rw[bN,bN,bN,bN,List.map_nil,m9,m9,m9,m9,List.flatten_nil,nd,ml,ml]
theorem Vd sg:∀dr,(dr.map λt=>((a' sg t).map bC).flatten).flatten=((fO sg dr).map bC).flatten:=by
 intro y
 induction y with
 |nil=>
  exact rfl
 |cons t dr z=>
  rw[bN,m9,z];show _=((a' sg t++fO sg dr).map bC).flatten;rw[kD,List.flatten_append]
theorem z_8(H:sh sg)(hd:∀t∈dr,nr t)(ζ:dr.length<=10):aK (S (k+1)) 51 cc aA (aM 8) (ah.Φ (((X.js (ξ ho)).gJ (ξ (gy dr))).iA (ξ (ak sg))))=some (ah.Φ ((((X.js (ξ ho)).gJ (ξ (gy dr))).iA (ξ (ak sg))).jY (ξ (ak (fO sg dr++[0])))),.next):=by
 have y:μ (S (k+1)) 48 aA nN (ah.Φ (((X.js (ξ ho)).gJ (ξ (gy dr))).iA (ξ (ak sg))))=some (.lst (dr.map λt=>.str (bI ((a' sg t).map bC).flatten))):=by
  refine fv (S:=S (k+1)) (n:=47) (K:=aA) (items:=dr.map qz) (elt:=cD nN) (g:=bg nN) (gs:=[]) (sc:=bG nN) .k .k .k ?_ f';rw[show(bg nN).ifs=[] from .k];exact g0 qz (λt=>D.str (bI ((a' sg t).map bC).flatten)) λt ω=>⟨x2 sg t,.k,hT (Yk (k+1) H (hd t ω))⟩
 have hlen:(fO sg dr).length<=40:=by rw[HF];lia
 have z:μ (S (k+1)) 49 aA u1 (ah.Φ (((X.js (ξ ho)).gJ (ξ (gy dr))).iA (ξ (ak sg))))=some (.str (bI (((fO sg dr).map bC).flatten))):=by
  have j:=Qg (S:=S (k+1)) (n:=48) (K:=aA) (σ:=ah.Φ (((X.js (ξ ho)).gJ (ξ (gy dr))).iA (ξ (ak sg)))) (e:=u1) (s:="") (o:=o5 u1) (p:=u' u1) (x:=nN) (xs:=dr.map λt=>bI ((a' sg t).map bC).flatten) .k .k .k (cq .k y) (qcd _ _) ?_
  ·rw[j,show(dr.map λt=>bI ((a' sg t).map bC).flatten)=(dr.map λt=>((a' sg t).map bC).flatten).map bI by rw[cP];rfl,show "" =bI [] from rfl,Yp,Vd]
  ·rw[show(dr.map λt=>bI ((a' sg t).map bC).flatten)=(dr.map λt=>((a' sg t).map bC).flatten).map bI by rw[cP];rfl,show "" =bI [] from rfl];refine Yo f' λx q=>?_;obtain⟨t,ω,rfl⟩:=bV.mp q;have T:=hd t ω;have a:=rO (Cb T.1);have b:=rO (Cb T.2.1);have c:=rO (Cc (BX H T.2.2));have d:(bC 51).length<=3:=rO (Cc ⟨by decide,by decide⟩);unfold a';rw[bN,bN,bN,bN,List.map_nil,m9,m9,m9,m9,List.flatten_nil,nd,eL,eL,eL];lia
 have e:μ (S (k+1)) 50 aA (aO (aM 8)) (ah.Φ (((X.js (ξ ho)).gJ (ξ (gy dr))).iA (ξ (ak sg))))=some (ak (fO sg dr++[0])):=
  ht (x:="_law_cut") (es:=[u1]) (ds:=[.str (bI (((fO sg dr).map bC).flatten))]) .k .k .k (bW z eE) (Cut.SO k (fO sg dr) (qdj H hd) (Pw hd) x5)
 rw[fB .k .k e]
 kernel_rfl
def qg:Expr:=eC (eZ (aO (aM 9)))
theorem z_9(H:sh sg)(hd:∀t∈dr,nr t)(ζ:dr.length<=10):aK (S k) 50 cc aA (aM 9) (ah.Φ (((X.gJ (ξ (gy dr))).iA (ξ (ak sg))).jY (ξ (ak (fO sg dr++[0])))))=some (ah.Φ (((X.gJ (ξ (gy dr))).iA (ξ (ak sg))).jY (ξ (ak (fO sg dr++[0])))),.next):=by
 have hlen:(fO sg dr).length<=40:=by rw[HF];lia
 have j:μ (S k) 46 aA qg (ah.Φ (((X.gJ (ξ (gy dr))).iA (ξ (ak sg))).jY (ξ (ak (fO sg dr++[0])))))=some (ak (fO sg dr)):=by
  refine fv (S:=S k) (n:=45) (K:=aA) (items:=dr.map qz) (elt:=cD qg) (g:=bg qg) (gs:=(sA qg).drop 1) (sc:=bG qg) .k .k .k ?_ f';rw[show(bg qg).ifs=[] from .k];unfold fO;rw[List.map_flatMap];refine EU qz (λt=>(a' sg t).map D.int) λt ω=>?_;refine⟨[(".0",none),("caller",ο t.1),("callee",ο t.2.1),("hue",ο t.2.2),("symbol",none),("signs",ξ (ak sg))],.k,?_⟩;rw[show(sA qg).drop 1=[(sA qg).getD 1 (bg qg)] from .k];obtain⟨a,b,c,rfl,_⟩:=H;obtain⟨t1,bP,t3⟩:=t;have z:=(hd _ ω).2.2;refine wE .k (aa (a:=(a' [a,b,c] (t1,bP,t3)).map .int) ?_ ?_)
  ·rcases ir z with e|e|e<;>subst e<;>kernel_rfl
  ·refine(g0 D.int D.int λx _=>⟨[(".0",none),("caller",ο t1),("callee",ο bP),("hue",ο t3),("symbol",ο x),("signs",ξ (ak [a,b,c]))],.k,hT .k⟩)
 have e:μ (S k) 47 aA (eZ (aO (aM 9))) (ah.Φ (((X.gJ (ξ (gy dr))).iA (ξ (ak sg))).jY (ξ (ak (fO sg dr++[0])))))=some (ak (fO sg dr++[0])):=by
  refine dp (op:=.Add) (a:=ak (fO sg dr)) (b:=.lst [.int 0]) .k (cq .k j) .k ?_;unfold ak;rw[z2 (by simp;lia)];simp
 have y:μ (S k) 48 aA (aO (aM 9)) (ah.Φ (((X.gJ (ξ (gy dr))).iA (ξ (ak sg))).jY (ξ (ak (fO sg dr++[0])))))=some (.bool false):=
  fl (op:=.NotEq) (a:=ak (fO sg dr++[0])) (b:=ak (fO sg dr++[0])) .k .k .k (cq .k e) (Dc _)
 rw[gG .k (e_ .k y)]
 kernel_rfl
end
end Internal.e8
namespace Internal
def J6(st:Stmt):Option (Str×List Expr):=(lE st).bind eY
theorem Ji{K:Kinds}{st:Stmt}(z:J6 st=some (f,a::es))(h0:(lE st).bind (λe=>alt ((jA e).bind λ_=>some ()) ((j_ e).bind λ_=>some ()))=none)
 (r:asName a=some x) (l:σ.gQ x=some (.own d)) (v:glob S K σ f=some g) (u:F5 g=true) (he:each (λe=>μ S n K e σ) es=some ds) (i:S.zx f d ds=some d'):aK S (n+1) own K st σ=some (σ.set x (.own d'),.next):=
 π z λe z ε=>eO ε λq=>Stmt.Expr.elim (motive_2:=λy=>lE y=some e->(lE y).bind (λe=>alt ((jA e).bind λ_=>some ()) ((j_ e).bind λ_=>some ()))=none->aK S (n+1) own K y σ=_) st q (λaB p ε h0=>by
  rw[<-ae ε] at z;have h0:alt ((jA aB).bind λ_=>some ()) ((j_ aB).bind λ_=>some ())=none:=h0;have j:jA aB=none:=by
   cases h:jA aB with
   |none=>rfl
   |some c=>rw[h] at h0;exact aQ h0.symm
  rw[j] at h0;have t:j_ aB=none:=by
   cases h:j_ aB with
   |none=>rfl
   |some c=>rw[h] at h0;exact aQ h0.symm
  exact c5 (by rw[j];rfl) (c5 (by rw[t];rfl) (dI (aa (f:=λc=>Ey S n K c.1 c.2 σ) z (aa (a:=(a,es)) rfl (aa r (aa (a:=d) (aa l rfl) (aa v (wE u (aa he (aa i rfl))))))))))) ε h0
theorem I0{K:Kinds}(he:eY e=some (("zip" :Str),[a,b]))(z:oP S K σ ("zip" :Str)=some "zip")(ε:μ S n K a σ=some (.lst l))(y:μ S n K b σ=some (.lst m)):dj S (μ S n) K e σ=some (pairD l m):=
 dI (aa he (aa z (c5 rfl (c5 rfl (wE rfl (aa (a:=(a,b)) rfl (aa ε (aa (a:=l) rfl (aa y (aa (a:=m) rfl rfl))))))))))
end Internal
namespace Internal.e8
noncomputable def tr(p:Int×Int):D:=.tup [.int p.1,.int p.2]
theorem N3(l:List Int):∀m:List Int,pairD (l.map .int) (m.map .int)=(l.zip m).map tr:=by
 induction l with
 |nil=>exact λm=>by cases m<;>rfl
 |cons a l z=>
  intro m;cases m with
  |nil=>rfl
  |cons b m=>exact bp (D.tup [.int a,.int b]::·) (z m)
section
variable(k:Nat)(X:ah)
abbrev Pd:Stmt:=d9 (fb (aM 10)) 0
abbrev pL:Expr:=aO Pd
theorem qeO x:bw (S (k+1)) 48 cc aA (fb (aM 10)) (ah.Φ (X.nY (ο x)))=some (ah.Φ (X.nY (ο x)),.next):=by
 generalize z:ah.Φ (X.nY (ο x))=σ;have t1:μ (S (k+1)) 43 aA ((bk (fE pL)).getD 0 aD) σ=some (.bool (decide (x<256)==decide (x<256))):=.j;have bP:μ (S (k+1)) 43 aA ((bk (fE pL)).getD 1 aD) σ=some (.bool (decide (256<=x)==decide (255<x))):=.j;have t3:μ (S (k+1)) 43 aA ((bk (fE pL)).getD 2 aD) σ=some (.bool ((x==0)==(x==0))):=.j;rw[hq] at t1 t3;rw[show(decide (256<=x)==decide (255<x))=true by rw[h5,zj];lia] at bP;have e:μ (S (k+1)) 45 aA pL σ=some (.bool false):=by
  refine fl (op:=.NotEq) (a:=.tup [.bool true,.bool true,.bool true]) (b:=.tup [.bool true,.bool true,.bool true]) .k ?_ .k .j rfl;show operand (μ (S (k+1)) 44) aA (fE pL) σ=_;rw[rL .k];refine ng .k ?_ .d;rw[show bk (fE pL)=[(bk (fE pL)).getD 0 aD,(bk (fE pL)).getD 1 aD,(bk (fE pL)).getD 2 aD] from .k];exact bW t1 (bW bP (bW t3 eE))
 rw[show fb (aM 10)=[Pd] from .k,bj ((gG .k (e_ .k e)).trans (by kernel_rfl:_=some (σ,cw.next))),eG]
theorem qeN:∀(l:List Int) z,∃y,ec aA (jf (aM 10)) (λj=>bw (S (k+1)) 48 cc aA (fb (aM 10)) j) (l.map .int) (ah.Φ (X.nY z))=some (ah.Φ (X.nY y),.next):=by
 intro g
 induction g with
 |nil=>
  intro z;exact⟨z,rfl⟩
 |cons x l q=>
  intro z;obtain⟨y,h⟩:=q (ο x);refine⟨y,?_⟩;rw[bN,kU (σ1:=ah.Φ (X.nY (ο x))) .k (qeO k X x),h]
theorem qeM(ζ:l.length<=1000):∃z,aK (S (k+1)) 49 cc aA (aM 10) (ah.Φ (X.jY (ξ (ak l))))=some (ah.Φ ((X.jY (ξ (ak l))).nY z),.next):=by
 obtain⟨z,h⟩:=qeN k (X.jY (ξ (ak l))) (l++[255,-1]) X.symbol;refine⟨z,?_⟩;have ρ:dj (S (k+1)) (μ (S (k+1)) 48) aA (aO (aM 10)) (noOwn (ed (ah.Φ (X.jY (ξ (ak l)))) (aO (aM 10))))=some ((l++[255,-1]).map .int):=by
  refine nh (d:=.lst ((l++[255,-1]).map .int)) .k ?_ rfl;rw[rL .k];refine dp (a:=ak l) (b:=.lst [.int 255,.int (-1)]) (op:=.Add) .k .k .k ?_;unfold ak;rw[z2 (by simp;lia)];simp
 exact(mA .k ρ .k).trans ((show ec aA (jf (aM 10)) (λy=>bw (S (k+1)) 48 cc aA (fb (aM 10)) y) ((l++[255,-1]).map .int) (ed (ah.Φ (X.jY (ξ (ak l)))) (aO (aM 10)))=ec aA (jf (aM 10)) (λy=>bw (S (k+1)) 48 cc aA (fb (aM 10)) y) ((l++[255,-1]).map .int) (ah.Φ (X.jY (ξ (ak l)))) by congr 1).trans h)
noncomputable def nA(dr:List mz):List Int:=dr.map λt=>4*t.1+t.2.1
noncomputable def p3(dr:List mz):List Int:=dr.map λt=>t.2.2
theorem Sg(hd:∀t∈dr,nr t):∀c∈nA dr,c∈eD:=by
 intro c κ;obtain⟨t,ω,rfl⟩:=bV.mp κ;obtain⟨ε,z,_⟩:=hd t ω;rcases ir ε with e|e|e<;>rcases ir z with aB|aB|aB<;>rw[e,aB]<;>decide
theorem Wj(hd:∀t∈dr,nr t):∀c∈p3 dr,c∈b4:=by
 intro c κ;obtain⟨t,ω,rfl⟩:=bV.mp κ;exact(hd t ω).2.2
def Ml(t:mz):Γ:=[(".0",none),("caller",ο t.1),("callee",ο t.2.1),("hue",ο t.2.2)]
theorem qeP(hd:∀t∈dr,nr t)(ζ:dr.length<=10):aK (S k) 48 cc aA (aM 11) (ah.Φ (X.gJ (ξ (gy dr))))=some (ah.Φ ((((X.gJ (ξ (gy dr))).fC (ξ (ak (nA dr)))).eI (ξ (ak (p3 dr)))).fY (bE (.aX []))),.next):=by
 have ag:μ (S k) 47 aA ((bD (aM 11)).getD 0 aD) (ah.Φ (X.gJ (ξ (gy dr))))=some (ak (nA dr)):=by
  refine fv (S:=S k) (n:=46) (K:=aA) (items:=dr.map qz) (elt:=cD ((bD (aM 11)).getD 0 aD)) (g:=bg ((bD (aM 11)).getD 0 aD)) (gs:=[]) (sc:=bG ((bD (aM 11)).getD 0 aD)) .k .k .k ?_ (by rw[bt];unfold nA;rw[bt];lia);rw[show(bg ((bD (aM 11)).getD 0 aD)).ifs=[] from .k];unfold nA;rw[cP];exact g0 qz (D.int∘λt:mz=>4*t.1+t.2.1) λt ω=>⟨Ml t,.k,hT .k⟩
 have z:μ (S k) 47 aA ((bD (aM 11)).getD 1 aD) (ah.Φ (X.gJ (ξ (gy dr))))=some (ak (p3 dr)):=by
  refine fv (S:=S k) (n:=46) (K:=aA) (items:=dr.map qz) (elt:=cD ((bD (aM 11)).getD 1 aD)) (g:=bg ((bD (aM 11)).getD 1 aD)) (gs:=[]) (sc:=bG ((bD (aM 11)).getD 1 aD)) .k .k .k ?_ (by rw[bt];unfold p3;rw[bt];lia);rw[show(bg ((bD (aM 11)).getD 1 aD)).ifs=[] from .k];unfold p3;rw[cP];exact g0 qz (D.int∘λt:mz=>t.2.2) λt ω=>⟨Ml t,.k,hT .k⟩
 have y:gf (S k) 47 cc aA (ah.Φ (X.gJ (ξ (gy dr)))) (cF (aM 11)) (bD (aM 11))=some [(Str.ofString "calls",.val (ak (nA dr))),(Str.ofString "hues",.val (ak (p3 dr))),(Str.ofString "books",.own (.aX []))]:=by
  have t1:cF (aM 11)=[(cF (aM 11)).getD 0 aD,(cF (aM 11)).getD 1 aD,(cF (aM 11)).getD 2 aD]:=.k;have bP:bD (aM 11)=[(bD (aM 11)).getD 0 aD,(bD (aM 11)).getD 1 aD,(bD (aM 11)).getD 2 aD]:=.k;rw[t1];rw[bP];exact hx .k .k ag (hx .k .k z (DI .k .k .k pK))
 rw[qZ .k .k .k y .k]
 kernel_rfl
end
end Internal.e8
namespace Internal.e8
open Internal.cw
def fz(t s v:Nat)(g:Int):lC:=λi=>if i<3 then ni t s v g.toNat i else if i=3 then 1 else if g=(i:Int)-4 then 1 else 0
def wj(t s v:Nat)(fL:List (Int×Int))(l:Int):lC:=λi=>(fL.map λp=>if l∈cG p.1 then fz t s v p.2 i else 0).sum
theorem YU:((List.range 16).all λt=>[1,2,3,4].all λs=>[1,2,3,4].all λv=>(List.range 3).all λh=>(List.range 3).all λi=>decide (rD t s v h i<=256))=true:=by decide+kernel
theorem QC(ω:t<16)(ε:1<=s/\s<=4)(z:1<=v/\v<=4)(bq:h<3)(ρ:i<3):(ni t s v h i).natAbs<=256:=
 cU (below (below (er.mp (er.mp (below YU ω) s (four ε.1 ε.2)) v (four z.1 z.2)) bq) ρ)
theorem sj(ω:t<16)(ε:1<=s/\s<=4)(y:1<=v/\v<=4)(z:g∈b4)(ρ:i<3):(fz t s v g i).natAbs<=256:=by
 have:=qa z;unfold fz;rw[au ρ];exact QC ω ε y (by omega) ρ
def hc(t s v:Nat):D:=.lst [nP t s v 0,nP t s v 1,nP t s v 2]
theorem zM t s v g j:fz t s v g (4+j)=if g=(j:Int) then 1 else 0:=by
 unfold fz;rw[ar (show¬4+j<3 by lia),ar (show¬4+j=3 by lia),show(((4+j:Nat):Int)-4)=j by lia]
def Nu(t s v:Nat)(g:Int):D:=ent (.υ (a6 (128*fz t s v g 0))) (.υ (a6 (128*fz t s v g 1))) (.υ (a6 (128*fz t s v g 2))) (.int (fz t s v g 3)) [(g,1)]
theorem Zq t s v (z:g∈b4):wu (Nu t s v g) (fz t s v g):=by
 refine⟨[(g,1)],rfl,by simp,λT c H=>?_⟩;have h:=qa z;have e:=fy.one H (j:=g.toNat) .l;rw[tN h.1] at e;refine e.congr λj y=>?_;show c j+(if j=g.toNat then 1 else 0)=c j+fz t s v g (4+j);rw[zM]
 congr 1
 exact FX h.1 1 0
theorem eN.len(H:eN Ξ E):Ξ.length<=16:=by
 have:=qk (m:=kl) H.nodup λl ζ=>by
  obtain⟨p,z,rfl⟩:=bV.mp ζ;exact(H.ent p z).1
 rwa [bt] at this
section
variable(k:Nat)(X:ah)(t s v:Nat)
abbrev yO:Stmt:=d9 (fb (aM 12)) 0
def q6(st:Stmt)(i:Nat):Expr:=(((J6 st).bind λc=>some c.2).getD []).getD i aD
theorem qeR(z:g∈b4) Ξ c:μ (S (k+3)) 44 aA (q6 yO 2) (ah.Φ ((((X.iv (ξ (hc t s v))).fY (bE (.aX Ξ))).gZ (ο c)).g8 (ο g)))=some (Nu t s v g):=by
 rcases ir z with rfl|rfl|rfl<;>kernel_rfl
theorem qeT(ω:t<16)(ε:1<=s/\s<=4)(q:1<=v/\v<=4)(κ:c∈eD)(y:g∈b4)(H:eN Ξ E)(j:∀l,og (2^20) (E l)):
 ∃z,eN z (λl i=>E l i+if l∈cG c then fz t s v g i else 0)/\zF Ξ z (cG c)/\bw (S (k+3)) 46 cc aA (fb (aM 12)) (ah.Φ ((((X.iv (ξ (hc t s v))).fY (bE (.aX Ξ))).gZ (ο c)).g8 (ο g)))=some (ah.Φ ((((X.iv (ξ (hc t s v))).fY (bE (.aX z))).gZ (ο c)).g8 (ο g)),.next):=by
 obtain⟨z,e,h,u⟩:=JU k κ (Zq t s v y) (λi ρ=>aJ (sj ω ε q y ρ) .d) H j (aJ H.len .d);refine⟨z,h,u,?_⟩;rw[show fb (aM 12)=[yO] from .k,bj (Ji (g:=.fn) (f:=Str.ofString "_law_book") (x:=Str.ofString "books") (a:=q6 yO 0) (es:=[q6 yO 1,q6 yO 2]) .k .k .k .k .k .k (bW .k (bW (qeR k X t s v y Ξ c) eE)) e),eG]
 kernel_rfl
theorem qeS(ω:t<16)(ε:1<=s/\s<=4)(n:1<=v/\v<=4):∀fL Ξ E ca y (b:Nat),(∀p∈fL,p.1∈eD/\p.2∈b4)->eN Ξ E->(∀l,og b (E l))->b+fL.length*256<=2^20->
 ∃j,eN j (λl i=>E l i+wj t s v fL l i)/\(∀l,l∈j.map (·.1)↔l∈Ξ.map (·.1)∨∃p∈fL,l∈cG p.1)/\∃u g,ec aA (jf (aM 12)) (λa=>bw (S (k+3)) 46 cc aA (fb (aM 12)) a) (fL.map tr) (ah.Φ ((((X.iv (ξ (hc t s v))).fY (bE (.aX Ξ))).gZ ca).g8 y))=some (ah.Φ ((((X.iv (ξ (hc t s v))).fY (bE (.aX j))).gZ u).g8 g),.next):=by
 intro fL
 induction fL with
 |nil=>exact λΞ E ca y b γ H γ γ=>⟨Ξ,H.congr λl i=>(h4 _).symm,λl=>by simp,ca,y,rfl⟩
 |cons p fL Z=>
  intro Ξ E ca y b x H r e;rw[dG,zt,wc,mf (_*_),<-qK] at e;obtain⟨κ,f⟩:=x p bH;obtain⟨T,H1,V,ag⟩:=qeT k X t s v ω ε n κ f H λl i ρ=>aJ (r l i ρ) (aJ (aJ (c8 ..) (c8 ..)) e);obtain⟨Q,U,W,u,g,Y⟩:=Z T _ (ο p.1) (ο p.2) (b+256) (λq z=>x q (b3 _ z)) H1 (λl i ρ=>DK (r l i ρ) (sj ω ε n f ρ)) e;refine⟨Q,U.congr λl i=>?_,λl=>?_,u,g,?_⟩
  ·unfold wj;rw[bN,f6,j4]
  ·rw[W l,V l];constructor
   ·rintro ((h|h)|⟨q,z,h⟩)
    ·exact .inl h
    ·exact .inr ⟨p,bH,h⟩
    ·exact .inr ⟨q,b3 _ z,h⟩
   ·rintro (h|⟨q,z,h⟩)
    ·exact .inl (.inl h)
    ·rcases cn.mp z with rfl|z
     ·exact .inl (.inr h)
     ·exact .inr ⟨q,z,h⟩
  ·rw[bN,kU (σ1:=ah.Φ ((((X.iv (ξ (hc t s v))).fY (bE (.aX Ξ))).gZ (ο p.1)).g8 (ο p.2))) .k ag];exact Y
theorem eN.nil:eN [] λ_ _=>0:=⟨pn,λp z=>(nomatch z),λ_ _ _=>rfl⟩
theorem qeQ(ω:t<16)(ε:1<=s/\s<=4)(r:1<=v/\v<=4)(ζ:hs.length=cs.length)(n:cs.length<=10)(cX:∀c∈cs,c∈eD)(cS:∀h∈hs,h∈b4):
 ∃Ξ,eN Ξ (wj t s v (cs.zip hs))/\(∀l,l∈Ξ.map (·.1)↔∃c∈cs,l∈cG c)/\∃ca q,aK (S (k+3)) 47 cc aA (aM 12) (ah.Φ ((((X.iv (ξ (hc t s v))).fC (ξ (ak cs))).eI (ξ (ak hs))).fY (bE (.aX []))))=some (ah.Φ ((((((X.iv (ξ (hc t s v))).fC (ξ (ak cs))).eI (ξ (ak hs))).fY (bE (.aX Ξ))).gZ ca).g8 q),.next):=by
 obtain⟨Ξ,H,x,ca,q,e⟩:=qeS k ((X.fC (ξ (ak cs))).eI (ξ (ak hs))) t s v ω ε r (cs.zip hs) [] (λ_ _=>0) X.call X.fF 0 (λp z=>⟨cX _ (v5 z).1,cS _ (v5 z).2⟩) eN.nil (λl i ρ=>by simp) (by rw[mq,ζ,pq,hr];exact aJ (r0 256 n) .d);refine⟨Ξ,H.congr λl i=>mg _,λl=>?_,ca,q,?_⟩
 ·rw[x l];constructor
  ·rintro (h|⟨p,z,h⟩)
   ·exact nomatch h
   ·exact⟨p.1,(v5 z).1,h⟩
  ·rintro ⟨c,κ,h⟩
   obtain⟨j,g,f⟩:=y8 κ;refine .inr ⟨(cs[j],hs[j]'(j2 g ζ.symm)),?_,by rw[f];exact h⟩;have u:j<(cs.zip hs).length:=by rw[mq,ζ,pq];exact g
   have:(cs.zip hs)[j]=(cs[j],hs[j]'(j2 g ζ.symm)):=List.getElem_zip;rw[<-this];exact vZ u
 ·have ρ:dj (S (k+3)) (μ (S (k+3)) 46) aA (aO (aM 12)) (noOwn (ed (ah.Φ ((((X.iv (ξ (hc t s v))).fC (ξ (ak cs))).eI (ξ (ak hs))).fY (bE (.aX [])))) (aO (aM 12))))=some ((cs.zip hs).map tr):=by
   rw[<-N3];exact I0 (a:=b1 (aO (aM 12))) (b:=(bk (aO (aM 12))).getD 1 aD) .k .k .k .k
  exact(mA .k ρ .k).trans ((show ec aA (jf (aM 12)) (λy=>bw (S (k+3)) 46 cc aA (fb (aM 12)) y) ((cs.zip hs).map tr) (ed (ah.Φ ((((X.iv (ξ (hc t s v))).fC (ξ (ak cs))).eI (ξ (ak hs))).fY (bE (.aX [])))) (aO (aM 12)))=ec aA (jf (aM 12)) (λy=>bw (S (k+3)) 46 cc aA (fb (aM 12)) y) ((cs.zip hs).map tr) (ah.Φ ((((((X.iv (ξ (hc t s v))).fC (ξ (ak cs))).eI (ξ (ak hs))).fY (bE (.aX []))).gZ X.call).g8 X.fF)) by congr 1).trans e)
end
def dc(t s v:Nat)(cs hs:List Int)(l:Int):lC:=λi=>cy (λk=>if l∈cG (ψ cs k) then fz t s v (ψ hs k) i else 0) (List.range cs.length)
theorem qcw{α:Type} F G:∀(l:List α) b,(∀k z,F l[k]=G (b+k))->(l.map F).sum=cy G ((List.range l.length).map (b+·)):=by
 intro j
 induction j with
 |nil=>
  intro γ γ;exact rfl
 |cons a l y=>
  intro b h;rw[bN,f6,dG,Cs,bN,fh,cP];have h0:=h 0 (by simp)
  rw[y (b+1) λk z=>by
   have:=h (k+1) (by simpa using z);rw[show b+(k+1)=b+1+k from lu b k 1] at this;exact this]
  rw[show F a=G (b+0) from h0,show((λx=>b+x)∘Nat.succ)=λx=>b+1+x from funext λx=>lu b x 1]
theorem uj h:ψ l k=l[k]:=by
 show l.getD k 0=_;rw[hJ,fi h];rfl
theorem Qp t s v (ζ:hs.length=cs.length) l i:wj t s v (cs.zip hs) l i=dc t s v cs hs l i:=by
 unfold wj dc;rw[qcw _ (λk=>if l∈cG (ψ cs k) then fz t s v (ψ hs k) i else 0) (cs.zip hs) 0 λk z=>by
  rw[mq] at z;rw[List.getElem_zip,hr,uj (c7 z (n4 ..)),uj (c7 z (CN ..))]]
 rw[mq,show min cs.length hs.length=cs.length by rw[ζ,pq],show((λx:Nat=>0+x))=id from funext λx=>hr x,List.map_id]
theorem wi t s v cs hs l g:dc t s v cs hs l (4+g)=cnt (ψ cs) (ψ hs) cs.length l g:=by
 unfold dc cnt;refine lj λk _=>?_;unfold inc;rw[zM]
theorem qcl:∀{r},(∀k∈r,(s k).natAbs<=b)->(cy s r).natAbs<=r.length*b:=by
 intro y
 induction y with
 |nil=>
  intro γ;simp [cy]
 |cons a r z=>
  intro h;have i:=z λk q=>h k (b3 _ q);have j:=h a bH;rw[fh,dG,zt,wc,mf];exact aJ (Int.natAbs_add_le ..) (r9 j i)
theorem IM(ω:t<16)(ε:1<=s/\s<=4)(y:1<=v/\v<=4)(ζ:hs.length=cs.length)(j:cs.length<=10)(cS:∀h∈hs,h∈b4) l (ρ:i<3):(dc t s v cs hs l i).natAbs<=2560:=by
 have:=qcl (s:=λk=>if l∈cG (ψ cs k) then fz t s v (ψ hs k) i else 0) (b:=256) (r:=List.range cs.length) λk q=>by
  have z:=ek.mp q;show(if l∈cG (ψ cs k) then fz t s v (ψ hs k) i else 0).natAbs<=256;split
  ·exact sj ω ε y (cS _ (j' (j2 z ζ.symm))) ρ
  ·simp
 rw[hZ] at this;exact aJ this (r0 256 j)
def qp(cs hs:List Int)(l:Int):List Int:=[cnt (ψ cs) (ψ hs) cs.length l 0,cnt (ψ cs) (ψ hs) cs.length l 1,cnt (ψ cs) (ψ hs) cs.length l 2]
def d_(cs hs:List Int)(Ξ:List (Int×D)):List (List Int):=Ξ.map λp=>qp cs hs p.1
noncomputable def xr:D->D
 |.tup [_,_,_,_,x]=>x
 |_=>.int 0
theorem qaW(H:fy T c):iz T=[c 0,c 1,c 2]:=by
 unfold iz;rw[<-H.2.2 0 .d,<-H.2.2 1 .d,<-H.2.2 2 .d];rfl
theorem Pm:∀{Ξ},(∀p∈Ξ,qP p.2 (dc t s v cs hs p.1))->∃z:List (List (Int×Int)),(Ξ.map λp=>xr p.2)=z.map tabI/\z.map iz=d_ cs hs Ξ:=by
 intro j
 induction j with
 |nil=>
  intro γ;exact⟨[],rfl,rfl⟩
 |cons p Ξ y=>
  intro h;obtain⟨z,ag,g⟩:=y λq f=>h q (b3 _ f);obtain⟨T,e,u⟩:=h p bH;refine⟨T::z,?_,?_⟩
  ·rw[bN,bN,ag,e];rfl
  ·rw[bN,g,qaW u];show[dc t s v cs hs p.1 (4+0),dc t s v cs hs p.1 (4+1),dc t s v cs hs p.1 (4+2)]::_=_;rw[wi,wi,wi];rfl
theorem ti{Ξ:List (Int×D)}{p}(h:(Ξ.map (·.1)).Nodup)(z:p∈Ξ):Ξ.lookup p.1=some p.2:=Internal.ti h p z
theorem Pp cs hs (z:cs.length<=10) l:wD (qp cs hs l):=by
 have b:=λg=>e6 (aJ (Zz (J' (ψ cs) (ψ hs) cs.length l g)) z) (by decide:10<2^60);exact⟨_,_,_,rfl,b 0,b 1,b 2⟩
section
variable(k:Nat)(X:ah)(t s v:Nat)
abbrev c6(i:Nat):Stmt:=d9 (kA (aM 14)) i
theorem qes(r:cs.length<=10)(H:eN Ξ (dc t s v cs hs)):aK (S (k+1)) 46 cc aA (aM 13) (ah.Φ (X.fY (bE (.aX Ξ))))=some (ah.Φ (((X.fY (bE (.aX Ξ))).vN (ξ (.lst (((d_ cs hs Ξ).filter ll).map dY)))).pd (ο (ft (d_ cs hs Ξ)))),.next):=by
 have l:Ξ.length<=16:=H.len;obtain⟨y,ag,j⟩:=Pm λp z=>(H.ent p z).2;have q:y.length=Ξ.length:=by have:=bp List.length ag;rw[bt,bt] at this;exact this.symm
 have u:μ (S (k+1)) 44 aA (b1 (aO (aM 13))) (ah.Φ (X.fY (bE (.aX Ξ))))=some (.lst (Ξ.map λp=>xr p.2)):=by
  refine fv (S:=S (k+1)) (n:=43) (K:=aA) (items:=Ξ.map λp=>D.int p.1) (elt:=cD (b1 (aO (aM 13)))) (g:=bg (b1 (aO (aM 13)))) (gs:=[]) (sc:=bG (b1 (aO (aM 13)))) .k .k (nh (d:=.aX Ξ) .k .k rfl) ?_ f';rw[show(bg (b1 (aO (aM 13)))).ifs=[] from .k];refine g0 (λp:Int×D=>D.int p.1) (λp:Int×D=>xr p.2) λp z=>⟨[(".0",none),("line",ο p.1),("books",some (.own (.aX Ξ)))],.k,hT ?_⟩;obtain⟨T,f,_⟩:=(H.ent p z).2;exact dq (a:=p.2) (b:=.int 4) .k .k (cq .k (dq (a:=.aX Ξ) (b:=.int p.1) .k .k .k .k (ti H.nodup z))) .k (by rw[f];rfl)
 have e:μ (S (k+1)) 45 aA (aO (aM 13)) (ah.Φ (X.fY (bE (.aX Ξ))))=some (.tup [.lst (((d_ cs hs Ξ).filter ll).map dY),.int (ft (d_ cs hs Ξ))]):=by
  rw[ag] at u;rw[<-j];exact ht (x:="_law_weigh") (es:=[b1 (aO (aM 13))]) (ds:=[.lst (y.map tabI)]) .k .k .k (bW u eE) (PS k y (by omega) λT q=>by
   have:iz T∈d_ cs hs Ξ:=by rw[<-j];exact bV.mpr ⟨T,q,rfl⟩
   obtain⟨p,_,e⟩:=bV.mp this;rw[<-e];exact Pp cs hs r p.1)
 exact Dr (t:=eR (sx (aM 13))) (e:=aO (aM 13)) .k e .k .k
theorem qet(r:cs.length<=10)(H:eN Ξ (dc t s v cs hs)):aK (S (k+1)) 40 cc aA (c6 3) (ah.Φ (X.fY (bE (.aX Ξ))))=some (ah.Φ (((X.fY (bE (.aX Ξ))).vN (ξ (.lst (((d_ cs hs Ξ).filter ll).map dY)))).pd (ο (ft (d_ cs hs Ξ)))),.next):=by
 have l:Ξ.length<=16:=H.len;obtain⟨y,ag,j⟩:=Pm λp z=>(H.ent p z).2;have q:y.length=Ξ.length:=by have:=bp List.length ag;rw[bt,bt] at this;exact this.symm
 have u:μ (S (k+1)) 38 aA (b1 (aO (c6 3))) (ah.Φ (X.fY (bE (.aX Ξ))))=some (.lst (Ξ.map λp=>xr p.2)):=by
  refine fv (S:=S (k+1)) (n:=37) (K:=aA) (items:=Ξ.map λp=>D.int p.1) (elt:=cD (b1 (aO (c6 3)))) (g:=bg (b1 (aO (c6 3)))) (gs:=[]) (sc:=bG (b1 (aO (c6 3)))) .k .k (nh (d:=.aX Ξ) .k .k rfl) ?_ f';rw[show(bg (b1 (aO (c6 3)))).ifs=[] from .k];refine g0 (λp:Int×D=>D.int p.1) (λp:Int×D=>xr p.2) λp z=>⟨[(".0",none),("line",ο p.1),("books",some (.own (.aX Ξ)))],.k,hT ?_⟩;obtain⟨T,f,_⟩:=(H.ent p z).2;exact dq (a:=p.2) (b:=.int 4) .k .k (cq .k (dq (a:=.aX Ξ) (b:=.int p.1) .k .k .k .k (ti H.nodup z))) .k (by rw[f];rfl)
 have e:μ (S (k+1)) 39 aA (aO (c6 3)) (ah.Φ (X.fY (bE (.aX Ξ))))=some (.tup [.lst (((d_ cs hs Ξ).filter ll).map dY),.int (ft (d_ cs hs Ξ))]):=by
  rw[ag] at u;rw[<-j];exact ht (x:="_law_weigh") (es:=[b1 (aO (c6 3))]) (ds:=[.lst (y.map tabI)]) .k .k .k (bW u eE) (PS k y (by omega) λT q=>by
   have:iz T∈d_ cs hs Ξ:=by rw[<-j];exact bV.mpr ⟨T,q,rfl⟩
   obtain⟨p,_,e⟩:=bV.mp this;rw[<-e];exact Pp cs hs r p.1)
 exact Dr (t:=eR (sx (c6 3))) (e:=aO (c6 3)) .k e .k .k
end
end Internal.e8
namespace Internal
section
variable{S:dH}{n:Nat}{K:Kinds}{σ:Γ}{e:Expr}{a d:D}
theorem Qj(he:eY e=some (Str.ofString "max",[b1 e]))(z:glob S K σ (Str.ofString "max")=some (.bi "max"))(h:operand (μ S n) K (b1 e) σ=some a)(y:uo "max" [a]=some d):μ S (n+1) K e σ=some d:=
 oK he (aa z (c5 rfl (c5 rfl (aa (a:=[a]) (aa h rfl) y))))
theorem Qk(he:eY e=some (Str.ofString "min",[b1 e]))(z:glob S K σ (Str.ofString "min")=some (.bi "min"))(h:operand (μ S n) K (b1 e) σ=some a)(y:uo "min" [a]=some d):μ S (n+1) K e σ=some d:=
 oK he (aa z (c5 rfl (c5 rfl (aa (a:=[a]) (aa h rfl) y))))
end
end Internal
namespace Internal.e8
theorem KW{a b c M:Int}(h:a=M∨b=M∨c=M):∃j,j<3/\jF M [a,b,c]=some j/\[a,b,c].getD j 0=M:=by
 unfold jF;cases h0:a==M with
 |true=>exact⟨0,by decide,rfl,eq_of_beq h0⟩
 |false=>
  unfold jF;cases ε:b==M with
  |true=>exact⟨1,by decide,rfl,eq_of_beq ε⟩
  |false=>
   have z:=(h.resolve_left (gU.mp h0)).resolve_left (gU.mp ε);unfold jF;rw[h5.mpr z];exact⟨2,by decide,rfl,z⟩
theorem Y6(a b c:Int):a=max (max a b) c∨b=max (max a b) c∨c=max (max a b) c:=by
 rcases Int.le_total (max a b) c with h|h
 ·exact .inr (.inr (CT h).symm)
 ·rw[Int.max_eq_left h];exact(Int.le_total a b).elim (λg=>.inr (.inl (CT g).symm)) λg=>.inl (Int.max_eq_left g).symm
theorem Zf(a b c:Int):a=min (min a b) c∨b=min (min a b) c∨c=min (min a b) c:=by
 rcases Int.le_total (min a b) c with h|h
 ·rw[CU h];exact(Int.le_total a b).elim (λg=>.inl (CU g).symm) λg=>.inr (.inl (CS g).symm)
 ·exact .inr (.inr (CS h).symm)
section
variable(k:Nat)(X:ah)
theorem w_0 hs z:aK (S k) 43 cc aA (c6 0) (ah.Φ ((X.eI (ξ hs)).pd (ο z)))=some (ah.Φ ((((X.eI (ξ hs)).pd (ο z)).l4 (ξ hs)).k8 (ο z)),.next):=by
 have y:gf (S k) 42 cc aA (ah.Φ ((X.eI (ξ hs)).pd (ο z))) (cF (c6 0)) (bD (c6 0))=some [(Str.ofString "once",.val hs),(Str.ofString "more",.val (.int z))]:=by
  have t1:cF (c6 0)=[(cF (c6 0)).getD 0 aD,(cF (c6 0)).getD 1 aD]:=.k;have bP:bD (c6 0)=[(bD (c6 0)).getD 0 aD,(bD (c6 0)).getD 1 aD]:=.k;rw[t1];rw[bP];exact hx .k .k .k (hx .k .k .k pK)
 rw[qZ .k .k .k y .k]
 kernel_rfl
def Cj:Expr:=aO (c6 1)
def Ck:Expr:=(bk Cj).getD 2 aD
def rW(i:Nat):Expr:=(bk Ck).getD i aD
theorem w_1(ζ:hs.length=cs.length)(g:cs.length<=10)(u:R.length<=1000)(ρ:jF (max (max a b) c) [a,b,c]=some i)(q:jF (min (min a b) c) [a,b,c]=some j):
 aK (S (k+1)) 42 cc aA (c6 1) (ah.Φ (((X.fC (ξ (ak cs))).l4 (ξ (ak hs))).vN (ξ (.lst (([a,b,c]::R).map dY)))))=some (ah.Φ ((((X.fC (ξ (ak cs))).l4 (ξ (ak hs))).vN (ξ (.lst (([a,b,c]::R).map dY)))).eI (ξ (ak (hQ cs hs i j)))),.next):=by
 generalize y:ah.Φ (((X.fC (ξ (ak cs))).l4 (ξ (ak hs))).vN (ξ (.lst (([a,b,c]::R).map dY))))=σ;have z:index (.lst (([a,b,c]::R).map dY)) (.int 0)=some (dY [a,b,c]):=FY .d rfl (by rw[bt,dG];lia);have o0:μ (S (k+1)) 38 aA (o5 (rW 0)) σ=some (dY [a,b,c]):=dq (a:=.lst (([a,b,c]::R).map dY)) (b:=.int 0) .k .k .j .k z;have tn:μ (S (k+1)) 38 aA (o5 (rW 1)) σ=some (dY [a,b,c]):=dq (a:=.lst (([a,b,c]::R).map dY)) (b:=.int 0) .k .k .j .k z
 have m0:μ (S (k+1)) 38 aA (b1 (rW 0)) σ=some (.int (max (max a b) c)):=by
  rw[<-xo];refine Qj (a:=dY [a,b,c]) .k .j (cq .k (dq (a:=.lst (([a,b,c]::R).map dY)) (b:=.int 0) .k .k .j .k z)) .k
 have g9:μ (S (k+1)) 38 aA (b1 (rW 1)) σ=some (.int (min (min a b) c)):=by
  rw[<-xn];refine Qk (a:=dY [a,b,c]) .k .j (cq .k (dq (a:=.lst (([a,b,c]::R).map dY)) (b:=.int 0) .k .k .j .k z)) .k
 have p0:μ (S (k+1)) 39 aA (rW 0) σ=some (.int (i:Nat)):=zA (l:=([a,b,c]:List Int).map .int) .k .k (cq .k o0) m0 (ry _) (by simp) ρ;have k_:μ (S (k+1)) 39 aA (rW 1) σ=some (.int (j:Nat)):=zA (l:=([a,b,c]:List Int).map .int) .k .k (cq .k tn) g9 (ry _) (by simp) q
 have pp:μ (S (k+1)) 40 aA Ck σ=some (.tup [.int (i:Nat),.int (j:Nat)]):=ng .k (by
  rw[show bk Ck=[rW 0,rW 1] from .k];exact bW p0 (bW k_ eE)) (e5 rfl)
 have e:μ (S (k+1)) 41 aA Cj σ=some (ak (hQ cs hs i j)):=
  ht (x:=Str.ofString "_law_again") (es:=[b1 Cj,(bk Cj).getD 1 aD,Ck]) (ds:=[ak cs,ak hs,.tup [.int (i:Nat),.int (j:Nat)]]) .k .j .k (bW .j (bW .j (bW pp eE))) (Ri k i j ζ g)
 generalize ak (hQ cs hs i j)=h' at*;rw[fB .k .k e];subst y
 kernel_rfl
end
end Internal.e8
namespace Internal.e8
open Internal.cw
def i8(t s v:Nat)(z g:Int):lC:=λi=>fz t s v z i-fz t s v g i
def GC(t s v:Nat)(z g:Int):D:=ent (.υ (a6 (128*i8 t s v z g 0))) (.υ (a6 (128*i8 t s v z g 1))) (.υ (a6 (128*i8 t s v z g 2))) (.int (i8 t s v z g 3)) [(z,1),(g,-1)]
def tA(t s v:Nat)(z g:Int):D:=.lst (([0,1,2]:List Nat).map λi=>.υ (a6 (128*i8 t s v z g i)))
theorem Zr t s v (u:z∈b4) (y:g∈b4):wu (GC t s v z g) (i8 t s v z g):=by
 refine⟨[(z,1),(g,-1)],rfl,by simp,λT c H=>?_⟩;have h':=qa u;have h:=qa y;have e:=fy.swap H (i:=z.toNat) (j:=g.toNat) .l .l;rw[tN h'.1,tN h.1] at e;refine e.congr λj p=>?_;show c j+(if j=z.toNat then 1 else 0)+(if j=g.toNat then-1 else 0)=c j+(fz t s v z (4+j)-fz t s v g (4+j));rw[zM,zM,FX h'.1,FX h.1,j4]
 by_cases q:g=(j:Int)
 ·rw[au q,au q];rfl
 ·rw[ar q,ar q];rfl
theorem Je(ω:t<16)(ε:1<=s/\s<=4)(z:1<=v/\v<=4)(q:j∈b4)(y:g∈b4)(ρ:i<3):(i8 t s v j g i).natAbs<=512:=by
 have a:=sj ω ε z q ρ;have b:=sj ω ε z y ρ;exact aJ (Int.natAbs_sub_le ..) (r9 a b)
theorem MS t s v (z:g∈b4) (ρ:i<3):(index (hc t s v) (.int g)).bind (λd=>index d (.int (i:Nat)))=some (.υ (a6 (128*fz t s v g i))):=by
 have h:=Bg ρ;rcases ir z with rfl|rfl|rfl<;>rcases h with rfl|rfl|rfl<;>rfl
theorem bind_some{α β:Type}{o:Option α}{f:α->Option β}{b:β}(h:o.bind f=some b):∃a,o=some a/\f a=some b:=by
 cases o with
 |none=>exact nomatch h
 |some a=>exact⟨a,rfl,h⟩
section
variable(k:Nat)(X:ah)(t s v:Nat)(cs hs H:List Int)
abbrev iV(Ξ:List (Int×D))(z eh:Option aC):ah:=(((((((X.fC (ξ (ak cs))).l4 (ξ (ak hs))).eI (ξ (ak H))).iv (ξ (hc t s v))).fY (bE (.aX Ξ))).yc z).yJ eh)
abbrev HU:Stmt:=d9 (fb (c6 2)) 0
abbrev yX:Stmt:=d9 (fb (c6 2)) 1
def b5(j:Nat)(i:Int):Γ:=[(".0",none),("part",ο i),("hues",ξ (ak H)),("k",ο (j:Nat)),("lamps",ξ (hc t s v)),("once",ξ (ak hs))]
def ma:Expr:=aO HU
def tI:Expr:=cD ma
theorem qeg(ω:t<16)(ε:1<=s/\s<=4)(q:1<=v/\v<=4)(n:j<hs.length)(p:j<H.length)(ζ:hs.length<=1000)(h:H.length<=1000)(z:ψ hs j∈b4)(y:ψ H j∈b4){i:Nat}(ρ:i<3):
 μ (S k) 37 (bG ma).names tI (b5 t s v hs H j i)=some (.υ (a6 (128*i8 t s v (ψ H j) (ψ hs j) i))):=by
 obtain⟨d',g,u⟩:=bind_some (MS t s v y ρ);obtain⟨d,a,b⟩:=bind_some (MS t s v z ρ);have bU:μ (S k) 34 (bG ma).names (iB (kx (eC tI))) (b5 t s v hs H j i)=some (.int (ψ H j)):=dq (a:=ak H) (b:=.int (j:Nat)) .k .k .k .k (jM p gA);have bR:μ (S k) 35 (bG ma).names (kx (eC tI)) (b5 t s v hs H j i)=some d':=dq (a:=hc t s v) .k .k .k bU g;have f:μ (S k) 36 (bG ma).names (eC tI) (b5 t s v hs H j i)=some (.υ (a6 (128*fz t s v (ψ H j) i))):=dq (b:=.int (i:Nat)) .k .k (cq .k bR) .k u;have l:μ (S k) 34 (bG ma).names (iB (kx (eu tI))) (b5 t s v hs H j i)=some (.int (ψ hs j)):=dq (a:=ak hs) (b:=.int (j:Nat)) .k .k .k .k (jM n gA);have e:μ (S k) 35 (bG ma).names (kx (eu tI)) (b5 t s v hs H j i)=some d:=dq (a:=hc t s v) .k .k .k l a;have r:μ (S k) 36 (bG ma).names (eu tI) (b5 t s v hs H j i)=some (.υ (a6 (128*fz t s v (ψ hs j) i))):=dq (b:=.int (i:Nat)) .k .k (cq .k e) .k b;have A:=sj ω ε q y ρ;have B:=sj ω ε q z ρ;refine dp (op:=.Sub) .k (cq .k f) (cq .k r) ?_;show some (D.υ (Float64.sub (a6 (128*fz t s v (ψ H j) i)) (a6 (128*fz t s v (ψ hs j) i))))=_;rw[K6 (um (aJ A .d)) (um (aJ B .d)),<-Int.mul_sub];rfl
theorem qei(ω:t<16)(ε:1<=s/\s<=4)(f:1<=v/\v<=4)(p:j<hs.length)(u:j<H.length)(ζ:hs.length<=1000)(y:H.length<=1000)(z:ψ hs j∈b4)(q:ψ H j∈b4) Ξ eh:
 aK (S k) 39 cc aA HU (iV X t s v cs hs H Ξ (ο (j:Nat)) eh).Φ=some ((iV X t s v cs hs H Ξ (ο (j:Nat)) (ξ (tA t s v (ψ H j) (ψ hs j)))).Φ,.next):=by
 have e:μ (S k) 38 aA ma (iV X t s v cs hs H Ξ (ο (j:Nat)) eh).Φ=some (tA t s v (ψ H j) (ψ hs j)):=by
  refine fv (S:=S k) (n:=37) (K:=aA) (items:=([0,1,2]:List Nat).map λi=>D.int ((i:Nat):Int)) (elt:=cD ma) (g:=bg ma) (gs:=[]) (sc:=bG ma) .k .k .k ?_ (e5 rfl);rw[show(bg ma).ifs=[] from .k];refine g0 (l:=([0,1,2]:List Nat)) (λi=>D.int ((i:Nat):Int)) (λi=>D.υ (a6 (128*i8 t s v (ψ H j) (ψ hs j) i))) λi ρ=>⟨b5 t s v hs H j i,.k,hT ?_⟩;exact qeg k t s v hs H ω ε f p u ζ y z q (by simp at ρ;lia)
 generalize tA t s v (ψ H j) (ψ hs j)=x at*;rw[fB .k .k e]
 kernel_rfl
def mZ:Expr:=q6 yX 2
def n1:Expr:=(bk mZ).getD 4 aD
theorem qef(h:j<hs.length)(n:j<H.length)(ζ:hs.length<=1000)(Z:H.length<=1000)(q:ψ hs j∈b4)(r:ψ H j∈b4)(e:ψ H j≠ψ hs j) Ξ:
 μ (S k) 37 aA mZ (iV X t s v cs hs H Ξ (ο (j:Nat)) (ξ (tA t s v (ψ H j) (ψ hs j)))).Φ=some (GC t s v (ψ H j) (ψ hs j)):=by
 generalize i:(iV X t s v cs hs H Ξ (ο (j:Nat)) (ξ (tA t s v (ψ H j) (ψ hs j)))).Φ=σ;have y:μ (S k) 35 aA (eR (((kM n1).getD ([],[])).1.getD 0 none)) σ=some (.int (ψ H j)):=dq (a:=ak H) (b:=.int (j:Nat)) .k .k .j .j (jM n gA);have z:μ (S k) 35 aA (eR (((kM n1).getD ([],[])).1.getD 1 none)) σ=some (.int (ψ hs j)):=dq (a:=ak hs) (b:=.int (j:Nat)) .k .k .j .j (jM h gA);have v1:μ (S k) 35 aA (((kM n1).getD ([],[])).2.getD 0 aD) σ=some (.int 1):=.k;have v2:μ (S k) 35 aA (((kM n1).getD ([],[])).2.getD 1 aD) σ=some (.int (-1)):=.k;have hd:kM n1=some ([some (eR (((kM n1).getD ([],[])).1.getD 0 none)),some (eR (((kM n1).getD ([],[])).1.getD 1 none))],[((kM n1).getD ([],[])).2.getD 0 aD,((kM n1).getD ([],[])).2.getD 1 aD]):=.k;have f:μ (S k) 36 aA ((bk mZ).getD 0 aD) σ=some (.υ (a6 (128*i8 t s v (ψ H j) (ψ hs j) 0))):=.j;have ag:μ (S k) 36 aA ((bk mZ).getD 1 aD) σ=some (.υ (a6 (128*i8 t s v (ψ H j) (ψ hs j) 1))):=.j;have u:μ (S k) 36 aA ((bk mZ).getD 2 aD) σ=some (.υ (a6 (128*i8 t s v (ψ H j) (ψ hs j) 2))):=.j;have p:μ (S k) 36 aA ((bk mZ).getD 3 aD) σ=some (.int 0):=.k
 have l:μ (S k) 36 aA n1 σ=some (tabI [(ψ H j,1),(ψ hs j,-1)]):=by
  refine(KJ hd).trans (wE rfl (aa (a:=[(ψ H j,D.int 1),(ψ hs j,D.int (-1))]) (aa rfl (aa (a:=(_,_)) rfl (aa y (aa (a:=ψ H j) rfl (aa v1 (aa (a:=[(ψ hs j,D.int (-1))]) (aa rfl (aa (a:=(_,_)) rfl (aa z (aa (a:=ψ hs j) rfl (aa v2 (aa (a:=[]) rfl rfl)))))) rfl)))))) ?_));clear i y z hd;generalize ψ H j=Y at*;generalize ψ hs j=g at*;rcases ir r with rfl|rfl|rfl<;>rcases ir q with rfl|rfl|rfl<;>first|rfl|exact(e rfl).elim
 have x:bk mZ=[(bk mZ).getD 0 aD,(bk mZ).getD 1 aD,(bk mZ).getD 2 aD,(bk mZ).getD 3 aD,n1]:=.k;refine ng .k ?_ (ds:=[_,_,_,_,_]) (e5 rfl);rw[x];exact bW f (bW ag (bW u (bW p (bW l eE))))
end
open Internal.cw
def chg(cs hs H:List Int):List Nat:=(List.range cs.length).filter λj=> !(ψ H j==ψ hs j)
section
variable(k:Nat)(X:ah)(t s v:Nat)(cs hs H:List Int)
theorem qej(ω:t<16)(ε:1<=s/\s<=4)(Z:1<=v/\v<=4)(n:j<hs.length)(r:j<H.length)(Y:j<cs.length)(ζ:hs.length<=1000)(p:H.length<=1000)(P:cs.length<=1000)(κ:ψ cs j∈eD)(q:ψ hs j∈b4)(u:ψ H j∈b4)(W:ψ H j≠ψ hs j)(B:eN Ξ E)(U:∀l,og (2^20) (E l)) eh:
 ∃z,eN z (λl i=>E l i+if l∈cG (ψ cs j) then i8 t s v (ψ H j) (ψ hs j) i else 0)/\zF Ξ z (cG (ψ cs j))/\∃T,bw (S (k+3)) 40 cc aA (fb (c6 2)) (iV X t s v cs hs H Ξ (ο (j:Nat)) eh).Φ=some ((iV X t s v cs hs H z (ο (j:Nat)) T).Φ,.next):=by
 obtain⟨z,e,h,R⟩:=JU k κ (Zr t s v u q) (λi ρ=>aJ (Je ω ε Z u q ρ) .d) B U (aJ B.len .d);have V:=qei (k+3) X t s v cs hs H ω ε Z n r ζ p q u Ξ eh;have ag:=qef (k+3) X t s v cs hs H n r ζ p q u W Ξ;refine⟨z,h,R,ξ (tA t s v (ψ H j) (ψ hs j)),?_⟩;generalize tA t s v (ψ H j) (ψ hs j)=x at*;generalize GC t s v (ψ H j) (ψ hs j)=y at*;have Q:μ (S (k+3)) 37 aA (q6 yX 1) (iV X t s v cs hs H Ξ (ο (j:Nat)) (ξ x)).Φ=some (.int (ψ cs j)):=dq (a:=ak cs) (b:=.int (j:Nat)) .k .k .k .k (jM Y gA);rw[show fb (c6 2)=[HU,yX] from .k,bj V,bj (Ji (g:=.fn) (f:="_law_book") (x:="books") (a:=q6 yX 0) (es:=[q6 yX 1,mZ]) .k .k .k .k .k .k (bW Q (bW ag eE)) e),eG]
 kernel_rfl
theorem qeh(ω:t<16)(ε:1<=s/\s<=4)(V:1<=v/\v<=4)(ζ:hs.length=cs.length)(p:H.length=cs.length)(e:cs.length<=1000)(cX:∀c∈cs,c∈eD)(cS:∀c∈hs,c∈b4)(I:∀c∈H,c∈b4):∀l Ξ E (b:Nat) g eh,(∀j∈l,j<cs.length/\ψ H j≠ψ hs j)->eN Ξ E->(∀x,og b (E x))->b+l.length*512<=2^20->
 ∃u,eN u (λx i=>E x i+cy (λj=>if x∈cG (ψ cs j) then i8 t s v (ψ H j) (ψ hs j) i else 0) l)/\(∀x,x∈u.map (·.1)↔x∈Ξ.map (·.1)∨∃j∈l,x∈cG (ψ cs j))/\∃r f,ec aA (jf (c6 2)) (λQ=>bw (S (k+3)) 40 cc aA (fb (c6 2)) Q) (l.map λj=>D.int ((j:Nat):Int)) (iV X t s v cs hs H Ξ g eh).Φ=some ((iV X t s v cs hs H u r f).Φ,.next):=by
 intro l
 induction l with
 |nil=>exact λΞ E b g eh γ B γ γ=>⟨Ξ,B.congr λl i=>(h4 _).symm,λl=>by simp,g,eh,rfl⟩
 |cons j l R=>
  intro Ξ E b g eh U B Y a;rw[dG,zt,wc,mf (_*_),<-qK] at a;obtain⟨y,O⟩:=U j bH;have κ:=cX _ (j' y);have Z:=cS _ (j' (j2 y ζ.symm));have W:=I _ (j' (j2 y p.symm));obtain⟨F,B1,L,n,ag⟩:=qej k X t s v cs hs H ω ε V (j2 y ζ.symm) (j2 y p.symm) y (aJ (gV ζ) e) (aJ (gV p) e) e κ Z W O B (λl i ρ=>aJ (Y l i ρ) (aJ (aJ (c8 ..) (c8 ..)) a)) eh;obtain⟨C,T,N,r,f,P⟩:=R F _ (b+512) (ο (j:Nat)) n (λq z=>U q (b3 _ z)) B1 (λl i ρ=>DK (Y l i ρ) (Je ω ε V W Z ρ)) a;refine⟨C,T.congr λl i=>?_,λl=>?_,r,f,?_⟩
  ·rw[fh,j4]
  ·rw[N l,L l];constructor
   ·rintro ((h|h)|⟨q,z,h⟩)
    ·exact .inl h
    ·exact .inr ⟨j,bH,h⟩
    ·exact .inr ⟨q,b3 _ z,h⟩
   ·rintro (h|⟨q,z,h⟩)
    ·exact .inl (.inl h)
    ·rcases cn.mp z with rfl|z
     ·exact .inl (.inr h)
     ·exact .inr ⟨q,z,h⟩
  ·rw[bN,kU (σ1:=(iV X t s v cs hs H Ξ (ο (j:Nat)) eh).Φ) .k ag];exact P
theorem Qa(ζ:hs.length=cs.length) x i:dc t s v cs hs x i+cy (λj=>if x∈cG (ψ cs j) then i8 t s v (ψ H j) (ψ hs j) i else 0) (chg cs hs H)=dc t s v cs H x i:=by
 unfold dc chg;rw[Hv,<-pg];refine lj λj _=>?_;show(if x∈cG (ψ cs j) then fz t s v (ψ hs j) i else 0)+(if(!(ψ H j==ψ hs j))=true then if x∈cG (ψ cs j) then i8 t s v (ψ H j) (ψ hs j) i else 0 else 0)=if x∈cG (ψ cs j) then fz t s v (ψ H j) i else 0
 by_cases h:x∈cG (ψ cs j)
 ·simp only[au h]
  by_cases e:ψ H j=ψ hs j
  ·rw[e,hq];exact h4 _
  ·rw[au (show(!(ψ H j==ψ hs j))=true by rw[gU.mpr e];rfl)];unfold i8;rw[iI,Int.sub_add_cancel]
 ·simp only[ar h];split<;>rfl
def oB:Expr:=aO (c6 2)
theorem w_2(ω:t<16)(ε:1<=s/\s<=4)(W:1<=v/\v<=4)(ζ:hs.length=cs.length)(T:H.length=cs.length)(Z:cs.length<=10)(cX:∀c∈cs,c∈eD)(cS:∀c∈hs,c∈b4)(R:∀c∈H,c∈b4)(B:eN Ξ (dc t s v cs hs))(P:∀l,l∈Ξ.map (·.1)↔∃c∈cs,l∈cG c) z eh:
 ∃y,eN y (dc t s v cs H)/\(∀l,l∈y.map (·.1)↔∃c∈cs,l∈cG c)/\∃f p,aK (S (k+3)) 41 cc aA (c6 2) (iV X t s v cs hs H Ξ z eh).Φ=some ((iV X t s v cs hs H y f p).Φ,.next):=by
 have r:∀j∈chg cs hs H,j<cs.length/\ψ H j≠ψ hs j:=λj q=>by
  have:=gr.mp q;exact⟨ek.mp this.1,by simpa using this.2⟩
 have U:(chg cs hs H).length<=10:=by
  have:=gD (λj=> !(ψ H j==ψ hs j)) (List.range cs.length);rw[hZ] at this;exact aJ this Z
 obtain⟨y,B',k',f,p,e⟩:=qeh k X t s v cs hs H ω ε W ζ T gA cX cS R (chg cs hs H) Ξ (dc t s v cs hs) 2560 z eh r B (λx i ρ=>IM ω ε W ζ Z cS x ρ) (aJ (r1 (r0 512 U) 2560) .d);refine⟨y,B'.congr λl i=>Qa t s v cs hs H ζ l i,λl=>?_,f,p,?_⟩
 ·rw[k' l,P l];constructor
  ·rintro (h|⟨j,q,h⟩)
   ·exact h
   ·exact⟨_,j' (r j q).1,h⟩
  ·exact λh=>.inl h
 ·generalize Y:noOwn (ed (iV X t s v cs hs H Ξ z eh).Φ oB)=σ;have Q:μ (S (k+3)) 39 aA (b1 (bg oB).iter) σ=some (.int (cs.length:Nat)):=(j5 (l:=cs.map .int) .k .j .j .j f').trans (by rw[bt])
  have ρ:dj (S (k+3)) (μ (S (k+3)) 39) aA (bg oB).iter σ=some ((List.range cs.length).map λk=>D.int ((k:Nat):Int)):=
   dI (aa (a:=(Str.ofString "range",[b1 (bg oB).iter])) .k (aa (a:="range") .j (dI (wE rfl (aa (bW Q eE) (aa (a:=[(cs.length:Int)]) rfl (dI (aa (a:=(cs.length:Int)) rfl (wE (cA x5) (by rw[BN]))))))))))
  have V:μ (S (k+3)) 40 aA oB σ=some (aW (chg cs hs H)):=by
   refine fv (S:=S (k+3)) (n:=39) (K:=aA) (elt:=cD oB) (g:=bg oB) (gs:=[]) (sc:=bG oB) .k .j ρ ?_ f';refine mJ (λk=>D.int ((k:Nat):Int)) _ _ λj q=>⟨[(".0",none),("k",ο (j:Nat)),("hues",ξ (ak H)),("once",ξ (ak hs))],by subst Y;kernel_rfl,?_,λ_=>by kernel_rfl⟩;have O:=ek.mp q;rw[show(bg oB).ifs=[(bg oB).ifs.getD 0 aD] from .k];refine l' (e_ .k (fl (op:=.NotEq) (a:=.int (ψ H j)) (b:=.int (ψ hs j)) .k ?_ .k ?_ ?_))
   ·exact lZ (by rfl) .k (dq (a:=ak H) (b:=.int (j:Nat)) .k .k .k .k (jM .l .l))
   ·exact cq .k (dq (a:=ak hs) (b:=.int (j:Nat)) .k .k .k .k (jM .l .l))
   ·rfl
  have hit:dj (S (k+3)) (μ (S (k+3)) 40) aA (aO (c6 2)) (noOwn (ed (iV X t s v cs hs H Ξ z eh).Φ (aO (c6 2))))=some ((chg cs hs H).map λj=>D.int ((j:Nat):Int)):=by
   rw[show noOwn (ed (iV X t s v cs hs H Ξ z eh).Φ (aO (c6 2)))=σ from Y];exact nh (d:=aW (chg cs hs H)) .k (cq .k V) rfl
  exact(mA .k hit .k).trans ((show ec aA (jf (c6 2)) (λu=>bw (S (k+3)) 40 cc aA (fb (c6 2)) u) ((chg cs hs H).map λj=>D.int ((j:Nat):Int)) (ed (iV X t s v cs hs H Ξ z eh).Φ (aO (c6 2)))=ec aA (jf (c6 2)) (λu=>bw (S (k+3)) 40 cc aA (fb (c6 2)) u) ((chg cs hs H).map λj=>D.int ((j:Nat):Int)) (iV X t s v cs hs H Ξ z eh).Φ by congr 1).trans e)
end
theorem qci(f:Int->Int){a b:List Int}(h:a.Perm b):(a.map f).sum=(b.map f).sum:=by
 induction h with
 |nil=>rfl
 |cons x _ z=>rw[bN,bN,f6,f6,z]
 |swap x y l=>rw[bN,bN,bN,bN,f6,f6,f6,f6];exact zh ..
 |trans _ _ b_ b5=>exact b_.trans b5
theorem qcs(f:Int->Int) P:∀L:List Int,(∀l∈L,P l=false->f l=0)->((L.filter P).map f).sum=(L.map f).sum:=by
 intro q
 induction q with
 |nil=>
  intro γ;exact rfl
 |cons l L y=>
  intro h;have z:=y λj g=>h j (b3 _ g);rw[mm,bN,f6]
  by_cases e:P l=true
  ·rw[au e,bN,f6,z]
  ·rw[ar e,z,h l bH (by simpa using e),mg]
theorem Hw(f:Int->Int){K L:List Int}(y:K.Nodup)(z:L.Nodup)(hs:∀l∈K,l∈L)(h0:∀l∈L,l∉K->f l=0):(K.map f).sum=(L.map f).sum:=by
 rw[<-qcs f (λl=>K.contains l) L λl ζ h=>h0 l ζ λq=>by rw[iG.mpr q] at h;exact dk h];refine qci f ((Cm y (z.filter _)).mpr λl=>?_);rw[gr,iG];exact⟨λh=>⟨hs l h,h⟩,λh=>h.2⟩
theorem qbU cs hs:∀Ξ,ft (d_ cs hs Ξ)=((Ξ.map (·.1)).map (lh (ψ cs) (ψ hs) cs.length)).sum:=by
 intro y
 induction y with
 |nil=>
  exact rfl
 |cons p Ξ z=>
  have j:=z;unfold ft d_ at*;rw[bN,m_,List.sum_append,j,bN,bN,f6]
  congr 1
  show cnt (ψ cs) (ψ hs) cs.length p.1 0*cnt (ψ cs) (ψ hs) cs.length p.1 0+(cnt (ψ cs) (ψ hs) cs.length p.1 1*cnt (ψ cs) (ψ hs) cs.length p.1 1+(cnt (ψ cs) (ψ hs) cs.length p.1 2*cnt (ψ cs) (ψ hs) cs.length p.1 2+0))=_;unfold lh;rw[h4,j4]
theorem OT(B:eN Ξ (dc t s v cs hs)):ft (d_ cs hs Ξ)=rS (ψ cs) (ψ hs) cs.length:=by
 rw[qbU];refine Hw _ B.nodup .d (λl ζ=>?_) λl _ y=>?_
 ·obtain⟨p,j,rfl⟩:=bV.mp ζ;exact(B.ent p j).1
 ·have h:=λg:Nat=>B.rest l y (4+g);simp only[wi] at h;have h0:=h 0;have ε:=h 1;have z:=h 2;unfold lh;rw[show(((0:Nat):Int))=0 from rfl] at h0;rw[show(((1:Nat):Int))=1 from rfl] at ε;rw[show(((2:Nat):Int))=2 from rfl] at z;rw[h0,ε,z];rfl
theorem qbS{x:Int}(h0:0<=x)(ε:x<=10):0<=x*x/\x*x<=100:=by
 exact⟨Int.mul_nonneg h0 h0,Int.mul_le_mul ε ε h0 .d⟩
theorem qbR cs hs (z:cs.length<=10) l:0<=lh (ψ cs) (ψ hs) cs.length l/\lh (ψ cs) (ψ hs) cs.length l<=300:=by
 have b:=λg=>J' (ψ cs) (ψ hs) cs.length l g;have c:=λg=>qbS (b g).1 (kF (b g).2 (n7.mpr z));have fp:=c 0;have c1:=c 1;have c2:=c 2;exact⟨zo (zo fp.1 c1.1) c2.1,tW (tW fp.2 c1.2) c2.2⟩
theorem OS cs hs (y:cs.length<=10):0<=rS (ψ cs) (ψ hs) cs.length/\rS (ψ cs) (ψ hs) cs.length<=4800:=by
 have:∀L:List Int,0<=(L.map (lh (ψ cs) (ψ hs) cs.length)).sum/\(L.map (lh (ψ cs) (ψ hs) cs.length)).sum<=L.length*300:=λL=>by
  induction L with
  |nil=>simp
  |cons l L z=>
   have:=qbR cs hs y l;rw[bN,f6,dG];exact⟨zo this.1 z.1,by rw[Int.natCast_add,Int.add_mul,Int.natCast_one,Int.one_mul,iI (_*300)];exact tW this.2 z.2⟩
 exact this kl
structure Inv(t s v:Nat)(cs hs:List Int)(Ξ:List (Int×D)):Prop where
 len:hs.length=cs.length
 fF:∀h∈hs,h∈b4
 uq:eN Ξ (dc t s v cs hs)
 keys:∀l,l∈Ξ.map (·.1)↔∃c∈cs,l∈cG c
def jZ(cs hs:List Int)(Ξ:List (Int×D)):List (List Int):=(d_ cs hs Ξ).filter ll
structure Qt where
 k:Option aC
 eh:Option aC
 once:Option aC
 more:Option aC
section
variable(k:Nat)(X:ah)(t s v:Nat)(cs:List Int)
def ej(hs:List Int)(Ξ:List (Int×D))(F:Qt):ah:=((((((((((X.fC (ξ (ak cs))).iv (ξ (hc t s v))).eI (ξ (ak hs))).fY (bE (.aX Ξ))).yc F.k).yJ F.eh).l4 F.once).k8 F.more).vN (ξ (.lst ((jZ cs hs Ξ).map dY)))).pd (ο (ft (d_ cs hs Ξ))))
theorem qdd hs Ξ F (h:jZ cs hs Ξ=[]):b9 (S k) 44 aA (pk (aM 14)) (ej X t s v cs hs Ξ F).Φ=some false:=by
 unfold ej;rw[h];generalize ft (d_ cs hs Ξ)=q
 kernel_rfl
theorem qde hs Ξ F (h:jZ cs hs Ξ=r::R):b9 (S k) 44 aA (pk (aM 14)) (ej X t s v cs hs Ξ F).Φ=some true:=by
 unfold ej;rw[h,bN];generalize ft (d_ cs hs Ξ)=q;generalize R.map dY=z;generalize dY r=y
 kernel_rfl
theorem w_4 x y (h:x<=y-2):aK (S k) 39 cc aA (c6 4) (ah.Φ ((X.pd (ο x)).k8 (ο y)))=some (ah.Φ ((X.pd (ο x)).k8 (ο y)),.next):=by
 have e:μ (S k) 37 aA (aO (c6 4)) (ah.Φ ((X.pd (ο x)).k8 (ο y)))=some (.bool (decide (y-2<x))):=.k;rw[gE (gu.mpr h)] at e;rw[gG .k (e_ .k e)]
 kernel_rfl
theorem qey(ω:t<16)(ε:1<=s/\s<=4)(η:1<=v/\v<=4)(n:cs.length<=10)(cX:∀c∈cs,c∈eD)(V:Inv t s v cs hs Ξ) F (h:jZ cs hs Ξ=r::R):
 ∃l z F',Inv t s v cs l z/\rS (ψ cs) (ψ l) cs.length<=rS (ψ cs) (ψ hs) cs.length-2/\bw (S (k+3)) 44 cc aA (kA (aM 14)) (ej X t s v cs hs Ξ F).Φ=some ((ej X t s v cs l z F').Φ,.next):=by
 have C:r∈jZ cs hs Ξ:=by rw[h];exact bH
 obtain⟨xU,o1⟩:=gr.mp C;obtain⟨p,φ,rfl⟩:=bV.mp xU;have ζ:=(V.uq.ent p φ).1
 have I:R.length<=1000:=by
  have a:(jZ cs hs Ξ).length<=Ξ.length:=by
   have:=gD ll (d_ cs hs Ξ);unfold d_ at this;rwa [bt] at this
  have b:=V.uq.len;rw[h] at a;exact aJ (zf a) (aJ b .d)
 have B:1<max (max (cnt (ψ cs) (ψ hs) cs.length p.1 0) (cnt (ψ cs) (ψ hs) cs.length p.1 1)) (cnt (ψ cs) (ψ hs) cs.length p.1 2)-min (min (cnt (ψ cs) (ψ hs) cs.length p.1 0) (cnt (ψ cs) (ψ hs) cs.length p.1 1)) (cnt (ψ cs) (ψ hs) cs.length p.1 2):=by
  have:=cU o1;rw[xo,xn] at this;exact this
 obtain⟨i,f,uG,gh⟩:=KW (Y6 (cnt (ψ cs) (ψ hs) cs.length p.1 0) (cnt (ψ cs) (ψ hs) cs.length p.1 1) (cnt (ψ cs) (ψ hs) cs.length p.1 2));obtain⟨j,Z,L,N⟩:=KW (Zf (cnt (ψ cs) (ψ hs) cs.length p.1 0) (cnt (ψ cs) (ψ hs) cs.length p.1 1) (cnt (ψ cs) (ψ hs) cs.length p.1 2))
 have row:∀i,i<3->(qp cs hs p.1).getD i 0=cnt (ψ cs) (ψ hs) cs.length p.1 (i:Nat):=λi ρ=>by
  rcases Bg ρ with rfl|rfl|rfl<;>rfl
 have x:cnt (ψ cs) (ψ hs) cs.length p.1 (i:Nat)=_:=(row i f).symm.trans gh;have yD:cnt (ψ cs) (ψ hs) cs.length p.1 (j:Nat)=_:=(row j Z).symm.trans N
 have fF:∀i:Nat,i<3->(i:Int)∈b4:=λi ρ=>by
  rcases Bg ρ with rfl|rfl|rfl<;>decide
 have u:2<=cnt (ψ cs) (ψ hs) cs.length p.1 (i:Nat)-cnt (ψ cs) (ψ hs) cs.length p.1 (j:Nat):=by rw[x,yD];exact B
 have g7:(i:Int)≠(j:Int):=λe=>by rw[e,Int.sub_self] at u;exact absurd u .d
 have dh:∀c∈cs,c∈gb:=λc κ=>by
  have:=cX c κ;revert c;intro c κ g5;have:eD.all (λc=>gb.contains c)=true:=.d;exact iG.mp (er.mp this c g5)
 have gW:=SY (p:=(i:Int)) (q:=(j:Int)) V.len dh g7;have hlen:(hQ cs hs i j).length=cs.length:=gW.len.trans V.len;have W:=SW gW V.len V.fF (fF i f) (fF j Z);have Y:=SX gW cX g7 (fF i f) (fF j Z) ζ u;have A:=w_0 (k+3) (ej X t s v cs hs Ξ F) (ak hs) (ft (d_ cs hs Ξ));have ag:=w_1 (k+2) ((ej X t s v cs hs Ξ F).k8 (ο (ft (d_ cs hs Ξ)))) V.len n I uG L;obtain⟨z,B',k',g,y,H⟩:=w_2 k ((ej X t s v cs hs Ξ F).k8 (ο (ft (d_ cs hs Ξ)))) t s v cs hs (hQ cs hs i j) ω ε η V.len hlen n cX V.fF W V.uq V.keys F.k F.eh;have E:=qet (k+2) ((((((ej X t s v cs hs Ξ F).k8 (ο (ft (d_ cs hs Ξ)))).l4 (ξ (ak hs))).eI (ξ (ak (hQ cs hs i j)))).yc g).yJ y) t s v n B';have eP:=w_4 (k+3) ((ej X t s v cs (hQ cs hs i j) z ⟨g,y,ξ (ak hs),none⟩).pd none) (ft (d_ cs (hQ cs hs i j) z)) (ft (d_ cs hs Ξ)) (by rw[OT B',OT V.uq];exact Y);refine⟨hQ cs hs i j,z,⟨g,y,ξ (ak hs),ο (ft (d_ cs hs Ξ))⟩,⟨hlen,W,B',k'⟩,Y,?_⟩;rw[show kA (aM 14)=[c6 0,c6 1,c6 2,c6 3,c6 4] from .k];have Q:aK (S (k+3)) 43 cc aA (c6 0) (ej X t s v cs hs Ξ F).Φ=some (ah.Φ (((ej X t s v cs hs Ξ F).l4 (ξ (ak hs))).k8 (ο (ft (d_ cs hs Ξ)))),.next):=Eq.mp .k A
 have U:aK (S (k+3)) 42 cc aA (c6 1) (ah.Φ (((ej X t s v cs hs Ξ F).l4 (ξ (ak hs))).k8 (ο (ft (d_ cs hs Ξ)))))=some (ah.Φ ((((ej X t s v cs hs Ξ F).l4 (ξ (ak hs))).k8 (ο (ft (d_ cs hs Ξ)))).eI (ξ (ak (hQ cs hs i j)))),.next):=by
  unfold ej;rw[h];unfold ej at ag;rw[h] at ag;exact Eq.mp .k ag
 have T:aK (S (k+3)) 41 cc aA (c6 2) (ah.Φ ((((ej X t s v cs hs Ξ F).l4 (ξ (ak hs))).k8 (ο (ft (d_ cs hs Ξ)))).eI (ξ (ak (hQ cs hs i j)))))=some (ah.Φ (((((((ej X t s v cs hs Ξ F).l4 (ξ (ak hs))).k8 (ο (ft (d_ cs hs Ξ)))).eI (ξ (ak (hQ cs hs i j)))).fY (bE (.aX z))).yc g).yJ y),.next):=Eq.mp .k H;have P:aK (S (k+3)) 40 cc aA (c6 3) (ah.Φ (((((((ej X t s v cs hs Ξ F).l4 (ξ (ak hs))).k8 (ο (ft (d_ cs hs Ξ)))).eI (ξ (ak (hQ cs hs i j)))).fY (bE (.aX z))).yc g).yJ y))=some ((ej X t s v cs (hQ cs hs i j) z ⟨g,y,ξ (ak hs),ο (ft (d_ cs hs Ξ))⟩).Φ,.next):=Eq.mp .k E;have O:aK (S (k+3)) 39 cc aA (c6 4) (ej X t s v cs (hQ cs hs i j) z ⟨g,y,ξ (ak hs),ο (ft (d_ cs hs Ξ))⟩).Φ=some ((ej X t s v cs (hQ cs hs i j) z ⟨g,y,ξ (ak hs),ο (ft (d_ cs hs Ξ))⟩).Φ,.next):=Eq.mp .k eP;rw[bj Q,bj U,bj T,bj P,bj O,eG]
theorem S2{x y:Int}{N:Nat}(h:x<=y-2)(k:y<(N+1:Nat)):x<N:=.l
theorem qeu(ω:t<16)(ε:1<=s/\s<=4)(W:1<=v/\v<=4)(g:cs.length<=10)(cX:∀c∈cs,c∈eD):∀(N:Nat) hs Ξ F,rS (ψ cs) (ψ hs) cs.length<N->Inv t s v cs hs Ξ->
 ∃y j F',Inv t s v cs y j/\jZ cs y j=[]/\mc (λz=>b9 (S (k+3)) 44 aA (pk (aM 14)) z) (λz=>bw (S (k+3)) 44 cc aA (kA (aM 14)) z) N (ej X t s v cs hs Ξ F).Φ=some ((ej X t s v cs y j F').Φ,.next):=by
 intro f
 induction f with
 |zero=>
  intro hs Ξ F q V;exact absurd (zc (OS cs hs g).1 q) (CZ 0)
 |succ N e=>
  intro hs Ξ F q V;cases h:jZ cs hs Ξ with
  |nil=>
   refine⟨hs,Ξ,F,V,h,?_⟩;exact aa (qdd (k+3) X t s v cs hs Ξ F h) rfl
  |cons r R=>
   obtain⟨Y,a,fw,u,n,ag⟩:=qey k X t s v cs ω ε W g cX V F h;obtain⟨x,Z,oj,p,i,l⟩:=e Y a fw (S2 n q) u;refine⟨x,Z,oj,p,i,?_⟩;rw[HV (qde (k+3) X t s v cs hs Ξ F h) ag];exact l
theorem qeU(ω:t<16)(ε:1<=s/\s<=4)(p:1<=v/\v<=4)(q:cs.length<=10)(cX:∀c∈cs,c∈eD)(V:Inv t s v cs hs Ξ) F:
 ∃z y F',Inv t s v cs z y/\jZ cs z y=[]/\aK (S (k+3)) 45 cc aA (aM 14) (ej X t s v cs hs Ξ F).Φ=some ((ej X t s v cs z y F').Φ,.next):=by
 obtain⟨z,y,F',u,g,e⟩:=qeu k X t s v cs ω ε p q cX 10000 hs Ξ F (zc (OS cs hs q).2 .d) V;refine⟨z,y,F',u,g,?_⟩;have w:∀σ,aK (S (k+3)) 45 cc aA (aM 14) σ=mc (λj=>b9 (S (k+3)) 44 aA (pk (aM 14)) j) (λj=>bw (S (k+3)) 44 cc aA (kA (aM 14)) j) 10000 σ:=λσ=>by kernel_rfl
 exact(w _).trans e
end
abbrev Tab(d:List (Int×Int))(g:Int->Option Int):Prop:=gv d g
theorem qcR(h:Tab d g) p:Tab (merge d [(p,1)]) (λx=>if x=p then some ((g p).getD 0+1) else g x):=by
 unfold merge k7;rw[Hr d [] (by rw[ly];exact h.1),ly,i6,List.foldl_nil];unfold j8;rw[h.2];cases z:g p with
 |none=>exact vI h p 1
 |some a=>exact vI h p (a+1)
def ur(ao:List Int):List (Int×Int):=ao.foldl (λd p=>merge d [(p,1)]) []
noncomputable def jd(ao:List Int)(x:Int):Option Int:=if x∈ao then some ((ao.count x:Nat):Int) else none
theorem Kd ao p:(jd ao p).getD 0=((ao.count p:Nat):Int):=by
 unfold jd;split
 ·rfl
 ·rename_i h;rw[za.mpr h];rfl
theorem qcP j z (h0:Tab j (jd z)):∀ao,Tab (ao.foldl (λd p=>merge d [(p,1)]) j) (jd (z++ao)):=by
 intro ao
 induction ao generalizing j z with
 |nil=>rw[nd];exact h0
 |cons p r q=>
  rw[i6,show z++p::r=(z++[p])++r by simp];refine q _ _ ?_;have h:=qcR h0 p
  have:(λx=>if x=p then some ((jd z p).getD 0+1) else jd z x)=jd (z++[p]):=by
   funext x;rw[Kd];unfold jd
   by_cases y:x=p
   ·subst y;rw[au rfl,au (by simp),r5];simp
   ·rw[ar y]
    by_cases hm:x∈z
    ·rw[au hm,au (by simp [hm]),r5];have:[p].count x=0:=by rw[za];simpa using y
     rw[this];rfl
    ·rw[ar hm,ar (by simp [hm,y])]
  rw[this] at h;exact h
theorem DQ ao:Tab (ur ao) (jd ao):=by
 have:=qcP [] [] ⟨pn,λx=>by unfold jd;simp⟩ ao;rwa [ly] at this
def oG{α:Type}(f:Int->α)(ao:List Int):List (Int×α):=ao.foldl (λd p=>fu d p (f p)) []
theorem Th{α:Type}(f:Int->α):∀(ao z:List Int) (d:List (Int×α)),gv d (λx=>if x∈z then some (f x) else none)->gv (ao.foldl (λd p=>fu d p (f p)) d) (λx=>if x∈z++ao then some (f x) else none):=by
 intro g
 induction g with
 |nil=>
  intro z d h;rw[nd];exact h
 |cons p r j=>
  intro z d h;rw[i6,List.append_cons];refine j (z++[p]) _ ⟨(vI h p (f p)).1,λx=>((vI h p (f p)).2 x).trans ?_⟩;show(if x=p then some (f p) else if x∈z then some (f x) else none)=if x∈z++[p] then some (f x) else none
  by_cases y:x=p
  ·rw[au y,au (Cu _ (fj.mpr y)),y]
  ·rw[ar y]
   by_cases hm:x∈z
   ·rw[au hm,au (Cx _ hm)]
   ·rw[ar hm,ar λq=>(fk.mp q).elim hm λq=>y (fj.mp q)]
theorem oH{α:Type}(f:Int->α)(ao:List Int):gv (oG f ao) (λx=>if x∈ao then some (f x) else none):=by
 have h:=Th f ao [] [] ⟨pn,λx=>(ar oc).symm⟩;rwa [ly] at h
abbrev q9(f:Int->Int)(ao:List Int):List (Int×Int):=oG f ao
theorem xe n a:gg (n+1) (.int a) (.int a)=some true:=bp some (hq a)
theorem Eu{r q:List D}{x y:Bool}(ε:f a b=some x)(z:ke f r q=some y):ke f (a::r) (b::q)=some (x&&y):=aa ε (aa z rfl)
theorem ND(h:nE a b=some true):e' .NotEq a b=some false:=aa h rfl
theorem HB{a b:List (Int×D)}{g:Int->Option D}(y:gv a g)(j:gv b g)(n:Nat)(hd:∀p∈a,gg n p.2 p.2=some true):gg (n+1) (.aX a) (.aX b)=some true:=by
 have key:∀l:List (Int×D),(∀p∈l,b.lookup p.1=some p.2)->(∀p∈l,gg n p.2 p.2=some true)->pS (gg n) b l=some true:=by
  intro l
  induction l with
  |nil=>intro _ _;rfl
  |cons p r u=>
   intro h h';unfold pS;rw[h p bH];exact aa (h' p bH) (aa (u (λq z=>h q (b3 _ z)) λq z=>h' q (b3 _ z)) rfl)
 refine(au (h5.mpr (qcE y j))).trans (key a (λp v=>?_) hd);rw[j.2,<-y.2];exact Gj y.1 v
theorem B8{α:Type}(e:α->D){d:List (Int×α)}{g:Int->Option α}(h:gv d g):gv (dM e d) (λx=>(g x).map e):=by
 refine⟨?_,λx=>by rw[HC,h.2]⟩;have:(dM e d).map (·.1)=d.map (·.1):=by unfold dM;rw[cP];rfl
 rw[this];exact h.1
theorem qcO(z:Tab a g)(y:Tab b g)(n:Nat):gg (n+2) (tabI a) (tabI b)=some true:=
 HB (B8 D.int z) (B8 D.int y) (n+1) λp j=>ν (bV.mp j) λq h=>h.2▸xe n q.2
end Internal.e8
namespace Internal.e8
theorem O2(f:Int->Int):∀(ao:List Int) d,storeAll (hn d) (ao.map λp=>(p,.int (f p)))=hn (ao.foldl (λd p=>Φ d p (f p)) d):=by
 intro y
 induction y with
 |nil=>
  intro d;exact rfl
 |cons p ao z=>
  intro d;rw[bN,i6];unfold storeAll;rw[qcK];exact z _
theorem X' x:∀l:List Int,isIn (.int x) (l.map .int)=some (l.contains x):=by
 intro j
 induction j with
 |nil=>
  exact rfl
 |cons y l z=>
  show(some (y==x)).bind _=_;show(isIn (.int x) (l.map .int)).bind _=_;rw[z,List.contains_cons];show some (y==x||l.contains x)=some (x==y||l.contains x)
  congr 2
  by_cases e:x=y
  ·rw[e]
  ·rw[gU.mpr e,gU.mpr λq=>e q.symm]
open Internal.cw
def e2(cs hs:List Int)(l:Int):List Int:=((List.range cs.length).filter λj=>(cG (ψ cs j)).contains l).map (ψ hs)
theorem D5 F h (g:Int):∀r,((((r.filter F).map h).count g:Nat):Int)=cy (λk=>if F k then(if h k=g then 1 else 0) else 0) r:=by
 intro y
 induction y with
 |nil=>
  exact rfl
 |cons a r z=>
  rw[mm,fh,<-z]
  by_cases e:F a
  ·rw[au e,au e,bN,r8]
   by_cases q:h a=g
   ·rw[q,au rfl,hq,au rfl];push_cast;lia
   ·rw[ar q,gU.mpr q];simp
  ·rw[ar e,ar e];lia
theorem tl cs hs l g:(((e2 cs hs l).count g:Nat):Int)=cnt (ψ cs) (ψ hs) cs.length l g:=by
 unfold e2 cnt;rw[D5];refine lj λk _=>?_;unfold inc
 by_cases h:l∈cG (ψ cs k)
 ·rw[au h,au (iG.mpr h)]
 ·rw[ar h,ar λq=>h (iG.mp q)]
theorem Bf F:∀r,(((r.filter F).length:Nat):Int)=cy (λk=>if F k then 1 else 0) r:=by
 intro y
 induction y with
 |nil=>
  exact rfl
 |cons a r z=>
  rw[mm,fh,<-z]
  by_cases e:F a
  ·rw[au e,au e,dG];push_cast;lia
  ·rw[ar e,ar e];lia
theorem Gx t s v cs hs l:(((e2 cs hs l).length:Nat):Int)=dc t s v cs hs l 3:=by
 unfold e2 dc;rw[bt,Bf];refine lj λk _=>?_
 by_cases h:l∈cG (ψ cs k)
 ·rw[au h,au (iG.mpr h)];rfl
 ·rw[ar h,ar λq=>h (iG.mp q)]
theorem Zm(ζ:hs.length=cs.length)(cS:∀h∈hs,h∈b4) l:∀h∈e2 cs hs l,h∈b4:=by
 intro h bq;obtain⟨j,z,rfl⟩:=bV.mp bq;have:=ek.mp (gr.mp z).1;exact cS _ (j' .l)
theorem DX(ζ:hs.length=cs.length)(cS:∀h∈hs,h∈b4) t s v l:cnt (ψ cs) (ψ hs) cs.length l 0+cnt (ψ cs) (ψ hs) cs.length l 1+cnt (ψ cs) (ψ hs) cs.length l 2=dc t s v cs hs l 3:=by
 unfold cnt dc;rw[<-pg,<-pg];refine lj λk z=>?_;have j:=ek.mp z;have y:=ir (cS _ (j' (j2 (ek.mp z) ζ.symm)));unfold inc
 by_cases h:l∈cG (ψ cs k)
 ·simp only[au h];rcases y with e|e|e<;>rw[e]<;>rfl
 ·simp only[ar h];rfl
theorem Qb(ζ:hs.length=cs.length)(cS:∀h∈hs,h∈b4) t s v l (ρ:i<3):dc t s v cs hs l i=cnt (ψ cs) (ψ hs) cs.length l 0*ni t s v 0 i+cnt (ψ cs) (ψ hs) cs.length l 1*ni t s v 1 i+cnt (ψ cs) (ψ hs) cs.length l 2*ni t s v 2 i:=by
 unfold cnt dc;rw[<-B5,<-B5,<-B5,<-pg,<-pg];refine lj λk z=>?_;have j:=ek.mp z;have y:=ir (cS _ (j' (j2 (ek.mp z) ζ.symm)));unfold inc
 by_cases h:l∈cG (ψ cs k)
 ·simp only[au h];rcases y with e|e|e<;>rw[e]<;>unfold fz<;>rw[au ρ]<;>simp
 ·simp only[ar h];simp
theorem C9(ζ:hs.length=cs.length)(cS:∀h∈hs,h∈b4) t s v l (ρ:i<3):dc t s v cs hs l i=hW t s v ((e2 cs hs l).count 0) ((e2 cs hs l).count 1) ((e2 cs hs l).count 2) i:=by
 rw[Qb ζ cS t s v l ρ];unfold hW;rw[tl,tl,tl]
noncomputable def look(T:List (Int×Int))(x:Int):Int:=(T.lookup x).getD 0
theorem B_(H:fy T c)(g:Nat)(z:g<3):look T g=c g:=H.2.2 g z
theorem Pj(H:fy T c)(z:x∉b4):x∉T.map (·.1):=λh=>z (by
 obtain⟨p,y,e⟩:=bV.mp h;have:=H.2.1 p y;rw[<-e];rcases this with e|e|e<;>rw[e]<;>decide)
theorem qcS(H:fy T c):(T.map (·.2)).sum=c 0+c 1+c 2:=by
 have ag:T.map (·.2)=(T.map (·.1)).map (look T):=by
  rw[cP];refine m5 λp j=>?_;show p.2=(T.lookup p.1).getD 0;rw[Gj H.1 j];rfl
 have z:=Hw (look T) H.1 (L:=b4) .d (λl ζ=>H8 λq=>Pj H q ζ) λl _ y=>by
  unfold look;cases h:T.lookup l with
  |none=>rfl
  |some x=>exact(y (jT.mpr (by rw[h];rfl))).elim
 rw[ag,z,<-B_ H 0 .d,<-B_ H 1 .d,<-B_ H 2 .d];show look T 0+(look T 1+(look T 2+0))=_;show look T 0+(look T 1+(look T 2+0))=look T 0+look T 1+look T 2;lia
def mT(T:List (Int×Int)):List Int:=(T.map (·.1)).filter λx=> !(look T x==0)
theorem qcU(ζ:hs.length=cs.length)(cS:∀h∈hs,h∈b4)(H:fy T λg=>cnt (ψ cs) (ψ hs) cs.length l (g:Nat)):
 gg 8 (tabI (q9 (look T) (mT T))) (tabI (q9 (λx=>(((e2 cs hs l).count x:Nat):Int)) (e2 cs hs l)))=some true:=by
 refine qcO (oH (look T) (mT T)) ?_ 6;have h:=oH (λx=>(((e2 cs hs l).count x:Nat):Int)) (e2 cs hs l)
 have e:(λx=>if x∈mT T then some (look T x) else none)=λx=>if x∈e2 cs hs l then some (((e2 cs hs l).count x:Nat):Int) else none:=by
  funext x;have key:x∈b4->look T x=(((e2 cs hs l).count x:Nat):Int):=λz=>by
   rw[tl];have:=qa z;have e:=B_ H x.toNat .l;rwa [show((x.toNat:Nat):Int)=x by lia] at e
  by_cases z:x∈b4
  ·have k:=key z
   by_cases hm:x∈e2 cs hs l
   ·have u:0<(e2 cs hs l).count x:=ID.mpr hm;have j:look T x≠0:=.l;have q:x∈mT T:=gr.mpr ⟨jT.mpr (by
     unfold look at j;cases h:T.lookup x with
     |none=>rw[h] at j;exact(j rfl).elim
     |some y=>rfl),by simpa using j⟩
    rw[au hm,au q,k]
   ·have u:(e2 cs hs l).count x=0:=za.mpr hm;have q:x∉mT T:=λh=>by
     have:=(gr.mp h).2;rw[k,u] at this;exact dk this.symm
    rw[ar hm,ar q]
  ·rw[ar (show x∉mT T from λh=>Pj H z (gr.mp h).1),ar λh=>z (Zm ζ cS l x h)]
 rw[e];exact h
open Internal.cw
theorem Ec(z:X.natAbs<=2^40):binop .Div (.υ (a6 (128*X))) (.int 16)=some (.υ (a6 (8*X))):=by
 show aS (!(Float64.isInf (Float64.ofInt 16))&& !(Float64.isZero (Float64.ofInt 16))) (some (D.υ (Float64.div (a6 (128*X)) (Float64.ofInt 16))))=_;rw[show(!(Float64.isInf (Float64.ofInt 16))&& !(Float64.isZero (Float64.ofInt 16)))=true by decide+kernel,show Float64.ofInt 16=a6 262144 by decide+kernel,K4 (um z) .d .d];have e:Float64.ofFrac (decide (128*X<0)) (128*X).natAbs (262144:Int).natAbs=a6 (8*X):=by
  unfold a6;rw[show(128*X).natAbs=16*(8*X).natAbs by rw[CW,CW,<-tX];rfl,show(262144:Int).natAbs=16*16384 by decide,EK .d .d]
  congr 1
  exact zj.mpr ⟨λh=>by lia,λh=>by lia⟩
 rw[e];rfl
section
variable(k:Nat)(X:ah)(t s v:Nat)(cs hs:List Int)
abbrev kk(i:Nat):Stmt:=d9 (fb (aM 15)) i
structure lB where
 yC:Option aC
 xw:Option aC
 w5:Option aC
 ql:Option aC
 mY:Option aC
 ix:Option aC
def eo(Ξ:List (Int×D))(l:Int)(F:lB):ah:=(((((((((((((X.fC (ξ (ak cs))).eI (ξ (ak hs))).fY (ξ (.aX Ξ))).j9 (ο (t:Nat))).ku (ο (s:Nat))).ky (ο (v:Nat))).mQ (ο l)).qaP F.yC).V_ F.xw).R5 F.w5).hi F.ql).qcT F.mY).Zn F.ix)
theorem RK F (h:Ξ.lookup l=some (ent (.υ x0) (.υ z) (.υ y) (.int nn) T)):
 aK (S k) 42 cc aA (kk 0) (eo X t s v cs hs Ξ l F).Φ=some ((eo X t s v cs hs Ξ l ⟨ξ (.υ x0),ξ (.υ z),ξ (.υ y),ο nn,ξ (tabI T),F.ix⟩).Φ,.next):=by
 have e:μ (S k) 41 aA (aO (kk 0)) (eo X t s v cs hs Ξ l F).Φ=some (ent (.υ x0) (.υ z) (.υ y) (.int nn) T):=dq (a:=.aX Ξ) (b:=.int l) .k .k .k .k h;exact Dr (t:=eR (sx (kk 0))) (e:=aO (kk 0)) .k e .k .k
def mR:Expr:=aO (kk 1)
theorem RL(ζ:hs.length=cs.length)(r:cs.length<=10)(cX:∀c∈cs,c∈eD) Ξ l F:aK (S (k+1)) 41 cc aA (kk 1) (eo X t s v cs hs Ξ l F).Φ=some ((eo X t s v cs hs Ξ l {F with ix:=ξ (ak (e2 cs hs l))}).Φ,.next):=by
 generalize z:(eo X t s v cs hs Ξ l F).Φ=σ;have p:μ (S (k+1)) 39 aA (b1 (bg mR).iter) σ=some (.int (cs.length:Nat)):=(j5 (l:=cs.map .int) .k .j .j .j f').trans (by rw[bt])
 have ρ:dj (S (k+1)) (μ (S (k+1)) 39) aA (bg mR).iter σ=some ((List.range cs.length).map λk=>D.int ((k:Nat):Int)):=
  dI (aa (a:=(Str.ofString "range",[b1 (bg mR).iter])) .k (aa (a:="range") .j (dI (wE rfl (aa (bW p eE) (aa (a:=[(cs.length:Int)]) rfl (dI (aa (a:=(cs.length:Int)) rfl (wE (cA x5) (by rw[BN]))))))))))
 have e:μ (S (k+1)) 40 aA mR σ=some (ak (e2 cs hs l)):=by
  unfold ak e2;rw[cP];refine fv (S:=S (k+1)) (n:=39) (K:=aA) (elt:=cD mR) (g:=bg mR) (gs:=[]) (sc:=bG mR) .k .j ρ ?_ (by
   rw[bt];have:=gD (λj=>(cG (ψ cs j)).contains l) (List.range cs.length);rw[hZ] at this;lia)
  refine mJ (λk=>D.int ((k:Nat):Int)) _ _ λj q=>⟨[(".0",none),("k",ο (j:Nat)),("calls",ξ (ak cs)),("hues",ξ (ak hs)),("line",ο l)],by subst z;kernel_rfl,?_,λ_=>hT (dq (a:=ak hs) (b:=.int (j:Nat)) .k .k .k .k (jM (by have:=ek.mp q;lia) .l))⟩;have y:=ek.mp q;rw[show(bg mR).ifs=[(bg mR).ifs.getD 0 aD] from .k];have f:μ (S (k+1)) 36 (bG mR).names (b1 (eZ ((bg mR).ifs.getD 0 aD))) [(".0",none),("k",ο (j:Nat)),("calls",ξ (ak cs)),("hues",ξ (ak hs)),("line",ο l)]=some (.int (ψ cs j)):=dq (a:=ak cs) (b:=.int (j:Nat)) .k .k .k .k (jM y gA);refine l' (e_ .k (fl (op:=.In) (a:=.int l) (b:=.lst ((cG (ψ cs j)).map .int)) .k .k .k (cq .k (ht (x:="_law_lines") (es:=[b1 (eZ ((bg mR).ifs.getD 0 aD))]) .k .k .k (bW f eE) (M0 k (cX _ (j' y))))) ?_));show alt none ((some ((cG (ψ cs j)).map D.int)).bind λu=>isIn (.int l) u)=_;exact X' l (cG (ψ cs j))
 generalize ak (e2 cs hs l)=x at*;rw[fB .k .k e];subst z
 kernel_rfl
open Internal.cw
abbrev ig(i:Nat):Expr:=(uu (aO (kk 2))).getD i aD
def nD:Expr:=fE (ig 0)
def sE:Expr:=eZ (ig 0)
def Mm(T:List (Int×Int))(x:Int):Γ:=[(".0",none),("hue",ο x),("table",ξ (tabI T))]
def Mn(M:List Int)(x:Int):Γ:=[(".0",none),("hue",ο x),("mine",ξ (ak M))]
theorem TB Ξ l (F:lB) (u:(T.map (·.1)).Nodup) (q:T.length<=1000):μ (S k) 35 aA nD (eo X t s v cs hs Ξ l {F with mY:=ξ (tabI T)}).Φ=some (tabI (q9 (look T) (mT T))):=by
 have hit:dj (S k) (μ (S k) 34) aA (bg nD).iter (eo X t s v cs hs Ξ l {F with mY:=ξ (tabI T)}).Φ=some ((T.map (·.1)).map .int):=by
  refine nh (d:=tabI T) .k .k ?_;show some ((hn T).map λp=>D.int p.1)=_;unfold hn;rw[cP,cP];rfl
 have j:∀n x,x∈T.map (·.1)->μ (S k) (n+3) (bG nD).names (iS nD) (Mm T x)=some (.int (look T x)):=λn x z=>by
  refine dq (a:=tabI T) (b:=.int x) .k .k .k .k ?_;show(hn T).lookup x=_;rw[B9];have:=jT.mp z;unfold look;cases h:T.lookup x with
  |none=>rw[h] at this;exact dk this.symm
  |some y=>rfl
 have h:=t6 (S:=S k) (n:=34) (K:=aA) (σ:=(eo X t s v cs hs Ξ l {F with mY:=ξ (tabI T)}).Φ) (e:=nD) (k:=cD nD) (v:=iS nD) (g:=bg nD) (sc:=bG nD) (out:=(mT T).map λx=>(x,.int (look T x))) .k .k hit ?_ (by
  rw[bt];have:=gD (λx=> !(look T x==0)) (T.map (·.1));rw[bt] at this;unfold mT;lia)
 ·rw[h,show([]:List (Int×D))=hn [] from rfl,O2 (look T)];rfl
 ·rw[show((mT T).map λx=>(x,D.int (look T x))).map (λp:Int×D=>D.tup [.int p.1,p.2])=((T.map (·.1)).filter λx=> !(look T x==0)).map λx=>D.tup [.int x,.int (look T x)] from cP];refine mJ (l:=T.map (·.1)) D.int (λx=> !(look T x==0)) (λx=>D.tup [.int x,.int (look T x)]) λx z=>⟨Mm T x,.k,?_,λ_=>uE .k (j 31 x z)⟩;rw[show(bg nD).ifs=[(bg nD).ifs.getD 0 aD] from .k];refine l' (e_ .k (fl (op:=.NotEq) (a:=.int (look T x)) (b:=.int 0) .k ?_ .k .k rfl));refine lZ rfl .k ?_;refine dq (a:=tabI T) (b:=.int x) .k .k .k .k ?_;show(hn T).lookup x=_;rw[B9];have:=jT.mp z;unfold look;cases h:T.lookup x with
  |none=>rw[h] at this;exact dk this.symm
  |some y=>rfl
theorem TC Ξ l (F:lB) (z:M.length<=1000):μ (S k) 35 aA sE (eo X t s v cs hs Ξ l {F with ix:=ξ (ak M)}).Φ=some (tabI (q9 (λx=>((M.count x:Nat):Int)) M)):=by
 have h:=t6 (S:=S k) (n:=34) (K:=aA) (σ:=(eo X t s v cs hs Ξ l {F with ix:=ξ (ak M)}).Φ) (e:=sE) (k:=cD sE) (v:=iS sE) (g:=bg sE) (sc:=bG sE) (items:=M.map .int) (out:=M.map λx=>(x,.int ((M.count x:Nat):Int))) .k .k .k ?_ f'
 ·rw[h,show([]:List (Int×D))=hn [] from rfl,O2 (λx=>((M.count x:Nat):Int))];rfl
 ·rw[cP];rw[show(bg sE).ifs=[] from .k];exact g0 D.int ((λp:Int×D=>D.tup [.int p.1,p.2])∘λx=>(x,.int ((M.count x:Nat):Int))) λx y=>⟨Mn M x,.k,uE .k (C_ (l:=M.map .int) .k .k .k .k (ry M))⟩
theorem RM Ξ l (F:lB) {nn:Int} (p:(T.map (·.1)).Nodup) (u:T.length<=1000) (e:M.length<=1000) (hd:gg 8 (tabI (q9 (look T) (mT T))) (tabI (q9 (λx=>((M.count x:Nat):Int)) M))=some true) (ε:nn=(M.length:Nat)) (Z:(T.map (·.2)).sum=(M.length:Nat)):
 aK (S (k+1)) 40 cc aA (kk 2) (eo X t s v cs hs Ξ l {F with ql:=ο nn,mY:=ξ (tabI T),ix:=ξ (ak M)}).Φ=some ((eo X t s v cs hs Ξ l {F with ql:=ο nn,mY:=ξ (tabI T),ix:=ξ (ak M)}).Φ,.next):=by
 have q:=TB (k+1) X t s v cs hs Ξ l {F with ql:=ο nn,ix:=ξ (ak M)} p u;have g:=TC (k+1) X t s v cs hs Ξ l {F with ql:=ο nn,mY:=ξ (tabI T)} e
 have c1:b9 (S (k+1)) 37 aA (ig 0) (eo X t s v cs hs Ξ l {F with ql:=ο nn,mY:=ξ (tabI T),ix:=ξ (ak M)}).Φ=some false:=by
  generalize tabI (q9 (look T) (mT T))=a at*;generalize tabI (q9 (λx=>((M.count x:Nat):Int)) M)=b at*;exact e_ .k (fl (op:=.NotEq) (a:=a) (b:=b) .k (lZ rfl .k q) .k (cq .k g) (ND hd))
 have z:=z9 k T;rw[Z] at z
 have c2:b9 (S (k+1)) 36 aA (ig 1) (eo X t s v cs hs Ξ l {F with ql:=ο nn,mY:=ξ (tabI T),ix:=ξ (ak M)}).Φ=some false:=by
  generalize f:(eo X t s v cs hs Ξ l {F with ql:=ο nn,mY:=ξ (tabI T),ix:=ξ (ak M)}).Φ=σ;have r:μ (S (k+1)) 33 aA ((bk (fE (ig 1))).getD 0 aD) σ=some (.int (M.length:Nat)):=by rw[<-ε];subst f;kernel_rfl
  have i:μ (S (k+1)) 33 aA ((bk (fE (ig 1))).getD 1 aD) σ=some (.int (M.length:Nat)):=ht (x:="count_calls") (es:=[b1 ((bk (fE (ig 1))).getD 1 aD)]) (ds:=[tabI T]) .k .j .k (bW .j eE) z;have g9:μ (S (k+1)) 33 aA ((bk (eZ (ig 1))).getD 0 aD) σ=some (.int (M.length:Nat)):=(j5 (l:=M.map .int) .k .j .j .j f').trans (by rw[bt]);have k6:μ (S (k+1)) 33 aA ((bk (eZ (ig 1))).getD 1 aD) σ=some (.int (M.length:Nat)):=(j5 (l:=M.map .int) .k .j .j .j f').trans (by rw[bt]);have n:μ (S (k+1)) 34 aA (fE (ig 1)) σ=some (ak [(M.length:Nat),(M.length:Nat)]):=C' .k (by
   rw[show bk (fE (ig 1))=[(bk (fE (ig 1))).getD 0 aD,(bk (fE (ig 1))).getD 1 aD] from .k];exact bW r (bW i eE)) (e5 rfl)
  have y:μ (S (k+1)) 34 aA (eZ (ig 1)) σ=some (ak [(M.length:Nat),(M.length:Nat)]):=C' .k (by
   rw[show bk (eZ (ig 1))=[(bk (eZ (ig 1))).getD 0 aD,(bk (eZ (ig 1))).getD 1 aD] from .k];exact bW g9 (bW k6 eE)) (e5 rfl)
  exact e_ .k (fl (op:=.NotEq) (a:=ak [(M.length:Nat),(M.length:Nat)]) (b:=ak [(M.length:Nat),(M.length:Nat)]) .k (lZ rfl .k n) .k (cq .k y) (Dc _))
 have h:b9 (S (k+1)) 39 aA (aO (kk 2)) (eo X t s v cs hs Ξ l {F with ql:=ο nn,mY:=ξ (tabI T),ix:=ξ (ak M)}).Φ=some false:=Dn (c1:=ig 0) (c2:=ig 1) .k c1 λ_=>c2;rw[gG .k h]
 kernel_rfl
def qn:Expr:=aO (kk 3)
def nU(i:Nat):Expr:=(bk (fE qn)).getD i aD
def vt:Expr:=b1 (eZ qn)
theorem RN Ξ l (F:lB) (R:M.length<=1000) (h0:z.natAbs<=2^40) (ε:q.natAbs<=2^40) (Q:y.natAbs<=2^40) (H:Told k t s v (hk (M.count 0) (M.count 1) (M.count 2)) z q y):
 aK (S (k+1)) 39 cc aA (kk 3) (eo X t s v cs hs Ξ l {F with yC:=ξ (.υ (a6 (128*z))),xw:=ξ (.υ (a6 (128*q))),w5:=ξ (.υ (a6 (128*y))),ix:=ξ (ak M)}).Φ=some ((eo X t s v cs hs Ξ l {F with yC:=ξ (.υ (a6 (128*z))),xw:=ξ (.υ (a6 (128*q))),w5:=ξ (.υ (a6 (128*y))),ix:=ξ (ak M)}).Φ,.next):=by
 obtain⟨A,B,E,W,e,r,f⟩:=H
 have Z:μ (S (k+1)) 37 aA qn (eo X t s v cs hs Ξ l {F with yC:=ξ (.υ (a6 (128*z))),xw:=ξ (.υ (a6 (128*q))),w5:=ξ (.υ (a6 (128*y))),ix:=ξ (ak M)}).Φ=some (.bool false):=by
  generalize i:(eo X t s v cs hs Ξ l {F with yC:=ξ (.υ (a6 (128*z))),xw:=ξ (.υ (a6 (128*q))),w5:=ξ (.υ (a6 (128*y))),ix:=ξ (ak M)}).Φ=σ;have T:μ (S (k+1)) 35 aA (nU 0) σ=some A:=ht (x:="rgb_to_hsv") (es:=bk (nU 0)) (ds:=[.υ (a6 (128*z)),.υ (a6 (128*q)),.υ (a6 (128*y))]) .k .j .k .j W;have h:μ (S (k+1)) 34 aA ((bk (nU 1)).getD 0 aD) σ=some (.υ (a6 (8*z))):=dp (op:=.Div) (a:=.υ (a6 (128*z))) (b:=.int 16) .k .j .k (Ec h0);have Y:μ (S (k+1)) 34 aA ((bk (nU 1)).getD 1 aD) σ=some (.υ (a6 (8*q))):=dp (op:=.Div) (a:=.υ (a6 (128*q))) (b:=.int 16) .k .j .k (Ec ε);have V:μ (S (k+1)) 34 aA ((bk (nU 1)).getD 2 aD) σ=some (.υ (a6 (8*y))):=dp (op:=.Div) (a:=.υ (a6 (128*y))) (b:=.int 16) .k .j .k (Ec Q);have a1:μ (S (k+1)) 35 aA (nU 1) σ=some B:=ht (x:="rgb_to_hls") (ds:=[.υ (a6 (8*z)),.υ (a6 (8*q)),.υ (a6 (8*y))]) (es:=[(bk (nU 1)).getD 0 aD,(bk (nU 1)).getD 1 aD,(bk (nU 1)).getD 2 aD]) .k .j .k (bW h (bW Y (bW V eE))) e;have p:μ (S (k+1)) 36 aA (fE qn) σ=some (.tup [A,B]):=ng .k (by
   rw[show bk (fE qn)=[nU 0,nU 1] from .k];exact bW T (bW a1 eE)) (e5 rfl)
  have U:μ (S (k+1)) 35 aA vt σ=some (hk (M.count 0) (M.count 1) (M.count 2)):=by
   refine fv (S:=S (k+1)) (n:=34) (K:=aA) (items:=([0,1,2]:List Int).map .int) (out:=([0,1,2]:List Int).map λx=>D.int ((M.count x:Nat):Int)) (elt:=cD vt) (g:=bg vt) (gs:=[]) (sc:=bG vt) .k .j .j ?_ (e5 rfl);rw[show(bg vt).ifs=[] from .k];exact g0 D.int (λx=>D.int ((M.count x:Nat):Int)) λx P=>⟨Mn M x,by subst i;kernel_rfl,hT (C_ (l:=M.map .int) .k .k .k .k (ry M))⟩
  have u:μ (S (k+1)) 36 aA (eZ qn) σ=some E:=ht (x:="_law_due") (ds:=[hk (M.count 0) (M.count 1) (M.count 2),.int (t:Nat),.int (s:Nat),.int (v:Nat)]) (es:=[vt,(bk (eZ qn)).getD 1 aD,(bk (eZ qn)).getD 2 aD,(bk (eZ qn)).getD 3 aD]) .k .j .k (bW U (bW .j (bW .j (bW .j eE)))) r;exact fl (op:=.NotEq) .k (lZ rfl .k p) .k (cq .k u) f
 rw[gG .k (e_ .k Z)]
 kernel_rfl
open Internal.cw
theorem YS(ω:t<16)(ε:1<=s/\s<=4)(u:1<=v/\v<=4)(i:cs.length<=10)(V:Inv t s v cs hs Ξ)(l:jZ cs hs Ξ=[])(f:p∈Ξ):Told k t s v (hk ((e2 cs hs p.1).count 0) ((e2 cs hs p.1).count 1) ((e2 cs hs p.1).count 2)) (dc t s v cs hs p.1 0) (dc t s v cs hs p.1 1) (dc t s v cs hs p.1 2):=by
 rw[C9 V.len V.fF t s v p.1 (by decide:0<3),C9 V.len V.fF t s v p.1 (by decide:1<3),C9 V.len V.fF t s v p.1 (by decide:2<3)];have fp:=tl cs hs p.1 0;have c1:=tl cs hs p.1 1;have c2:=tl cs hs p.1 2;have y:=DX V.len V.fF t s v p.1;have cl:=Gx t s v cs hs p.1;have x:qp cs hs p.1∈d_ cs hs Ξ:=bV.mpr ⟨p,f,rfl⟩;have r:¬ll (qp cs hs p.1)=true:=λq=>by
  have:qp cs hs p.1∈jZ cs hs Ξ:=gr.mpr ⟨x,q⟩;rw[l] at this;exact nomatch this
 have he:¬1<max (max (cnt (ψ cs) (ψ hs) cs.length p.1 0) (cnt (ψ cs) (ψ hs) cs.length p.1 1)) (cnt (ψ cs) (ψ hs) cs.length p.1 2)-min (min (cnt (ψ cs) (ψ hs) cs.length p.1 0) (cnt (ψ cs) (ψ hs) cs.length p.1 1)) (cnt (ψ cs) (ψ hs) cs.length p.1 2):=λq=>r (by
  refine cA ?_;rw[xo,xn];exact q)
 rw[<-fp,<-c1,<-c2] at y he;rw[<-Lean.Omega.Int.ofNat_max,<-Lean.Omega.Int.ofNat_max,<-Lean.Omega.Int.ofNat_min,<-Lean.Omega.Int.ofNat_min] at he;have z:=v'.mp (y.trans cl.symm);have h:1<=(e2 cs hs p.1).length:=by
  obtain⟨c,κ,ζ⟩:=(V.keys p.1).mp (bV.mpr ⟨p,f,rfl⟩);obtain⟨j,g,e⟩:=y8 κ;unfold e2;rw[bt];refine Ig (a:=j) (gr.mpr ⟨ek.mpr g,?_⟩);rw[uj g,e];exact iG.mpr ζ
 have n:(e2 cs hs p.1).length<=10:=by
  unfold e2;rw[bt];have:=gD (λj=>(cG (ψ cs j)).contains p.1) (List.range cs.length);rw[hZ] at this;exact aJ this i
 exact qdn (k:=k) ω ε.1 ε.2 u.1 u.2 (mf 1 _▸n7.mp (Int.le_add_of_sub_right_le (gu.mp he))) (aJ h (gV z.symm)) (aJ (gV z) n)
theorem YT(ω:t<16)(ε:1<=s/\s<=4)(l:1<=v/\v<=4)(z:cs.length<=10)(cX:∀c∈cs,c∈eD)(V:Inv t s v cs hs Ξ)(a:jZ cs hs Ξ=[])(q:p∈Ξ) F:
 ∃F',bw (S (k+1)) 43 cc aA (fb (aM 15)) (eo X t s v cs hs Ξ p.1 F).Φ=some ((eo X t s v cs hs Ξ p.1 F').Φ,.next):=by
 obtain⟨T,e,y⟩:=(V.uq.ent p q).2;have f:fy T λg=>cnt (ψ cs) (ψ hs) cs.length p.1 (g:Nat):=y.congr λj _=>wi t s v cs hs p.1 j
 have r:(e2 cs hs p.1).length<=10:=by
  unfold e2;rw[bt];have:=gD (λj=>(cG (ψ cs j)).contains p.1) (List.range cs.length);rw[hZ] at this;exact aJ this z
 have n:=y.len;have u:=ti V.uq.nodup q;rw[e] at u;have Z:=RK (k+1) X t s v cs hs F u;have ag:=RL k X t s v cs hs V.len z cX Ξ p.1 ⟨ξ (.υ (a6 (128*dc t s v cs hs p.1 0))),ξ (.υ (a6 (128*dc t s v cs hs p.1 1))),ξ (.υ (a6 (128*dc t s v cs hs p.1 2))),ο (dc t s v cs hs p.1 3),ξ (tabI T),F.ix⟩
 have h:=RM k X t s v cs hs Ξ p.1 ⟨ξ (.υ (a6 (128*dc t s v cs hs p.1 0))),ξ (.υ (a6 (128*dc t s v cs hs p.1 1))),ξ (.υ (a6 (128*dc t s v cs hs p.1 2))),ο (dc t s v cs hs p.1 3),ξ (tabI T),F.ix⟩ y.1 (aJ n .d) (aJ r .d) (qcU V.len V.fF f) (Gx t s v cs hs p.1).symm (by
  rw[qcS f,Gx t s v];exact DX V.len V.fF t s v p.1)
 have bd:=λi (ρ:i<3)=>aJ (IM ω ε l V.len z V.fF p.1 ρ) (by decide:2560<=2^40);have x:=RN k X t s v cs hs Ξ p.1 ⟨ξ (.υ (a6 (128*dc t s v cs hs p.1 0))),ξ (.υ (a6 (128*dc t s v cs hs p.1 1))),ξ (.υ (a6 (128*dc t s v cs hs p.1 2))),ο (dc t s v cs hs p.1 3),ξ (tabI T),F.ix⟩ (aJ r .d) (bd 0 .d) (bd 1 .d) (bd 2 .d) (YS k t s v cs hs ω ε l z V a q);generalize a6 (128*dc t s v cs hs p.1 0)=x0 at*;generalize a6 (128*dc t s v cs hs p.1 1)=Y at*;generalize a6 (128*dc t s v cs hs p.1 2)=W at*;refine⟨⟨ξ (.υ x0),ξ (.υ Y),ξ (.υ W),ο (dc t s v cs hs p.1 3),ξ (tabI T),ξ (ak (e2 cs hs p.1))⟩,?_⟩;have U:fb (aM 15)=[kk 0,kk 1,kk 2,kk 3]:=.k;rw[U,bj Z,bj ag,bj h,bj x,eG]
theorem YR(ω:t<16)(ε:1<=s/\s<=4)(i:1<=v/\v<=4)(e:cs.length<=10)(cX:∀c∈cs,c∈eD)(V:Inv t s v cs hs Ξ)(u:jZ cs hs Ξ=[]):∀(l:List (Int×D)) F ln,(∀p∈l,p∈Ξ)->
 ∃F' f,ec aA (jf (aM 15)) (λz=>bw (S (k+1)) 43 cc aA (fb (aM 15)) z) (l.map λp=>D.int p.1) (ah.Φ ((eo X t s v cs hs Ξ 0 F).mQ ln))=some (ah.Φ ((eo X t s v cs hs Ξ 0 F').mQ f),.next):=by
 intro j
 induction j with
 |nil=>
  intro F ln γ;exact⟨F,ln,rfl⟩
 |cons p l y=>
  intro F ln h;obtain⟨fw,ag⟩:=YT k X t s v cs hs ω ε i e cX V u (h p bH) F;obtain⟨oj,ln2,g⟩:=y fw (ο p.1) λq r=>h q (b3 _ r);refine⟨oj,ln2,?_⟩;rw[bN,kU (σ1:=(eo X t s v cs hs Ξ p.1 F).Φ) (σ':=(eo X t s v cs hs Ξ p.1 fw).Φ) .k ag];exact g
theorem qeV(ω:t<16)(ε:1<=s/\s<=4)(q:1<=v/\v<=4)(j:cs.length<=10)(cX:∀c∈cs,c∈eD)(V:Inv t s v cs hs Ξ)(y:jZ cs hs Ξ=[]):
 ∃F' z,aK (S (k+1)) 44 cc aA (aM 15) (ah.Φ ((((((X.fC (ξ (ak cs))).eI (ξ (ak hs))).fY (bE (.aX Ξ))).j9 (ο (t:Nat))).ku (ο (s:Nat))).ky (ο (v:Nat))))=some (ah.Φ ((eo X t s v cs hs Ξ 0 F').mQ z),.next):=by
 obtain⟨F',z,e⟩:=YR k X t s v cs hs ω ε q j cX V y Ξ ⟨X.red,X.green,X.blue,X.number,X.table,X.mine⟩ X.line λp g=>g;refine⟨F',z,?_⟩;have ρ:dj (S (k+1)) (μ (S (k+1)) 43) aA (aO (aM 15)) (noOwn (ed (ah.Φ ((((((X.fC (ξ (ak cs))).eI (ξ (ak hs))).fY (bE (.aX Ξ))).j9 (ο (t:Nat))).ku (ο (s:Nat))).ky (ο (v:Nat)))) (aO (aM 15))))=some (Ξ.map λp=>D.int p.1):=nh (d:=.aX Ξ) .k .k rfl;have hf:ed (ah.Φ ((((((X.fC (ξ (ak cs))).eI (ξ (ak hs))).fY (bE (.aX Ξ))).j9 (ο (t:Nat))).ku (ο (s:Nat))).ky (ο (v:Nat)))) (aO (aM 15))=ah.Φ ((eo X t s v cs hs Ξ 0 ⟨X.red,X.green,X.blue,X.number,X.table,X.mine⟩).mQ X.line):=.k;refine(mA .k ρ .k).trans ?_;rw[hf];exact e
end
end Internal.e8
namespace Internal.e8.A
section
variable{α:Type}
noncomputable def i1(F:α->α->α):Option α->Option α->Option α
 |some a,some b=>some (F a b)
 |some a,none=>some a
 |none,o=>o
theorem qcC{F:α->α->α}{d:List (Int×α)}{g:Int->Option α}(h:gv d g)(k:Int)(v:α):gv (j8 F d k v) (λx=>if x=k then i1 F (g x) (some v) else g x):=by
 unfold j8;rw[h.2];cases z:g k with
 |none=>
  have:=vI h k v;refine⟨this.1,λx=>(this.2 x).trans ?_⟩;show(if x=k then some v else g x)=if x=k then i1 F (g x) (some v) else g x
  by_cases e:x=k
  ·rw[au e,au e,e,z];rfl
  ·rw[ar e,ar e]
 |some a=>
  have:=vI h k (F a v);refine⟨this.1,λx=>(this.2 x).trans ?_⟩;show(if x=k then some (F a v) else g x)=if x=k then i1 F (g x) (some v) else g x
  by_cases e:x=k
  ·rw[au e,au e,e,z];rfl
  ·rw[ar e,ar e]
theorem qcD{F:α->α->α}(l:List (Int×α)):∀(d:List (Int×α)) (g:Int->Option α),gv d g->(l.map (·.1)).Nodup->gv (l.foldl (λacc p=>j8 F acc p.1 p.2) d) (λx=>i1 F (g x) (l.lookup x)):=by
 induction l with
 |nil=>exact λd g h _=>⟨h.1,λx=>(h.2 x).trans (by show g x=i1 F (g x) none;cases g x<;>rfl)⟩
 |cons p r z=>
  intro d g h j;have y:=h2.mp j;have z:=z _ _ (qcC (F:=F) h p.1 p.2) y.2;refine⟨z.1,λx=>(z.2 x).trans ?_⟩;show i1 F (if x=p.1 then i1 F (g x) (some p.2) else g x) (r.lookup x)=i1 F (g x) ((p::r).lookup x);rw[fP]
  by_cases e:x=p.1
  ·rw[au e,show r.lookup x=none from Option.not_isSome_iff_eq_none.mp λζ=>y.1 (jT.mpr (show(r.lookup p.1).isSome=true from e▸ζ)),show(x==p.1)=true from h5.mpr e];cases g x<;>rfl
  ·rw[ar e,show(x==p.1)=false from gU.mpr e]
theorem B7{F:α->α->α}{a b:List (Int×α)}{f g:Int->Option α}(z:gv a f)(y:gv b g):gv (k7 F a b) (λx=>i1 F (f x) (g x)):=by
 unfold k7;rw[Hr a [] (by rw[ly];exact z.1),ly];have:=qcD (F:=F) b a f z y.1;exact⟨this.1,λx=>(this.2 x).trans (by show i1 F (f x) (b.lookup x)=_;rw[y.2])⟩
end
theorem Nj(a b:List (Int×Int)):merge a b=k7 (· +·) a b:=rfl
theorem Nk(a b:List (Int×ia)):qe a b=k7 (λo n=>lD n o) a b:=rfl
theorem B3(f:Int->D):∀(ao:List Int) (d:List (Int×D)),storeAll d (ao.map λp=>(p,f p))=ao.foldl (λd p=>fu d p (f p)) d:=by
 intro y
 induction y with
 |nil=>
  intro d;exact rfl
 |cons p ao z=>
  intro d;rw[bN,i6];unfold storeAll;exact z _
end Internal.e8.A
namespace Internal.e8
open A
def cm(cs hs:List Int)(x:Int):List Int:=((List.range cs.length).filter λj=>ψ cs j==x).map (ψ hs)
def hA(cs hs:List Int):List (Int×D):=oG (λx=>ak (cm cs hs x)) cs
def ih(fL:List (Int×Int))(g:Int):List Int:=(fL.filter λp=>p.2==g).map (·.1)
def bJ(fL:List (Int×Int))(g:Int):List (Int×Int):=ur (ih fL g)
theorem Gv cs hs x:(cm cs hs x).length<=cs.length:=by
 unfold cm;rw[bt];have:=gD (λj=>ψ cs j==x) (List.range cs.length);rwa [hZ] at this
theorem R' ao c:ur (ao++[c])=merge (ur ao) [(c,1)]:=by
 unfold ur;rw[List.foldl_append];rfl
theorem qcB fL c g j:bJ (fL++[(c,g)]) j=if g=j then merge (bJ fL j) [(c,1)] else bJ fL j:=by
 unfold bJ ih;rw[IB,kD]
 by_cases e:g=j
 ·rw[au e,<-R']
  congr 2
  rw[mm,au (by simpa using e)];rfl
 ·rw[ar e];have:[(c,g)].filter (λp:Int×Int=>p.2==j)=[]:=by rw[mm,ar (by simpa using e)];rfl
  rw[this,List.map_nil,nd]
theorem JX fL g:(ih fL g).length<=fL.length:=by
 unfold ih;rw[bt];exact gD _ _
theorem R_ ao:(ur ao).length<=ao.length:=by
 have h:=DQ ao;have:=qk (m:=ao) h.1 λx z=>by
  have:=jT.mp z;rw[h.2] at this;unfold jd at this
  by_cases e:x∈ao
  ·exact e
  ·rw[ar e] at this;exact dk this.symm
 rwa [bt] at this
theorem vH fL g:(bJ fL g).length<=fL.length:=aJ (R_ _) (JX fL g)
section
variable(k:Nat)(X:ah)(cs hs:List Int)
def i3(T:Int->List (Int×Int)):D:=.lst [tabI (T 0),tabI (T 1),tabI (T 2)]
def mF:Expr:=(bD (aM 16)).getD 1 aD
def oE:Expr:=iS mF
def Bx(x:Int):Γ:=[(".0",none),("call",ο x),("calls",ξ (ak cs)),("hues",ξ (ak hs))]
theorem TH(ζ:hs.length=cs.length)(u:cs.length<=10) x:μ (S k) 41 (bG mF).names oE (Bx cs hs x)=some (ak (cm cs hs x)):=by
 have y:μ (S k) 40 (bG mF).names (b1 (bg oE).iter) (Bx cs hs x)=some (.int (cs.length:Nat)):=(j5 (l:=cs.map .int) .k .k .k .k f').trans (by rw[bt])
 have ρ:dj (S k) (μ (S k) 40) (bG mF).names (bg oE).iter (Bx cs hs x)=some ((List.range cs.length).map λk=>D.int ((k:Nat):Int)):=
  dI (aa (a:=(Str.ofString "range",[b1 (bg oE).iter])) .k (aa (a:="range") .k (dI (wE rfl (aa (bW y eE) (aa (a:=[(cs.length:Int)]) rfl (dI (aa (a:=(cs.length:Int)) rfl (wE (cA x5) (by rw[BN]))))))))))
 have hle:=Gv cs hs x;unfold ak cm at*;rw[cP];refine fv (S:=S k) (n:=40) (K:=(bG mF).names) (elt:=cD oE) (g:=bg oE) (gs:=[]) (sc:=bG oE) .k .k ρ ?_ (by rw[bt] at*;lia);refine mJ (λk=>D.int ((k:Nat):Int)) _ _ λj z=>⟨[(".0",none),("k",ο (j:Nat)),("call",ο x),("calls",ξ (ak cs)),("hues",ξ (ak hs))],.k,?_,λ_=>hT (dq (a:=ak hs) (b:=.int (j:Nat)) .k .k .k .k (jM (by have:=ek.mp z;lia) .l))⟩;have q:=ek.mp z;rw[show(bg oE).ifs=[(bg oE).ifs.getD 0 aD] from .k];refine l' (e_ .k (fl (op:=.Eq) (a:=.int (ψ cs j)) (b:=.int x) .k (lZ rfl .k (dq (a:=ak cs) (b:=.int (j:Nat)) .k .k .k .k (jM q gA))) .k .k rfl))
theorem qeW(ζ:hs.length=cs.length)(q:cs.length<=10):aK (S k) 43 cc aA (aM 16) (ah.Φ ((X.fC (ξ (ak cs))).eI (ξ (ak hs))))=some (ah.Φ ((((X.fC (ξ (ak cs))).eI (ξ (ak hs))).l8 (bE (i3 λ_=>[]))).Eh (ξ (.aX (hA cs hs)))),.next):=by
 have z:μ (S k) 42 aA mF (ah.Φ ((X.fC (ξ (ak cs))).eI (ξ (ak hs))))=some (.aX (hA cs hs)):=by
  have h:=t6 (S:=S k) (n:=41) (K:=aA) (σ:=ah.Φ ((X.fC (ξ (ak cs))).eI (ξ (ak hs)))) (e:=mF) (k:=cD mF) (v:=oE) (g:=bg mF) (sc:=bG mF) (items:=cs.map .int) (out:=cs.map λx=>(x,ak (cm cs hs x))) .k .k .k ?_ f'
  ·rw[h,B3 (λx=>ak (cm cs hs x))];rfl
  ·rw[cP,show(bg mF).ifs=[] from .k];exact g0 D.int ((λp:Int×D=>D.tup [.int p.1,p.2])∘λx=>(x,ak (cm cs hs x))) λx u=>⟨Bx cs hs x,.k,uE .k (TH k cs hs ζ q x)⟩
 generalize D.aX (hA cs hs)=j at*;have y:gf (S k) 42 cc aA (ah.Φ ((X.fC (ξ (ak cs))).eI (ξ (ak hs)))) (cF (aM 16)) (bD (aM 16))=some [(Str.ofString "shares",.own (i3 λ_=>[])),(Str.ofString "due",.val j)]:=by
  have t1:cF (aM 16)=[(cF (aM 16)).getD 0 aD,(cF (aM 16)).getD 1 aD]:=.k;have bP:bD (aM 16)=[(bD (aM 16)).getD 0 aD,mF]:=.k;rw[t1];rw[bP];exact DI .k .k .k (hx .k .k z pK)
 rw[qZ .k .k .k y .k]
 kernel_rfl
abbrev Bc:Stmt:=d9 (fb (aM 17)) 0
theorem qbu(y:∀g,(T g).length<=1000) c (z:g∈b4):bw (S (k+1)) 41 cc aA (fb (aM 17)) (ah.Φ (((X.l8 (bE (i3 T))).gZ (ο c)).g8 (ο g)))=some (ah.Φ (((X.l8 (bE (i3 λj=>if g=j then merge (T j) [(c,1)] else T j))).gZ (ο c)).g8 (ο g)),.next):=by
 have κ:fn (k+1) "add_callers" [tabI (T g),tabI [(c,1)]]=some (tabI (merge (T g) [(c,1)])):=z5 k (T g) [(c,1)] (by have:=y g;rw[y5];lia)
 have e:μ (S (k+1)) 39 aA (aO Bc) (ah.Φ (((X.l8 (bE (i3 T))).gZ (ο c)).g8 (ο g)))=some (tabI (merge (T g) [(c,1)])):=
  ht (x:="add_callers") (ds:=[tabI (T g),tabI [(c,1)]]) (es:=[b1 (aO Bc),(bk (aO Bc)).getD 1 aD]) .k .k .k (bW (by rcases ir z with rfl|rfl|rfl<;>kernel_rfl) (bW (Qc .k .k .k) eE)) κ
 generalize u:tabI (merge (T g) [(c,1)])=x at e;have p:∃d',putAt (i3 T) (.int g) x=some d'/\d'=i3 λj=>if g=j then merge (T j) [(c,1)] else T j:=by
  rcases ir z with rfl|rfl|rfl<;>exact⟨_,rfl,by rw[<-u];rfl⟩
 obtain⟨d',ε,q⟩:=p;rw[show fb (aM 17)=[Bc] from .k,bj (ub (v:=x) (j:=.int g) (d:=i3 T) (d':=d') .k e .k .k ε),eG,<-q]
 kernel_rfl
theorem qbt:∀l done ca z,(∀p∈l,p.2∈b4)->done.length+l.length<=1000->
 ∃u y,ec aA (jf (aM 17)) (λf=>bw (S (k+1)) 41 cc aA (fb (aM 17)) f) (l.map tr) (ah.Φ (((X.l8 (bE (i3 (bJ done)))).gZ ca).g8 z))=some (ah.Φ (((X.l8 (bE (i3 (bJ (done++l))))).gZ u).g8 y),.next):=by
 intro t
 induction t with
 |nil=>
  intro done ca z γ γ;exact⟨ca,z,by rw[nd];rfl⟩
 |cons p l r=>
  intro done ca z h i;rw[dG] at i;obtain⟨u,y,e⟩:=r (done++[p]) (ο p.1) (ο p.2) (λq n=>h q (b3 _ n)) (by rw[eL,y5];lia);refine⟨u,y,?_⟩;have v:=qbu k X (T:=bJ done) (λg=>by have:=vH done g;lia) p.1 (h p bH);rw[show(λj=>if p.2=j then merge (bJ done j) [(p.1,1)] else bJ done j)=bJ (done++[p]) from funext λj=>(qcB done p.1 p.2 j).symm] at v;rw[bN,kU (σ1:=ah.Φ (((X.l8 (bE (i3 (bJ done)))).gZ (ο p.1)).g8 (ο p.2))) .k v,e,ml];rfl
theorem qeX(ζ:hs.length=cs.length)(j:cs.length<=10)(cS:∀h∈hs,h∈b4):∃ca z,aK (S (k+1)) 42 cc aA (aM 17) (ah.Φ (((X.fC (ξ (ak cs))).eI (ξ (ak hs))).l8 (bE (i3 λ_=>[]))))=some (ah.Φ (((((X.fC (ξ (ak cs))).eI (ξ (ak hs))).l8 (bE (i3 (bJ (cs.zip hs))))).gZ ca).g8 z),.next):=by
 obtain⟨ca,z,e⟩:=qbt k ((X.fC (ξ (ak cs))).eI (ξ (ak hs))) (cs.zip hs) [] X.call X.fF (λp y=>cS _ (v5 y).2) (by rw[mq,v8];lia);refine⟨ca,z,?_⟩;have ρ:dj (S (k+1)) (μ (S (k+1)) 41) aA (aO (aM 17)) (noOwn (ed (ah.Φ (((X.fC (ξ (ak cs))).eI (ξ (ak hs))).l8 (bE (i3 λ_=>[])))) (aO (aM 17))))=some ((cs.zip hs).map tr):=by
  rw[<-N3];exact I0 (a:=b1 (aO (aM 17))) (b:=(bk (aO (aM 17))).getD 1 aD) .k .k .k .k
 have hf:ed (ah.Φ (((X.fC (ξ (ak cs))).eI (ξ (ak hs))).l8 (bE (i3 λ_=>[])))) (aO (aM 17))=ah.Φ (((((X.fC (ξ (ak cs))).eI (ξ (ak hs))).l8 (bE (i3 (bJ [])))).gZ X.call).g8 X.fF):=.k;refine(mA .k ρ .k).trans ?_;rw[hf];exact e
end
open A
theorem qfj(ζ:hs.length=cs.length):cs.zip hs=(List.range cs.length).map λj=>(ψ cs j,ψ hs j):=by
 apply List.ext_getElem
 ·rw[mq,bt,hZ];lia
 ·intro i ε z;rw[mq] at ε;rw[List.getElem_zip,CQ,List.getElem_range,uj (show i<cs.length by lia),uj (show i<hs.length by lia)]
theorem JY(ζ:hs.length=cs.length) g:ih (cs.zip hs) g=((List.range cs.length).filter λj=>ψ hs j==g).map (ψ cs):=by
 unfold ih;rw[qfj ζ,List.filter_map,cP];rfl
def fe(cs hs:List Int)(x g:Int):Int:=((ih (cs.zip hs) g).count x:Nat)
theorem ve(ζ:hs.length=cs.length) x g:fe cs hs x g=cy (λk=>if ψ hs k==g then(if ψ cs k=x then 1 else 0) else 0) (List.range cs.length):=by
 unfold fe;rw[JY ζ,D5]
theorem vd cs hs x g:0<=fe cs hs x g:=m7 _
section
variable{cs hs:List Int}(ζ:hs.length=cs.length)(cS:∀h∈hs,h∈b4)
include ζ cS
theorem Ma(z:k∈List.range cs.length):ψ hs k=0∨ψ hs k=1∨ψ hs k=2:=ir (cS _ (j' (by have:=ek.mp z;omega)))
theorem Gw x:((cm cs hs x).length:Int)=fe cs hs x 0+fe cs hs x 1+fe cs hs x 2:=by
 rw[ve ζ,ve ζ,ve ζ,<-pg,<-pg];unfold cm;rw[bt,Bf];refine lj λk z=>?_;rcases Ma ζ cS z with e|e|e<;>rw[e]<;>by_cases q:ψ cs k=x<;>simp [q]
theorem qcx F h:∀r,((r.filter F).map h).sum=cy (λk=>if F k then h k else 0) r:=by
 intro y
 induction y with
 |nil=>
  exact rfl
 |cons a r z=>
  rw[mm,fh,<-z]
  by_cases e:F a
  ·rw[au e,au e,bN,f6]
  ·rw[ar e,ar e];lia
theorem Zl x:(cm cs hs x).sum=fe cs hs x 1+2*fe cs hs x 2:=by
 rw[ve ζ,ve ζ,Int.mul_comm 2,<-B5,<-pg];unfold cm;rw[qcx ζ cS];refine lj λk z=>?_;rcases Ma ζ cS z with e|e|e<;>rw[e]<;>by_cases q:ψ cs k=x<;>simp [q]
theorem Gu x g:(((cm cs hs x).count g:Nat):Int)=fe cs hs x g:=by
 rw[ve ζ];unfold cm;rw[D5];refine lj λk z=>?_
 by_cases q:ψ cs k=x<;>by_cases e:ψ hs k=g<;>simp [q,e]
theorem Zk x:∀h∈cm cs hs x,h∈b4:=by
 intro h bq;obtain⟨j,z,rfl⟩:=bV.mp bq;have:=ek.mp (gr.mp z).1;exact cS _ (j' .l)
theorem Np x:x∈cs↔fe cs hs x 0+fe cs hs x 1+fe cs hs x 2≠0:=by
 rw[<-Gw ζ cS];constructor
 ·intro h;obtain⟨j,z,e⟩:=y8 h;have:0<(cm cs hs x).length:=by
   unfold cm;rw[bt];refine Ig (a:=j) (gr.mpr ⟨ek.mpr z,?_⟩);rw[uj z,e];simp
  lia
 ·intro h;have:0<(cm cs hs x).length:=.l;unfold cm at this;rw[bt] at this;obtain⟨j,z⟩:=List.exists_mem_of_length_pos this;obtain⟨ε,q⟩:=gr.mp z;have y:=ek.mp ε;rw[<-eq_of_beq q];exact j' y
end
noncomputable def optN(n:Int):Option Int:=if n=0 then none else some n
theorem SF ao x:jd ao x=optN ((ao.count x:Nat):Int):=by
 unfold jd optN
 by_cases h:x∈ao
 ·have:=ID.mpr h;rw[au h,ar .l]
 ·have:=za.mpr h;rw[ar h,au .l]
theorem MI(y:0<=a)(j:0<=b):i1 (· +·) (optN a) (optN b)=optN (a+b):=by
 unfold optN
 by_cases ε:a=0
 ·rw[au ε,ε,mg];rfl
 ·rw[ar ε,ar (show¬a+b=0 by lia)]
  by_cases z:b=0
  ·rw[au z,z,h4];rfl
  ·rw[ar z];rfl
theorem qcL{d:List (Int×Int)}{g:Int->Option Int}(h:gv d g):gv (hn d) (λx=>(g x).map D.int):=B8 D.int h
theorem yP cs hs g:gv (bJ (cs.zip hs) g) (λx=>optN (fe cs hs x g)):=by
 have h:=DQ (ih (cs.zip hs) g);exact⟨h.1,λx=>(h.2 x).trans (SF _ x)⟩
def f5(cs hs:List Int):List Int:=(hA cs hs).map (·.1)
theorem u2 cs hs x:x∈f5 cs hs↔x∈cs:=by
 unfold f5 hA;rw[jT,(oH _ cs).2];show(if x∈cs then some (ak (cm cs hs x)) else none).isSome=true↔x∈cs
 by_cases h:x∈cs
 ·rw[au h];exact⟨λ_=>h,λ_=>rfl⟩
 ·rw[ar h];exact⟨λq=>dk q.symm,λq=>(h q).elim⟩
theorem Kt cs hs (h:x∈f5 cs hs):(hA cs hs).lookup x=some (ak (cm cs hs x)):=by
 have z:=(u2 cs hs x).mp h;unfold hA;exact((oH _ cs).2 x).trans (au z)
theorem Rj(ζ:hs.length=cs.length)(cS:∀h∈hs,h∈b4):
 gg 8 (tabI (merge (merge (bJ (cs.zip hs) 0) (bJ (cs.zip hs) 1)) (bJ (cs.zip hs) 2))) (.aX (oG (λx=>D.int ((cm cs hs x).length:Nat)) (f5 cs hs)))=some true:=by
 rw[Nj,Nj];have a:=qcL (B7 (F:=(· +·)) (B7 (F:=(· +·)) (yP cs hs 0) (yP cs hs 1)) (yP cs hs 2));have b:=oH (λx=>D.int ((cm cs hs x).length:Nat)) (f5 cs hs);refine HB a ⟨b.1,λx=>(b.2 x).trans ?_⟩ 7 λp u=>?_
 ·have g:=vd cs hs x 0;have y:=vd cs hs x 1;have j:=vd cs hs x 2;show(if x∈f5 cs hs then some (D.int ((cm cs hs x).length:Nat)) else none)=(i1 (· +·) (i1 (· +·) (optN (fe cs hs x 0)) (optN (fe cs hs x 1))) (optN (fe cs hs x 2))).map D.int;rw[MI g y,MI .l j];have hm:=Np ζ cS x;have z:=u2 cs hs x
  by_cases h:x∈cs
  ·rw[au (z.mpr h)];unfold optN;rw[ar (hm.mp h),Gw ζ cS];rfl
  ·rw[ar λq=>h (z.mp q)];unfold optN;rw[au (H8 λq=>h (hm.mpr q))];rfl
 ·obtain⟨q,_,e⟩:=bV.mp (show p∈(k7 (· +·) (k7 (· +·) (bJ (cs.zip hs) 0) (bJ (cs.zip hs) 1)) (bJ (cs.zip hs) 2)).map λp=>(p.1,D.int p.2) from u);rw[<-e];exact xe 6 q.2
end Internal.e8
namespace Internal
theorem Qm{K:Kinds}(he:eY e=some (Str.ofString "sorted",[b1 e]))(z:glob S K σ (Str.ofString "sorted")=some (.bi "sorted"))(h:operand (μ S n) K (b1 e) σ=some a)(y:uo "sorted" [a]=some d):μ S (n+1) K e σ=some d:=
 oK he (aa z (c5 rfl (c5 rfl (aa (a:=[a]) (aa h rfl) y))))
end Internal
namespace Internal.e8
open A
theorem SK{L:List Int}(g:L.Nodup):∀ao:List Int,(∀p∈ao,p∈L)->(L.map λl=>(((ao.count l:Nat)):Int)).sum=(ao.length:Nat):=by
 intro y
 induction y with
 |nil=>
  intro γ
  have:∀L:List Int,(L.map λl=>((([]:List Int).count l:Nat):Int)).sum=0:=λL=>by
   induction L with
   |nil=>rfl
   |cons l L j=>rw[bN,f6,j];rfl
  exact this L
 |cons p ao z=>
  intro h
  have e:(λl=>(((p::ao).count l:Nat):Int))=λl=>(if p=l then(1:Int) else 0)+((ao.count l:Nat):Int):=by
   funext l;rw[r8]
   by_cases q:p=l
   ·rw[au q,au (by simpa using q)];exact iI ((ao.count l:Nat):Int) 1
   ·rw[ar q,ar (by simpa using q)];exact(mg _).symm
  rw[e,O9,O_ p 1 L g (h p bH),z λq u=>h q (b3 _ u),dG];exact iI 1 _
theorem HA{cs hs:List Int}(cX:∀c∈cs,c∈eD) g:((bJ (cs.zip hs) g).map (·.2)).sum=((ih (cs.zip hs) g).length:Nat):=by
 have H:Tab (bJ (cs.zip hs) g) (jd (ih (cs.zip hs) g)):=DQ (ih (cs.zip hs) g);have y:∀p∈ih (cs.zip hs) g,p∈eD:=λp z=>by
  obtain⟨q,u,rfl⟩:=bV.mp z;exact cX _ (v5 (gr.mp u).1).1
 have ag:(bJ (cs.zip hs) g).map (·.2)=((bJ (cs.zip hs) g).map (·.1)).map (look (bJ (cs.zip hs) g)):=by
  rw[cP];refine m5 λp z=>?_;show p.2=((bJ (cs.zip hs) g).lookup p.1).getD 0;rw[Gj H.1 z];rfl
 have j:∀x,look (bJ (cs.zip hs) g) x=(((ih (cs.zip hs) g).count x:Nat):Int):=λx=>by
  unfold look;rw[show(bJ (cs.zip hs) g).lookup x=jd (ih (cs.zip hs) g) x from H.2 x,Kd]
 rw[ag,Hw (look (bJ (cs.zip hs) g)) H.1 (L:=eD) .d (λl ζ=>y l (by
  have:=jT.mp ζ;rw[show(bJ (cs.zip hs) g).lookup l=jd (ih (cs.zip hs) g) l from H.2 l] at this;unfold jd at this
  by_cases q:l∈ih (cs.zip hs) g
  ·exact q
  ·rw[ar q] at this;exact dk this.symm)) λl _ v=>by
   unfold look;cases h:(bJ (cs.zip hs) g).lookup l with
   |none=>rfl
   |some x=>exact(v (jT.mpr (by rw[h];rfl))).elim,show look (bJ (cs.zip hs) g)=_ from funext j]
 exact SK .d _ y
theorem DT(ζ:hs.length=cs.length) g:(((ih (cs.zip hs) g).length:Nat):Int)=cnt (ψ cs) (ψ hs) cs.length 15 g:=by
 rw[JY ζ,bt,Bf];unfold cnt;refine lj λk _=>?_;unfold inc;rw[au (show(15:Int)∈cG (ψ cs k) by simp [cG])]
 by_cases e:ψ hs k=g
 ·rw[au e,au (by simpa using e)]
 ·rw[ar e,ar (by simpa using e)]
theorem Su(ζ:hs.length=cs.length)(cS:∀h∈hs,h∈b4):cnt (ψ cs) (ψ hs) cs.length 15 0+cnt (ψ cs) (ψ hs) cs.length 15 1+cnt (ψ cs) (ψ hs) cs.length 15 2=cs.length:=by
 rw[DX ζ cS 0 0 0 15];unfold dc;have:cy (λk=>if(15:Int)∈cG (ψ cs k) then fz 0 0 0 (ψ hs k) 3 else 0) (List.range cs.length)=cy (λk=>if(true:Bool) then 1 else 0) (List.range cs.length):=lj λk _=>by
  rw[au (show(15:Int)∈cG (ψ cs k) by simp [cG])];rfl
 rw[this,<-Bf (λ_=>true),y_.mpr λ_ _=>rfl,hZ]
theorem x7(h:x<y):insI x (y::r)=x::y::r:=by
 show cond (decide (x<y)) (x::y::r) (y::insI x r)=_;rw[cA h];rfl
theorem x6(h:¬x<y):insI x (y::r)=y::insI x r:=by
 show cond (decide (x<y)) (x::y::r) (y::insI x r)=_;rw[gE h];rfl
theorem F2 x:insI x []=[x]:=rfl
theorem spread{a b c x y:Int}(he:max (max a b) c-min (min a b) c<=1)(j:x=a∨x=b∨x=c)(z:y=a∨y=b∨y=c):x<=1+y:=by
 refine kF ?_ (kF (Int.le_add_of_sub_right_le he) (Int.add_le_add_left ?_ 1))
 ·rcases j with rfl|rfl|rfl
  ·exact kF (Int.le_max_left ..) (Int.le_max_left ..)
  ·exact kF (Int.le_max_right ..) (Int.le_max_left ..)
  ·exact Int.le_max_right ..
 ·rcases z with rfl|rfl|rfl
  ·exact kF (Int.min_le_left ..) (Int.min_le_left ..)
  ·exact kF (Int.min_le_left ..) (Int.min_le_right ..)
  ·exact Int.min_le_right ..
theorem vK{x y z n:Int}(ε:x<=y)(q:y<=z)(j:z<=1+x)(e:x+y+z=n):[x,y,z]=[n/3,(n+1)/3,(n+2)/3]:=by
 have a:x=n/3:=.l;have b:y=(n+1)/3:=.l;have c:z=(n+2)/3:=.l;rw[<-a,<-b,<-c]
theorem qbJ{a b c n:Int}(hs:a+b+c=n)(he:max (max a b) c-min (min a b) c<=1):sortI [a,b,c]=[Int.fdiv n 3,Int.fdiv (n+1) 3,Int.fdiv (n+2) 3]:=by
 rw[y0 _ .d,y0 _ .d,y0 _ .d];show insI c (insI b [a])=_
 by_cases ε:b<a
 ·rw[x7 ε];have ε:=h3 ε
  by_cases y:c<b
  ·rw[x7 y];exact vK (h3 y) ε (spread he (.inl rfl) (.inr (.inr rfl))) (by rw[iI c,tQ,iI b];exact hs)
  ·rw[x6 y]
   by_cases z:c<a
   ·rw[x7 z];exact vK (gu.mp y) (h3 z) (spread he (.inl rfl) (.inr (.inl rfl))) (by rw[tQ,iI b];exact hs)
   ·rw[x6 z,F2];exact vK ε (gu.mp z) (spread he (.inr (.inr rfl)) (.inr (.inl rfl))) (by rw[iI b];exact hs)
 ·rw[x6 ε,F2];have ε:=gu.mp ε
  by_cases y:c<a
  ·rw[x7 y];exact vK (h3 y) ε (spread he (.inr (.inl rfl)) (.inr (.inr rfl))) (by rw[iI c,tQ];exact hs)
  ·rw[x6 y]
   by_cases z:c<b
   ·rw[x7 z];exact vK (gu.mp y) (h3 z) (spread he (.inr (.inl rfl)) (.inl rfl)) (by rw[tQ];exact hs)
   ·rw[x6 z,F2];exact vK ε (gu.mp z) (spread he (.inr (.inr rfl)) (.inl rfl)) hs
section
variable(k:Nat)(X:ah)(cs hs:List Int)
abbrev hF(T:Int->List (Int×Int)):ah:=(((X.fC (ξ (ak cs))).Eh (ξ (.aX (hA cs hs)))).l8 (bE (i3 T)))
def sD:Expr:=eZ (aO (aM 18))
def wH:Expr:=fE (aO (aM 18))
theorem TF(y:cs.length<=10) T:μ (S k) 38 aA sD (hF X cs hs T).Φ=some (.aX (oG (λx=>D.int ((cm cs hs x).length:Nat)) (f5 cs hs))):=by
 have j:(f5 cs hs).length<=10:=by
  have:=qk (m:=cs) (oH (λx=>ak (cm cs hs x)) cs).1 λx z=>(u2 cs hs x).mp z;exact aJ this y
 have h:=t6 (S:=S k) (n:=37) (K:=aA) (σ:=(hF X cs hs T).Φ) (e:=sD) (k:=cD sD) (v:=iS sD) (g:=bg sD) (sc:=bG sD) (items:=(f5 cs hs).map .int) (out:=(f5 cs hs).map λx=>(x,D.int ((cm cs hs x).length:Nat))) .k .k (nh (d:=.aX (hA cs hs)) .k .k (by unfold f5;rw[cP];rfl)) ?_ f'
 ·rw[h,B3 (λx=>D.int ((cm cs hs x).length:Nat))];rfl
 ·rewrite [cP,show(bg sD).ifs=[] from .k]
  refine g0 D.int ((λp:Int×D=>D.tup [.int p.1,p.2])∘λx=>(x,D.int ((cm cs hs x).length:Nat))) λx z=>⟨[(".0",none),("call",ο x),("due",ξ (.aX (hA cs hs)))],.k,uE .k ?_⟩;have ζ:=Gv cs hs x;exact(j5 (l:=(cm cs hs x).map .int) .k .k .k (cq .k (dq (a:=.aX (hA cs hs)) (b:=.int x) .k .k .k .k (Kt cs hs z))) (by rw[bt];lia)).trans (by rw[bt])
theorem qeY(ζ:hs.length=cs.length)(z:cs.length<=10)(cS:∀h∈hs,h∈b4):aK (S (k+1)) 41 cc aA (aM 18) (hF X cs hs (bJ (cs.zip hs))).Φ=some ((hF X cs hs (bJ (cs.zip hs))).Φ,.next):=by
 have g:(cs.zip hs).length<=10:=by rw[mq];exact aJ (n4 ..) z
 have u:=vH (cs.zip hs) 0;have bU:=vH (cs.zip hs) 1;have bR:=vH (cs.zip hs) 2;have lm:=Ni (· +·) (bJ (cs.zip hs) 0) (bJ (cs.zip hs) 1);have c1:=z5 k (bJ (cs.zip hs) 0) (bJ (cs.zip hs) 1) .l;have c2:=z5 k (merge (bJ (cs.zip hs) 0) (bJ (cs.zip hs) 1)) (bJ (cs.zip hs) 2) .l;have hd:=TF (k+1) X cs hs z (bJ (cs.zip hs));have y:=Rj ζ cS;generalize D.aX (oG (λx=>D.int ((cm cs hs x).length:Nat)) (f5 cs hs))=R at*;have q:μ (S (k+1)) 39 aA (aO (aM 18)) (hF X cs hs (bJ (cs.zip hs))).Φ=some (.bool false):=by
  generalize bJ (cs.zip hs)=T at*;have ag:μ (S (k+1)) 37 aA (b1 wH) (hF X cs hs T).Φ=some (tabI (merge (T 0) (T 1))):=ht (x:="add_callers") (es:=bk (b1 wH)) (ds:=[tabI (T 0),tabI (T 1)]) .k .k .k .k c1;have j:μ (S (k+1)) 38 aA wH (hF X cs hs T).Φ=some (tabI (merge (merge (T 0) (T 1)) (T 2))):=ht (x:="add_callers") (es:=[b1 wH,(bk wH).getD 1 aD]) (ds:=[tabI (merge (T 0) (T 1)),tabI (T 2)]) .k .k .k (bW ag (bW .k eE)) c2;exact fl (op:=.NotEq) .k (lZ rfl .k j) .k (cq .k hd) (ND y)
 rw[gG .k (e_ .k q)]
 kernel_rfl
def mU:Expr:=aO (aM 19)
def pa:Expr:=b1 (fE mU)
theorem qeZ(ζ:hs.length=cs.length)(f:cs.length<=10)(cX:∀c∈cs,c∈eD)(cS:∀h∈hs,h∈b4)(he:max (max (cnt (ψ cs) (ψ hs) cs.length 15 0) (cnt (ψ cs) (ψ hs) cs.length 15 1)) (cnt (ψ cs) (ψ hs) cs.length 15 2)-min (min (cnt (ψ cs) (ψ hs) cs.length 15 0) (cnt (ψ cs) (ψ hs) cs.length 15 1)) (cnt (ψ cs) (ψ hs) cs.length 15 2)<=1):
 aK (S (k+1)) 40 cc aA (aM 19) (hF X cs hs (bJ (cs.zip hs))).Φ=some ((hF X cs hs (bJ (cs.zip hs))).Φ,.next):=by
 have s0:=(HA (hs:=hs) cX 0).trans (DT ζ 0);have s1:=(HA (hs:=hs) cX 1).trans (DT ζ 1);have s2:=(HA (hs:=hs) cX 2).trans (DT ζ 2);have q:=qbJ (Su ζ cS) he;generalize cnt (ψ cs) (ψ hs) cs.length 15 0=a at*;generalize cnt (ψ cs) (ψ hs) cs.length 15 1=b at*;generalize cnt (ψ cs) (ψ hs) cs.length 15 2=c at*;have fp:=z9 k (bJ (cs.zip hs) 0);have c1:=z9 k (bJ (cs.zip hs) 1);have c2:=z9 k (bJ (cs.zip hs) 2);rw[s0] at fp;rw[s1] at c1;rw[s2] at c2
 have e:μ (S (k+1)) 38 aA mU (hF X cs hs (bJ (cs.zip hs))).Φ=some (.bool false):=by
  generalize bJ (cs.zip hs)=T at*;generalize p:(hF X cs hs T).Φ=σ;have ag:μ (S (k+1)) 36 aA pa σ=some (.lst ([(0:Int),1,2].map λg=>if g=0 then .int a else if g=1 then .int b else .int c)):=by
   refine fv (S:=S (k+1)) (n:=35) (K:=aA) (items:=([0,1,2]:List Int).map λg=>tabI (T g)) (elt:=cD pa) (g:=bg pa) (gs:=[]) (sc:=bG pa) .k .j (nh (d:=i3 T) .k .j rfl) ?_ (e5 rfl);rw[show(bg pa).ifs=[] from .k];refine g0 (λg=>tabI (T g)) (λg=>if g=0 then .int a else if g=1 then .int b else .int c) λg y=>⟨[(Str.ofString ".0",none),(Str.ofString "one",ξ (tabI (T g)))],by subst p;kernel_rfl,hT ?_⟩;simp only[cn,oc,sa] at y;rcases y with rfl|rfl|rfl
   ·exact ht (x:=Str.ofString "count_calls") (es:=bk (cD pa)) (ds:=[tabI (T 0)]) .k .k .k .k fp
   ·exact ht (x:=Str.ofString "count_calls") (es:=bk (cD pa)) (ds:=[tabI (T 1)]) .k .k .k .k c1
   ·exact ht (x:=Str.ofString "count_calls") (es:=bk (cD pa)) (ds:=[tabI (T 2)]) .k .k .k .k c2
  have u:μ (S (k+1)) 37 aA (fE mU) σ=some (ak [Int.fdiv cs.length 3,Int.fdiv (cs.length+1) 3,Int.fdiv (cs.length+2) 3]):=by
   rw[<-q];exact Qm .k .j (cq .k ag) rfl
  have z:∀i,i=0∨i=1∨i=2->μ (S (k+1)) 36 aA ((bk (eZ mU)).getD i aD) σ=some (.int (Int.fdiv (cs.length+(i:Nat)) 3)):=λi ρ=>by
   rcases ρ with rfl|rfl|rfl
   ·have bq:μ (S (k+1)) 35 aA (eC ((bk (eZ mU)).getD 0 aD)) σ=some (.int (cs.length:Nat)):=(j5 (l:=cs.map .int) .k .j .j .j f').trans (by rw[bt]);exact dp (op:=.FloorDiv) (a:=.int (cs.length:Nat)) (b:=.int 3) .k (cq .k bq) .k ((w2 .d .d).trans (by rw[show((cs.length:Nat):Int)+((0:Nat):Int)=cs.length from h4 _]))
   ·have bq:μ (S (k+1)) 34 aA (eC (eC ((bk (eZ mU)).getD 1 aD))) σ=some (.int (cs.length:Nat)):=(j5 (l:=cs.map .int) .k .j .j .j f').trans (by rw[bt]);exact dp (op:=.FloorDiv) (a:=.int ((cs.length:Nat)+1)) (b:=.int 3) .k (cq .k (Internal.hP .k (cq .k bq) .k)) .k (w2 .d .d)
   ·have bq:μ (S (k+1)) 34 aA (eC (eC ((bk (eZ mU)).getD 2 aD))) σ=some (.int (cs.length:Nat)):=(j5 (l:=cs.map .int) .k .j .j .j f').trans (by rw[bt]);exact dp (op:=.FloorDiv) (a:=.int ((cs.length:Nat)+2)) (b:=.int 3) .k (cq .k (Internal.hP .k (cq .k bq) .k)) .k (w2 .d .d)
  have v:μ (S (k+1)) 37 aA (eZ mU) σ=some (ak [Int.fdiv cs.length 3,Int.fdiv (cs.length+1) 3,Int.fdiv (cs.length+2) 3]):=C' .k (by
   rw[show bk (eZ mU)=[(bk (eZ mU)).getD 0 aD,(bk (eZ mU)).getD 1 aD,(bk (eZ mU)).getD 2 aD] from .k];have f0:=z 0 (.inl rfl);rw[show((cs.length:Nat):Int)+((0:Nat):Int)=cs.length from h4 _] at f0;exact bW f0 (bW (z 1 (.inr (.inl rfl))) (bW (z 2 (.inr (.inr rfl))) eE))) (e5 rfl)
  exact fl (op:=.NotEq) .k (lZ rfl .k u) .k (cq .k v) (Dc _)
 rw[gG .k (e_ .k e)]
 kernel_rfl
end
end Internal.e8
namespace Internal.e8
open A
theorem S3 s (x:Int):(x∈s/\step_dedup s x=s)∨(x∉s/\step_dedup s x=s++[x]):=by
 unfold step_dedup
 by_cases h:x∈s
 ·refine .inl ⟨h,au ?_⟩;exact qI.mpr ⟨x,h,by simp⟩
 ·refine .inr ⟨h,ar λq=>?_⟩;obtain⟨y,z,e⟩:=qI.mp q;exact h (eq_of_beq e▸z)
theorem S4:∀(r s:List Int),s.Nodup->(r.foldl step_dedup s).Nodup/\∀x,x∈r.foldl step_dedup s↔x∈s∨x∈r:=by
 intro v
 induction v with
 |nil=>
  intro s h;exact⟨h,λx=>by simp⟩
 |cons a r g=>
  intro s h;rw[i6];rcases S3 s a with⟨z,e⟩|⟨z,e⟩
  ·rw[e];obtain⟨ε,j⟩:=g s h;refine⟨ε,λx=>?_⟩;rw[j x,cn];exact⟨λq=>q.imp id .inr,λq=>q.elim .inl λq=>q.elim (λe=>.inl (e▸z)) .inr⟩
  ·rw[e];obtain⟨ε,j⟩:=g (s++[a]) (r4.mpr ⟨h,by simp,λy u b p e=>z (by rw[<-fj.mp p,<-e];exact u)⟩);refine⟨ε,λx=>?_⟩;rw[j x,fk,fj,cn];exact or_assoc
theorem qdW(y:∀x∈r,x∈b4):((unlike r:Nat):Int)=(if r.count 0=0 then 0 else 1)+(if r.count 1=0 then 0 else 1)+(if r.count 2=0 then 0 else 1):=by
 have j:(List.range r.length).map (λi=>r.getD i 0)=r:=by
  apply List.ext_getElem
  ·simp
  ·intro i ε z;rw[CQ,List.getElem_range,hJ,fi z];rfl
 have ag:unlike r=(r.foldl step_dedup []).length:=by unfold unlike firstMet;rw[j]
 obtain⟨ε,z⟩:=S4 r [] pn;have u:(r.foldl step_dedup []).Perm (b4.filter λg=>r.contains g):=(Cm ε ((by decide:b4.Nodup).filter _)).mpr λx=>by
  rw[z x,gr,iG];exact⟨λq=>q.elim (λq=>nomatch q) λq=>⟨y x q,q⟩,λq=>.inr q.2⟩
 rw[ag,u.length_eq];have κ:∀g,r.contains g= !decide (r.count g=0):=λg=>by
  by_cases h:g∈r
  ·have:=ID.mpr h;rw[iG.mpr h,gE .l];rfl
  ·rw[za.mpr h,cA rfl];exact vS λq=>h (iG.mp q)
 unfold b4;simp only[mm,List.filter_nil,κ]
 by_cases h0:r.count 0=0<;>by_cases ε:r.count 1=0<;>by_cases z:r.count 2=0<;>simp [h0,ε,z]
noncomputable def o_(n g x:Int):Option ia:=if n=0 then none else some (n,n*g,x)
def fM(T:List (Int×Int))(g:Int):List (Int×ia):=oG (λx=>(look T x,look T x*g,x)) (T.map (·.1))
theorem qcG(f:Int->ia):∀(ao:List Int) d,ao.foldl (λd p=>fu d p (t3 (f p))) (qy d)=qy (ao.foldl (λd p=>fu d p (f p)) d):=by
 intro y
 induction y with
 |nil=>
  intro d;exact rfl
 |cons p ao z=>
  intro d;rw[i6,i6,show fu (qy d) p (t3 (f p))=qy (fu d p (f p)) from qcH d p (f p)];exact z _
theorem qcI{d:List (Int×ia)}{g:Int->Option ia}(h:gv d g):gv (qy d) (λx=>(g x).map t3):=B8 t3 h
theorem G' cs hs g:gv (fM (bJ (cs.zip hs) g) g) (λx=>o_ (fe cs hs x g) g x):=by
 have h:=oH (λx=>((look (bJ (cs.zip hs) g) x,look (bJ (cs.zip hs) g) x*g,x):ia)) ((bJ (cs.zip hs) g).map (·.1));have T:=yP cs hs g;refine⟨h.1,λx=>(h.2 x).trans ?_⟩;show(if x∈(bJ (cs.zip hs) g).map (·.1) then some ((look (bJ (cs.zip hs) g) x,look (bJ (cs.zip hs) g) x*g,x):ia) else none)=o_ (fe cs hs x g) g x;have ζ:look (bJ (cs.zip hs) g) x=(optN (fe cs hs x g)).getD 0:=by unfold look;rw[T.2]
 have hm:x∈(bJ (cs.zip hs) g).map (·.1)↔(optN (fe cs hs x g)).isSome=true:=by rw[jT,T.2]
 unfold o_
 by_cases e:fe cs hs x g=0
 ·rw[au e,ar λq=>by
   have:=hm.mp q;unfold optN at this;rw[au e] at this;exact dk this.symm]
 ·have z:optN (fe cs hs x g)=some (fe cs hs x g):=ar e;rw[ar e,au (hm.mpr (by rw[z];rfl)),ζ,z];rfl
theorem Yn F (hU:F=λo n=>lD n o):i1 F (o_ a 0 x) (i1 F (o_ b 1 x) (o_ c 2 x))=if a=0/\b=0/\c=0 then none else some (a+b+c,b+2*c,x*((if a=0 then 0 else 1)+(if b=0 then 0 else 1)+(if c=0 then 0 else 1))):=by
 subst hU;unfold o_
 by_cases h0:a=0<;>by_cases ε:b=0<;>by_cases z:c=0<;>simp [h0,ε,z,i1,lD]<;>lia
theorem Ta v:gg 7 (t3 v) (t3 v)=some true:=by
 show ke (gg 6) [.int v.1,.int v.2.1,.int v.2.2] [.int v.1,.int v.2.1,.int v.2.2]=some true;exact Eu (x:=true) (y:=true) (xe 5 v.1) (Eu (x:=true) (y:=true) (xe 5 v.2.1) (Eu (x:=true) (y:=true) (xe 5 v.2.2) (rfl:ke (gg 6) [] []=some true)))
theorem DY{n:Nat}{z:Int}(h:(n:Int)=z):(if n=0 then(0:Int) else 1)=if z=0 then 0 else 1:=by
 subst h
 by_cases q:n=0
 ·rw[au q,au (CE.mpr q)]
 ·rw[ar q,ar λe=>q (CE.mp e)]
theorem qbb(ζ:hs.length=cs.length)(cS:∀h∈hs,h∈b4):
 gg 8 (l_ (qe (fM (bJ (cs.zip hs) 0) 0) (qe (fM (bJ (cs.zip hs) 1) 1) (fM (bJ (cs.zip hs) 2) 2)))) (.aX (oG (λx=>t3 ((cm cs hs x).length,(cm cs hs x).sum,x*(unlike (cm cs hs x):Nat))) (f5 cs hs)))=some true:=by
 rw[Nk,Nk];have a:=qcI (B7 (F:=λo n=>lD n o) (G' cs hs 0) (B7 (F:=λo n=>lD n o) (G' cs hs 1) (G' cs hs 2)));have b:=oH (λx=>t3 ((cm cs hs x).length,(cm cs hs x).sum,x*(unlike (cm cs hs x):Nat))) (f5 cs hs);refine HB a ⟨b.1,λx=>(b.2 x).trans ?_⟩ 7 λp j=>?_
 ·show(if x∈f5 cs hs then some (t3 ((cm cs hs x).length,(cm cs hs x).sum,x*(unlike (cm cs hs x):Nat))) else none)=(i1 (λo n=>lD n o) (o_ (fe cs hs x 0) 0 x) (i1 (λo n=>lD n o) (o_ (fe cs hs x 1) 1 x) (o_ (fe cs hs x 2) 2 x))).map t3;rw[Yn _ rfl];have v:=vd cs hs x 0;have g:=vd cs hs x 1;have u:=vd cs hs x 2;have hm:=Np ζ cS x;have y:=u2 cs hs x
  by_cases h:x∈cs
  ·have z:=hm.mp h;rw[au (y.mpr h),ar (λq=>z .l),Gw ζ cS,Zl ζ cS,qdW (Zk ζ cS x)];rw[DY (Gu ζ cS x 0),DY (Gu ζ cS x 1),DY (Gu ζ cS x 2)];rfl
  ·have z:fe cs hs x 0+fe cs hs x 1+fe cs hs x 2=0:=H8 λq=>h (hm.mpr q);rw[ar λq=>h (y.mp q),au ⟨by lia,by lia,by lia⟩];rfl
 ·obtain⟨q,_,e⟩:=bV.mp (show p∈(k7 (λo n=>lD n o) (fM (bJ (cs.zip hs) 0) 0) (k7 (λo n=>lD n o) (fM (bJ (cs.zip hs) 1) 1) (fM (bJ (cs.zip hs) 2) 2))).map λp=>(p.1,t3 p.2) from j);rw[<-e];exact Ta q.2
open A
section
variable(k:Nat)(X:ah)(cs hs:List Int)
def pM:Expr:=aO (aM 20)
def v20:Expr:=cD pM
def GW(T:List (Int×Int))(g:Int):Γ:=[(".0",none),("hue",ο g),("one",ξ (tabI T))]
def Bn(T:List (Int×Int))(g x:Int):Γ:=[(".0",none),("call",ο x),("hue",ο g),("one",ξ (tabI T))]
theorem qcN(z:x∈T.map (·.1)):index (tabI T) (.int x)=some (.int (look T x)):=by
 show(hn T).lookup x=_;rw[B9];have:=jT.mp z;unfold look;cases h:T.lookup x with
 |none=>rw[h] at this;exact dk this.symm
 |some y=>rfl
theorem TJ(u:T.length<=1000)(j:∀x,(look T x).natAbs<2^40) g:μ (S k) 37 (bG pM).names v20 (GW T g)=some (l_ (fM T g)):=by
 have h:=t6 (S:=S k) (n:=36) (K:=(bG pM).names) (σ:=GW T g) (e:=v20) (k:=cD v20) (v:=iS v20) (g:=bg v20) (sc:=bG v20) (items:=(T.map (·.1)).map .int) (out:=(T.map (·.1)).map λx=>(x,t3 (look T x,look T x*g,x))) .k .k (nh (d:=tabI T) .k .k (by
  show some ((hn T).map λp=>D.int p.1)=_;unfold hn;rw[cP,cP];rfl)) ?_ (by rw[bt,bt];lia)
 ·rw[h,B3 (λx=>t3 (look T x,look T x*g,x)),show([]:List (Int×D))=qy [] from rfl,qcG (λx=>(look T x,look T x*g,x))];rfl
 ·rw[show(bg v20).ifs=[] from .k,show(((T.map (·.1)).map λx=>(x,t3 (look T x,look T x*g,x))).map λp:Int×D=>D.tup [.int p.1,p.2])=(T.map (·.1)).map λx=>D.tup [.int x,t3 (look T x,look T x*g,x)] from cP];refine g0 (l:=T.map (·.1)) D.int (λx=>D.tup [.int x,t3 (look T x,look T x*g,x)]) λx q=>⟨Bn T g x,.k,uE .k ?_⟩;have ρ:=qcN q;have y:μ (S k) 35 (bG v20).names ((bk (iS v20)).getD 0 aD) (Bn T g x)=some (.int (look T x)):=dq (a:=tabI T) (b:=.int x) .k .k .k .k ρ;have ag:μ (S k) 34 (bG v20).names (eC ((bk (iS v20)).getD 1 aD)) (Bn T g x)=some (.int (look T x)):=dq (a:=tabI T) (b:=.int x) .k .k .k .k ρ;have z:μ (S k) 35 (bG v20).names ((bk (iS v20)).getD 1 aD) (Bn T g x)=some (.int (look T x*g)):=k9 .k (cq .k ag) .k (by have:=j x;lia);refine ng (ds:=[.int (look T x),.int (look T x*g),.int x]) .k ?_ (e5 rfl);rw[show bk (iS v20)=[(bk (iS v20)).getD 0 aD,(bk (iS v20)).getD 1 aD,(bk (iS v20)).getD 2 aD] from .k];exact bW y (bW z (bW .k eE))
def qq(T:Int->List (Int×Int)):D:=.lst (([0,1,2]:List Int).map λg=>l_ (fM (T g) g))
theorem qfc(z:∀g,(T g).length<=1000)(y:∀g x,(look (T g) x).natAbs<2^40):aK (S k) 39 cc aA (aM 20) (hF X cs hs T).Φ=some (ah.Φ ((hF X cs hs T).rQ (ξ (qq T))),.next):=by
 have e:μ (S k) 38 aA pM (hF X cs hs T).Φ=some (qq T):=by
  refine fv (S:=S k) (n:=37) (K:=aA) (items:=([0,1,2]:List Int).map λg=>D.tup [.int g,tabI (T g)]) (elt:=cD pM) (g:=bg pM) (gs:=[]) (sc:=bG pM) .k .k ((zE (x:=b1 (bg pM).iter) (l:=[tabI (T 0),tabI (T 1),tabI (T 2)]) .k .k .k (e5 rfl)).trans rfl) ?_ (e5 rfl);rw[show(bg pM).ifs=[] from .k];exact g0 (l:=([0,1,2]:List Int)) (λg=>D.tup [.int g,tabI (T g)]) (λg=>l_ (fM (T g) g)) λg j=>⟨GW (T g) g,.k,hT (TJ k (z g) (y g) g)⟩
 generalize qq T=x at*;rw[fB .k .k e]
 kernel_rfl
def Ob:Expr:=aO (aM 21)
def lL:Expr:=eZ Ob
def wI:Expr:=fE Ob
def rG(z:D)(x:Int):Γ:=[(".0",none),("call",ο x),("due",ξ z)]
def tg(i:Nat):Expr:=(bk (iS lL)).getD i aD
theorem TG(f:cs.length<=10)(cX:∀c∈cs,c∈eD) T r:μ (S k) 36 aA lL (ah.Φ ((hF X cs hs T).rQ (ξ r))).freeze=some (.aX (oG (λx=>t3 ((cm cs hs x).length,(cm cs hs x).sum,x*(unlike (cm cs hs x):Nat))) (f5 cs hs))):=by
 have t:(f5 cs hs).length<=10:=by
  have:=qk (m:=cs) (oH (λx=>ak (cm cs hs x)) cs).1 λx z=>(u2 cs hs x).mp z;exact aJ this f
 have h:=t6 (S:=S k) (n:=35) (K:=aA) (σ:=(ah.Φ ((hF X cs hs T).rQ (ξ r))).freeze) (e:=lL) (k:=cD lL) (v:=iS lL) (g:=bg lL) (sc:=bG lL) (items:=(f5 cs hs).map .int) (out:=(f5 cs hs).map λx=>(x,t3 ((cm cs hs x).length,(cm cs hs x).sum,x*(unlike (cm cs hs x):Nat)))) .k .k (nh (d:=.aX (hA cs hs)) .k .k (by unfold f5;rw[cP];rfl)) ?_ f'
 ·rw[h,B3 (λx=>t3 ((cm cs hs x).length,(cm cs hs x).sum,x*(unlike (cm cs hs x):Nat)))];rfl
 ·rewrite [cP,show(bg lL).ifs=[] from .k]
  refine g0 D.int ((λp:Int×D=>D.tup [.int p.1,p.2])∘λx=>(x,t3 ((cm cs hs x).length,(cm cs hs x).sum,x*(unlike (cm cs hs x):Nat)))) λx z=>⟨rG (.aX (hA cs hs)) x,.k,uE .k ?_⟩;have ζ:=Gv cs hs x;have ρ:=Kt cs hs z;have y:x.natAbs<2^64:=by
   exact cU (er.mp (show eD.all (λx=>decide (x.natAbs<2^64))=true by decide) x (cX x ((u2 cs hs x).mp z)))
  have u:μ (S k) 34 (bG lL).names (tg 0) (rG (.aX (hA cs hs)) x)=some (.int ((cm cs hs x).length:Nat)):=(j5 (l:=(cm cs hs x).map .int) .k .k .k (cq .k (dq (a:=.aX (hA cs hs)) (b:=.int x) .k .k .k .k ρ)) (by rw[bt];lia)).trans (by rw[bt]);have ag:μ (S k) 34 (bG lL).names (tg 1) (rG (.aX (hA cs hs)) x)=some (.int (cm cs hs x).sum):=Dd (l:=(cm cs hs x).map .int) .k .k (cq .k (dq (a:=.aX (hA cs hs)) (b:=.int x) .k .k .k .k ρ)) (by rw[bt];lia) (ry _);have j:μ (S k) 33 (bG lL).names (eu (tg 2)) (rG (.aX (hA cs hs)) x)=some (.int (unlike (cm cs hs x):Nat)):=Ql (l:=(cm cs hs x).map .int) .k .k .k (cq .k (dq (a:=.aX (hA cs hs)) (b:=.int x) .k .k .k .k ρ)) (by rw[bt];lia) (ry _);have q:μ (S k) 34 (bG lL).names (tg 2) (rG (.aX (hA cs hs)) x)=some (.int (x*(unlike (cm cs hs x):Nat))):=k9 .k .k (cq .k j) y;refine ng (ds:=[.int ((cm cs hs x).length:Nat),.int (cm cs hs x).sum,.int (x*(unlike (cm cs hs x):Nat))]) .k ?_ (e5 rfl);rw[show bk (iS lL)=[tg 0,tg 1,tg 2] from .k];exact bW u (bW ag (bW q eE))
theorem qaH T g:(fM T g).length<=T.length:=by
 have h:=oH (λx=>((look T x,look T x*g,x):ia)) (T.map (·.1));have:=qk (m:=T.map (·.1)) h.1 λx z=>by
  have:=jT.mp z;rw[h.2] at this
  by_cases q:x∈T.map (·.1)
  ·exact q
  ·simp only[ar q] at this;exact dk this.symm
 unfold fM
 simpa using this
theorem qfd(ζ:hs.length=cs.length)(z:cs.length<=10)(cX:∀c∈cs,c∈eD)(cS:∀h∈hs,h∈b4):aK (S (k+1)) 38 cc aA (aM 21) (ah.Φ ((hF X cs hs (bJ (cs.zip hs))).rQ (ξ (qq (bJ (cs.zip hs))))))=some (ah.Φ ((hF X cs hs (bJ (cs.zip hs))).rQ (ξ (qq (bJ (cs.zip hs))))),.ret (.bool true)):=by
 have v:(cs.zip hs).length<=10:=by rw[mq];exact aJ (n4 ..) z
 have b:=λg=>aJ (qaH (bJ (cs.zip hs) g) g) (vH (cs.zip hs) g);have u:=b 0;have p:=b 1;have q:=b 2;have bm:=Ni (λo n=>lD n o) (fM (bJ (cs.zip hs) 1) 1) (fM (bJ (cs.zip hs) 2) 2);have c1:=J0 k (fM (bJ (cs.zip hs) 1) 1) (fM (bJ (cs.zip hs) 2) 2) .l;have c2:=J0 k (fM (bJ (cs.zip hs) 0) 0) (qe (fM (bJ (cs.zip hs) 1) 1) (fM (bJ (cs.zip hs) 2) 2)) .l;have hd:=TG (k+1) X cs hs z cX (bJ (cs.zip hs)) (qq (bJ (cs.zip hs)));have y:=qbb ζ cS;generalize D.aX (oG (λx=>t3 ((cm cs hs x).length,(cm cs hs x).sum,x*(unlike (cm cs hs x):Nat))) (f5 cs hs))=R at*;refine wG .k ?_;generalize bJ (cs.zip hs)=T at*;have ag:μ (S (k+1)) 35 aA ((bk wI).getD 1 aD) (ah.Φ ((hF X cs hs T).rQ (ξ (qq T)))).freeze=some (l_ (qe (fM (T 1) 1) (fM (T 2) 2))):=ht (x:="add_callers") (es:=bk ((bk wI).getD 1 aD)) (ds:=[l_ (fM (T 1) 1),l_ (fM (T 2) 2)]) .k .k .k .k c1;have j:μ (S (k+1)) 36 aA wI (ah.Φ ((hF X cs hs T).rQ (ξ (qq T)))).freeze=some (l_ (qe (fM (T 0) 0) (qe (fM (T 1) 1) (fM (T 2) 2)))):=ht (x:="add_callers") (es:=[b1 wI,(bk wI).getD 1 aD]) (ds:=[l_ (fM (T 0) 0),l_ (qe (fM (T 1) 1) (fM (T 2) 2))]) .k .k .k (bW .k (bW ag eE)) c2;exact fl (op:=.Eq) .k (lZ rfl .k j) .k (cq .k hd) y
end
open A
theorem hB{S:dH}{O:List Str}{K:Kinds}{st:Stmt}{r:List Stmt}(h:aK S n O K st σ=some (σ1,.next))(q:σ1=od):bw S (n+1) O K (st::r) σ=bw S n O K r od:=(bj h).trans (bp _ q)
def Pn:List Stmt:=[aM 14,aM 15,aM 16,aM 17,aM 18,aM 19,aM 20,aM 21]
abbrev nZ(Z:ah)(t s v:Nat):ah:=(((Z.j9 (ο (t:Nat))).ku (ο (s:Nat))).ky (ο (v:Nat)))
theorem Wo(Q:ns.length<=63):∃(Z:ah) (t s v:Nat) (cs hs:List Int) (Ξ:List (Int×D)),t<16/\(1<=s/\s<=4)/\(1<=v/\v<=4)/\5<=cs.length/\cs.length<=10/\(∀c∈cs,c∈eD)/\Inv t s v cs hs Ξ/\
 bw (S 4) 60 cc aA (lJ "law") (ah.Φ (ah.nil.hX (ξ (ak ns))))=bw (S 4) 46 cc aA Pn (ej (nZ Z t s v) t s v cs hs Ξ ⟨none,none,none,none⟩).Φ:=by
 have s0:=z_0 4 (ah.nil.hX (ξ (ak ns)));obtain⟨l,ζ,p,q,s1⟩:=z_1 4 ah.nil (l:=[3,30,7,56,13,33,59,30,19,14570]) Q rfl;have s2:=z_2 4 (((ah.nil.hX (ξ (ak ns))).hH p).hi q) ζ;have s3:=z_3 4 (((((ah.nil.hX (ξ (ak ns))).hH p).hi q).fK (bE (ak l))).hp (ο l.sum));obtain⟨dr,hd,P,j,s4⟩:=z_4 4 (((((ah.nil.hX (ξ (ak ns))).hH p).hi q).hp (ο l.sum)).js (ξ ho)) ζ;obtain⟨a,b,c,Y,s5⟩:=z_5 4 ((((((ah.nil.hX (ξ (ak ns))).hH p).hi q).fK (bE (ak l))).js (ξ ho)).gJ (ξ (gy dr))) l.sum;have nI:sh [a,b,c]:=⟨a,b,c,rfl,Y⟩;obtain⟨t,s,v,ω,ε,e,_,h⟩:=z_6 4 (((((((ah.nil.hX (ξ (ak ns))).hH p).hi q).fK (bE (ak l))).js (ξ ho)).gJ (ξ (gy dr))).iA (ξ (ak [a,b,c]))) l.sum;have x:=z_7 3 (((((((ah.nil.hX (ξ (ak ns))).hH p).hi q).fK (bE (ak l))).js (ξ ho)).gJ (ξ (gy dr))).iA (ξ (ak [a,b,c]))) l.sum ω ε e;generalize l.sum=W at*;generalize [a,b,c]=sg at*;have n:=z_8 3 (((((((((ah.nil.hX (ξ (ak ns))).hH p).hi q).fK (bE (ak l))).hp (ο W)).j9 (ο (t:Nat))).ku (ο (s:Nat))).ky (ο (v:Nat))).iv (ξ (hc t s v))) nI hd j;have T:=z_9 4 ((((((((((ah.nil.hX (ξ (ak ns))).hH p).hi q).fK (bE (ak l))).hp (ο W)).js (ξ ho)).j9 (ο (t:Nat))).ku (ο (s:Nat))).ky (ο (v:Nat))).iv (ξ (hc t s v))) nI hd j;have hlen:(fO sg dr++[0]).length<=1000:=by rw[eL,HF,y5];lia
 obtain⟨z,V⟩:=qeM 3 ((((((((((((ah.nil.hX (ξ (ak ns))).hH p).hi q).fK (bE (ak l))).hp (ο W)).js (ξ ho)).gJ (ξ (gy dr))).iA (ξ (ak sg))).j9 (ο (t:Nat))).ku (ο (s:Nat))).ky (ο (v:Nat))).iv (ξ (hc t s v))) hlen;generalize ak (fO sg dr++[0])=dm at*;have U:=qeP 4 (((((((((((((ah.nil.hX (ξ (ak ns))).hH p).hi q).fK (bE (ak l))).hp (ο W)).js (ξ ho)).iA (ξ (ak sg))).j9 (ο (t:Nat))).ku (ο (s:Nat))).ky (ο (v:Nat))).iv (ξ (hc t s v))).jY (ξ dm)).nY z) hd j;have y:(p3 dr).length=(nA dr).length:=by unfold p3 nA;rw[bt,bt]
 have r:(nA dr).length=dr.length:=by unfold nA;rw[bt]
 have cX:=Sg hd;have cS:=Wj hd;generalize nA dr=cs at*;generalize p3 dr=hs at*;obtain⟨Ξ,B,R,ca,f,g⟩:=qeQ 1 (((((((((((((ah.nil.hX (ξ (ak ns))).hH p).hi q).fK (bE (ak l))).hp (ο W)).js (ξ ho)).gJ (ξ (gy dr))).iA (ξ (ak sg))).j9 (ο (t:Nat))).ku (ο (s:Nat))).ky (ο (v:Nat))).jY (ξ dm)).nY z) t s v ω ε e y .l cX cS;have B':eN Ξ (dc t s v cs hs):=B.congr λl i=>Qp t s v y l i;have u:=qes 3 ((((((((((((((((((ah.nil.hX (ξ (ak ns))).hH p).hi q).fK (bE (ak l))).hp (ο W)).js (ξ ho)).gJ (ξ (gy dr))).iA (ξ (ak sg))).j9 (ο (t:Nat))).ku (ο (s:Nat))).ky (ο (v:Nat))).jY (ξ dm)).nY z).iv (ξ (hc t s v))).fC (ξ (ak cs))).eI (ξ (ak hs))).gZ ca).g8 f) t s v .l B';refine⟨((((((((((((ah.nil.hX (ξ (ak ns))).hH p).hi q).fK (bE (ak l))).hp (ο W)).js (ξ ho)).gJ (ξ (gy dr))).iA (ξ (ak sg))).jY (ξ dm)).nY z).gZ ca).g8 f),t,s,v,cs,hs,Ξ,ω,ε,e,by lia,by lia,cX,⟨y,cS,B',R⟩,?_⟩;rw[YI];exact(hB s0 .k).trans ((hB s1 .k).trans ((hB s2 .k).trans ((hB s3 .k).trans ((hB s4 .k).trans ((hB s5 .k).trans ((hB h .k).trans ((hB x .k).trans ((hB n .k).trans ((hB T .k).trans ((hB V .k).trans ((hB U .k).trans ((hB g .k).trans (hB u .k)))))))))))))
theorem UA(V:Inv t s v cs hs Ξ)(y:jZ cs hs Ξ=[])(f:5<=cs.length):max (max (cnt (ψ cs) (ψ hs) cs.length 15 0) (cnt (ψ cs) (ψ hs) cs.length 15 1)) (cnt (ψ cs) (ψ hs) cs.length 15 2)-min (min (cnt (ψ cs) (ψ hs) cs.length 15 0) (cnt (ψ cs) (ψ hs) cs.length 15 1)) (cnt (ψ cs) (ψ hs) cs.length 15 2)<=1:=by
 have u:(15:Int)∈Ξ.map (·.1):=(V.keys 15).mpr ⟨ψ cs 0,j' .l,by simp [cG]⟩;obtain⟨p,g,e⟩:=bV.mp u;have j:qp cs hs p.1∈d_ cs hs Ξ:=bV.mpr ⟨p,g,rfl⟩;have z:¬ll (qp cs hs p.1)=true:=λq=>by
  have:qp cs hs p.1∈jZ cs hs Ξ:=gr.mpr ⟨j,q⟩;rw[y] at this;exact nomatch this
 rw[show p.1=15 from e] at z;refine gu.mp λq=>z (cA ?_);rw[xo,xn];exact q
theorem Wq Z (ω:t<16) (ε:1<=s/\s<=4) (Y:1<=v/\v<=4) (U:5<=cs.length) (q:cs.length<=10) (cX:∀c∈cs,c∈eD) (V:Inv t s v cs hs Ξ):
 ∃σ,bw (S 4) 46 cc aA Pn (ej (nZ Z t s v) t s v cs hs Ξ ⟨none,none,none,none⟩).Φ=some (σ,.ret (.bool true)):=by
 obtain⟨z,y,F',j,a,e⟩:=qeU 1 (nZ Z t s v) t s v cs ω ε Y q cX V ⟨none,none,none,none⟩;obtain⟨u,ln,f⟩:=qeV 3 (ej (nZ Z t s v) t s v cs z y F') t s v cs z ω ε Y q cX j a;have r:=qeW 4 ((eo (ej (nZ Z t s v) t s v cs z y F') t s v cs z y 0 u).mQ ln) cs z j.len q;obtain⟨ca,p,l⟩:=qeX 3 (((eo (ej (nZ Z t s v) t s v cs z y F') t s v cs z y 0 u).mQ ln).Eh (ξ (.aX (hA cs z)))) cs z j.len q j.fF;have i:=qeY 3 ((((eo (ej (nZ Z t s v) t s v cs z y F') t s v cs z y 0 u).mQ ln).gZ ca).g8 p) cs z j.len q j.fF;have pa:=qeZ 3 ((((eo (ej (nZ Z t s v) t s v cs z y F') t s v cs z y 0 u).mQ ln).gZ ca).g8 p) cs z j.len q cX j.fF (UA j a U);have W:(cs.zip z).length<=10:=by rw[mq];have:=j.len;lia
 have n:=qfc 4 ((((eo (ej (nZ Z t s v) t s v cs z y F') t s v cs z y 0 u).mQ ln).gZ ca).g8 p) cs z (T:=bJ (cs.zip z)) (λg=>by have:=vH (cs.zip z) g;lia) (λg x=>by
  have ζ:look (bJ (cs.zip z) g) x=(optN (fe cs z x g)).getD 0:=by unfold look;rw[(yP cs z g).2]
  have Q:(ih (cs.zip z) g).count x<=10:=aJ List.count_le_length (aJ (JX _ _) W);rw[ζ];unfold optN fe;split
  ·decide
  ·show((((ih (cs.zip z) g).count x:Nat):Int)).natAbs<2^40;lia)
 have h:=qfd 3 ((((eo (ej (nZ Z t s v) t s v cs z y F') t s v cs z y 0 u).mQ ln).gZ ca).g8 p) cs z j.len q cX j.fF;refine⟨ah.Φ ((hF ((((eo (ej (nZ Z t s v) t s v cs z y F') t s v cs z y 0 u).mQ ln).gZ ca).g8 p) cs z (bJ (cs.zip z))).rQ (ξ (qq (bJ (cs.zip z))))),?_⟩;exact(hB e .k).trans ((hB f .k).trans ((hB r .k).trans ((hB l .k).trans ((hB i .k).trans ((hB pa .k).trans ((hB n .k).trans (mH h)))))))
theorem qc:I3:=by
 intro ns u;have y:fn 5 "law" [.lst (ns.map .int)]=(bw (S 4) 60 cc aA (lJ "law") (ah.Φ (ah.nil.hX (ξ (ak ns))))).bind λr=>jX r.2:=.k;obtain⟨Z,t,s,v,cs,hs,Ξ,ω,ε,g,j,q,cX,V,ag⟩:=Wo u;obtain⟨σ,z⟩:=Wq Z ω ε g j q cX V;rw[y,ag,z];rfl
end Internal.e8
set_option tactic.hygienic true
namespace Internal.e8
theorem Oe:fns.map (λx=>((recsOf view).find? (λe=>e.name==x)).map (λd=>(recOk d,Eg d)))=fns.map (λx=>(defs.lookup x).map (λD=>(true,D))):=.k
theorem binds:fns.map (λx=>((recsOf view).find? (λe=>e.name==x)).map λd=>DP d.params)=fns.map (λx=>(defs.lookup x).map λD=>fL D.2.1):=.k
theorem Kf:fns.all (λx=>(defs.lookup x).isSome)=true:=by decide+kernel
theorem qdi:(toks.map (·.1)).Nodup:=NL (by decide+kernel)
abbrev Dh:List Str:=looseW view [Str.ofString "EXACT_TOKEN_TYPES"]
theorem Vz:z3.all (λn=>uI view Dh (Str.ofString n))=true:=by decide+kernel
theorem VA:tys.all (λn=>uI view Dh (Str.ofString n))=true:=by decide+kernel
theorem Sa:z3.map (λn=>bootBuiltins (Str.ofString n))=z3.map (λn=>some (Value.builtin n)):=.k
theorem Sb:tys.map (λn=>bootBuiltins (Str.ofString n))=tys.map (λn=>some (Value.type n)):=.k
theorem Z2:G.all (λp=> !(p.1==("__debug__" :Str)))=true:=by decide+kernel
theorem qaN:(raw.map λq=>(q.1,q.2.2.1))=toks:=by decide+kernel
theorem KV P (l:List (Str×PySem.Tok×Int×PySem.Tok)):(l.map (GB P)).map Aq=l:=by
 induction l with
 |nil=>rfl
 |cons x r z=>exact bp (_::·) z
section
variable{prog:Program}{jS:ExcName->Option Value}{c0 bM:Str->Option Value}{w:World}{s:Shared}{K:Frag}
theorem Pl(j:Bz K=Cg w.params):TabsOk view K TT where
 uK:=λq g=>by
  have h:some q∈fns.map (λx=>tabIn K x):=by rw[show fns.map (λx=>tabIn K x)=TT.map some from bp Prod.fst j];exact pw g
  obtain⟨x,y,e⟩:=bV.mp h;have ε:=r2.mp Oe x y;have z:=er.mp Kf x y;cases hd:(recsOf view).find? (λe=>e.name==x) with
  |none=>
   rw[hd] at ε;cases ζ:defs.lookup x with
   |none=>rw[ζ] at z;cases z
   |some D=>rw[ζ] at ε;cases ε
  |some d=>exact⟨x,d,hd,e⟩
 one:=by decide+kernel
theorem V6(y:Top view Dh jS c0 bM s.heap)(X:K.In s.heap)(j:Bz K=Cg w.params):∀p∈G,qR (je prog w s c0 bM TT) defs p.1 p.2/\(p.1==("__debug__" :Str))=false:=by
 intro p z;refine⟨?_,by have:=er.mp Z2 p z;simpa using this⟩;unfold G at z;rw[fk,fk,fk] at z;rcases z with((z|z)|z)|z
 ·obtain⟨x,u,rfl⟩:=bV.mp z;have ε:=r2.mp Oe x u;have l:=er.mp Kf x u;obtain⟨D,r⟩:=Option.isSome_iff_exists.mp l;have v:tabIn K x∈TT.map some:=by rw[<-show fns.map (λx=>tabIn K x)=TT.map some from bp Prod.fst j];exact pw (f:=λx=>tabIn K x) u
  obtain⟨q,t,e⟩:=bV.mp v;exact VR y X (Pl j) r ε (r2.mp binds x u) e.symm t
 ·simp only[cn,oc,sa] at z;rcases z with rfl|rfl|rfl
  ·exact Lc y X (bp (·.2.1) j)
  ·exact Lc y X (bp (·.2.2.1) j)
  ·exact VU y X (bp (·.2.2.2.1) j) (by rw[KV]) (by rw[KV];exact qaN) qdi .d
 ·obtain⟨n,g,rfl⟩:=bV.mp z;exact VP y (er.mp Vz n g) (r2.mp Sa n g)
 ·obtain⟨n,g,rfl⟩:=bV.mp z;exact VW y (er.mp VA n g) (r2.mp Sb n g)
end
theorem YG:∃(names:Kinds) (body:List Stmt),defs.lookup (Str.ofString "law")=some (names,[Str.ofString "script"],body)/\names.lookup (Str.ofString "script")=some NameKind.local:=
 ⟨((defs.lookup (Str.ofString "law")).getD ([],[],[])).1,((defs.lookup (Str.ofString "law")).getD ([],[],[])).2.2,.k,.k⟩
def MT:DefRec:=((defOf view "law").get .k).1
theorem YH:MT.name=Str.ofString "law" :=.k
theorem Hi:PySem.Challenge.rw_xh0028_01.wellSaid=true:=by rw[Fast.te9446332074065402090];kernel_rfl
theorem VB:(chainsOk view&&opensWell PySem.Challenge.rw_xh0028_01.row.prog&&(frees PySem.Challenge.rw_xh0028_01.row.toRowW&&PySem.Challenge.rw_xh0028_01.row.within.isEmpty))=true:=.k
theorem holds_of(H:I3):PySem.Challenge.rw_xh0028_01.Holds:=by
 refine holds_law Hi λHi=>?_;refine holds_open (q:=view) (loose:=loose) (Xt:=Xt) (XP:=XL view []) (Yf:=hook.obs) (Ya:=hook.val) (YP:=hook.says) (d:=MT) (kwd:=[]) (N:=4070) left hook.of hook.keeps (λs e=>xl_of s (j0.mp e).1) XL.keeps .k .k .k (λs e=>recFacts_of (j0.mp e).2) .k Hi VB ⟨rfl,rfl,rfl,rfl,rfl,by decide+kernel⟩ ?hw ?κ
 case hw=>w_witness2
 intro w qfx av c0 bM t Y fa o pm cd doc qfp rz R hd xC f_ u P args vals as U Z Q W h;obtain⟨K,g,z⟩:=Y;refine Ground.open t ?_;intro T B D TE TW;clear R hd xC f_ B D TE TW
 wrow_args U Z Q W h
 rename_i ns xX xM r xU mL I L l vs O A j dN y oS C lS kf;clear xX xM r xU mL j y C kf;have hlen:ns.length<=63:=by
  have:¬((63:Int)<(ns.length:Int)):=lS;omega
 have φ:av.heap.PlainList l vs.toArray:=by
  cases dN with
  |list ε p=>
   obtain⟨o,ag,ax,n,E⟩:=A;rw[ε] at ag;cases ag;cases E;exact⟨_,ε⟩
 obtain⟨names,body,f,rl⟩:=YG;rw[YH] at u;refine b8 (YJ (K:=K) (V:=view) (T:=TT) (jv:=G) (own:=own) (defs:=defs) (N:=10000) (lvl:=4) T g (Pl z) ⟨0,bp (·.2.2.2.2) z⟩ P (V6 T g z) u (List.mem_of_getElem? (i:=15) .k) f rl .d φ oS (H ns hlen) _) (λv s' ⟨e,ε,p,F⟩=>?_) λγ γ x=>x;subst e;refine⟨.inl ⟨_,.bool true,[],rfl,λγ=>rfl,.bool true,?_,λγ=>⟨pn,λa Ψ=>nomatch Ψ⟩⟩,ε,p,F⟩
 with_unfolding_all rfl
end Internal.e8
set_option tactic.hygienic false
theorem PySem.Challenge.cw_xh0028_01_holds : PySem.Challenge.rw_xh0028_01.Holds :=
 Internal.e8.holds_of Internal.e8.qc
