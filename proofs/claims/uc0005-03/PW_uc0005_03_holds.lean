import PyProof.Rows.All
import Wide.All
import OpenK.AllK
import Wide.FinOn
import PySem.Challenge.RW_uc0005_03
set_option Elab.async false
set_option linter.all false
set_option maxRecDepth 1000000
set_option genSizeOf false
set_option genInjectivity false
open PySem PySem.W PyProof.Rows PySem.Calls PyProof
namespace Mine.Internal
theorem al_0:type_of% @Option.some.inj:=@Option.some.inj
theorem af:type_of% @if_pos:=@if_pos
theorem ag:type_of% @if_neg:=@if_neg
theorem aq:type_of% @congrArg:=@congrArg
theorem lB:type_of% @Heap.get?_none_of_le:=@Heap.get?_none_of_le
theorem bS:type_of% @Nat.le_refl:=@Nat.le_refl
theorem eP:type_of% @Heap.get?_push_of_some:=@Heap.get?_push_of_some
theorem jt:type_of% @Bool.and_eq_true:=@Bool.and_eq_true
theorem oi:type_of% @decide_eq_true_eq:=@decide_eq_true_eq
theorem eO:type_of% @Heap.get?_push_size:=@Heap.get?_push_size
theorem bX:type_of% @List.append_assoc:=@List.append_assoc
theorem lq:type_of% @Array.toList_append:=@Array.toList_append
theorem cY:type_of% @decide_eq_false:=@decide_eq_false
theorem cP:type_of% @Int.ofNat_le:=@Int.ofNat_le
theorem ai:type_of% @Nat.le_trans:=@Nat.le_trans
theorem bj:type_of% @Option.map_eq_some_iff:=@Option.map_eq_some_iff
theorem aM:type_of% @List.mem_cons:=@List.mem_cons
theorem gA:type_of% @Int.lt_of_le_of_lt:=@Int.lt_of_le_of_lt
theorem cX:type_of% @List.getElem?_eq_some_iff:=@List.getElem?_eq_some_iff
theorem cF:type_of% @Int.natCast_nonneg:=@Int.natCast_nonneg
theorem i8:type_of% @Nat.lt_of_lt_of_le:=@Nat.lt_of_lt_of_le
theorem bK:type_of% @beq_eq_false_iff_ne:=@beq_eq_false_iff_ne
theorem jV:type_of% @Bool.false_eq_true:=@Bool.false_eq_true
theorem eI:type_of% @Int.lt_of_lt_of_le:=@Int.lt_of_lt_of_le
theorem bc:type_of% @List.map_cons:=@List.map_cons
theorem lm:type_of% @Array.getElem?_toList:=@Array.getElem?_toList
theorem nO:type_of% @Option.isNone_iff_eq_none:=@Option.isNone_iff_eq_none
theorem aB:type_of% @eq_of_beq:=@eq_of_beq
theorem cE:type_of% @List.getElem?_eq_getElem:=@List.getElem?_eq_getElem
theorem dw:type_of% @List.mem_of_getElem?:=@List.mem_of_getElem?
theorem bh:type_of% @wpAny_Name:=@wpAny_Name
theorem az:type_of% @wpAny_pure:=@wpAny_pure
theorem aj:type_of% @wpAny_bind:=@wpAny_bind
theorem bA:type_of% @List.getElem?_map:=@List.getElem?_map
theorem ll:type_of% @List.length_reverse:=@List.length_reverse
theorem jU:type_of% @List.getElem?_set_self:=@List.getElem?_set_self
theorem fz:type_of% @List.getElem?_set_ne:=@List.getElem?_set_ne
theorem gz:type_of% @List.length_set:=@List.length_set
theorem fy:type_of% @List.nodup_cons:=@List.nodup_cons
theorem lj:type_of% @List.mem_map_of_mem:=@List.mem_map_of_mem
theorem nN:type_of% @Option.isSome_iff_exists:=@Option.isSome_iff_exists
theorem fY:type_of% @List.mem_filter:=@List.mem_filter
theorem aC:type_of% @List.length_map:=@List.length_map
theorem eH:type_of% @List.mem_map:=@List.mem_map
theorem dI:type_of% @List.map_map:=@List.map_map
theorem fx:type_of% @List.mem_singleton:=@List.mem_singleton
theorem cO:type_of% @Nat.zero_le:=@Nat.zero_le
theorem bQ:type_of% @List.append_nil:=@List.append_nil
theorem dr:type_of% @Nat.lt_succ_self:=@Nat.lt_succ_self
theorem aG:type_of% @List.length_append:=@List.length_append
theorem i7:type_of% @Nat.le_add_right:=@Nat.le_add_right
theorem fw:type_of% @spliced_nil:=@spliced_nil
theorem dH:type_of% @spliced_cons:=@spliced_cons
theorem fX:type_of% @evalArgs_plain:=@evalArgs_plain
theorem iV:type_of% @Nat.lt_of_le_of_lt:=@Nat.lt_of_le_of_lt
theorem fF:type_of% @Nat.add_le_add_right:=@Nat.add_le_add_right
theorem eS:type_of% @wpAny_Call_NameR:=@wpAny_Call_NameR
theorem iU:type_of% @callWith_function:=@callWith_function
theorem iS:type_of% @callWith_builtin:=@callWith_builtin
theorem fv:type_of% @Int.zero_add:=@Int.zero_add
theorem eG:type_of% @wpAny_execs_nil:=@wpAny_execs_nil
theorem aF:type_of% @wpAny_execs_cons:=@wpAny_execs_cons
theorem dL:type_of% @wpAny_with_toks:=@wpAny_with_toks
theorem fW:type_of% @wpAny_Assign_Name:=@wpAny_Assign_Name
theorem bP:type_of% @Nat.le_of_lt:=@Nat.le_of_lt
theorem lh:type_of% @Int.eq_ofNat_of_zero_le:=@Int.eq_ofNat_of_zero_le
theorem cM:type_of% @List.not_mem_nil:=@List.not_mem_nil
theorem fV:type_of% @Int.pow_add:=@Int.pow_add
theorem fE:type_of% @Int.mul_assoc:=@Int.mul_assoc
theorem bL:type_of% @Int.mul_comm:=@Int.mul_comm
theorem fU:type_of% @Int.pow_pos:=@Int.pow_pos
theorem cC:type_of% @Int.mul_le_mul_of_nonneg_left:=@Int.mul_le_mul_of_nonneg_left
theorem ay:type_of% @Int.le_of_lt:=@Int.le_of_lt
theorem bJ:type_of% @Int.mul_nonneg:=@Int.mul_nonneg
theorem eF:type_of% @Int.emod_nonneg:=@Int.emod_nonneg
theorem bW:type_of% @Int.ne_of_gt:=@Int.ne_of_gt
theorem eE:type_of% @Int.emod_lt_of_pos:=@Int.emod_lt_of_pos
theorem i6:type_of% @Int.emod_add_mul_ediv:=@Int.emod_add_mul_ediv
theorem lg:type_of% @Int.fdiv_eq_ediv_of_nonneg:=@Int.fdiv_eq_ediv_of_nonneg
theorem dp:type_of% @decide_eq_true:=@decide_eq_true
theorem nI:type_of% @Nat.add_sub_cancel_left:=@Nat.add_sub_cancel_left
theorem aY:type_of% @Int.le_trans:=@Int.le_trans
theorem i0:type_of% @Nat.pow_le_pow_right:=@Nat.pow_le_pow_right
theorem jT:type_of% @Int.ediv_lt_of_lt_mul:=@Int.ediv_lt_of_lt_mul
theorem fu:type_of% @beq_self_eq_true:=@beq_self_eq_true
theorem ld:type_of% @List.length_replicate:=@List.length_replicate
theorem hU:type_of% @List.map_append:=@List.map_append
theorem bU:type_of% @Int.one_mul:=@Int.one_mul
theorem eD:type_of% @Int.mul_le_mul_of_nonneg_right:=@Int.mul_le_mul_of_nonneg_right
theorem bg:type_of% @Nat.lt_of_sub_eq_succ:=@Nat.lt_of_sub_eq_succ
theorem ft:type_of% @Int.le_refl:=@Int.le_refl
theorem nH:type_of% @List.getD_eq_getElem?_getD:=@List.getD_eq_getElem?_getD
theorem jS:type_of% @List.flatMap_cons:=@List.flatMap_cons
set_option tactic.hygienic false
section
inductive Ex2{α β:Type}(p:α->β->Prop):Prop
 |mk (xx0:α) (xx1:β) (zz:p xx0 xx1):Ex2 p
inductive Ex3{α β γ:Type}(p:α->β->γ->Prop):Prop
 |mk (xx0:α) (xx1:β) (xx2:γ) (zz:p xx0 xx1 xx2):Ex3 p
inductive Ex4{α β γ δ:Type}(p:α->β->γ->δ->Prop):Prop
 |mk (xx0:α) (xx1:β) (xx2:γ) (xx3:δ) (zz:p xx0 xx1 xx2 xx3):Ex4 p
inductive Ex5{α β γ δ ε:Type}(p:α->β->γ->δ->ε->Prop):Prop
 |mk (xx0:α) (xx1:β) (xx2:γ) (xx3:δ) (xx4:ε) (zz:p xx0 xx1 xx2 xx3 xx4):Ex5 p
inductive Ex6{α β γ δ ε ζ:Type}(p:α->β->γ->δ->ε->ζ->Prop):Prop
 |mk (xx0:α) (xx1:β) (xx2:γ) (xx3:δ) (xx4:ε) (xx5:ζ) (zz:p xx0 xx1 xx2 xx3 xx4 xx5):Ex6 p
inductive Ex7{α β γ δ ε ζ η:Type}(p:α->β->γ->δ->ε->ζ->η->Prop):Prop
 |mk (xx0:α) (xx1:β) (xx2:γ) (xx3:δ) (xx4:ε) (xx5:ζ) (xx6:η) (zz:p xx0 xx1 xx2 xx3 xx4 xx5 xx6):Ex7 p
inductive Ex8{α β γ δ ε ζ η θ:Type}(p:α->β->γ->δ->ε->ζ->η->θ->Prop):Prop
 |mk (xx0:α) (xx1:β) (xx2:γ) (xx3:δ) (xx4:ε) (xx5:ζ) (xx6:η) (xx7:θ) (zz:p xx0 xx1 xx2 xx3 xx4 xx5 xx6 xx7):Ex8 p
inductive G8{α β γ δ ε ζ η θ ι κ ξ:Type}(p:α->β->γ->δ->ε->ζ->η->θ->ι->κ->ξ->Prop):Prop
 |mk (xx0:α) (xx1:β) (xx2:γ) (xx3:δ) (xx4:ε) (xx5:ζ) (xx6:η) (xx7:θ) (xx8:ι) (xx9:κ) (xx10:ξ) (zz:p xx0 xx1 xx2 xx3 xx4 xx5 xx6 xx7 xx8 xx9 xx10):G8 p
inductive dD(a b c:Prop):Prop
 |mk (zz0:a) (zz1:b) (zz2:c):dD a b c
inductive gx(a b c d:Prop):Prop
 |mk (zz0:a) (zz1:b) (zz2:c) (zz3:d):gx a b c d
inductive jX(a b c d e:Prop):Prop
 |mk (zz0:a) (zz1:b) (zz2:c) (zz3:d) (zz4:e):jX a b c d e
theorem byG{P:Prop}(h:∀G:Prop,(P->G)->G):P:=h P id
set_option genCtorIdx false in
inductive V where
 |none
 |bool (b:Bool)
 |int (i:Int)
 |str (s:List Nat)
 |tup (l:List V)
 |lst (l:List V)
 deriving Inhabited
noncomputable def V.ctorIdx(x:V):Nat:=@V.casesOn (fun U=>Nat) x 0 (fun U=>1) (fun U=>2) (fun U=>3) (fun U=>4) (fun U=>5)
section
variable{α β:Type}{P:β->Prop}{y:β}
@[elab_as_elim] theorem bnd{o:Option α}{f:α->Option β}(h:o.bind f=some y)(k:∀a,o=some a->f a=some y->P y):P y:=by
 cases o with
 |none=>exact nomatch h
 |some a=>exact k a rfl h
@[elab_as_elim] theorem mpi{o:Option α}{f:α->β}(h:o.map f=some y)(k:∀a,o=some a->P (f a)):P y:=by
 cases o with
 |none=>exact nomatch h
 |some a=>exact al_0 h▸k a rfl
@[elab_as_elim] theorem eli{o:Option α}{n:Option β}{f:α->Option β}(h:o.elim n f=some y)(k1:n=some y->P y)(k2:∀a,o=some a->f a=some y->P y):P y:=by
 cases o with
 |none=>exact k1 h
 |some a=>exact k2 a rfl h
@[elab_as_elim] theorem sme{z:β}(h:some z=some y)(k:P z):P y:=al_0 h▸k
theorem nn{y:α}{p:Prop}(h:(none:Option α)=some y):p:=nomatch h
@[elab_as_elim] theorem bci{b:Bool}{o1 o2:Option β}(h:(bif b then o1 else o2)=some y)(k1:b=true->o1=some y->P y)(k2:o2=some y->P y):P y:=by
 cases b with
 |false=>exact k2 h
 |true=>exact k1 rfl h
@[elab_as_elim] theorem bcb{b:Bool}{o1 o2:Option β}(h:(bif b then o1 else o2)=some y)(k1:b=true->o1=some y->P y)(k2:b=false->o2=some y->P y):P y:=by
 cases b with
 |false=>exact k2 rfl h
 |true=>exact k1 rfl h
@[elab_as_elim] theorem ifi{p:Prop}[Decidable p]{o:Option β}(h:(if p then o else none)=some y)(k:p->o=some y->P y):P y:=
 dite p (fun q=>k q ((af q).symm.trans h)) fun q=>nn ((ag q).symm.trans h)
@[elab_as_elim] theorem ifs{p:Prop}[Decidable p]{z:β}(h:(if p then some z else none)=some y)(k:p->P z):P y:=
 ifi h fun q h=>sme h (k q)
end
noncomputable def gd{α:Type}(b:Bool)(o:Option α):Option α:=bif b then o else none
noncomputable def one{α:Type}:List α->Option α
 |[a]=>some a
 |_=>none
noncomputable def two{α:Type}:List α->Option (α×α)
 |[a,b]=>some (a,b)
 |_=>none
section
variable{α β:Type}{P:β->Prop}{y:β}
@[elab_as_elim] theorem gdi{b:Bool}{o:Option β}(h:gd b o=some y)(k:b=true->o=some y->P y):P y:=by
 cases b with
 |false=>exact nomatch h
 |true=>exact k rfl h
@[elab_as_elim] theorem gds{b:Bool}{z:β}(h:gd b (some z)=some y)(k:b=true->P z):P y:=by
 cases b with
 |false=>exact nomatch h
 |true=>exact al_0 h▸k rfl
end
theorem aa{α β:Type}{M:Prop}{y:β}{o:Option α}{f:α->Option β}(h:o.bind f=some y)(k:∀a,o=some a->f a=some y->M):M:=bnd (P:=fun U=>M) h k
theorem eN{β:Type}{M:Prop}{y:β}{b:Bool}{o:Option β}(h:gd b o=some y)(k:b=true->o=some y->M):M:=gdi (P:=fun U=>M) h k
section
variable{P:Nat->Prop}{t:Nat}
theorem ltS{n:Nat}(h:t<n+1)(hn:P n)(hl:t<n->P t):P t:=(Nat.lt_or_eq_of_le (Nat.le_of_lt_succ h)).elim hl fun e=>e▸hn
@[elab_as_elim] theorem lt1(ht:t<1)(h0:P 0):P t:=ltS ht h0 fun h=>absurd h (Nat.not_lt_zero _)
@[elab_as_elim] theorem lt2(ht:t<2)(h0:P 0)(h1:P 1):P t:=ltS ht h1 fun h=>lt1 h h0
@[elab_as_elim] theorem lt3(ht:t<3)(h0:P 0)(h1:P 1)(h2:P 2):P t:=ltS ht h2 fun h=>lt2 h h0 h1
@[elab_as_elim] theorem lt4(ht:t<4)(h0:P 0)(h1:P 1)(h2:P 2)(h3:P 3):P t:=ltS ht h3 fun h=>lt3 h h0 h1 h2
@[elab_as_elim] theorem lt5(ht:t<5)(h0:P 0)(h1:P 1)(h2:P 2)(h3:P 3)(h4:P 4):P t:=ltS ht h4 fun h=>lt4 h h0 h1 h2 h3
@[elab_as_elim] theorem wc(ht:t<5)(t2:2<=t)(h2:P 2)(h3:P 3)(h4:P 4):P t:=ltS ht h4 fun h=>ltS h h3 fun h=>ltS h h2 fun h=>absurd h (Nat.not_lt.mpr t2)
@[elab_as_elim] theorem Gv(ht:t<5)(t3:t≠3)(h0:P 0)(h1:P 1)(h2:P 2)(h4:P 4):P t:=ltS ht h4 fun h=>lt3 (Nat.lt_of_le_of_ne (Nat.le_of_lt_succ h) t3) h0 h1 h2
end
section
variable{α:Type}{P:List α->Prop}{l:List α}
@[elab_as_elim] theorem lnS{n:Nat}(h:l.length=n+1)(k:∀a t,t.length=n->P (a::t)):P l:=by
 cases l with
 |nil=>cases h
 |cons a t=>exact k a t (Nat.succ.inj h)
@[elab_as_elim] theorem ln0(h:l.length=0)(k:P []):P l:=List.length_eq_zero_iff.mp h▸k
end
theorem aX{α:Type}{l:List α}{a:α}(h:one l=some a):l=[a]:=by
 cases l with
 |nil=>exact nn h
 |cons b l=>
  cases l with
  |nil=>exact al_0 h▸rfl
  |cons c l=>exact nn h
theorem iZ{α:Type}{l:List α}{a:α×α}(h:two l=some a):l=[a.1,a.2]:=by
 cases l with
 |nil=>exact nn h
 |cons b l=>
  cases l with
  |nil=>exact nn h
  |cons c l=>
   cases l with
   |nil=>exact al_0 h▸rfl
   |cons c l=>exact nn h
theorem fc{α:Type}{l:List α}(h:l.isEmpty=true):l=[]:=List.isEmpty_iff.mp h
theorem aT{a b:Bool}(h:(a&&b)=true):a=true/\b=true:=Bool.and_eq_true_iff.mp h
theorem mK{a:Bool}(h:(!a)=true):a=false:=by
 cases a with
 |false=>rfl
 |true=>cases h
noncomputable def eC:V->Option (List V)
 |.lst l=>some l
 |_=>none
noncomputable def fD:V->Option Int
 |.int i=>some i
 |_=>none
noncomputable def rJ:V->Option (List V)
 |.tup l=>some l
 |_=>none
noncomputable def lc:V->Option (List Nat)
 |.str l=>some l
 |_=>none
theorem Gh{n k:Nat}(h:k<n):(n:Int)-1-k=((n-1-k:Nat):Int):=(Int.sub_sub _ _ _).trans ((Int.natCast_sub (Nat.add_comm 1 k▸h)).symm.trans (aq Nat.cast (Nat.sub_sub n 1 k).symm))
theorem AR{a b:List V}(h:V.lst a=.lst b):a=b:=by cases h;rfl
theorem dF{v:V}{l:List V}(h:eC v=some l):v=.lst l:=by cases v<;>first | exact nn h | exact aq V.lst (al_0 h)
theorem dN{v:V}{i:Int}(h:fD v=some i):v=.int i:=by cases v<;>first | exact nn h | exact aq V.int (al_0 h)
theorem tY{v:V}{l:List V}(h:rJ v=some l):v=.tup l:=by cases v<;>first | exact nn h | exact aq V.tup (al_0 h)
theorem j9{v:V}{l:List Nat}(h:lc v=some l):v=.str l:=by cases v<;>first | exact nn h | exact aq V.str (al_0 h)
structure Wp where
 prog:Program
 w:World
 T:List Addr
 TI:Heap->Prop
 h0:Heap
 mg:Str->Option Value
 mb:Str->Option Value
 fs:Around->Env->Prop:=fun U U=>True
noncomputable abbrev Wp.M(W:Wp):Model:=model W.prog W.w
noncomputable def cz(o:Obj):Prop:=Ex3 fun vs q t=>o.data=.fields vs/\vs[1]?=some (.str q t)
theorem aV{o:Obj}{vs:Array Value}(h:o.data=.fields vs)(e:∀q t,vs[1]?≠some (.str q t)):¬cz o:=fun w=>by
 obtain⟨vs',q,t,h',e'⟩:=w;rw[h]at h';cases h';exact e q t e'
noncomputable def lZ:List Str:=["len", "sum", "max", "min", "sorted", "divmod", "chr", "ord", "range", "enumerate", "reversed", "iter", "next", "StopIteration", "ZeroDivisionError"]
structure WF(W:Wp):Prop where
 g:W.h0.Ns mainGlobals W.mg
 gT:mainGlobals∉W.T
 b:W.h0.Ns builtinsNs W.mb
 bT:builtinsNs∉W.T
 lim:W.h0.NoLimit
 limT:cStatics∉W.T
 bi:∀x:Str,x ≠ "__name__"->W.mb x=bootBuiltins x
 tx:∀h:Heap,W.TI h->∀t∈W.T,∃o,h.get? t=some o/\(o.cls=.none\/Ex2 fun es n=>o.data=.dict es n)
 nb:∀x∈lZ,W.mg x=none
 ti:∀h h':Heap,(∀b o,h.get? b=some o->(b∈W.T\/cz o)->h'.get? b=some o)->W.TI h->W.TI h'
structure KX(W:Wp)(h h':Heap):Prop where
 keep:∀b o,b∉W.T->h.get? b=some o->h'.get? b=some o
 ti:W.TI h'
structure Ok(W:Wp)(P:Addr->Prop)(h:Heap):Prop where
 kept:∀b o,b∉W.T->W.h0.get? b=some o->h.get? b=some o
 ti:W.TI h
 new:∀b,b∉W.T->h.get? b=none->P b
 pt:∀b,P b->b∉W.T
theorem KX.refl{W:Wp}{h:Heap}(t:W.TI h):KX W h h:=⟨fun U U U e=>e,t⟩
theorem KX.trans{W:Wp}{h h' h'':Heap}(a:KX W h h')(b:KX W h' h''):KX W h h'':=
 ⟨fun x o n e=>b.keep x o n (a.keep x o n e),b.ti⟩
theorem Ok.step{W:Wp}{P:Addr->Prop}{h h':Heap}(x:Ok W P h)(k:KX W h h'):Ok W P h':=
 ⟨fun b o n e=>k.keep b o n (x.kept b o n e),k.ti,fun b hn hb=>x.new b hn (by
  cases q:h.get? b with
  |none=>rfl
  |some o=>exact nn (Eq.trans (Eq.symm hb) (k.keep b o hn q))),x.pt⟩
theorem Ok.fresh{W:Wp}(F:WF W){P:Addr->Prop}{h:Heap}(x:Ok W P h){b:Addr}(hb:h.get? b=none):P b:=
 x.new b (fun m=>by obtain⟨o,e,_⟩:=F.tx h x.ti b m;exact nn (Eq.trans (Eq.symm hb) e)) hb
theorem Ok.top{W:Wp}(F:WF W){P:Addr->Prop}{h:Heap}(x:Ok W P h):P h.objs.size:=x.fresh F (lB (bS _))
theorem KX.of_all{W:Wp}(F:WF W){h h':Heap}(t:W.TI h)(k:∀b o,h.get? b=some o->h'.get? b=some o):KX W h h':=
 ⟨fun b o U e=>k b o e,F.ti h h' (fun b o e U=>k b o e) t⟩
theorem KX.push{W:Wp}(F:WF W){h:Heap}(t:W.TI h)(o:Obj):KX W h (h.push o):=
 KX.of_all F t (fun U U e=>eP o e)
theorem WF.notT{W:Wp}(F:WF W){h:Heap}(t:W.TI h){a:Addr}{o:Obj}(e:h.get? a=some o)(hc:¬(o.cls=.none\/Ex2 fun es n=>o.data=.dict es n)):a∉W.T:=fun m=>by
 obtain⟨o',e',c'⟩:=F.tx h t a m;obtain rfl:=al_0 (Eq.trans (Eq.symm e) e');exact hc c'
mutual
noncomputable def Rp(P:Addr->Prop)(h:Heap):Value->V->Prop
 |u,.none=>u=.none
 |u,.bool b=>u=.bool b
 |u,.int i=>∃t,u=.int i t
 |u,.str s=>Ex2 fun x t=>u=.str x t/\x.cps.toList=s
 |u,.tup l=>Ex3 fun a vs n=>gx (u=.ref a) (P a) (IsT h a vs n) (Rps P h vs.toList l)
 |u,.lst l=>Ex3 fun a vs n=>gx (u=.ref a) (P a) (IsL h a vs n) (Rps P h vs.toList l)
noncomputable def Rps(P:Addr->Prop)(h:Heap):List Value->List V->Prop
 |us,[]=>us=[]
 |us,x::l=>Ex2 fun u r=>dD (us=u::r) (Rp P h u x) (Rps P h r l)
end
noncomputable def Rq(P:Addr->Prop)(h:Heap)(u:Value):V->Prop
 |.lst l=>Ex3 fun a vs n=>dD (u=.ref a) (IsL h a vs n) (Rps P h vs.toList l)
 |x=>Rp P h u x
section
variable{P:Addr->Prop}{h:Heap}
theorem Rps.nil:Rps P h [] []:=@rfl (List Value) []
theorem Rps.cons{u:Value}{us:List Value}{x:V}{l:List V}(a:Rp P h u x)(b:Rps P h us l):Rps P h (u::us) (x::l):=Ex2.mk u us ⟨rfl,a,b⟩
theorem Rp.n:Rp P h .none .none:=@rfl Value .none
theorem Rp.b{b:Bool}:Rp P h (.bool b) (.bool b):=@rfl Value (.bool b)
theorem Rp.i{i:Int}{t:Tok}:Rp P h (.int i t) (.int i):=Exists.intro t (@rfl Value (.int i t))
theorem Rp.s{x:Str}{t:Tok}:Rp P h (.str x t) (.str x.cps.toList):=Ex2.mk x t ⟨rfl,rfl⟩
theorem Rp.ti{a:Addr}{vs:Array Value}{n:Nat}{l:List V}(p:P a)(hl:IsT h a vs n)(r:Rps P h vs.toList l):Rp P h (.ref a) (.tup l):=Ex3.mk a vs n ⟨rfl,p,hl,r⟩
theorem Rp.li{a:Addr}{vs:Array Value}{n:Nat}{l:List V}(p:P a)(hl:IsL h a vs n)(r:Rps P h vs.toList l):Rp P h (.ref a) (.lst l):=Ex3.mk a vs n ⟨rfl,p,hl,r⟩
end
section elim
variable{P:Addr->Prop}{h:Heap}{u:Value}{us:List Value}{l:List V}{M:Value->Prop}{Ms:List Value->Prop}
@[elab_as_elim] theorem Rp.n'(r:Rp P h u .none)(k:M .none):M u:=@Eq.ndrec Value .none M k u (Eq.symm r)
@[elab_as_elim] theorem Rp.b'{b:Bool}(r:Rp P h u (.bool b))(k:M (.bool b)):M u:=@Eq.ndrec Value (.bool b) M k u (Eq.symm r)
@[elab_as_elim] theorem Rp.i'{i:Int}(r:Rp P h u (.int i))(k:∀t,M (.int i t)):M u:=@Exists.elim Tok (fun t=>u=.int i t) _ r fun t e=>e▸k t
@[elab_as_elim] theorem Rp.s'{c:List Nat}(r:Rp P h u (.str c))(k:∀x t,x.cps.toList=c->M (.str x t)):M u:=by
 obtain⟨x,t,rfl,e⟩:Ex2 fun x t=>u=.str x t/\x.cps.toList=c:=r;exact k x t e
@[elab_as_elim] theorem Rp.t'(r:Rp P h u (.tup l))(k:∀a vs n,P a->IsT h a vs n->Rps P h vs.toList l->M (.ref a)):M u:=by
 obtain⟨a,vs,n,rfl,p,q,z⟩:Ex3 fun a vs n=>gx (u=.ref a) (P a) (IsT h a vs n) (Rps P h vs.toList l):=r;exact k a vs n p q z
@[elab_as_elim] theorem Rp.l'(r:Rp P h u (.lst l))(k:∀a vs n,P a->IsL h a vs n->Rps P h vs.toList l->M (.ref a)):M u:=by
 obtain⟨a,vs,n,rfl,p,q,z⟩:Ex3 fun a vs n=>gx (u=.ref a) (P a) (IsL h a vs n) (Rps P h vs.toList l):=r;exact k a vs n p q z
@[elab_as_elim] theorem Rps.n'(r:Rps P h us [])(k:Ms []):Ms us:=@Eq.ndrec (List Value) [] Ms k us (Eq.symm r)
@[elab_as_elim] theorem Rps.c'{x:V}(r:Rps P h us (x::l))(k:∀u r,Rp P h u x->Rps P h r l->Ms (u::r)):Ms us:=by
 obtain⟨u,q,rfl,a,b⟩:Ex2 fun u r=>dD (us=u::r) (Rp P h u x) (Rps P h r l):=r;exact k u q a b
@[elab_as_elim] theorem Rps.rec'{Mp:List Value->List V->Prop}{us:List Value}{l:List V}(r:Rps P h us l)(h0:Mp [] [])(hc:∀u us x l,Rp P h u x->Rps P h us l->Mp us l->Mp (u::us) (x::l)):Mp us l:=by
 induction l generalizing us with
 |nil=>exact r.n' h0
 |cons x l ih=>exact r.c' fun u us a b=>hc u us x l a b (ih b)
theorem Rp.ind{Mp:Value->V->Prop}{Mq:List Value->List V->Prop}(hn:Mp .none .none)(hb:∀b,Mp (.bool b) (.bool b))(hi:∀i t,Mp (.int i t) (.int i))(hs:∀x t,Mp (.str x t) (.str x.cps.toList))(ht:∀a vs n l,P a->IsT h a vs n->Rps P h vs.toList l->Mq vs.toList l->Mp (.ref a) (.tup l))(hl:∀a vs n l,P a->IsL h a vs n->Rps P h vs.toList l->Mq vs.toList l->Mp (.ref a) (.lst l))(h0:Mq [] [])(hc:∀u us x l,Rp P h u x->Rps P h us l->Mp u x->Mq us l->Mq (u::us) (x::l)):(∀x u,Rp P h u x->Mp u x)/\∀l us,Rps P h us l->Mq us l:=
 have A:∀x u,Rp P h u x->Mp u x:=@V.rec (fun x=>∀u,Rp P h u x->Mp u x) (fun l=>∀us,Rps P h us l->Mq us l) (fun U r=>r.n' hn) (fun b U r=>r.b' (hb b)) (fun i U r=>r.i' (hi i)) (fun U U r=>r.s' fun x t e=>e▸hs x t) (fun l ih U r=>r.t' fun a vs n p o q=>ht a vs n l p o q (ih _ q)) (fun l ih U r=>r.l' fun a vs n p o q=>hl a vs n l p o q (ih _ q)) (fun U r=>r.n' h0) (fun x l ih ihs U r=>r.c' fun u us a b=>hc u us x l a b (ih _ a) (ihs _ b))
 ⟨A,fun U U r=>r.rec' h0 fun u us x l a b ih=>hc u us x l a b (A x u a) ih⟩
end elim
theorem RpK{P P':Addr->Prop}{h h':Heap}(k:∀b o,P b->h.get? b=some o->P' b/\h'.get? b=some o):(∀x u,Rp P h u x->Rp P' h' u x)/\∀l us,Rps P h us l->Rps P' h' us l:=
 Rp.ind (Mp:=Rp P' h') (Mq:=Rps P' h') Rp.n (fun U=>Rp.b) (fun U U=>Rp.i) (fun U U=>Rp.s) (fun U U U U p o U q=>Rp.ti (k _ _ p o).1 (k _ _ p o).2 q) (fun U U U U p o U q=>Rp.li (k _ _ p o).1 (k _ _ p o).2 q) Rps.nil fun U U U U U U a b=>Rps.cons a b
theorem Rp.mono{P P':Addr->Prop}{h h':Heap}(k:∀b o,P b->h.get? b=some o->P' b/\h'.get? b=some o){u:Value}{x:V}(r:Rp P h u x):Rp P' h' u x:=(RpK k).1 x u r
theorem Rps.mono{P P':Addr->Prop}{h h':Heap}(k:∀b o,P b->h.get? b=some o->P' b/\h'.get? b=some o){us:List Value}{l:List V}(r:Rps P h us l):Rps P' h' us l:=(RpK k).2 l us r
theorem Rp.kx{W:Wp}{P:Addr->Prop}{h h':Heap}(pt:∀b,P b->b∉W.T)(k:KX W h h'){u:Value}{x:V}(r:Rp P h u x):Rp P h' u x:=
 r.mono fun b o p e=>⟨p,k.keep b o (pt b p) e⟩
theorem Rps.kx{W:Wp}{P:Addr->Prop}{h h':Heap}(pt:∀b,P b->b∉W.T)(k:KX W h h'){us:List Value}{l:List V}(r:Rps P h us l):Rps P h' us l:=
 r.mono fun b o p e=>⟨p,k.keep b o (pt b p) e⟩
theorem Rp.sub{P P':Addr->Prop}{h:Heap}(k:∀b,P b->P' b){u:Value}{x:V}(r:Rp P h u x):Rp P' h u x:=r.mono fun b U p e=>⟨k b p,e⟩
theorem Rps.sub{P P':Addr->Prop}{h:Heap}(k:∀b,P b->P' b){us:List Value}{l:List V}(r:Rps P h us l):Rps P' h us l:=r.mono fun b U p e=>⟨k b p,e⟩
theorem Rp.rq{P:Addr->Prop}{h:Heap}{u:Value}{x:V}(r:Rp P h u x):Rq P h u x:=by
 cases x with
 |lst l=>exact r.l' fun a vs n U q s=>Ex3.mk a vs n ⟨rfl,q,s⟩
 |_=>exact r
theorem Rq.kx{W:Wp}(F:WF W){P:Addr->Prop}{h h':Heap}(t:W.TI h)(pt:∀b,P b->b∉W.T)(k:KX W h h'){u:Value}{x:V}(r:Rq P h u x):Rq P h' u x:=by
 cases x with
 |lst l=>
  obtain⟨a,vs,n,e,q,s⟩:Ex3 fun a vs n=>dD (u=.ref a) (IsL h a vs n) (Rps P h vs.toList l):=r;exact Ex3.mk a vs n ⟨e,k.keep _ _ (F.notT t q (fun z=>z.elim (fun z=>nomatch z) fun z=>by obtain⟨_,_,z⟩:=z;cases z)) q,s.kx pt k⟩
 |_=>exact Rp.kx pt k r
section rps
variable{P:Addr->Prop}{h:Heap}
theorem Rps.length{us:List Value}{l:List V}(r:Rps P h us l):us.length=l.length:=r.rec' rfl fun U U U U U U e=>aq Nat.succ e
theorem Rps.append{us us':List Value}{l l':List V}(r:Rps P h us l)(r':Rps P h us' l'):Rps P h (us++us') (l++l'):=r.rec' (Mp:=fun us l=>Rps P h (us++us') (l++l')) r' fun U U U U a U b=>Rps.cons a b
theorem Rps.get{us:List Value}{l:List V}(r:Rps P h us l):∀{i:Nat}{x:V},l[i]?=some x->∃u,us[i]?=some u/\Rp P h u x:=
 r.rec' (Mp:=fun us l=>∀{i:Nat}{x:V},l[i]?=some x->∃u,us[i]?=some u/\Rp P h u x) (fun e=>nn e) fun u U U U a U ih i x e=>by
  cases i with
  |zero=>exact⟨u,rfl,al_0 e▸a⟩
  |succ i=>exact ih e
theorem Rps.drop{us:List Value}{l:List V}(r:Rps P h us l):∀n,Rps P h (us.drop n) (l.drop n):=
 r.rec' (Mp:=fun us l=>∀n,Rps P h (us.drop n) (l.drop n)) (fun n=>by rw[List.drop_nil,List.drop_nil];exact Rps.nil) fun u us x l a b ih n=>by
  cases n with
  |zero=>exact Rps.cons a b
  |succ n=>exact ih n
theorem Rps.reverse{us:List Value}{l:List V}(r:Rps P h us l):Rps P h us.reverse l.reverse:=
 r.rec' (Mp:=fun us l=>Rps P h us.reverse l.reverse) Rps.nil fun u us x l a U ih=>by
  rw[List.reverse_cons,List.reverse_cons];exact ih.append (Rps.cons a Rps.nil)
theorem Rps.map_ints{us:List Value}{ns:List Int}(r:Rps P h us (ns.map V.int)):IntsAre us ns:=by
 induction ns generalizing us with
 |nil=>exact r.n' .nil
 |cons n ns ih=>exact r.c' fun u us a b=>a.i' fun t=>.cons _ _ (ih b)
theorem Rps.of_ints{us:List Value}{ns:List Int}(r:IntsAre us ns):Rps P h us (ns.map V.int):=by
 induction r with
 |nil=>exact Rps.nil
 |cons _ _ _ ih=>exact Rps.cons Rp.i ih
end rps
section elim
variable{P:Addr->Prop}{h:Heap}{u:Value}{us:List Value}{l:List V}{M:Value->Prop}{Ms:List Value->Prop}
@[elab_as_elim] theorem Rq.n'(r:Rq P h u .none)(k:M .none):M u:=Rp.n' (M:=M) (show Rp P h u .none from r) k
@[elab_as_elim] theorem Rq.b'{b:Bool}(r:Rq P h u (.bool b))(k:M (.bool b)):M u:=Rp.b' (M:=M) (show Rp P h u (.bool b)from r) k
@[elab_as_elim] theorem Rq.i'{i:Int}(r:Rq P h u (.int i))(k:∀t,M (.int i t)):M u:=Rp.i' (M:=M) (show Rp P h u (.int i)from r) k
@[elab_as_elim] theorem Rq.s'{c:List Nat}(r:Rq P h u (.str c))(k:∀x t,x.cps.toList=c->M (.str x t)):M u:=Rp.s' (M:=M) (show Rp P h u (.str c)from r) k
@[elab_as_elim] theorem Rq.t'(r:Rq P h u (.tup l))(k:∀a vs n,P a->IsT h a vs n->Rps P h vs.toList l->M (.ref a)):M u:=Rp.t' (M:=M) (show Rp P h u (.tup l)from r) k
@[elab_as_elim] theorem Rq.l'(r:Rq P h u (.lst l))(k:∀a vs n,IsL h a vs n->Rps P h vs.toList l->M (.ref a)):M u:=by
 obtain⟨a,vs,n,rfl,q,z⟩:Ex3 fun a vs n=>dD (u=.ref a) (IsL h a vs n) (Rps P h vs.toList l):=r;exact k a vs n q z
end elim
inductive RqL(P:Addr->Prop)(h:Heap):List Value->List V->Prop
 |nil:RqL P h [] []
 |cons {u:Value}{us:List Value}{x:V}{l:List V} (a:Rq P h u x) (b:RqL P h us l):RqL P h (u::us) (x::l)
@[elab_as_elim] theorem RqL.z{P:Addr->Prop}{h:Heap}{us:List Value}{M:List Value->Prop}(r:RqL P h us [])(k:M []):M us:=by cases r;exact k
@[elab_as_elim] theorem RqL.o{P:Addr->Prop}{h:Heap}{us:List Value}{x:V}{M:List Value->Prop}(r:RqL P h us [x])(k:∀u,Rq P h u x->M [u]):M us:=by cases r with | cons a b=>cases b;exact k _ a
@[elab_as_elim] theorem RqL.w{P:Addr->Prop}{h:Heap}{us:List Value}{x y:V}{M:List Value->Prop}(r:RqL P h us [x,y])(k:∀u w,Rq P h u x->Rq P h w y->M [u,w]):M us:=by cases r with | cons a b=>exact b.o fun w e=>k _ w a e
end
section
theorem nn0{α:Type}{y:α}{p:Prop}(h:(none:Option α)=some y):p:=nomatch h
theorem aO{p:Prop}[Decidable p]{β:Type}{o:Option β}{y:β}{M:Prop}(h:(if p then o else none)=some y)(k:p->o=some y->M):M:=
 dite p (fun q=>k q ((af q).symm.trans h)) fun q=>nn0 ((ag q).symm.trans h)
noncomputable abbrev ibits:=Builtin.Int.intBits
noncomputable def hG:Operator->Int->Int->Option Int
 |.Add,a,b=>some (a+b)
 |.Sub,a,b=>some (a-b)
 |.Mult,a,b=>if ibits a+ibits b<=134217728 then some (a*b)else none
 |.FloorDiv,a,b=>if b=0\/Builtin.divisionGoesByPylong a b=true then none else some (a.fdiv b)
 |.Mod,a,b=>if b=0 then none else some (a.fmod b)
 |.Pow,a,b=>if 0<=b/\(ibits a:Int)*b<=134217728 then some (a^b.toNat)else none
 |.LShift,a,b=>if 0<=b/\(ibits a:Int)+b<=134217728 then some (a*2^b.toNat)else none
 |.RShift,a,b=>if 0<=b then some (a.fdiv (2^b.toNat))else none
 |.BitAnd,a,b=>some (Builtin.bitAnd a b)
 |.BitOr,a,b=>some (Builtin.bitOr a b)
 |.BitXor,a,b=>some (Builtin.bitXor a b)
 |_,_,_=>none
noncomputable abbrev szLine:Nat:=1048576
noncomputable def bR(op:Operator)(x y:V):Option V:=
 match x,y with
 |.int a,.int b=>(hG op a b).map V.int
 |.str a,.str b=>match op with
  |.Add=>if a.length+b.length<=szLine then some (.str (a++b))else none
  |_=>none
 |.str a,.int n=>match op with
  |.Mult=>if a.length*n.toNat<=szLine/\-2^63<=n/\n<2^63 then some (.str (List.replicate n.toNat a).flatten)else none
  |_=>none
 |.lst a,.lst b=>match op with
  |.Add=>if a.length+b.length<=szLine then some (.lst (a++b))else none
  |_=>none
 |.lst a,.int n=>match op with
  |.Mult=>if a.length*n.toNat<=szLine/\-2^63<=n/\n<2^63 then some (.lst (List.replicate n.toNat a).flatten)else none
  |_=>none
 |_,_=>none
section
variable{W:Wp}{A:Around}{E:Value->Shared->Prop}{s:Shared}{P:Addr->Prop}
noncomputable abbrev iJ(W:Wp)(s:Shared)(Q:α->Shared->Prop)(R:Heap->α->Prop):Prop:=
 ∀u h' tk,KX W s.heap h'->R h' u->Q u { s with heap:=h',toks:=tk }
theorem C7{a b:Int}(hm:ibits a+ibits b<=134217728):IntMulOk a b:=by
 unfold IntMulOk Builtin.Int.intTooBig;simp only[jt,oi,not_and];intro _;have:(bitsLine:Int)=134217728:=by decide +kernel
 simp only[ibits]at hm;lia
theorem Fj{a b:Int}{p:Prop}(hn:¬(p\/Builtin.divisionGoesByPylong a b=true)):Builtin.divisionGoesByPylong a b=false:=
 match hq:Builtin.divisionGoesByPylong a b with | false=>rfl | true=>absurd (.inr hq) hn
theorem ifn{p:Prop}[Decidable p]{β:Type}{o:Option β}{y:β}{M:Prop}(h:(if p then none else o)=some y)(k:¬p->o=some y->M):M:=
 dite p (fun q=>nn0 ((af q).symm.trans h)) fun q=>k q ((ag q).symm.trans h)
theorem qf(G:WF W)(O:Ok W P s.heap){op:Operator}{a b v:Int}{t u:Tok}{Q:Value->Shared->Prop}(e:hG op a b=some v)(h:iJ W s Q fun h' r=>Rp P h' r (.int v)):wpAny W.M A (binaryOp op (.int a t) (.int b u)) Q E s:=by
 have fin:∀z:Int,some z=some v->∀tk,Q (.int z s.toks) { s with toks:=tk }:=fun z hz tk=>h _ s.heap tk (KX.refl O.ti) (al_0 hz▸Rp.i)
 cases op
 case Add=>exact PyProof.Rows.add_int (fin _ e _)
 case Sub=>exact PyProof.Rows.sub_int (fin _ e _)
 case Mult=>exact aO e fun hm e=>PyProof.Rows.mul_int (fin _ e _) (C7 hm)
 case FloorDiv=>exact ifn e fun hn e=>floordiv_int (fun q=>hn (.inl q)) (fin _ e _) (.inl (Fj hn))
 case Mod=>exact ifn e fun hn e=>mod_int' hn (fin _ e _)
 case Pow=>exact aO e fun hn e=>pow_int hn.1 (by have:=hn.2;simp only[ibits]at this;lia) (fin _ e _)
 case LShift=>exact aO e fun hn e=>lshift_int hn.1 (by have:=hn.2;simp only[ibits]at this;lia) (fin _ e _)
 case RShift=>exact aO e fun hn e=>rshift_int hn (fin _ e _)
 case BitAnd=>exact and_int (fin _ e _)
 case BitOr=>exact or_int (fin _ e _)
 case BitXor=>exact xor_int (fin _ e _)
 all_goals exact nn0 e
theorem dX{x:Str}:x.length=x.cps.toList.length:=by simp only[Array.length_toList];rfl
theorem ku{h:Heap}{P:Addr->Prop}(hP:P h.objs.size){vs:Array Value}{l:List V}(r:Rps P (h.push { cls:=.type "list", data:=.seq vs }) vs.toList l):
  Rp P (h.push { cls:=.type "list", data:=.seq vs }) (.ref h.objs.size) (.lst l):=by
 exact Rp.li hP (eO _ rfl) r
theorem yc{h:Heap}{P:Addr->Prop}(hP:P h.objs.size){vs:Array Value}{l:List V}(r:Rps P (h.push { cls:=.type "tuple", data:=.seq vs }) vs.toList l):
  Rp P (h.push { cls:=.type "tuple", data:=.seq vs }) (.ref h.objs.size) (.tup l):=by
 exact Rp.ti hP (eO _ rfl) r
theorem Rps.foldl_replicate{h:Heap}{items:Array Value}{l:List V}(r:Rps P h items.toList l):∀(n:Nat) (acc:Array Value) (al:List V),Rps P h acc.toList al ->
  Rps P h (List.foldl (fun x1 x2=>x1++x2) acc (List.replicate n items)).toList (al++(List.replicate n l).flatten):=by
 intro n
 induction n with
 |zero=>
  intro acc al ra;exact by simpa using ra
 |succ n zih=>
  intro acc al ra;rw[List.replicate_succ,List.foldl_cons,List.replicate_succ,List.flatten_cons,<-bX];refine zih _ _ ?_;rw[lq];exact ra.append r
theorem jE{l:Addr}{items:Array Value}{k:Nat}{x:Int}{u:Tok}{Q:Value->Shared->Prop}(hl:IsL s.heap l items k)(hlo:-(2^63:Int)<=x)(hhi:x<2^63)(hsz:items.size*x.toNat<=2^24)(h:Q (.ref s.heap.objs.size) { s with heap:=s.heap.push { cls:=.type "list", data:=.seq (List.foldl (fun x1 x2=>x1++x2) #[] (List.replicate (if items.isEmpty=true then 0 else x.toNat) items)) } }):
  wpAny W.M A (binaryOp .Mult (.ref l) (.int x u)) Q E s:=
 wpAny_binaryOp_repeat_ref (T := "list") (U := "int") (by decide) ⟨_,hl,rfl⟩ (fun s'=>typeIs_int s' x u) noFill_list_mul F.fills_int_mul F.slot_int_rmul repeat_list F.slot_int_index.lookup
  (call_meets F.slot_int_rmul (typeIs_int s x u) F.entry_int_rmul (F.args_int_rmul_2 _ _) (int___rmul___int_list x u l items k)
   ⟨hl,rfl,⟨_,hl,rfl⟩,call_meets F.slot_list_mul ⟨_,hl,rfl⟩ F.entry_list_mul (F.args_list_mul_2 _ _)
    (AutoListH.list___mul___list_int_3 l items k x u (by simp[Builtin.List.listFitsIndex];lia) (by lia) (by simp[Builtin.List.listTooLong,sizeLine];lia))
    ⟨hl,h⟩⟩)
theorem kC:∀(n:Nat) (a acc:Array Nat),(List.foldl (fun x1 x2=>x1++x2) acc (List.replicate n a)).toList=acc.toList++(List.replicate n a.toList).flatten:=by
 intro n
 induction n with
 |zero=>
  intro a acc;exact by simp
 |succ n kC=>
  intro a acc;rw[List.replicate_succ,List.foldl_cons,kC a,List.replicate_succ,List.flatten_cons,lq,bX]
theorem A4(x:Str)(n:Int):(Txt.mul x n).cps.toList=(List.replicate n.toNat x.cps.toList).flatten:=by
 unfold Txt.mul
 split
 ·rename_i h
  have:n.toNat=0:=by lia
  rw[this];rfl
 ·split
  ·rename_i h1 h2
   simp only[Bool.or_eq_true,beq_iff_eq]at h2;rcases h2 with h2 | h2
   ·subst h2;simp
   ·obtain e:x.cps.toList=[]:=by
     apply List.eq_nil_of_length_eq_zero;rw[<-dX];exact h2
    rw[e];simp
  ·rw[kC];rfl
theorem rR{x:Str}{n:Int}(hz:x.cps.toList.length*n.toNat<=szLine/\-2^63<=n/\n<2^63):
  (decide (n < -2^63)||decide (2^63<=n))=false/\(0<n->(2^63-1)/n<(x.length:Int)->False)/\¬x.length*n.toNat>16777216:=by
 obtain hx:=dX (x:=x);obtain hs:((szLine:Nat):Int)=1048576:=rfl;refine byG fun gG kG=>?_;obtain⟨h1,h2,h3⟩:=hz;refine kG ?_;rw[<-hx]at h1;refine⟨by rw[cY (by lia),cY (by lia)];rfl,fun h0 hc=>?_,by have hs:szLine=1048576:=rfl;lia⟩;obtain q:=cP.mpr h1;rw[Int.natCast_mul,Int.toNat_of_nonneg (by lia),hs]at q;obtain h4:=(Int.ediv_lt_iff_lt_mul h0).mp hc;lia
theorem BH(G:WF W)(O:Ok W P s.heap){m n:List Nat}{v:V}{a b:Value}{Q:Value->Shared->Prop}(e:bR .Add (.str m) (.str n)=some v)(rx:Rq P s.heap a (.str m))(ry:Rq P s.heap b (.str n))(h:iJ W s Q fun h' r=>Rp P h' r v):wpAny W.M A (binaryOp .Add a b) Q E s:=by
 refine rx.s' fun x t hx=>ry.s' fun y u hy=>aO e fun hz e=>?_;subst hx hy;refine PyProof.Rows.add_str (fun t' tk=>h _ s.heap tk (KX.refl O.ti) (al_0 e▸?_)) (by simp only[dX,dX];exact ai hz (by decide));exact Ex2.mk _ _ ⟨rfl,by simp only[Str.cps_append,lq]⟩
theorem tI(G:WF W)(O:Ok W P s.heap){m:List Nat}{n:Int}{v:V}{a b:Value}{Q:Value->Shared->Prop}(e:bR .Mult (.str m) (.int n)=some v)(rx:Rq P s.heap a (.str m))(ry:Rq P s.heap b (.int n))(h:iJ W s Q fun h' r=>Rp P h' r v):wpAny W.M A (binaryOp .Mult a b) Q E s:=by
 refine rx.s' fun x t hx=>ry.i' fun u=>aO e fun hz e=>?_;subst hx;obtain z1:=(rR hz).1;obtain z2:=(rR hz).2.1;obtain z3:=(rR hz).2.2;refine SB.mul ⟨z1,fun h1 h2=>z2 (Int.not_lt.mp h1),fun h1 h2=>cY z3⟩ fun t' k=>h _ s.heap k (KX.refl O.ti) (al_0 e▸?_);exact Ex2.mk _ _ ⟨rfl,A4 ..⟩
theorem BI(G:WF W)(O:Ok W P s.heap){m n:List V}{v:V}{a b:Value}{Q:Value->Shared->Prop}(e:bR .Add (.lst m) (.lst n)=some v)(rx:Rq P s.heap a (.lst m))(ry:Rq P s.heap b (.lst n))(h:iJ W s Q fun h' r=>Rp P h' r v):wpAny W.M A (binaryOp .Add a b) Q E s:=by
 refine rx.l' fun a vs k hl r=>ry.l' fun b ws j hb q=>aO e fun hz e=>?_;obtain K':=KX.push G O.ti { cls:=.type "list", data:=.seq (vs++ws) };refine PySem.P.add_list hl hb (h _ _ _ K' (al_0 e▸ku (O.top G) ?_)) (by
  simp only[<-Array.length_toList,<-Array.length_toList,r.length,q.length];exact ai hz (by decide))
 simp only[lq];exact(r.kx O.pt K').append (q.kx O.pt K')
theorem uy{h:Heap}{vs:Array Value}{m:List V}(r:Rps P h vs.toList m)(n:Nat):Rps P h (List.foldl (fun x1 x2=>x1++x2) #[] (List.replicate (if vs.isEmpty=true then 0 else n) vs)).toList (List.replicate n m).flatten:=by
 obtain q:=Rps.foldl_replicate r (if vs.isEmpty=true then 0 else n) #[] [] Rps.nil;obtain he:(List.replicate (if vs.isEmpty=true then 0 else n) m).flatten=(List.replicate n m).flatten:=by
  split
  ·rename_i hv
   have:m=[]:=by
    apply List.eq_nil_of_length_eq_zero;simp only[<-r.length,Array.length_toList,Array.isEmpty_iff.mp hv];rfl
   simp only[this];simp
  ·rfl
 simp only[List.nil_append,he]at q;exact q
theorem tJ(G:WF W)(O:Ok W P s.heap){m:List V}{n:Int}{v:V}{a b:Value}{Q:Value->Shared->Prop}(e:bR .Mult (.lst m) (.int n)=some v)(rx:Rq P s.heap a (.lst m))(ry:Rq P s.heap b (.int n))(h:iJ W s Q fun h' r=>Rp P h' r v):wpAny W.M A (binaryOp .Mult a b) Q E s:=by
 refine rx.l' fun a vs k hl r=>ry.i' fun u=>aO e fun hz e=>?_;obtain K':=KX.push G O.ti { cls:=.type "list", data:=.seq (List.foldl (fun x1 x2=>x1++x2) #[] (List.replicate (if vs.isEmpty=true then 0 else n.toNat) vs)) };exact jE hl hz.2.1 hz.2.2 (by simp only[<-Array.length_toList,r.length];exact ai hz.1 (by decide)) (h _ _ _ K' (al_0 e▸ku (O.top G) (uy (r.kx O.pt K') _)))
theorem jQ(G:WF W)(O:Ok W P s.heap){op:Operator}{x y v:V}{a b:Value}{Q:Value->Shared->Prop}(e:bR op x y=some v)(rx:Rq P s.heap a x)(ry:Rq P s.heap b y)(h:iJ W s Q fun h' r=>Rp P h' r v):wpAny W.M A (binaryOp op a b) Q E s:=by
 cases x with
 |int m=>
  cases y with
  |int n=>
   refine rx.i' fun t=>ry.i' fun u=>?_;obtain⟨z,hz,e⟩:=bj.mp e;exact qf G O hz (e▸h)
  |_=>exact nn0 e
 |str m=>
  cases y with
  |str n=>cases op<;>first | exact nn0 e | exact BH G O e rx ry h
  |int n=>cases op<;>first | exact nn0 e | exact tI G O e rx ry h
  |_=>exact nn0 e
 |lst m=>
  cases y with
  |lst n=>cases op<;>first | exact nn0 e | exact BI G O e rx ry h
  |int n=>cases op<;>first | exact nn0 e | exact tJ G O e rx ry h
  |_=>exact nn0 e
 |_=>exact nn0 e
end
end
section
mutual
noncomputable def eV:V->PyData
 |.none=>.none
 |.bool b=>.bool b
 |.int i=>.int i
 |.str s=>.str ⟨s.toArray⟩
 |.tup l=>.tuple (dK l)
 |.lst l=>.list (dK l)
noncomputable def dK:List V->List PyData
 |[]=>[]
 |x::l=>eV x::dK l
end
theorem RpR{P:Addr->Prop}{h:Heap}:(∀x u,Rp P h u x->∃as,Reads h u (eV x) as)/\∀l us,Rps P h us l->∃as,ReadsAll h us (dK l) as:=
 Rp.ind (Mp:=fun u x=>∃as,Reads h u (eV x) as) (Mq:=fun us l=>∃as,ReadsAll h us (dK l) as) ⟨_,.none⟩ (fun b=>⟨_,.bool b⟩) (fun i t=>⟨_,.int i t⟩) (fun x t=>⟨_,.str x t⟩)
  (fun U U U U U o U q=>q.elim fun U q=>⟨_,.tuple o rfl rfl q⟩) (fun U U U U U o U q=>q.elim fun U q=>⟨_,.list o rfl rfl q⟩) ⟨_,.nil⟩ fun U U U U U U a b=>a.elim fun U a=>b.elim fun U b=>⟨_,.cons a b⟩
theorem Rp.reads{P:Addr->Prop}{h:Heap}{u:Value}{x:V}(r:Rp P h u x):∃as,Reads h u (eV x) as:=RpR.1 x u r
theorem Rps.reads{P:Addr->Prop}{h:Heap}{us:List Value}{l:List V}(r:Rps P h us l):∃as,ReadsAll h us (dK l) as:=RpR.2 l us r
theorem Rq.reads{P:Addr->Prop}{h:Heap}{u:Value}{x:V}(r:Rq P h u x):∃as,Reads h u (eV x) as:=by
 cases x with
 |lst l=>
  exact r.l' fun a vs n ho q=>q.reads.elim fun as q'=>⟨_,.list ho rfl rfl q'⟩
 |_=>exact Rp.reads (P:=P) r
mutual
noncomputable def eqO:V->V->Option Bool
 |.none,.none=>some true
 |.bool a,.bool b=>some (a==b)
 |.int a,.int b=>some (a==b)
 |.lst a,.lst b=>jJ a b
 |.tup a,.tup b=>jJ a b
 |_,_=>none
noncomputable def jJ:List V->List V->Option Bool
 |[],[]=>some true
 |x::xs,y::ys=>(eqO x y).bind fun a=>(jJ xs ys).map fun b=>a&&b
 |[],_::_=>some false
 |_::_,[]=>some false
end
theorem Bm:∀x y b,eqO x y=some b->PyData.eqv (eV x) (eV y)=b:=
 @V.rec (fun x=>∀y b,eqO x y=some b->PyData.eqv (eV x) (eV y)=b) (fun xs=>∀ys b,jJ xs ys=some b->PyData.eqvAll (dK xs) (dK ys)=b)
  (fun y b e=>by cases y<;>first | exact al_0 e | exact nn0 e) (fun U y b e=>by cases y<;>first | exact al_0 e | exact nn0 e) (fun U y b e=>by cases y<;>first | exact al_0 e | exact nn0 e)
  (fun U y b e=>by cases y<;>exact nn0 e) (fun l ih y b e=>by cases y<;>first | exact ih _ b e | exact nn0 e) (fun l ih y b e=>by cases y<;>first | exact ih _ b e | exact nn0 e)
  (fun ys b e=>by cases ys<;>exact al_0 e)
  fun x xs ih ihs ys b e=>by
   cases ys with
   |nil=>exact al_0 e
   |cons y ys=>
    obtain⟨a,h1,e⟩:=Option.bind_eq_some_iff.mp (show(eqO x y).bind (fun a=>(jJ xs ys).map fun b=>a&&b)=some b from e);obtain⟨c,h2,rfl⟩:=bj.mp e;simp only[dK,PyData.eqvAll,ih y a h1,ihs ys c h2]
theorem v7{x y:List V}{b:Bool}(e:jJ x y=some b):PyData.eqvAll (dK x) (dK y)=b:=by
 induction x generalizing y b with
 |nil=>cases y<;>exact al_0 e
 |cons x xs ih=>
  cases y with
  |nil=>exact al_0 e
  |cons y ys=>
   obtain⟨a,h1,e⟩:=Option.bind_eq_some_iff.mp (show(eqO x y).bind (fun a=>(jJ xs ys).map fun b=>a&&b)=some b from e);obtain⟨c,h2,rfl⟩:=bj.mp e;simp only[dK,PyData.eqvAll,Bm x y a h1,ih h2]
noncomputable def jr(i:Int):List V->Option Bool
 |[]=>some false
 |.int j::l=>(jr i l).map fun b=>(j==i)||b
 |_::_=>none
noncomputable def eqV(x y:V):Option Bool:=match x,y with
 |.int a,.int b=>some (a==b)
 |.str a,.str b=>some (a==b)
 |.lst a,.lst b=>if SeqAt.shaped (eV (.lst a))&&SeqAt.shaped (eV (.lst b))then jJ a b else none
 |.tup a,.tup b=>if SeqAt.shaped (eV (.tup a))&&SeqAt.shaped (eV (.tup b))then jJ a b else none
 |_,_=>none
noncomputable def xU(f:Int->Int->Bool)(x y:V):Option Bool:=match x with
 |.int a=>match y with
  |.int b=>some (f a b)
  |_=>none
 |_=>none
noncomputable def isV(x y:V):Option Bool:=match x with
 |.bool a=>match y with
  |.bool b=>some (a==b)
  |.none=>some false
  |_=>none
 |.none=>match y with
  |.bool _=>some false
  |.none=>some true
  |_=>none
 |_=>none
noncomputable def inV(x y:V):Option Bool:=match x with
 |.int i=>match y with
  |.lst l=>jr i l
  |_=>none
 |_=>none
noncomputable def lz(op:CmpOp)(x y:V):Option Bool:=
 match op with
 |.Eq=>eqV x y
 |.NotEq=>(eqV x y).map (!·)
 |.Lt=>xU (fun a b=>decide (a<b)) x y
 |.LtE=>xU (fun a b=>decide (a<=b)) x y
 |.Gt=>xU (fun a b=>decide (b<a)) x y
 |.GtE=>xU (fun a b=>decide (b<=a)) x y
 |.Is=>isV x y
 |.IsNot=>(isV x y).map (!·)
 |.In=>inV x y
 |.NotIn=>(inV x y).map (!·)
noncomputable def unV(op:UnaryOp)(x:V):Option V:=
 match x with
 |.int a=>match op with
  |.USub=>some (.int (-a))
  |.Invert=>some (.int (Builtin.bitNot a))
  |_=>none
 |_=>none
noncomputable def k6:V->Option Bool
 |.bool b=>some b
 |.int i=>some (i != 0)
 |.lst l=>if l.length<=szLine then some (decide (l≠[]))else none
 |_=>none
section
variable{W:Wp}{A:Around}{E:Value->Shared->Prop}{s:Shared}{P:Addr->Prop}
theorem qA(x y:Str):(x==y)=(x.cps.toList==y.cps.toList):=(SeqAt.str_beq x y).symm
noncomputable def isI(i:Int):Value->Bool
 |.int j _=>j==i
 |_=>false
theorem dU{h:Heap}{i:Int}:∀{us:List Value}{l:List V}{b:Bool},Rps P h us l->jr i l=some b->(∀y∈us,Ex2 fun j u=>y=.int j u/\isI i y=(j==i))/\us.any (isI i)=b:=by
 intro us l
 induction l generalizing us with
 |nil=>exact fun r e=>r.n' ⟨fun U h=>(nomatch h),al_0 e⟩
 |cons x l dU=>
  intro b r e
  cases x with
  |int j=>
   refine r.c' fun u q a c=>a.i' fun t=>?_;obtain⟨b',e',rfl⟩:=bj.mp (show(jr i l).map _=_ from e);obtain h1:=(dU c e').1;obtain h2:=(dU c e').2;refine⟨fun y hy=>?_,by simp only[List.any_cons,h2];rfl⟩;rcases aM.mp hy with rfl | hy
   ·exact⟨_,_,rfl,rfl⟩
   ·exact h1 y hy
  |_=>exact nn0 e
theorem zf(hu:A.units+64<cLine){x y:V}{v:Bool}{a b:Value}{Q:Value->Shared->Prop}(e:eqV x y=some v)(rx:Rq P s.heap a x)(ry:Rq P s.heap b y):
  (Q (.bool v) s->wpAny W.M A (compareOp .Eq a b) Q E s)/\(Q (.bool !v) s->wpAny W.M A (compareOp .NotEq a b) Q E s):=by
 have two:∀{x y:V},Rq P s.heap a x->Rq P s.heap b y->(SeqAt.shaped (eV x)&&SeqAt.shaped (eV y))=true->PyData.eqv (eV x) (eV y)=v ->
   (Q (.bool v) s->wpAny W.M A (compareOp .Eq a b) Q E s)/\(Q (.bool !v) s->wpAny W.M A (compareOp .NotEq a b) Q E s):=by
  intro x y rx ry hs he;obtain⟨as,ra⟩:=rx.reads;obtain⟨bs,rb⟩:=ry.reads;obtain h1:=(Bool.and_eq_true_iff.mp hs).1;obtain h2:=(Bool.and_eq_true_iff.mp hs).2;exact⟨fun q=>SeqAt.compareEq_shaped ra rb h1 h2 hu (he▸q),fun q=>SeqAt.compareNe_shaped ra rb h1 h2 hu (he▸q)⟩
 cases x with
 |int m=>
  cases y with
  |int n=>exact rx.i' fun t=>ry.i' fun u=>al_0 (show some (m==n)=some v from e)▸⟨PyProof.Rows.eq_int,PyProof.Rows.ne_int⟩
  |_=>exact nn0 e
 |str m=>
  cases y with
  |str n=>
   refine rx.s' fun x t hx=>ry.s' fun y u hy=>?_;obtain rfl:(m==n)=v:=al_0 e;rw[<-hx,<-hy,<-qA];exact⟨PyProof.Rows.eq_str,PyProof.Rows.ne_str⟩
  |_=>exact nn0 e
 |lst l=>
  cases y with
  |lst m=>exact aO e fun hs e=>two rx ry hs (v7 e)
  |_=>exact nn0 e
 |tup l=>
  cases y with
  |tup m=>exact aO e fun hs e=>two rx ry hs (v7 e)
  |_=>exact nn0 e
 |_=>exact nn0 e
theorem lJ{f:Int->Int->Bool}{op:CmpOp}{x y:V}{v:Bool}{a b:Value}{Q:Value->Shared->Prop}(e:xU f x y=some v)(rx:Rq P s.heap a x)(ry:Rq P s.heap b y)(h:Q (.bool v) s)(k:∀m t n u,Q (.bool (f m n)) s->wpAny W.M A (compareOp op (.int m t) (.int n u)) Q E s):wpAny W.M A (compareOp op a b) Q E s:=by
 cases x with
 |int m=>
  cases y with
  |int n=>exact rx.i' fun t=>ry.i' fun u=>k m t n u (al_0 (show some (f m n)=some v from e)▸h)
  |_=>exact nn0 e
 |_=>exact nn0 e
theorem yy{x y:V}{v:Bool}{a b:Value}{Q:Value->Shared->Prop}(e:isV x y=some v)(rx:Rq P s.heap a x)(ry:Rq P s.heap b y):
  (Q (.bool v) s->wpAny W.M A (compareOp .Is a b) Q E s)/\(Q (.bool !v) s->wpAny W.M A (compareOp .IsNot a b) Q E s):=by
 cases x with
 |bool p=>
  cases y with
  |bool q=>exact rx.b' (ry.b' (al_0 (show some (p==q)=some v from e)▸⟨fun h=>wpAny_is_plain rfl (by cases p<;>cases q<;>exact h),fun h=>wpAny_isNot_plain rfl (by cases p<;>cases q<;>exact h)⟩))
  |none=>exact rx.b' (ry.n' (al_0 (show some false=some v from e)▸⟨fun h=>wpAny_is_plain rfl h,fun h=>wpAny_isNot_plain rfl h⟩))
  |_=>exact nn0 e
 |none=>
  cases y with
  |bool q=>exact rx.n' (ry.b' (al_0 (show some false=some v from e)▸⟨fun h=>wpAny_is_plain rfl h,fun h=>wpAny_isNot_plain rfl h⟩))
  |none=>exact rx.n' (ry.n' (al_0 (show some true=some v from e)▸⟨fun h=>wpAny_is_plain rfl h,fun h=>wpAny_isNot_plain rfl h⟩))
  |_=>exact nn0 e
 |_=>exact nn0 e
theorem yD{x y:V}{v:Bool}{a b:Value}{Q:Value->Shared->Prop}(e:inV x y=some v)(rx:Rq P s.heap a x)(ry:Rq P s.heap b y):
  (Q (.bool v) s->wpAny W.M A (compareOp .In a b) Q E s)/\(Q (.bool !v) s->wpAny W.M A (compareOp .NotIn a b) Q E s):=by
 cases x with
 |int i=>
  cases y with
  |lst l=>
   refine rx.i' fun t=>ry.l' fun a vs k hl r=>?_;obtain h2:=(dU r e).1;obtain h3:=(dU r e).2;obtain eq:∀y∈vs,SeqAt.EqAt A.in1 s y (.int i t) (isI i y):=fun y hy=>by
    obtain⟨j,u,rfl,e4⟩:=h2 y (Array.mem_toList_iff.mpr hy);simp only[e4];exact SeqAt.EqAt.int_int j u i t
   simp only[Array.any_toList]at h3;exact⟨fun h=>SeqAt.in_listAt _ hl.isList eq (h3▸h),fun h=>SeqAt.notIn_listAt _ hl.isList eq (h3▸h)⟩
  |_=>exact nn0 e
 |_=>exact nn0 e
theorem qc(O:Ok W P s.heap)(hu:A.units+64<cLine){op:CmpOp}{x y:V}{v:Bool}{a b:Value}{Q:Value->Shared->Prop}(e:lz op x y=some v)(rx:Rq P s.heap a x)(ry:Rq P s.heap b y)(h:Q (.bool v) s):wpAny W.M A (compareOp op a b) Q E s:=by
 obtain neg:∀{o:Option Bool},o.map (!·)=some v->∃w,o=some w/\(!w)=v:=bj.mp
 cases op
 case Eq=>exact(zf hu e rx ry).1 h
 case NotEq=>obtain⟨w,e,hw⟩:=neg e;exact(zf hu e rx ry).2 (hw.symm▸h)
 case Lt=>exact lJ e rx ry h fun U U U U=>PyProof.Rows.lt_int
 case LtE=>exact lJ e rx ry h fun U U U U=>PyProof.Rows.le_int
 case Gt=>exact lJ e rx ry h fun U U U U=>PyProof.Rows.gt_int
 case GtE=>exact lJ e rx ry h fun U U U U=>PyProof.Rows.ge_int
 case Is=>exact(yy e rx ry).1 h
 case IsNot=>obtain⟨w,e,hw⟩:=neg e;exact(yy e rx ry).2 (hw.symm▸h)
 case In=>exact(yD e rx ry).1 h
 case NotIn=>obtain⟨w,e,hw⟩:=neg e;exact(yD e rx ry).2 (hw.symm▸h)
theorem CE(O:Ok W P s.heap){op:UnaryOp}{x v:V}{a:Value}{Q:Value->Shared->Prop}(e:unV op x=some v)(rx:Rq P s.heap a x)(h:iJ W s Q fun h' r=>Rp P h' r v):wpAny W.M A (unaryOp op a) Q E s:=by
 cases x with
 |int i=>
  refine rx.i' fun t=>?_;obtain fin:∀z:Int,some (V.int z)=some v->∀tk tk',Q (.int z tk') { s with toks:=tk }:=fun z hz tk tk'=>h _ s.heap tk (KX.refl O.ti) (al_0 hz▸Rp.i)
  cases op
  case USub=>exact PyProof.Rows.neg_int (fin _ e _ _)
  case Invert=>exact invert_int (fin _ e _ _)
  all_goals exact nn0 e
 |_=>exact nn0 e
theorem k5(O:Ok W P s.heap){x:V}{v:Bool}{a:Value}{Q:Bool->Shared->Prop}(e:k6 x=some v)(rx:Rq P s.heap a x)(h:∀tk,Q v { s with toks:=tk }):wpAny W.M A (truthy a) Q E s:=by
 cases x with
 |bool b=>exact rx.b' (wpAny_truthy_bool (al_0 (show some b=some v from e)▸h s.toks))
 |int b=>exact rx.i' fun t=>PyProof.Rows.truthy_int (al_0 (show some (b != 0)=some v from e)▸h s.toks)
 |lst l=>
  refine aO e fun hz e=>rx.l' fun a vs k hl r=>?_;obtain l1:=r.length;refine wpAny_truthy_list hl.isList (by rw[<-Array.length_toList,l1];exact gA (cP.mpr hz) (by decide)) ?_;have:(!vs.isEmpty)=decide (l≠[]):=by
   cases l with
   |nil=>obtain rfl:vs=#[]:=Array.eq_empty_of_size_eq_zero l1;rfl
   |cons x l=>
    have:vs.isEmpty=false:=by
     rw[Array.isEmpty_eq_false_iff];intro q;subst q;cases l1
    rw[this];simp
  rw[this,(al_0 e:decide (l≠[])=v)];exact h _
 |_=>exact nn0 e
end
end
section
inductive Bi | len | sum | divmod | ord | chr
inductive Mt | bitLength | split | index | join
noncomputable def Bi.val:Bi->Value
 |.len=>.builtin "len" | .sum=>.builtin "sum" | .divmod=>.builtin "divmod" | .ord=>.builtin "ord" | .chr=>.builtin "chr"
noncomputable def cJ:List V->Option (List Int)
 |[]=>some []
 |.int i::l=>(cJ l).map (i::·)
 |_::_=>none
theorem dS(ns:List Int):cJ (ns.map V.int)=some ns:=by
 induction ns with
 |nil=>rfl
 |cons n ns ih=>exact aq (Option.map (n::·)) ih
theorem cw:∀{l:List V}{ns:List Int},cJ l=some ns->l=ns.map V.int:=by
 intro l
 induction l with
 |nil=>
  intro _ e;exact al_0 e▸rfl
 |cons x l cw=>
  intro _ e
  cases x with
  |int i=>exact mpi (P:=fun ns=>V.int i::l=ns.map V.int) e fun ms h=>aq (V.int i::·) (cw h)
  |_=>exact nn0 e
noncomputable def Fp:V->Option V
 |.lst l=>if l.length<=szLine then some (.int l.length)else none
 |.str l=>if l.length<=szLine then some (.int l.length)else none
 |_=>none
noncomputable def biV(b:Bi)(args:List V):Option V:=
 match b with
 |.len=>(one args).bind Fp
 |.sum=>(one args).bind fun x=>(eC x).bind fun l=>(cJ l).map fun ns=>.int ns.sum
 |.divmod=>(two args).bind fun p=>(fD p.1).bind fun a=>(fD p.2).bind fun b=>if b=0\/Builtin.divisionGoesByPylong a b=true then none else some (.tup [.int (a.fdiv b),.int (a.fmod b)])
 |.ord=>(one args).bind fun x=>(lc x).bind fun s=>(one s).map fun(c:Nat)=>.int c
 |.chr=>(one args).bind fun x=>(fD x).bind fun i=>if 0<=i/\i<=1114111 then some (.str [i.toNat])else none
noncomputable def jp:List V->Option (List (List Nat))
 |[]=>some []
 |.str s::l=>(jp l).map (s::·)
 |_::_=>none
noncomputable def strOf(x:List Nat):Str:=⟨x.toArray⟩
noncomputable def oG(i:Int):List V->Option Nat
 |[]=>none
 |.int j::l=>if j=i then some 0 else(oG i l).map (·+1)
 |_::_=>none
noncomputable def ox(x y:Str):Bool:=
 !(decide (x.length<y.length)||decide (Builtin.Str.strKind x<Builtin.Str.strKind y))&&!(y.length==0)&&!(Builtin.Str.occurrences x y 0 x.length (x.length+1)).isEmpty &&
 decide (x.length<=sizeLine)&&decide ((Builtin.Str.partsBetween x (Builtin.Str.occurrences x y 0 x.length (x.length+1)) y.length).length<=sizeLine)
noncomputable def mtV(m:Mt)(o:V)(args:List V):Option V:=
 match m with
 |.bitLength=>gd args.isEmpty ((fD o).map fun i=>.int (ibits i))
 |.split=>(one args).bind fun y=>(lc o).bind fun x=>(lc y).bind fun y=>if ox ⟨x.toArray⟩ ⟨y.toArray⟩then some (.lst ((Txt.split ⟨x.toArray⟩ ⟨y.toArray⟩).map fun s=>.str s.cps.toList))else none
 |.index=>(one args).bind fun y=>(eC o).bind fun l=>(fD y).bind fun i=>if l.length<=szLine/\(jr i l).isSome then(oG i l).map fun(j:Nat)=>V.int (j:Int)else none
 |.join=>(one args).bind fun y=>(lc o).bind fun x=>(eC y).bind fun l=>(jp l).bind fun ps=>gd (JoinOk (strOf x) (ps.map strOf)) (some (.str (Txt.join (strOf x) (ps.map strOf)).cps.toList))
noncomputable def eJ{α:Type}(l:List α)(lo hi st:Option Int):List α:=
 (sliceRange (sliceBounds lo hi st l.length).1 (sliceBounds lo hi st l.length).2.1 (sliceBounds lo hi st l.length).2.2).filterMap (l[·]?)
noncomputable def Fy(lo st:Option Int):Bool:=lo.isNone&&st.isNone
noncomputable def gH(x:V)(lo hi st:Option Int):Option V:=(eC x).elim ((lc x).bind fun s=>gd (Fy lo st) (hi.bind fun j=>if s.length<=szLine then some (.str (Txt.slice (strOf s) none (some j)).cps.toList)else none))
 fun l=>if l.length<=szLine/\st≠some 0 then some (.lst (eJ l lo hi st))else none
noncomputable def ixN(k:Int)(n:Nat):Option Nat:=if -1048576<=k/\k<1048576 then seqIndex? k n else none
noncomputable def mi(x i:V):Option V:=(fD i).bind fun k=>(eC x).elim ((rJ x).bind fun l=>(ixN k l.length).bind fun j=>l[j]?) fun l=>if l.length<=szLine then(ixN k l.length).bind fun j=>l[j]? else none
theorem pz{l:List V}{i:Nat}{v:V}(h:l[i]?=some v)(hl:l.length<=szLine):mi (.lst l) (.int (i:Int))=some v:=by
 obtain h1:=(cX.mp h).1;obtain e:ixN (i:Int) l.length=some i:=(af ⟨by have:=cF i;lia,Int.ofNat_lt.mpr (i8 h1 hl)⟩).trans (by unfold seqIndex?;rw[ag (Int.not_lt.mpr (cF i))];simp[h1]);exact(af hl).trans ((aq (fun o:Option Nat=>o.bind fun j=>l[j]?) e).trans h)
section
variable{W:Wp}{A:Around}{E:Value->Shared->Prop}{s:Shared}{P:Addr->Prop}
theorem B0{h:Heap}{us:List Value}{l:List V}{ns:List Int}(r:Rps P h us l)(e:cJ l=some ns):IntsAre us ns:=by
 simp only[cw e]at r;exact r.map_ints
theorem fk{h:Heap}{i:Int}:∀{us:List Value}{l:List V}{j:Nat},Rps P h us l->oG i l=some j ->
  ∃hj:j<us.length,isI i us[j]=true/\∀m (hm:m<us.length),m<j->isI i us[m]=false:=by
 intro us l
 induction l generalizing us with
 |nil=>exact fun U e=>nn0 e
 |cons x l fk=>
  intro j r e
  cases x with
  |int k=>
   refine r.c' fun u q a c=>a.i' fun t=>?_;by_cases hk:k=i
   ·obtain rfl:0=j:=al_0 ((af hk).symm.trans e)
    exact⟨Nat.zero_lt_succ _,beq_iff_eq.mpr hk,fun m U hm=>absurd hm (Nat.not_lt_zero m)⟩
   ·refine mpi ((ag hk).symm.trans e) fun j' hj'=>?_
    obtain h1:=(fk c hj').1;obtain h2:=(fk c hj').2.1;obtain h3:=(fk c hj').2.2;refine⟨Nat.succ_lt_succ h1,h2,fun m hm hlt=>?_⟩
    cases m with
    |zero=>exact bK.mpr hk
    |succ m=>exact h3 m (Nat.lt_of_succ_lt_succ hm) (Nat.lt_of_succ_lt_succ hlt)
  |_=>exact nn0 e
theorem Rps.pick{h:Heap}{us:List Value}{l:List V}(r:Rps P h us l)(is:List Nat):Rps P h (is.filterMap (us[·]?)) (is.filterMap (l[·]?)):=by
 induction is with
 |nil=>exact Rps.nil
 |cons i is ih=>
  cases hx:l[i]? with
  |none=>
   have:us[i]?=none:=by
    rw[List.getElem?_eq_none_iff]at hx ⊢;rw[r.length];exact hx
   simpa [List.filterMap_cons,hx,this]using ih
  |some x=>
   refine byG fun gG kG=>?_;obtain⟨u,hu,ru⟩:=r.get hx;refine kG ?_
   simpa [List.filterMap_cons,hx,hu]using Rps.cons ru ih
theorem EV:((szLine:Nat):Int)<2^63:=by decide
theorem Ew(O:Ok W P s.heap){x v:V}{u:Value}{Q:Value->Shared->Prop}(e:Fp x=some v)(r:Rq P s.heap u x)(h:iJ W s Q fun h' u=>Rp P h' u v):wpAny W.M A (call (.builtin "len") [u]) Q E s:=by
 have fin:∀z:Int,some (V.int z)=some v->∀tk tk',Q (.int z tk') { s with toks:=tk }:=fun z hz tk tk'=>h _ s.heap tk (KX.refl O.ti) (al_0 hz▸Rp.i)
 cases x with
 |lst l=>
  refine r.l' fun a vs k hl q=>aO e fun hz e=>?_;obtain l1:=q.length;rw[Array.length_toList]at l1;rw[<-l1]at e hz;exact Calls.call_len_list hl.isList (gA (cP.mpr hz) EV) (fin _ e _ _)
 |str l=>
  refine r.s' fun x t hx=>aO e fun hz e=>?_;rw[<-hx,<-dX]at e hz;exact PySem.P.len_str (Int.not_le.mpr (gA (cP.mpr hz) EV)) (fin _ e _ _)
 |_=>exact nn0 e
theorem sU{h:Heap}{vs:Array Value}{l:List V}{ns:List Int}(q:Rps P h vs.toList l)(hn:cJ l=some ns):∃xs,vs=intItems xs/\xs.toList.map (·.1)=ns:=by
 obtain hi:=B0 q hn;obtain⟨xs,rfl⟩:=AllInts.items (by have:=hi.allInts;simpa using this);exact⟨xs,rfl,(nums_intItems xs).symm.trans hi.numsOf⟩
theorem Ex(G:WF W)(O:Ok W P s.heap)(hh:A.handled=none){b:Bi}{args:List V}{us:List Value}{v:V}{Q:Value->Shared->Prop}(e:biV b args=some v)(r:RqL P s.heap us args)(h:iJ W s Q fun h' u=>Rp P h' u v):wpAny W.M A (call b.val us) Q E s:=by
 cases b
 case divmod=>
  refine aa e fun p hp e=>aa e fun a ha e=>aa e fun b hb e=>ifn e fun hn e=>?_;rw[iZ hp]at r;refine r.w fun u w ru rw'=>?_;rw[dN ha]at ru;rw[dN hb]at rw';refine ru.i' fun tu=>rw'.i' fun tw=>?_;exact PyProof.Rows.divmod_int (fun q=>hn (.inl q)) (h _ _ _ (KX.push G O.ti _) (al_0 e▸yc (O.top G) (Rps.cons Rp.i (Rps.cons Rp.i Rps.nil)))) (.inl (Fj hn))
 all_goals
  refine aa e fun x hx e=>?_;rw[aX hx]at r;refine r.o fun u ru=>?_
 case len=>exact Ew O e ru h
 case ord=>
  refine aa e fun i hi e=>?_;rw[j9 hi]at ru;refine ru.s' fun x t hx=>?_;subst hx;obtain⟨⟨x⟩⟩:=x;obtain⟨c,hc,e2⟩:=bj.mp e;obtain rfl:x=[c]:=aX hc;exact PySem.P.ord_of_char (h _ s.heap _ (KX.refl O.ti) (e2▸Rp.i))
 case chr=>
  refine aa e fun i hi e=>aO e fun hr e=>?_;rw[dN hi]at ru;refine ru.i' fun t=>chr_of_range hr.1 hr.2 (h _ s.heap _ (KX.refl O.ti) (al_0 e▸Rp.s))
 case sum=>
  refine aa e fun l hl e=>?_;rw[dF hl]at ru;refine ru.l' fun a vs k hla q=>?_;refine byG fun gG kG=>?_;obtain⟨ns,hn,e⟩:=bj.mp e;obtain⟨xs,rfl,hx⟩:=sU q hn;refine kG ?_;refine sum_intListG hh hla.isList fun h' tk t' hk=>h _ h' tk (KX.of_all G O.ti hk) (e▸?_);rw[preSum_eq,List.take_of_length_le (by simp),hx];exact Rp.i
theorem Rps.strs{h:Heap}:∀(t:Nat) (ps:List Str),Rps P h (strsFrom t ps) (ps.map fun s=>V.str s.cps.toList):=by
 intro zi0 ps;revert zi0
 induction ps with
 |nil=>
  intro t;exact Rps.nil
 |cons p ps zih=>
  intro t;exact Rps.cons Rp.s (zih (t+1))
theorem o7(O:Ok W P s.heap){i:Int}{t:Tok}{Q:Value->Shared->Prop}(h:iJ W s Q fun h' u=>Rp P h' u (.int (ibits i))):
  wpAny W.M A (call (.builtin "int.bit_length") [.int i t]) Q E s:=
 call_int_bit_length (h _ s.heap _ (KX.refl O.ti) Rp.i)
theorem w7(G:WF W)(O:Ok W P s.heap){x y:Str}{t u:Tok}{Q:Value->Shared->Prop}(e:ox x y=true)(h:iJ W s Q fun h' r=>Rp P h' r (.lst ((Txt.split x y).map fun s=>.str s.cps.toList))):
  wpAny W.M A (call (.builtin "str.split") [.str x t,.str y u]) Q E s:=by
 unfold ox at e;simp only[jt,Bool.not_eq_true',oi]at e;refine byG fun gG kG=>?_;obtain⟨⟨⟨⟨e1,e2⟩,e3⟩,e4⟩,e5⟩:=e;refine kG ?_;refine call_meets PySem.F.slot_str_split (typeIs_str _ _ _) PySem.F.entry_str_split (PySem.F.args_str_split_2 _ _) (meets_str_split_sep x y t u e1 e2 e3 e4 e5) ?_;obtain e':Txt.split x y=Builtin.Str.partsBetween x (Builtin.Str.occurrences x y 0 x.length (x.length+1)) y.length:=by
  unfold Txt.split;rw[e1,e3];simp only[jV,if_false]
 rw[e']at h;exact h _ _ _ (KX.push G O.ti _) (ku (O.top G) (Rps.strs _ _))
theorem w8(O:Ok W P s.heap){l:List V}{i:Int}{t:Tok}{a:Addr}{vs:Array Value}{k j:Nat}{b:Bool}{Q:Value->Shared->Prop}(hl:IsL s.heap a vs k)(r:Rps P s.heap vs.toList l)(hb:jr i l=some b)(hj:oG i l=some j)(hz:l.length<=szLine)(h:iJ W s Q fun h' r=>Rp P h' r (.int j)):
  wpAny W.M A (call (.builtin "list.index") [.ref a,.int i t]) Q E s:=by
 obtain he:=(dU r hb).1;obtain h1:=(fk r hj).1;obtain h2:=(fk r hj).2.1;obtain h3:=(fk r hj).2.2;obtain l1:=r.length;simp only[Array.length_toList]at l1 h1;refine call_meets PySem.F.slot_list_index ⟨_,hl,rfl⟩ PySem.F.entry_list_index (PySem.F.args_list_index_2 _ _)
  (MeetsSeq.list_index a vs k (.int i t) (isI i) (fun y hy=>?_) j h1 (eI (Int.ofNat_lt.mpr (i8 (l1▸h1) hz)) (by decide)) h2 fun m hm hlt=>h3 m (by simp only[Array.length_toList];exact hm) hlt) ⟨hl,h _ s.heap _ (KX.refl O.ti) Rp.i⟩
 obtain⟨k',u',rfl,e2⟩:=he y (Array.mem_toList_iff.mpr hy);simp only[e2];exact MeetsSeq.EqGives.int k' i u' t
theorem ot{h:Heap}{vs:Array Value}{l:List V}(r:Rps P h vs.toList l)(lo hi st:Option Int):Rps P h (slicePick vs lo hi st).toList (eJ l lo hi st):=by
 obtain e:vs.size=l.length:=by rw[<-Array.length_toList];exact r.length
 unfold slicePick eJ;rw[e];have:=r.pick (sliceRange (sliceBounds lo hi st l.length).1 (sliceBounds lo hi st l.length).2.1 (sliceBounds lo hi st l.length).2.2)
 simpa using this
theorem j8{h:Heap}:∀{us:List Value}{l:List V}{ps:List (List Nat)},Rps P h us l->jp l=some ps->∃xs:List (Str×Tok),us=strValues xs/\xs.map (·.1)=ps.map strOf:=by
 intro us l
 induction l generalizing us with
 |nil=>exact fun r e=>r.n' ⟨[],rfl,(al_0 e)▸rfl⟩
 |cons x l j8=>
  intro ps r e
  cases x with
  |str c=>
   refine r.c' fun u q a b=>a.s' fun x t hx=>?_;obtain⟨ps',e',rfl⟩:=bj.mp (show(jp l).map _=_ from e);obtain⟨xs,rfl,h2⟩:=j8 b e';exact⟨(x,t)::xs,rfl,by simp only[bc,bc,h2,<-hx];rfl⟩
  |_=>exact nn0 e
theorem y9(O:Ok W P s.heap){x:Str}{t:Tok}{l:List V}{ps:List (List Nat)}{a:Addr}{vs:Array Value}{k:Nat}{Q:Value->Shared->Prop}(hl:IsL s.heap a vs k)(r:Rps P s.heap vs.toList l)(hp:jp l=some ps)(ok:JoinOk x (ps.map strOf)=true)(h:iJ W s Q fun h' r=>Rp P h' r (.str (Txt.join x (ps.map strOf)).cps.toList)):
  wpAny W.M A (call (.builtin "str.join") [.str x t,.ref a]) Q E s:=by
 refine byG fun gG kG=>?_;obtain⟨xs,e,hx⟩:=j8 r hp;refine kG ?_;refine SC.join (l:=xs) (by rw[<-e];exact hl.isList) hx ok fun t' k=>h _ s.heap k (KX.refl O.ti) Rp.s
theorem im{k:Int}{n j:Nat}(h:ixN k n=some j):-1048576<=k/\k<1048576/\seqIndex? k n=some j:=aO h fun g h=>⟨g.1,g.2,h⟩
theorem Ai{x v:V}{i:Int}{a:Value}{t:Tok}{Q:Value->Shared->Prop}(e:mi x (.int i)=some v)(rx:Rq P s.heap a x)(h:∀u,Rp P s.heap u v->Q u s):(Ex2 fun T id=>s.TypeIs a T/\typeLookup (.type T) "__getitem__" = pure (some (.builtin id)))/\wpAny W.M A (getItem a (.int i t)) Q E s:=by
 refine eli (show(eC x).elim _ _=_ from e) (fun e=>aa e fun l hl e=>aa e fun j hj e=>?_) fun l hl e=>aO e fun hz e=>aa e fun j hj e=>?_
 ·rw[tY hl]at rx
  refine rx.t' fun a vs k pa hl r=>⟨⟨_,_,⟨_,hl,rfl⟩,PySem.F.slot_tuple_getitem.lookup⟩,?_⟩;obtain h1:=(im hj).1;obtain h2:=(im hj).2.1;obtain h3:=(im hj).2.2;refine byG fun gG kG=>?_;obtain⟨u,hu,ru⟩:=r.get e;refine kG ?_;obtain e1:=r.length;rw[Array.length_toList]at e1;exact PySem.P.getItem_tuple hl (by lia) (by lia) (e1▸h3) (by rw[<-lm];exact hu) (h u ru)
 ·rw[dF hl]at rx
  refine rx.l' fun a vs k hl r=>⟨⟨_,_,hl.isList.typeIs,slot_list_getitem.lookup⟩,?_⟩;obtain h1:=(im hj).1;obtain h2:=(im hj).2.1;obtain h3:=(im hj).2.2;refine byG fun gG kG=>?_;obtain⟨u,hu,ru⟩:=r.get e;refine kG ?_;obtain e1:=r.length;rw[Array.length_toList]at e1;rw[<-e1]at h3;rcases Int.lt_or_le i 0 with h0 | h0
  ·obtain hb:-(vs.size:Int)<=i:=by
    unfold seqIndex? at h3;simp only[h0,if_true]at h3;refine Int.not_lt.mp fun hc=>?_;rw[ag (by simp only[jt,oi];lia)]at h3
    cases h3
   rw[seqIndex_neg h0 hb]at h3;exact wpAny_getItem_list_neg hl.isList h0 hb (by lia) (by rw[al_0 h3,<-lm];exact hu) (h u ru)
  ·obtain hj:i.toNat=j:=by
    unfold seqIndex? at h3;rw[ag (Int.not_lt.mpr h0)]at h3;exact aO h3 fun U h3=>al_0 h3
   exact wpAny_getItem_list hl.isList h0 (by lia) (by rw[hj,<-lm];exact hu) (h u ru)
theorem w3{v:Value}{j:Int}(p:IsPart v (some j)):∃t,v=.int j t:=by cases p;exact⟨_,rfl⟩
theorem oA{v:Value}(p:IsPart v none):v=.none:=by cases p;rfl
theorem vP(G:WF W)(O:Ok W P s.heap){x v:V}{a vl vu vt:Value}{lo hi st:Option Int}{sl:Addr}{Q:Value->Shared->Prop}(e:gH x lo hi st=some v)(rx:Rq P s.heap a x)(hs:s.heap.IsSliceOf sl vl vu vt)(pl:IsPart vl lo)(pu:IsPart vu hi)(pt:IsPart vt st)(h:iJ W s Q fun h' u=>Rp P h' u v):(Ex2 fun T id=>s.TypeIs a T/\typeLookup (.type T) "__getitem__" = pure (some (.builtin id)))/\wpAny W.M A (getItem a (.ref sl)) Q E s:=by
 refine eli e (fun e1=>aa e1 fun c hc e2=>eN e2 fun hg e3=>aa e3 fun j hj e4=>aO e4 fun hz e5=>?_) fun l hl e=>aO e fun hz e=>?_
 ·simp only[j9 hc]at rx
  refine rx.s' fun y t hy=>⟨⟨_,_,typeIs_str _ _ _,PySem.F.slot_str_getitem.lookup⟩,?_⟩;obtain g1:=(aT hg).1;obtain g2:=(aT hg).2;obtain rfl:lo=none:=nO.mp g1;obtain rfl:st=none:=nO.mp g2;subst hj;obtain⟨tj,rfl⟩:=w3 pu;obtain rfl:=oA pl;obtain rfl:=oA pt;subst hy;refine wpAny_getItem_str_slice (l:=none) (u:=some (j,tj)) (st:=none) hs rfl (post_val_or_str ⟨ai (Txt.slice_le y _ _) (by simp only[dX];exact ai hz (by decide)),fun t' k=>h _ s.heap k (KX.refl O.ti) (al_0 e5▸Rp.s)⟩)
 ·simp only[dF hl]at rx
  refine rx.l' fun a vs k hl r=>⟨⟨_,_,hl.isList.typeIs,slot_list_getitem.lookup⟩,?_⟩;obtain l1:=r.length;simp only[Array.length_toList]at l1;obtain K':=KX.push G O.ti { cls:=.type "list", data:=.seq (slicePick vs lo hi st) };exact wpAny_getItem_list_slice hl.isList hs pl pu pt hz.2 (h _ _ _ K' (al_0 e▸ku (O.top G) ((ot r lo hi st).kx O.pt K'))) (by simp only[l1];exact ai hz.1 (by decide))
end
end
set_option genCtorIdx false in
inductive Pat where
 |one (i:Nat)
 |many (is:List Nat)
noncomputable def Pat.ctorIdx(x:Pat):Nat:=@Pat.casesOn (fun U=>Nat) x (fun U=>0) (fun U=>1)
set_option genCtorIdx false in
mutual
inductive E where
 |var (i:Nat)
 |const (v:V)
 |bin (op:Operator) (a b:E)
 |un (op:UnaryOp) (a:E)
 |cmp (op:CmpOp) (a b:E)
 |orE (a b:E)
 |andE (a b:E)
 |ife (t:B) (a b:E)
 |list (l:List E)
 |tuple (l:List E)
 |comp1 (ks:List (Option Nat)) (p:Pat) (it:It) (ifs:List B) (elt:E)
 |sub (a i:E)
 |slice (a lo hi st:E)
 |call (f:Nat) (args:List E)
 |bi (b:Bi) (args:List E)
 |meth (m:Mt) (o:E) (args:List E)
inductive It where
 |range (l:List E)
 |enum (e:E)
 |rev (e:E)
 |exp (e:E)
inductive B where
 |and (l:List B)
 |or (l:List B)
 |cmp (op:CmpOp) (a b:E)
 |val (e:E)
end
noncomputable def E.ctorIdx(x:E):Nat:=@E.casesOn (fun U=>Nat) x (fun U=>0) (fun U=>1) (fun U U U=>2) (fun U U=>3) (fun U U U=>4) (fun U U=>5) (fun U U=>6) (fun U U U=>7) (fun U=>8) (fun U=>9) (fun U U U U U=>10) (fun U U=>11) (fun U U U U=>12) (fun U U=>13) (fun U U=>14) (fun U U U=>15)
noncomputable def It.ctorIdx(x:It):Nat:=@It.casesOn (fun U=>Nat) x (fun U=>0) (fun U=>1) (fun U=>2) (fun U=>3)
noncomputable def B.ctorIdx(x:B):Nat:=@B.casesOn (fun U=>Nat) x (fun U=>0) (fun U=>1) (fun U U U=>2) (fun U=>3)
set_option genCtorIdx false in
inductive Sl where
 |unb
 |val (v:V)
 |own (l:List V)
 |itr (l:List V)
noncomputable def Sl.ctorIdx(x:Sl):Nat:=@Sl.casesOn (fun U=>Nat) x 0 (fun U=>1) (fun U=>2) (fun U=>3)
noncomputable abbrev Ro:=List Sl
noncomputable def slV:Sl->Option V
 |.val v=>some v
 |_=>none
theorem ke{v:Sl}{l:V}(h:slV v=some l):v=.val l:=by cases v<;>first | exact nn h | exact aq Sl.val (al_0 h)
noncomputable def slP:Sl->Option V
 |.own l=>some (.lst l)
 |.val v=>some v
 |_=>none
noncomputable def pk(e:E)(ρ:Ro)(r:Option V):Option V:=
 match e with
 |.var i=>(ρ[i]?).bind slP
 |_=>r
noncomputable def Dn:List Int->Option (List V)
 |[n]=>if -szLine<=n/\n<=szLine then some ((List.range n.toNat).map fun(k:Nat)=>.int k)else none
 |[a,b]=>if -szLine<=a/\a<=szLine/\-szLine<=b/\b<=szLine then some ((List.range (b-a).toNat).map fun(k:Nat)=>.int (a+k))else none
 |[a,b,c]=>if c=-1/\-szLine<=a/\a<=szLine/\-szLine<=b/\b<=szLine then some ((List.range (a-b).toNat).map fun(k:Nat)=>.int (a-k))else none
 |_=>none
noncomputable def pE(l:List V):Option (List V):=(cJ l).bind Dn
noncomputable def oN(l:List V):List V:=l.zipIdx.map fun p=>.tup [.int (p.2:Nat),p.1]
noncomputable def fC(p:Pat)(v:V)(ρ:Ro):Option Ro:=
 match p with
 |.one i=>if i<ρ.length then some (ρ.set i (.val v))else none
 |.many is=>(rJ v).bind fun l=>if is.length=l.length/\is.all (·<ρ.length)then some ((is.zip l).foldl (fun r q=>r.set q.1 (.val q.2)) ρ)else none
noncomputable def capt(ks:List (Option Nat))(ρ:Ro):Ro:=ks.map fun k=>(k.bind fun i=>(ρ[i]?).bind slV).elim .unb .val
noncomputable def fmM(l:List V)(f:V->Option (List V)):Option (List V):=
 match l with
 |[]=>some []
 |x::r=>(f x).bind fun a=>(fmM r f).map fun b=>a++b
noncomputable def me(p:Pat)(t:Ro->Option Bool)(σ0:Ro)(g:Ro->Option (List V))(x:V):Option (List V):=
 (fC p x σ0).bind fun ρ=>(t ρ).bind fun b=>bif b then g ρ else some []
noncomputable abbrev Fun:=Nat->List V->Option V
noncomputable def iK:V->Option (Option Int)
 |.none=>some none
 |.int i=>some (some i)
 |_=>none
noncomputable def DK:V->Option (List V)
 |.lst l=>if l.length<=szLine then some l else none
 |.str s=>if s.length<=szLine then some (s.map fun c=>.str [c])else none
 |_=>none
mutual
noncomputable def ev(Φ:Fun):E->Ro->Option V
 |.var i,ρ=>(ρ[i]?).bind slV
 |.const v,_=>some v
 |.bin op a b,ρ=>(pk a ρ (ev Φ a ρ)).bind fun x=>(pk b ρ (ev Φ b ρ)).bind fun y=>bR op x y
 |.un op a,ρ=>(ev Φ a ρ).bind fun x=>unV op x
 |.cmp op a b,ρ=>(pk a ρ (ev Φ a ρ)).bind fun x=>(pk b ρ (ev Φ b ρ)).bind fun y=>(lz op x y).map V.bool
 |.orE a b,ρ=>(ev Φ a ρ).bind fun x=>(k6 x).bind fun t=>bif t then some x else ev Φ b ρ
 |.andE a b,ρ=>(ev Φ a ρ).bind fun x=>(k6 x).bind fun t=>bif t then ev Φ b ρ else some x
 |.ife t a b,ρ=>(evb Φ t ρ).bind fun t=>bif t then ev Φ a ρ else ev Φ b ρ
 |.list l,ρ=>(evs Φ l ρ).bind fun l=>if l.length<=szLine then some (.lst l)else none
 |.tuple l,ρ=>(evs Φ l ρ).bind fun l=>if l.length<=szLine then some (.tup l)else none
 |.comp1 ks p it ifs elt,ρ=>(eu Φ it ρ).bind fun items=>(fmM items (me p (fun ρ=>rt Φ ifs ρ) (capt ks ρ) fun ρ=>(ev Φ elt ρ).map fun v=>[v])).bind fun l=>if l.length<=szLine then some (.lst l)else none
 |.sub a i,ρ=>(pk a ρ (ev Φ a ρ)).bind fun x=>(ev Φ i ρ).bind fun y=>mi x y
 |.slice a lo hi st,ρ=>(pk a ρ (ev Φ a ρ)).bind fun x=>(ev Φ lo ρ).bind fun l=>(ev Φ hi ρ).bind fun h=>(ev Φ st ρ).bind fun t=>(iK l).bind fun l=>(iK h).bind fun h=>(iK t).bind fun t=>gH x l h t
 |.call f args,ρ=>(evs Φ args ρ).bind fun vs=>Φ f vs
 |.bi b args,ρ=>(q7 Φ args ρ).bind fun vs=>biV b vs
 |.meth m o args,ρ=>(pk o ρ (ev Φ o ρ)).bind fun x=>(q7 Φ args ρ).bind fun vs=>mtV m x vs
noncomputable def evs(Φ:Fun):List E->Ro->Option (List V)
 |[],_=>some []
 |e::r,ρ=>(ev Φ e ρ).bind fun v=>(evs Φ r ρ).map fun vs=>v::vs
noncomputable def q7(Φ:Fun):List E->Ro->Option (List V)
 |[],_=>some []
 |e::r,ρ=>(pk e ρ (ev Φ e ρ)).bind fun v=>(q7 Φ r ρ).map fun vs=>v::vs
noncomputable def eu(Φ:Fun):It->Ro->Option (List V)
 |.range l,ρ=>(evs Φ l ρ).bind fun vs=>pE vs
 |.enum e,ρ=>(ev Φ e ρ).bind fun v=>(eC v).bind fun l=>if l.length<=szLine then some (oN l)else none
 |.rev e,ρ=>(ev Φ e ρ).bind fun v=>(eC v).bind fun l=>if l.length<=szLine then some l.reverse else none
 |.exp e,ρ=>(ev Φ e ρ).bind fun v=>DK v
noncomputable def evb(Φ:Fun):B->Ro->Option Bool
 |.and l,ρ=>zb Φ l ρ
 |.or l,ρ=>E7 Φ l ρ
 |.cmp op a b,ρ=>(pk a ρ (ev Φ a ρ)).bind fun x=>(pk b ρ (ev Φ b ρ)).bind fun y=>lz op x y
 |.val e,ρ=>(pk e ρ (ev Φ e ρ)).bind fun x=>k6 x
noncomputable def zb(Φ:Fun):List B->Ro->Option Bool
 |[],_=>some true
 |b::r,ρ=>(evb Φ b ρ).bind fun t=>bif t then zb Φ r ρ else some false
noncomputable def E7(Φ:Fun):List B->Ro->Option Bool
 |[],_=>some false
 |b::r,ρ=>(evb Φ b ρ).bind fun t=>bif t then some true else E7 Φ r ρ
noncomputable def rt(Φ:Fun):List B->Ro->Option Bool
 |[],_=>some true
 |b::r,ρ=>(evb Φ b ρ).bind fun t=>bif t then rt Φ r ρ else some false
end
set_option genCtorIdx false in
inductive S where
 |asg (i:Nat) (e:E)
 |own (i:Nat) (e:E)
 |unp (is:List Nat) (e:E)
 |aug (i:Nat) (op:Operator) (e:E)
 |app (i:Nat) (e:E)
 |revs (i:Nat)
 |ret (e:E)
 |ite (c:B) (a b:List S)
 |whil (c:B) (b:List S)
 |forr (p:Pat) (it:It) (b:List S)
 |mkit (i:Nat) (e:E)
 |parse (o:Option Nat) (j:Nat)
 |raise
 |brk
 |calls (i:Nat) (k:Nat) (args:List E)
 |isub (i:Nat) (j:E) (op:Operator) (e:E)
 |spl (i j:Nat) (y z w:List Nat)
 |chk (i j k:Nat)
 |cuts (c j n:Nat) (e:E)
noncomputable def S.ctorIdx(x:S):Nat:=@S.casesOn (fun U=>Nat) x (fun U U=>0) (fun U U=>1) (fun U U=>2) (fun U U U=>3) (fun U U=>4) (fun U=>5) (fun U=>6) (fun U U U=>7) (fun U U=>8) (fun U U U=>9) (fun U U=>10) (fun U U=>11) 12 13 (fun U U U=>14) (fun U U U U=>15) (fun U U U U U=>16) (fun U U U=>17) (fun U U U U=>18)
set_option genCtorIdx false in
inductive Out where
 |nxt (ρ:Ro)
 |ret (v:V) (ρ:Ro)
 |brk (ρ:Ro)
noncomputable def Out.ctorIdx(x:Out):Nat:=@Out.casesOn (fun U=>Nat) x (fun U=>0) (fun U U=>1) (fun U=>2)
mutual
noncomputable def av:E->List Nat
 |.var i=>[i]
 |.const _=>[]
 |.bin _ a b=>mA a (av a)++mA b (av b)
 |.un _ a=>av a
 |.cmp _ a b=>mA a (av a)++mA b (av b)
 |.orE a b=>av a++av b
 |.andE a b=>av a++av b
 |.ife t a b=>gk t++av a++av b
 |.list l=>mB l
 |.tuple l=>mB l
 |.comp1 ks _ it _ _=>ks.filterMap id++sF it
 |.sub a i=>mA a (av a)++av i
 |.slice a lo hi st=>mA a (av a)++av lo++av hi++av st
 |.call _ args=>mB args
 |.bi _ args=>xF args
 |.meth _ o args=>mA o (av o)++xF args
noncomputable def mA(e:E)(r:List Nat):List Nat:=match e with
 |.var _=>[]
 |_=>r
noncomputable def mB:List E->List Nat
 |[]=>[]
 |e::r=>av e++mB r
noncomputable def xF:List E->List Nat
 |[]=>[]
 |e::r=>mA e (av e)++xF r
noncomputable def sF:It->List Nat
 |.range l=>mB l
 |.enum e=>av e
 |.rev e=>av e
 |.exp e=>av e
noncomputable def gk:B->List Nat
 |.and l=>xG l
 |.or l=>xG l
 |.cmp _ a b=>mA a (av a)++mA b (av b)
 |.val e=>mA e (av e)
noncomputable def xG:List B->List Nat
 |[]=>[]
 |b::r=>gk b++xG r
end
noncomputable def frz1(r:Ro)(i:Nat):Ro:=match r[i]? with
 |some (.own l)=>r.set i (.val (.lst l))
 |_=>r
noncomputable def frz(is:List Nat)(ρ:Ro):Ro:=is.foldl frz1 ρ
noncomputable def qI(val:Int):List V->Option (Option Int×List V)
 |[]=>some (none,[])
 |.int b::r=>
  let v:=Builtin.bitOr (val*64) (Builtin.bitAnd b 63)
  if ibits val+6<=134217728 then(if Builtin.bitAnd b 64=0 then some (some v,r)else qI v r)else none
 |_::_=>none
noncomputable def pv:List V->Option (Option Int×List V)
 |[]=>some (none,[])
 |.int b::r=>if Builtin.bitAnd b 64=0 then some (some (Builtin.bitAnd b 63),r)else qI (Builtin.bitAnd b 63) r
 |_::_=>none
noncomputable def iO:List V->Bool
 |[]=>true
 |[.int b]=>Builtin.bitAnd b 64 != 0&&decide (ibits (Builtin.bitAnd b 63)<=64)
 |_=>false
noncomputable def nY(i:Nat)(v:V)(ρ:Ro):Option Ro:=if i<ρ.length then some (ρ.set i (.val v))else none
noncomputable def xS:Sl->Option (List V)
 |.own l=>some l
 |_=>none
noncomputable def DJ:Sl->Option (List V)
 |.itr l=>some l
 |_=>none
noncomputable def pd{α:Type}:List α->Option (α×List α)
 |a::l=>some (a,l)
 |[]=>none
noncomputable def ET(o:Out)(k:Ro->Option Out):Option Out:=match o with
 |.nxt ρ=>k ρ
 |.ret v ρ=>some (.ret v ρ)
 |.brk ρ=>some (.brk ρ)
noncomputable def BS(o:Out)(k:Ro->Option Out):Option Out:=match o with
 |.nxt ρ=>k ρ
 |.ret v ρ=>some (.ret v ρ)
 |.brk ρ=>some (.nxt ρ)
noncomputable def qU(c:Ro->Option Bool)(b:Ro->Option Out):Nat->Ro->Option Out
 |0,_=>none
 |n+1,ρ=>(c ρ).bind fun t=>bif t then(b ρ).bind fun o=>BS o fun ρ=>qU c b n ρ else some (.nxt ρ)
noncomputable def fj(p:Pat)(b:Ro->Option Out):List V->Ro->Option Out
 |[],ρ=>some (.nxt ρ)
 |x::l,ρ=>(fC p x ρ).bind fun ρ1=>(b ρ1).bind fun o=>BS o fun ρ=>fj p b l ρ
noncomputable def uM:Operator->Bool
 |.Add | .Sub | .Mult | .LShift | .RShift | .BitOr=>true
 |_=>false
noncomputable def kin:V->V->Bool
 |.int _,.int _=>true
 |.str _,.str _=>true
 |_,_=>false
noncomputable def kz(op:Operator)(x y:V):Option V:=bif uM op&&kin x y then bR op x y else none
noncomputable def qX(op:Operator)(l:List V)(k:Int)(y:V):Option (List V):=if 0<=k/\l.length<=szLine then(l[k.toNat]?).bind fun x=>(kz op x y).map fun v=>l.set k.toNat v else none
noncomputable def Am(x y z w:List Nat):Option V:=if x.length<=szLine/\z.length<=14/\y≠z then mtV .split (.str (Txt.replace (strOf x) (strOf y) (strOf z)).cps.toList) [.str w]else none
noncomputable def l9(ρ:Ro)(i:Nat):Option V:=(ρ[i]?).bind slV
mutual
noncomputable def ex(Φ:Fun)(N:Nat):S->Ro->Option Out
 |.asg i e,ρ=>(ev Φ e (frz (av e) ρ)).bind fun v=>(nY i v (frz (av e) ρ)).map .nxt
 |.own i e,ρ=>(ev Φ e (frz (av e) ρ)).bind fun v=>(eC v).bind fun l=>if i<ρ.length then some (.nxt ((frz (av e) ρ).set i (.own l)))else none
 |.unp is e,ρ=>(ev Φ e (frz (av e) ρ)).bind fun v=>(rJ v).bind fun l=>(fC (.many is) (.tup l) (frz (av e) ρ)).map .nxt
 |.aug i op e,ρ=>(ρ[i]?).bind fun sl=>(slV sl).bind fun x=>(ev Φ e (frz (av e) ρ)).bind fun y=>(kz op x y).bind fun v=>(nY i v (frz (av e) ρ)).map .nxt
 |.app i e,ρ=>(ev Φ e (frz (av e) ρ)).bind fun v=>((frz (av e) ρ)[i]?).bind fun sl=>(xS sl).bind fun l=>if l.length<szLine then some (.nxt ((frz (av e) ρ).set i (.own (l++[v]))))else none
 |.revs i,ρ=>(ρ[i]?).bind fun sl=>(xS sl).bind fun l=>if l.length<szLine then some (.nxt (ρ.set i (.own l.reverse)))else none
 |.ret e,ρ=>(ev Φ e (frz (av e) ρ)).map fun v=>.ret v (frz (av e) ρ)
 |.ite c a b,ρ=>(evb Φ c (frz (gk c) ρ)).bind fun t=>bif t then exs Φ N a (frz (gk c) ρ)else exs Φ N b (frz (gk c) ρ)
 |.whil c b,ρ=>qU (fun ρ=>evb Φ c ρ) (fun ρ=>exs Φ N b ρ) N (frz (gk c) ρ)
 |.forr p it b,ρ=>(eu Φ it (frz (sF it) ρ)).bind fun items=>fj p (fun ρ=>exs Φ N b ρ) items (frz (sF it) ρ)
 |.mkit i e,ρ=>(ev Φ e (frz (av e) ρ)).bind fun v=>(eC v).bind fun l=>if i<ρ.length/\l.length<=szLine then some (.nxt ((frz (av e) ρ).set i (.itr l)))else none
 |.parse o j,ρ=>(ρ[j]?).bind fun sl=>(DJ sl).bind fun l=>(pv l).bind fun q=>q.1.bind fun v=>o.elim (some (.nxt (ρ.set j (.itr q.2)))) fun i=>if i<ρ.length/\i≠j then some (.nxt ((ρ.set j (.itr q.2)).set i (.val (.int v))))else none
 |.raise,_=>none
 |.brk,ρ=>some (.brk ρ)
 |.calls i k args,ρ=>(evs Φ args (frz (mB args) ρ)).bind fun vs=>(Φ (1000+k) vs).bind fun v=>(nY i v (frz (mB args) ρ)).map .nxt
 |.isub i j op e,ρ=>(ev Φ j (frz (av j++av e) ρ)).bind fun k=>(fD k).bind fun k=>((frz (av j++av e) ρ)[i]?).bind fun sl=>(xS sl).bind fun l=>(ev Φ e (frz (av j++av e) ρ)).bind fun y=>(qX op l k y).map fun l=>.nxt ((frz (av j++av e) ρ).set i (.own l))
 |.spl i j y z w,ρ=>(l9 ρ j).bind fun x=>(lc x).bind fun x=>(Am x y z w).bind fun v=>(nY i v ρ).map .nxt
 |.chk i j k,ρ=>(l9 ρ i).bind fun x=>(l9 ρ j).bind fun y=>(Φ (2000+k) [y]).bind fun z=>(lz .NotEq x z).map fun t=>bif t then .ret (.bool false) ρ else .nxt ρ
 |.cuts c j n e,ρ=>(ev Φ e (frz (av e) ρ)).bind fun v=>(eC v).bind fun l2=>((frz (av e) ρ)[j]?).bind fun sl=>(DJ sl).bind fun l1=>((frz (av e) ρ)[n]?).bind fun sl=>(slV sl).bind fun m=>(fD m).bind fun m=>
   if iO l1=true/\iO l2=true/\l2.length<=szLine/\c<ρ.length/\n<ρ.length/\j≠n/\c≠n/\c≠j then some (.nxt ((((frz (av e) ρ).set c .unb).set j .unb).set n (.val (.int (m+2)))))else none
noncomputable def exs(Φ:Fun)(N:Nat):List S->Ro->Option Out
 |[],ρ=>some (.nxt ρ)
 |s::r,ρ=>(ex Φ N s ρ).bind fun o=>ET o fun ρ=>exs Φ N r ρ
end
theorem sL{v:Sl}{l:List V}(h:xS v=some l):v=.own l:=by cases v<;>first | exact nn h | exact aq Sl.own (al_0 h)
theorem yu{v:Sl}{l:List V}(h:DJ v=some l):v=.itr l:=by cases v<;>first | exact nn h | exact aq Sl.itr (al_0 h)
theorem jY{α:Type}{l:List α}{q:α×List α}(h:pd l=some q):l=q.1::q.2:=match l,h with | _::_,h=>al_0 h▸rfl
structure Cx where
 slots:List (Str×Bool)
 glob:Str->Bool
noncomputable def aI(k:NameKind):Bool:=k==.local||k==.cell||k==.free
noncomputable def gi(names:List (Str×NameKind)):List (Str×Bool):=
 (names.filter fun p=>aI p.2).map fun p=>(p.1,p.2 != .local)
noncomputable def ac(sc:Scope):Cx:={ slots:=gi sc.names,glob:=fun x=>sc.names.lookup x==some .globalImplicit }
noncomputable def Cx.ix(c:Cx)(x:Str):Option Nat:=c.slots.findIdx? fun p=>p.1==x
structure Tb where
 gf:List Str
 gc:List (Str×V)
 pvn:Str
 gs:List Str:=[]
 tr:Nat:=0
 gt:List Str:=[]
noncomputable def zy:Const->Option V
 |.none=>some .none
 |.bool b=>some (.bool b)
 |.int i=>some (.int i)
 |.str s=>some (.str s.cps.toList)
 |_=>none
noncomputable def BJ(f:Str):Option Bi:=
 bif f == "len" then some .len else bif f == "sum" then some .sum else bif f == "divmod" then some .divmod else bif f == "ord" then some .ord else bif f == "chr" then some .chr else none
noncomputable def AM(m:Str):Option Mt:=
 bif m == "bit_length" then some .bitLength else bif m == "split" then some .split else bif m == "index" then some .index else bif m == "join" then some .join else none
noncomputable def cK(sc:Scope):Bool:=sc.kind==.function&&decide ((sc.names.map (·.1)).Nodup)&&sc.names.all (fun p=>p.1 != ("__classdict__" : Str))
noncomputable def AT(c:Cx)(sc:Scope):Option (List (Option Nat)):=
 (sc.names.filter fun p=>aI p.2).mapM fun p=>bif p.2==.free then(c.ix p.1).bind fun i=>(c.slots[i]?).bind fun q=>gd q.2 (some (some i))else some none
noncomputable def vw{α:Type}(n m:Nat)(k:n=m->α):Option α:=if h:n=m then some (k h)else none
theorem bD{α:Type}{n m:Nat}{k:n=m->α}{q:α}(h:vw n m k=some q):∃hn,k hn=q:=
 if hn:n=m then⟨hn,al_0 ((dif_pos hn).symm.trans h)⟩else nn0 ((dif_neg hn).symm.trans h)
noncomputable def nmX(e:Expr)(h:e.ctorIdx=23):Str×Pos:=Expr.Name.elim (motive_1:=fun U=>Str×Pos) e h Prod.mk
theorem Dy(e:Expr)(h):e=.Name (nmX e h).1 (nmX e h).2:=Expr.Name.elim (motive_1:=fun e=>∀h,e=.Name (nmX e h).1 (nmX e h).2) e h (fun U U U=>rfl) h
noncomputable def atX(e:Expr)(h:e.ctorIdx=20):Expr×Str×Pos:=Expr.Attribute.elim (motive_1:=fun U=>Expr×Str×Pos) e h fun o m p=>(o,m,p)
theorem EA(e:Expr)(h):e=.Attribute (atX e h).1 (atX e h).2.1 (atX e h).2.2:=Expr.Attribute.elim (motive_1:=fun e=>∀h,e=.Attribute (atX e h).1 (atX e h).2.1 (atX e h).2.2) e h (fun U U U U=>rfl) h
noncomputable def clX(e:Expr)(h:e.ctorIdx=16):Expr×List Expr×List Keyword×Pos:=Expr.Call.elim (motive_1:=fun U=>Expr×List Expr×List Keyword×Pos) e h fun f a k p=>(f,a,k,p)
theorem El(e:Expr)(h):e=.Call (clX e h).1 (clX e h).2.1 (clX e h).2.2.1 (clX e h).2.2.2:=Expr.Call.elim (motive_1:=fun e=>∀h,e=.Call (clX e h).1 (clX e h).2.1 (clX e h).2.2.1 (clX e h).2.2.2) e h (fun U U U U U=>rfl) h
noncomputable def tpX(e:Expr)(h:e.ctorIdx=25):List Expr×Nat×Pos:=Expr.Tuple.elim (motive_1:=fun U=>List Expr×Nat×Pos) e h fun l k p=>(l,k,p)
theorem CJ(e:Expr)(h):e=.Tuple (tpX e h).1 (tpX e h).2.1 (tpX e h).2.2:=Expr.Tuple.elim (motive_1:=fun e=>∀h,e=.Tuple (tpX e h).1 (tpX e h).2.1 (tpX e h).2.2) e h (fun U U U U=>rfl) h
noncomputable def slX(e:Expr)(h:e.ctorIdx=26):Option Expr×Option Expr×Option Expr×Pos:=Expr.Slice.elim (motive_1:=fun U=>Option Expr×Option Expr×Option Expr×Pos) e h fun a b c p=>(a,b,c,p)
theorem CX(e:Expr)(h):e=.Slice (slX e h).1 (slX e h).2.1 (slX e h).2.2.1 (slX e h).2.2.2:=Expr.Slice.elim (motive_1:=fun e=>∀h,e=.Slice (slX e h).1 (slX e h).2.1 (slX e h).2.2.1 (slX e h).2.2.2) e h (fun U U U U U=>rfl) h
noncomputable def bnX(e:Expr)(h:e.ctorIdx=2):Expr×Operator×Expr×Pos:=Expr.BinOp.elim (motive_1:=fun U=>Expr×Operator×Expr×Pos) e h fun l o r p=>(l,o,r,p)
theorem Eu(e:Expr)(h):e=.BinOp (bnX e h).1 (bnX e h).2.1 (bnX e h).2.2.1 (bnX e h).2.2.2:=Expr.BinOp.elim (motive_1:=fun e=>∀h,e=.BinOp (bnX e h).1 (bnX e h).2.1 (bnX e h).2.2.1 (bnX e h).2.2.2) e h (fun U U U U U=>rfl) h
noncomputable def cnX(e:Expr)(h:e.ctorIdx=19):Const×Nat×Pos:=Expr.Constant.elim (motive_1:=fun U=>Const×Nat×Pos) e h fun k n p=>(k,n,p)
theorem tF(e:Expr)(h):e=.Constant (cnX e h).1 (cnX e h).2.1 (cnX e h).2.2:=Expr.Constant.elim (motive_1:=fun e=>∀h,e=.Constant (cnX e h).1 (cnX e h).2.1 (cnX e h).2.2) e h (fun U U U U=>rfl) h
noncomputable def boX(e:Expr)(h:e.ctorIdx=0):BoolOp×List Expr×Pos:=Expr.BoolOp.elim (motive_1:=fun U=>BoolOp×List Expr×Pos) e h fun o l p=>(o,l,p)
theorem Et(e:Expr)(h):e=.BoolOp (boX e h).1 (boX e h).2.1 (boX e h).2.2:=Expr.BoolOp.elim (motive_1:=fun e=>∀h,e=.BoolOp (boX e h).1 (boX e h).2.1 (boX e h).2.2) e h (fun U U U U=>rfl) h
noncomputable def cmX(e:Expr)(h:e.ctorIdx=15):Expr×List CmpOp×List Expr×Pos:=Expr.Compare.elim (motive_1:=fun U=>Expr×List CmpOp×List Expr×Pos) e h fun l o r p=>(l,o,r,p)
theorem Ej(e:Expr)(h):e=.Compare (cmX e h).1 (cmX e h).2.1 (cmX e h).2.2.1 (cmX e h).2.2.2:=Expr.Compare.elim (motive_1:=fun e=>∀h,e=.Compare (cmX e h).1 (cmX e h).2.1 (cmX e h).2.2.1 (cmX e h).2.2.2) e h (fun U U U U U=>rfl) h
noncomputable def esX(s:Stmt)(h:s.ctorIdx=(Stmt.Expr default default).ctorIdx):Expr×Pos:=Stmt.Expr.elim (motive_2:=fun U=>Expr×Pos) s h Prod.mk
theorem E9(s:Stmt)(h):s=.Expr (esX s h).1 (esX s h).2:=Stmt.Expr.elim (motive_2:=fun s=>∀h,s=.Expr (esX s h).1 (esX s h).2) s h (fun U U U=>rfl) h
noncomputable def rsX(s:Stmt)(h:s.ctorIdx=(Stmt.Return none default).ctorIdx):Option Expr×Pos:=Stmt.Return.elim (motive_2:=fun U=>Option Expr×Pos) s h Prod.mk
theorem Dj(s:Stmt)(h):s=.Return (rsX s h).1 (rsX s h).2:=Stmt.Return.elim (motive_2:=fun s=>∀h,s=.Return (rsX s h).1 (rsX s h).2) s h (fun U U U=>rfl) h
noncomputable def bx(e:Expr):Option Str:=vw e.ctorIdx 23 fun h=>(nmX e h).1
noncomputable def qh(e:Expr):Option (Expr×Str×Pos):=vw e.ctorIdx 20 (atX e)
noncomputable def hC(e:Expr):Option (Expr×List Expr×Pos):=(vw e.ctorIdx 16 (clX e)).bind fun q=>gd q.2.2.1.isEmpty (some (q.1,q.2.1,q.2.2.2))
noncomputable def mf(e:Expr):Option (List Expr):=vw e.ctorIdx 25 fun h=>(tpX e h).1
noncomputable def ue(e:Expr):Option (Option Expr×Option Expr×Option Expr×Pos):=vw e.ctorIdx 26 (slX e)
theorem aS{e:Expr}{x:Str}(h:bx e=some x):∃p,e=.Name x p:=
 (bD h).elim fun hn q=>q▸⟨_,Dy e hn⟩
theorem qg{e:Expr}{q:Expr×Str×Pos}(h:qh e=some q):e=.Attribute q.1 q.2.1 q.2.2:=
 (bD h).elim fun hn q=>q▸EA e hn
theorem f8{e:Expr}{q:Expr×List Expr×Pos}(h:hC e=some q):e=.Call q.1 q.2.1 [] q.2.2:=
 bnd h fun r hr h=>gds (P:=fun q=>e=.Call q.1 q.2.1 [] q.2.2) h fun k=>(bD hr).elim fun hn q=>(El e hn).trans (by rw[q,fc k])
theorem pf{e:Expr}{q:List Expr}(h:mf e=some q):Ex2 fun k p=>e=.Tuple q k p:=
 (bD h).elim fun hn q=>q▸⟨_,_,CJ e hn⟩
theorem xj{e:Expr}{q:Option Expr×Option Expr×Option Expr×Pos}(h:ue e=some q):e=.Slice q.1 q.2.1 q.2.2.1 q.2.2.2:=
 (bD h).elim fun hn q=>q▸CX e hn
theorem FX{e:Expr}{q:BoolOp×List Expr×Pos}(h:vw e.ctorIdx 0 (boX e)=some q):e=.BoolOp q.1 q.2.1 q.2.2:=
 (bD h).elim fun hn q=>q▸Et e hn
theorem Cr{e:Expr}{q:Expr×List CmpOp×List Expr×Pos}(h:vw e.ctorIdx 15 (cmX e)=some q):e=.Compare q.1 q.2.1 q.2.2.1 q.2.2.2:=
 (bD h).elim fun hn q=>q▸Ej e hn
noncomputable def Pat.slots:Pat->List Nat
 |.one i=>[i]
 |.many l=>l
noncomputable def pJ(ks:List (Option Nat))(p:Pat):Bool:=p.slots.all fun i=>ks[i]?==some none
noncomputable def kH(it:It)(t:Expr):Bool:=match it with
 |.enum _=>(mf t).isSome
 |_=>true
noncomputable def gQ(c:Cx)(e:Expr):Option Nat:=(bx e).bind c.ix
noncomputable def vZ(c:Cx)(e:Expr):Option Pat:=(bx e).elim ((mf e).bind fun es=>(es.mapM (gQ c)).map .many) fun x=>(c.ix x).map .one
noncomputable def kq(e:Expr):Bool:=e.ctorIdx==23||e.ctorIdx==21||e.ctorIdx==19
noncomputable def FA:Comprehension->Option (Expr×Expr×List Expr)
 |⟨t,it,ifs,a⟩=>gd (a==0) (some (t,it,ifs))
noncomputable def Cu(op:BoolOp)(a b:E):E:=match op with
 |.Or=>.orE a b
 |.And=>.andE a b
theorem DY{g:Comprehension}{q:Expr×Expr×List Expr}(h:FA g=some q):g=⟨q.1,q.2.1,q.2.2,0⟩:=by
 obtain⟨t,it,ifs,a⟩:=g;exact gds (P:=fun q=>Comprehension.mk t it ifs a=⟨q.1,q.2.1,q.2.2,0⟩) h fun k=>aq _ (aB k)
inductive Al{α β:Type}(f:α->Option β):List α->List β->Prop
 |nil:Al f [] []
 |cons {x:α}{y:β}{es:List α}{ys:List β} (h:f x=some y) (t:Al f es ys):Al f (x::es) (y::ys)
theorem eR{α β:Type}{f:α->Option β}:∀{es:List α}{ys:List β},es.mapM f=some ys->Al f es ys:=by
 intro es
 induction es with
 |nil=>
  intro ys e;exact sme (show some []=some ys from e) .nil
 |cons x es eR=>
  intro ys e;rw[List.mapM_cons]at e;exact bnd e fun y hy e=>bnd e fun r hr e=>sme e (.cons hy (eR hr))
noncomputable def DL(c:Cx)(e:Expr):Option (Str×List Expr):=(hC e).bind fun q=>(bx q.1).bind fun f=>
 gd (c.glob f&&(f == "range" || f == "enumerate" || f == "reversed")) (some (f,q.2.1))
noncomputable def xK(e:Expr):Bool:=e.ctorIdx==23||e.ctorIdx==16||e.ctorIdx==21||e.ctorIdx==2
mutual
noncomputable def trE(tb:Tb):Nat->Cx->Expr->Option E
 |0,_,_=>none
 |n+1,c,e=>match e with
  |.Constant k _ _=>(zy k).map .const
  |.Name x _=>gd (!(x==("__debug__" : Str))) ((c.ix x).elim (gd (c.glob x) ((tb.gc.lookup x).map .const)) fun i=>some (.var i))
  |.BinOp l op r _=>(trE tb n c l).bind fun a=>(trE tb n c r).map fun b=>.bin op a b
  |.UnaryOp op x _=>(trE tb n c x).map (.un op)
  |.Compare l ops rs _=>(one ops).bind fun op=>(one rs).bind fun r=>gd (!behindInMarks op r) ((trE tb n c l).bind fun a=>(trE tb n c r).map fun b=>.cmp op a b)
  |.BoolOp op vs _=>(two vs).bind fun p=>(trE tb n c p.1).bind fun a=>(trE tb n c p.2).map fun b=>Cu op a b
  |.IfExp t a b _=>(trB tb n c t).bind fun t=>(trE tb n c a).bind fun a=>(trE tb n c b).map fun b=>.ife t a b
  |.List es _=>(es.mapM (trE tb n c)).map .list
  |.Tuple es _ _=>(es.mapM (trE tb n c)).map .tuple
  |.ListComp elt gens sc _=>gd (cK sc) ((AT c sc).bind fun ks=>(trE tb n (ac sc) elt).bind fun elt=>(one gens).bind fun g=>(FA g).bind fun g=>(vZ (ac sc) g.1).bind fun p=>(vF tb n c g.2.1).bind fun it=>(g.2.2.mapM (trB tb n (ac sc))).bind fun ifs=>gd (pJ ks p&&kH it g.1) (some (.comp1 ks p it ifs elt)))
  |.Subscript v i _=>(trE tb n c v).bind fun a=>(ue i).elim ((trE tb n c i).map fun b=>.sub a b) fun q=>(trO tb n c q.1).bind fun lo=>(trO tb n c q.2.1).bind fun hi=>(trO tb n c q.2.2.1).map fun st=>.slice a lo hi st
  |.Call f args kws pos=>gd kws.isEmpty ((args.mapM (trE tb n c)).bind fun as=>(bx f).elim
    ((qh f).bind fun q=>gd (q.2.2.endLine==pos.line&&(kq q.1&&decide (args.length<30))) ((trE tb n c q.1).bind fun o=>(AM q.2.1).map fun m=>.meth m o as))
    fun f=>gd (c.glob f&&!(f==("__debug__" : Str))) ((tb.gf.findIdx? (·==f)).elim ((BJ f).map fun b=>.bi b as) fun i=>some (.call i as)))
  |_=>none
noncomputable def trO(tb:Tb):Nat->Cx->Option Expr->Option E
 |0,_,_=>none
 |n+1,c,e=>match e with
  |none=>some (.const .none)
  |some e=>trE tb n c e
noncomputable def vF(tb:Tb):Nat->Cx->Expr->Option It
 |0,_,_=>none
 |n+1,c,e=>(DL c e).elim ((trE tb n c e).map .exp) fun q=>
   bif q.1==("range" : Str)then(q.2.mapM (trE tb n c)).map .range
   else bif q.1==("enumerate" : Str)then(one q.2).bind fun a=>(trE tb n c a).map .enum
   else gd (q.1==("reversed" : Str)) ((one q.2).bind fun a=>(trE tb n c a).map .rev)
noncomputable def trB(tb:Tb):Nat->Cx->Expr->Option B
 |0,_,_=>none
 |n+1,c,e=>(vw e.ctorIdx 0 (boX e)).elim ((vw e.ctorIdx 15 (cmX e)).elim (gd (xK e) ((trE tb n c e).map .val)) fun q=>(one q.2.1).bind fun op=>(one q.2.2.1).bind fun r=>
   gd (!behindInMarks op r) ((trE tb n c q.1).bind fun a=>(trE tb n c r).map fun b=>.cmp op a b)) fun q=>(q.2.1.mapM (trB tb n c)).map (match q.1 with | .And=>.and | .Or=>.or)
end
noncomputable def nw(e:Expr):Bool:=(mf e).elim false fun vs=>vs.all (constantsAlone 8)
noncomputable def Cx.nx(c:Cx)(x:Str):Option Nat:=gd (!(x==("__debug__" : Str))) (c.ix x)
noncomputable def vy(c:Cx)(v:Expr):Option (Str×Expr):=(hC v).bind fun q=>(bx q.1).bind fun f=>(one q.2.1).bind fun a=>gd (c.glob f) (some (f,a))
noncomputable def yA:Operator->Bool
 |.Add=>true
 |_=>false
noncomputable def Cy(e:Expr):Option (Expr×Expr):=(vw e.ctorIdx 2 (bnX e)).bind fun q=>gd (yA q.2.1) (some (q.1,q.2.2.1))
theorem qY{o:Operator}(h:yA o=true):o=.Add:=by cases o<;>first | rfl | cases h
theorem EH{e:Expr}{q:Expr×Expr}(h:Cy e=some q):∃p,e=.BinOp q.1 .Add q.2 p:=
 bnd h fun r hr h=>gds (P:=fun q=>∃p,e=.BinOp q.1 .Add q.2 p) h fun k=>(bD hr).elim fun hn q=>⟨_,(Eu e hn).trans (by rw[q,qY k])⟩
noncomputable def uA(e:Expr):Bool:=e.ctorIdx==24||(Cy e).isSome
noncomputable def BU(tb:Tb)(ow:List Str)(c:Cx)(x:Str)(i:Nat)(v:Expr):Option S:=
 (vy c v).elim (bif ow.contains x&&uA v then(trE tb 40 c v).map (.own i)else(trE tb 40 c v).map (.asg i)) fun q=>
  bif q.1==tb.pvn then(bx q.2).bind fun t=>(c.nx t).map fun j=>.parse (some i) j
  else bif q.1==("iter" : Str)then(trE tb 40 c q.2).map (.mkit i)
  else(trE tb 40 c v).map (.asg i)
noncomputable def vx(tb:Tb)(c:Cx)(v:Expr):Option (Nat×List E):=(hC v).bind fun q=>(bx q.1).bind fun f=>gd (c.glob f&&!(f==("__debug__" : Str))) ((tb.gs.findIdx? (·==f)).bind fun k=>(q.2.1.mapM (trE tb 40 c)).map fun as=>(k,as))
noncomputable def Fs:Const->Option Int
 |.int k=>some k
 |_=>none
theorem B2{c:Const}{k:Int}(h:Fs c=some k):c=.int k:=by
 cases c
 case int=>exact aq Const.int (al_0 h)
 all_goals exact nn0 h
noncomputable def Cg(e:Expr):Option Int:=(vw e.ctorIdx 19 (cnX e)).bind fun q=>Fs q.1
theorem DM{e:Expr}{k:Int}(h:Cg e=some k):Ex2 fun n p=>e=.Constant (.int k) n p:=
 bnd h fun r hr h=>(bD hr).elim fun hn q=>⟨_,_,(tF e hn).trans (by rw[q,B2 h])⟩
noncomputable def Ca(tb:Tb)(c:Cx)(x m:Str)(args:List Expr):Option S:=(c.nx x).bind fun i=>
 bif args.isEmpty then gd (m==("reverse" : Str)) (some (.revs i))else(one args).bind fun a=>
  gd (m==("append" : Str)) ((trE tb 40 c a).map (.app i))
noncomputable def EW:Const->Option Str
 |.str s=>some s
 |_=>none
theorem Ak{c:Const}{k:Str}(h:EW c=some k):c=.str k:=by
 cases c
 case str=>exact aq Const.str (al_0 h)
 all_goals exact nn0 h
noncomputable def Aj(e:Expr):Option Str:=(vw e.ctorIdx 19 (cnX e)).bind fun q=>EW q.1
theorem sr{e:Expr}{k:Str}(h:Aj e=some k):Ex2 fun n p=>e=.Constant (.str k) n p:=
 bnd h fun r hr h=>(bD hr).elim fun hn q=>⟨_,_,(tF e hn).trans (by rw[q,Ak h])⟩
noncomputable def lsX(e:Expr)(h:e.ctorIdx=24):List Expr×Pos:=Expr.List.elim (motive_1:=fun U=>List Expr×Pos) e h Prod.mk
theorem DH(e:Expr)(h):e=.List (lsX e h).1 (lsX e h).2:=Expr.List.elim (motive_1:=fun e=>∀h,e=.List (lsX e h).1 (lsX e h).2) e h (fun U U U=>rfl) h
noncomputable def lsE(e:Expr):Option (List Expr):=(vw e.ctorIdx 24 (lsX e)).map (·.1)
theorem Fn{e:Expr}{l:List Expr}(h:lsE e=some l):∃p,e=.List l p:=by
 obtain⟨q,hq,rfl⟩:=bj.mp h;exact(bD hq).elim fun hn q=>q▸⟨_,DH e hn⟩
noncomputable def yf(m:Str)(e:Expr):Option (Expr×List Expr):=(hC e).bind fun q=>(qh q.1).bind fun u=>gd (u.2.1==m&&u.2.2.endLine==q.2.2.line) (some (u.1,q.2.1))
theorem qS{m:Str}{e:Expr}{q:Expr×List Expr}(h:yf m e=some q):Ex2 fun ap p=>e=.Call (.Attribute q.1 m ap) q.2 [] p/\(ap.endLine==p.line)=true:=
 bnd h fun r hr h=>bnd h fun u hu h=>gds (P:=fun q=>Ex2 fun ap p=>e=.Call (.Attribute q.1 m ap) q.2 [] p/\(ap.endLine==p.line)=true) h fun k=>⟨_,_,(f8 hr).trans (by rw[qg hu,aB (aT k).1]),(aT k).2⟩
structure SplT where
 x:Str
 y:Str
 z:Str
 w:Str
noncomputable def BW(v:Expr):Option SplT:=(yf "split" v).bind fun q=>(one q.2).bind fun w=>(Aj w).bind fun w=>(yf "replace" q.1).bind fun r=>(two r.2).bind fun yz=>(Aj yz.1).bind fun y=>(Aj yz.2).bind fun z=>(bx r.1).map fun x=>⟨x,y,z,w⟩
noncomputable def An(tb:Tb)(c:Cx)(i:Nat)(v:Expr):Option S:=gd (tb.tr==2) ((BW v).bind fun t=>(c.nx t.x).map fun j=>.spl i j t.y.cps.toList t.z.cps.toList t.w.cps.toList)
structure ChkT where
 x:Str
 f:Str
 y:Str
noncomputable def Fr:CmpOp->Bool
 |.NotEq=>true
 |_=>false
noncomputable def Cv:Const->Option Bool
 |.bool k=>some k
 |_=>none
noncomputable def qF(b:List Stmt):Bool:=((one b).bind fun s=>(vw s.ctorIdx _ (rsX s)).bind fun r=>r.1.bind fun r=>(vw r.ctorIdx 19 (cnX r)).bind fun q=>Cv q.1)==some false
noncomputable def Cs(c:Cx)(t:Expr)(a b:List Stmt):Option ChkT:=(vw t.ctorIdx 15 (cmX t)).bind fun q=>(one q.2.1).bind fun op=>(one q.2.2.1).bind fun r=>(bx q.1).bind fun x=>(vy c r).bind fun u=>(bx u.2).bind fun y=>
 gd (Fr op&&(qF a&&b.isEmpty)) (some ⟨x,u.1,y⟩)
noncomputable def BE(tb:Tb)(c:Cx)(t:Expr)(a b:List Stmt):Option S:=(Cs c t a b).bind fun q=>(tb.gt.findIdx? (·==q.f)).bind fun k=>(c.nx q.x).bind fun i=>(c.nx q.y).bind fun j=>gd (!(q.f==("__debug__" : Str))) (some (.chk i j k))
structure CutT where
 cut:Str
 tape:Str
 it:Str
 arg:Expr
 f:Str
 cut2:Str
 exc:Str
 n:Str
noncomputable def trX(s:Stmt)(h:s.ctorIdx=(Stmt.Try default default default default default).ctorIdx):List Stmt×List ExceptHandler×List Stmt×List Stmt×Pos:=Stmt.Try.elim (motive_2:=fun U=>List Stmt×List ExceptHandler×List Stmt×List Stmt×Pos) s h fun a b c d e=>(a,b,c,d,e)
theorem CI(s:Stmt)(h):s=.Try (trX s h).1 (trX s h).2.1 (trX s h).2.2.1 (trX s h).2.2.2.1 (trX s h).2.2.2.2:=Stmt.Try.elim (motive_2:=fun s=>∀h,s=.Try (trX s h).1 (trX s h).2.1 (trX s h).2.2.1 (trX s h).2.2.2.1 (trX s h).2.2.2.2) s h (fun U U U U U U=>rfl) h
noncomputable def agX(s:Stmt)(h:s.ctorIdx=(Stmt.AugAssign default default default default).ctorIdx):Expr×Operator×Expr×Pos:=Stmt.AugAssign.elim (motive_2:=fun U=>Expr×Operator×Expr×Pos) s h fun a b c d=>(a,b,c,d)
theorem EF(s:Stmt)(h):s=.AugAssign (agX s h).1 (agX s h).2.1 (agX s h).2.2.1 (agX s h).2.2.2:=Stmt.AugAssign.elim (motive_2:=fun s=>∀h,s=.AugAssign (agX s h).1 (agX s h).2.1 (agX s h).2.2.1 (agX s h).2.2.2) s h (fun U U U U U=>rfl) h
noncomputable def Ch(b:List Stmt):Option Str:=(one b).bind fun s=>(vw s.ctorIdx _ (agX s)).bind fun q=>(Cg q.2.2.1).bind fun k=>gd (yA q.2.1&&k==1) (bx q.1)
noncomputable def yP(hs:List ExceptHandler):Option (Str×Str):=(one hs).bind fun h=>match h with
 |.ExceptHandler t n b _=>gd n.isNone (t.bind fun t=>(bx t).bind fun x=>(Ch b).map fun y=>(x,y))
noncomputable def BT(b:List Stmt):Option (Str×Str×Str×Str):=(one b).bind fun s=>(vw s.ctorIdx _ (trX s)).bind fun t=>(one t.1).bind fun s=>(vw s.ctorIdx _ (esX s)).bind fun e=>(hC e.1).bind fun q=>(bx q.1).bind fun f=>(one q.2.1).bind fun a=>(bx a).bind fun y=>(yP t.2.1).bind fun u=>
 gd (t.2.2.1.isEmpty&&t.2.2.2.1.isEmpty) (some (f,y,u.1,u.2))
noncomputable def Cq(t it:Expr)(b:List Stmt):Option CutT:=(bx t).bind fun cut=>(lsE it).bind fun l=>(two l).bind fun l=>(bx l.1).bind fun tape=>(hC l.2).bind fun q=>(bx q.1).bind fun i=>(one q.2.1).bind fun a=>(BT b).map fun u=>⟨cut,tape,i,a,u.1,u.2.1,u.2.2.1,u.2.2.2⟩
noncomputable def FU(tb:Tb)(c:Cx)(q:CutT):Bool:=q.it==("iter" : Str)&&(c.glob q.it&&(q.f==tb.pvn&&(c.glob q.f&&(q.cut2==q.cut&&(q.exc==("StopIteration" : Str)&&c.glob q.exc)))))
noncomputable def vo(tb:Tb)(c:Cx)(t it:Expr)(b:List Stmt):Option S:=gd (tb.tr==1) ((Cq t it b).bind fun q=>(c.nx q.cut).bind fun k=>(c.nx q.tape).bind fun j=>(c.nx q.n).bind fun n=>gd (FU tb c q) ((trE tb 40 c q.arg).map (.cuts k j n)))
noncomputable def sbX(e:Expr)(h:e.ctorIdx=21):Expr×Expr×Pos:=Expr.Subscript.elim (motive_1:=fun U=>Expr×Expr×Pos) e h fun a i p=>(a,i,p)
theorem Dh(e:Expr)(h):e=.Subscript (sbX e h).1 (sbX e h).2.1 (sbX e h).2.2:=Expr.Subscript.elim (motive_1:=fun e=>∀h,e=.Subscript (sbX e h).1 (sbX e h).2.1 (sbX e h).2.2) e h (fun U U U U=>rfl) h
noncomputable def Cd(tb:Tb)(c:Cx)(t:Expr)(op:Operator)(v:Expr):Option S:=(vw t.ctorIdx 21 (sbX t)).bind fun q=>(bx q.1).bind fun x=>(c.nx x).bind fun i=>(trE tb 40 c q.2.1).bind fun j=>(trE tb 40 c v).map fun e=>.isub i j op e
noncomputable def trS(tb:Tb)(ow:List Str):Nat->Cx->Stmt->Option S
 |0,_,_=>none
 |n+1,c,st=>match st with
  |.Assign ts v _=>(one ts).bind fun t=>(bx t).elim
    ((mf t).bind fun es=>(es.mapM (gQ c)).bind fun is=>(trE tb 40 c v).bind fun e=>gd (!nw v) (some (.unp is e)))
    fun x=>(c.ix x).bind fun i=>(vx tb c v).elim ((An tb c i v).elim (BU tb ow c x i v) some) fun q=>some (.calls i q.1 q.2)
  |.AugAssign t op v _=>(bx t).elim (Cd tb c t op v) fun x=>(c.ix x).bind fun i=>(trE tb 40 c v).map fun e=>.aug i op e
  |.Expr e _=>(hC e).bind fun q=>(qh q.1).bind fun u=>(bx u.1).bind fun x=>gd (u.2.2.endLine==q.2.2.line) (Ca tb c x u.2.1 q.2.1)
  |.Return v _=>v.bind fun e=>(trE tb 40 c e).map .ret
  |.If t a b _=>(BE tb c t a b).elim ((trB tb 40 c t).bind fun t=>(a.mapM (trS tb ow n c)).bind fun a=>(b.mapM (trS tb ow n c)).map fun b=>.ite t a b) some
  |.While t b o _=>gd o.isEmpty ((trB tb 40 c t).bind fun t=>(b.mapM (trS tb ow n c)).map fun b=>.whil t b)
  |.For t it b o _=>gd o.isEmpty ((vo tb c t it b).elim ((vZ c t).bind fun p=>(vF tb 40 c it).bind fun i=>(b.mapM (trS tb ow n c)).bind fun b=>gd (kH i t) (some (.forr p i b))) some)
  |.Raise ..=>some .raise
  |.Break ..=>some .brk
  |_=>none
section
noncomputable def aA(T:List Addr)(env:Env)(h:Heap)(x:Str)(v:Value):Prop:=
 (env.kindOf x=some .local/\env.locals∉T/\∃m,h.Ns env.locals m/\m x=some v) \/
 ((env.kindOf x=some .cell\/env.kindOf x=some .free)/\∃c,dD (env.cells.lookup x=some c) (c∉T) (h.IsCell c (some v)))
noncomputable def eT(P:Addr->Prop)(h:Heap)(a:Addr)(l:List V):Prop:=
 Ex4 fun la i vs n=>gx (h.IsListIter a la i) (P la) (IsL h la vs n) (Rps P h (vs.toList.drop i) l)
structure Hid(W:Wp)(P:Addr->Prop)(a:Addr):Prop where
 np:¬P a
 nt:a∉W.T
 n0:W.h0.get? a=none
noncomputable def ESl(W:Wp)(P:Addr->Prop)(env:Env)(h:Heap)(x:Str):Sl->Prop
 |.unb=>True
 |.val v=>∃u,aA W.T env h x u/\Rp P h u v
 |.own l=>Ex3 fun a vs n=>gx (aA W.T env h x (.ref a)) (Hid W P a) (IsL h a vs n) (Rps P h vs.toList l)
 |.itr l=>∃a,dD (aA W.T env h x (.ref a)) (Hid W P a) (eT P h a l)
noncomputable def bk(sl:Sl):Prop:=∃l,sl=.own l\/sl=.itr l
section
variable{W:Wp}{P:Addr->Prop}{env:Env}{h:Heap}{x:Str}{M:Prop}
theorem esv{v:V}(r:ESl W P env h x (.val v))(k:∀u,aA W.T env h x u->Rp P h u v->M):M:=(by obtain⟨u,a,b⟩:=r;exact k u a b)
theorem eso{l:List V}(r:ESl W P env h x (.own l))(k:∀a vs n,aA W.T env h x (.ref a)->Hid W P a->IsL h a vs n->Rps P h vs.toList l->M):M:=(by obtain⟨a,vs,n,e1,e2,e3,e4⟩:=r;exact k a vs n e1 e2 e3 e4)
theorem esi{l:List V}(r:ESl W P env h x (.itr l))(k:∀a,aA W.T env h x (.ref a)->Hid W P a->eT P h a l->M):M:=(by obtain⟨a,e1,e2,e3⟩:=r;exact k a e1 e2 e3)
end
noncomputable def aw(env:Env)(b:Addr):Prop:=b=env.locals\/∃x,env.cells.lookup x=some b
structure fZ(T:List Addr)(env:Env)(h:Heap):Prop where
 kind:env.scope.kind=.function
 glob:env.globals=mainGlobals
 blt:env.builtins=builtinsNs
 lT:env.locals∉T
 lns:∃m,h.Ns env.locals m
 cells:∀x,(x,true)∈(ac env.scope).slots->(env.kindOf x=some .cell\/env.kindOf x=some .free)/\Ex2 fun c v=>dD (env.cells.lookup x=some c) (h.IsCell c v) (c∉T)
 locs:∀x,(x,false)∈(ac env.scope).slots->env.kindOf x=some .local
 nd:((ac env.scope).slots.map (·.1)).Nodup
 ncd:∀p∈(ac env.scope).slots,(p.1==("__classdict__" : Str))=false
 allc:∀x c,env.cells.lookup x=some c->c∉T/\∃v,h.IsCell c v
noncomputable def GH(W:Wp)(P:Addr->Prop)(env:Env)(h:Heap)(ρ:Ro):Prop:=
 ∀(i:Nat) (x:Str) (c:Bool) (sl:Sl),(ac env.scope).slots[i]?=some (x,c)->ρ[i]?=some sl->ESl W P env h x sl
structure Pre(W:Wp)(P:Addr->Prop)(env:Env)(ρ:Ro)(h:Heap):Prop where
 ok:Ok W P h
 en:fZ W.T env h
 er:GH W P env h ρ
 len:ρ.length=(ac env.scope).slots.length
 hid:∀b,aw env b->Hid W P b
 inj:∀x y c,env.cells.lookup x=some c->env.cells.lookup y=some c->x=y
 ncl:∀x,env.cells.lookup x≠some env.locals
 dist:∀(i j:Nat) (x y:Str) (ci cj:Bool) (si sj:Sl) (a:Addr),i≠j->(ac env.scope).slots[i]?=some (x,ci)->(ac env.scope).slots[j]?=some (y,cj) ->
  ρ[i]?=some si->ρ[j]?=some sj->bk si->bk sj->aA W.T env h x (.ref a)->aA W.T env h y (.ref a)->False
structure AOk(A:Around)(D:Nat):Prop where
 hd:A.handled=none
 depth:A.depth+D<950
 units:A.units+16*D+200<9900
 fr:∃l,A.frames=some l
section
variable{T:List Addr}{P:Addr->Prop}{env:Env}{h h':Heap}{x:Str}{v:Value}
theorem aA.keep(k:∀b o,b∉T->h.get? b=some o->h'.get? b=some o)(r:aA T env h x v):aA T env h' x v:=by
 rcases r with⟨a,b,m,⟨o,es,ep,ho,r⟩,hm⟩ | ⟨a,c,hc,hT,⟨o,ho,hd⟩⟩
 ·exact .inl ⟨a,b,m,⟨o,es,ep,k _ _ b ho,r⟩,hm⟩
 ·exact .inr ⟨a,c,hc,hT,⟨o,k _ _ hT ho,hd⟩⟩
theorem eT.keep(pt:∀b,P b->b∉T)(k:∀b o,b∉T->h.get? b=some o->h'.get? b=some o){a:Addr}(ha:a∉T){l:List V}(r:eT P h a l):eT P h' a l:=by
 refine byG fun gG kG=>?_;obtain⟨la,i,vs,n,⟨o,ho,hc,hd⟩,hp,hl,rs⟩:=r;refine kG ?_;exact⟨la,i,vs,n,⟨o,k _ _ ha ho,hc,hd⟩,hp,k _ _ (pt _ hp) hl,rs.mono fun b o p e=>⟨p,k b o (pt b p) e⟩⟩
theorem ESl.keep{W:Wp}(pt:∀b,P b->b∉W.T)(k:∀b o,b∉W.T->h.get? b=some o->h'.get? b=some o){sl:Sl}(r:ESl W P env h x sl):ESl W P env h' x sl:=by
 have m:∀b o,P b->h.get? b=some o->P b/\h'.get? b=some o:=fun b o p e=>⟨p,k b o (pt b p) e⟩
 cases sl with
 |unb=>trivial
 |val v=>obtain⟨u,a,b⟩:=r;exact⟨u,a.keep k,b.mono m⟩
 |own l=>obtain⟨a,vs,n,e1,e2,e4,e5⟩:=r;exact⟨a,vs,n,e1.keep k,e2,k _ _ e2.nt e4,e5.mono m⟩
 |itr l=>
  obtain⟨a,e1,e2,e4⟩:=r;exact⟨a,e1.keep k,e2,e4.keep pt k e2.nt⟩
theorem fZ.keep(k:∀b o,b∉T->h.get? b=some o->h'.get? b=some o)(r:fZ T env h):fZ T env h' where
 kind:=r.kind
 glob:=r.glob
 blt:=r.blt
 lT:=r.lT
 lns:=by obtain⟨m,o,es,ep,ho,q⟩:=r.lns;exact⟨m,o,es,ep,k _ _ r.lT ho,q⟩
 cells:=fun x hx=>by
  refine byG fun gG kG=>?_;obtain⟨a,c,v,e1,⟨o,ho,hd⟩,e3⟩:=r.cells x hx;refine kG ?_;exact⟨a,c,v,e1,⟨o,k _ _ e3 ho,hd⟩,e3⟩
 locs:=r.locs
 nd:=r.nd
 ncd:=r.ncd
 allc:=fun x c hx=>by
  refine byG fun gG kG=>?_;obtain⟨a,v,o,ho,hd⟩:=r.allc x c hx;refine kG ?_;exact⟨a,v,o,k _ _ a ho,hd⟩
end
theorem Ns.det{h:Heap}{a:Addr}{m m':Str->Option Value}(x:h.Ns a m)(y:h.Ns a m'):m=m':=by
 obtain⟨o,es,ep,ho,hd,_,hm⟩:=x;obtain⟨o',es',ep',ho',hd',_,hm'⟩:=y;obtain rfl:=al_0 (Eq.trans (Eq.symm ho) ho');rw[hd]at hd';cases hd'
 funext n
 rw[<-hm,<-hm']
theorem aA.det{T:List Addr}{env:Env}{h:Heap}{x:Str}{u v:Value}(a:aA T env h x u)(b:aA T env h x v):u=v:=by
 rcases a with⟨k,_,m,hn,hm⟩ | ⟨k,c,hc,_,⟨o,ho,hd⟩⟩<;>rcases b with⟨k',_,m',hn',hm'⟩ | ⟨k',c',hc',_,⟨o',ho',hd'⟩⟩
 ·have:=Ns.det hn hn';subst this;rw[hm]at hm';exact al_0 hm'
 ·rcases k' with k' | k'<;>(rw[k]at k';cases k')
 ·rcases k with k | k<;>(rw[k']at k;cases k)
 ·rw[hc]at hc';cases hc';rw[ho]at ho';cases ho';rw[hd]at hd';cases hd';rfl
theorem ESl.var{W:Wp}{P:Addr->Prop}{env:Env}{h:Heap}{x:Str}{sl:Sl}(r:ESl W P env h x sl)(o:bk sl):∃a,aA W.T env h x (.ref a)/\Hid W P a:=by
 obtain⟨l,rfl | rfl⟩:=o
 ·obtain⟨a,vs,n,e,f,_⟩:=r;exact⟨a,e,f⟩
 ·obtain⟨a,e,f,_⟩:=r;exact⟨a,e,f⟩
theorem Pre.step{W:Wp}{P:Addr->Prop}{env:Env}{ρ:Ro}{h h':Heap}(r:Pre W P env ρ h)(k:KX W h h'):Pre W P env ρ h':=
 ⟨r.ok.step k,r.en.keep k.keep,fun i x c sl h1 h2=>(r.er i x c sl h1 h2).keep r.ok.pt k.keep,r.len,r.hid,r.inj,r.ncl,
  fun i j x y ci cj si sj a hij h1 h2 h3 h4 o1 o2 v1 v2=>by
   obtain⟨a1,w1,_⟩:=(r.er i x ci si h1 h3).var o1;obtain⟨a2,w2,_⟩:=(r.er j y cj sj h2 h4).var o2;have e1:=(w1.keep k.keep).det v1;have e2:=(w2.keep k.keep).det v2
   cases e1;cases e2
   exact r.dist i j x y ci cj si sj _ hij h1 h2 h3 h4 o1 o2 w1 w2⟩
section
variable{W:Wp}{A:Around}{E':Value->Shared->Prop}{s:Shared}{P:Addr->Prop}{env:Env}{ρ:Ro}
theorem Cx.ix_spec{c:Cx}{x:Str}{i:Nat}(e:c.ix x=some i):∃b,c.slots[i]?=some (x,b):=by
 unfold Cx.ix at e;obtain⟨h1,h2,_⟩:=List.findIdx?_eq_some_iff_getElem.mp e;refine⟨c.slots[i].2,?_⟩;rw[cE h1];have:c.slots[i].1=x:=beq_iff_eq.mp h2;rw[<-this]
theorem bf(pr:Pre W P env ρ s.heap){x:Str}{u:Value}{Q:Value->Shared->Prop}(hc:(x==("__classdict__" : Str))=false)(r:aA W.T env s.heap x u)(h:Q u s):wpAny W.M A (loadName env x) Q E' s:=by
 rcases r with⟨a,b,m,hn,hm⟩ | ⟨a,c,hl,hT,hcell⟩
 ·exact wpAny_loadName_local pr.en.kind a hn hm h
 ·rcases a with a | a
  ·exact wpAny_loadName_cell pr.en.kind a hl hcell h
  ·exact wpAny_loadName_free pr.en.kind a hl hcell h hc
theorem aZ(pr:Pre W P env ρ s.heap){x:Str}{i:Nat}{b:Bool}(e:(ac env.scope).slots[i]?=some (x,b)):(x==("__classdict__" : Str))=false:=
 pr.en.ncd _ (dw e)
theorem E8(pr:Pre W P env ρ s.heap){x:Str}{p:Pos}{i:Nat}{v:V}{Q:Value->Shared->Prop}(hx:(ac env.scope).ix x=some i)(hd:(x==("__debug__" : Str))=false)(hv:pk (.var i) ρ none=some v)(h:iJ W s Q fun h' u=>Rq P h' u v):wpAny W.M A (eval (.Name x p) env) Q E' s:=by
 obtain⟨b,hs⟩:=Cx.ix_spec hx;have K:KX W s.heap s.heap:=KX.refl pr.ok.ti;refine bh ?_ hd;refine bnd hv fun sl hl hv=>?_
 cases sl with
 |own l=>
  refine byG fun gG kG=>?_;obtain⟨a,vs,n,e1,e2,e4,e5⟩:=pr.er i x b _ hs hl;refine kG ?_;refine bf pr (aZ pr hs) e1 (h _ s.heap s.toks K ?_)
  cases hv
  exact⟨a,vs,n,rfl,e4,e5⟩
 |val w=>
  refine byG fun gG kG=>?_;obtain⟨u,e1,e2⟩:=pr.er i x b _ hs hl;refine kG ?_;exact bf pr (aZ pr hs) e1 (h _ s.heap s.toks K (al_0 hv▸e2.rq))
 |_=>exact nn hv
theorem eZ(pr:Pre W P env ρ s.heap){x:Str}{p:Pos}{i:Nat}{v:V}{Q:Value->Shared->Prop}(hx:(ac env.scope).ix x=some i)(hd:(x==("__debug__" : Str))=false)(hv:ρ[i]?=some (.val v))(h:iJ W s Q fun h' u=>Rp P h' u v):wpAny W.M A (eval (.Name x p) env) Q E' s:=by
 obtain⟨b,hs⟩:=Cx.ix_spec hx;obtain K:KX W s.heap s.heap:=KX.refl pr.ok.ti;refine bh ?_ hd;obtain⟨u,e1,e2⟩:=pr.er i x b _ hs hv;exact bf pr (aZ pr hs) e1 (h _ s.heap s.toks K e2)
theorem cB{T:List Addr}{h h':Heap}{a:Addr}{m:Str->Option Value}(k:∀b o,b∉T->h.get? b=some o->h'.get? b=some o)(ha:a∉T)(r:h.Ns a m):h'.Ns a m:=
 (by obtain⟨o,es,ep,ho,q⟩:=r;exact⟨o,es,ep,k _ _ ha ho,q⟩)
theorem bo(G:WF W)(pr:Pre W P env ρ s.heap){x:Str}{u:Value}{Q:Value->Shared->Prop}(hx:(ac env.scope).glob x=true)(hm:W.mg x=some u)(h:Q u s):
  wpAny W.M A (loadName env x) Q E' s:=by
 obtain hk:env.kindOf x=some .globalImplicit:=by simpa [ac,Env.kindOf]using hx
 rw[loadName_read pr.en.kind hk];exact loadGlobal_global (pr.en.glob.symm▸cB pr.ok.kept G.gT G.g) hm h
theorem ce(G:WF W)(pr:Pre W P env ρ s.heap){x:Str}{u:Value}{Q:Value->Shared->Prop}(hx:(ac env.scope).glob x=true)(hm:W.mg x=none)(hb:W.mb x=some u)(h:Q u s):
  wpAny W.M A (loadName env x) Q E' s:=by
 obtain hk:env.kindOf x=some .globalImplicit:=by simpa [ac,Env.kindOf]using hx
 rw[loadName_read pr.en.kind hk];exact loadGlobal_builtin (pr.en.glob.symm▸cB pr.ok.kept G.gT G.g) hm (pr.en.blt.symm▸cB pr.ok.kept G.bT G.b) hb h
end
end
section
noncomputable def aQ(W:Wp)(env:Env)(ρ:Ro)(h:Heap)(b:Addr):Prop:=
 Ex4 fun(i:Nat) (x:Str) (c:Bool) (sl:Sl)=>gx ((ac env.scope).slots[i]?=some (x,c)) (ρ[i]?=some sl) (bk sl) (aA W.T env h x (.ref b))
structure Stp(W:Wp)(env:Env)(P:Addr->Prop)(ρ:Ro)(h:Heap)(P':Addr->Prop)(ρ':Ro)(h':Heap):Prop where
 keep:∀b o,b∉W.T->¬aw env b->¬aQ W env ρ h b->h.get? b=some o->h'.get? b=some o
 ex:∀b o,h.get? b=some o->∃o',h'.get? b=some o'
 pp:∀b o,P b->h.get? b=some o->P' b
 pn:∀b o,¬P b->b∉W.T->¬aw env b->¬aQ W env ρ h b->h.get? b=some o->¬P' b
 own:∀b,aQ W env ρ' h' b->aQ W env ρ h b\/h.get? b=none
section
variable{W:Wp}{P P' P'':Addr->Prop}{env:Env}{ρ ρ' ρ'':Ro}{h h' h'':Heap}
theorem Stp.refl:Stp W env P ρ h P ρ h:=⟨fun U U U U U e=>e,fun U o e=>⟨o,e⟩,fun U U p U=>p,fun U U p U U U U=>p,fun U o=>.inl o⟩
theorem Stp.trans(a:Stp W env P ρ h P' ρ' h')(b:Stp W env P' ρ' h' P'' ρ'' h''):Stp W env P ρ h P'' ρ'' h'':=by
 have no:∀x o,¬aQ W env ρ h x->h.get? x=some o->¬aQ W env ρ' h' x:=fun x o n e w=>by
  rcases a.own x w with q | q
  ·exact n q
  ·exact nn (Eq.trans (Eq.symm q) e)
 have ppx:∀x o,P x->h.get? x=some o->∃o',h'.get? x=some o':=fun x o U e=>a.ex x o e;refine⟨fun x o n m w e=>b.keep x o n m (no x o w e) (a.keep x o n m w e),fun x o e=>?_,fun x o p e=>?_,fun x o p n m w e=>b.pn x o (a.pn x o p n m w e) n m (no x o w e) (a.keep x o n m w e),fun x w=>?_⟩
 ·obtain⟨o',e'⟩:=a.ex x o e
  exact b.ex x o' e'
 ·obtain⟨o',e'⟩:=a.ex x o e
  exact b.pp x o' (a.pp x o p e) e'
 ·rcases b.own x w with q | q
  ·exact a.own x q
  ·right
   cases e:h.get? x with
   |none=>rfl
   |some o=>obtain⟨o',e'⟩:=a.ex x o e;exact nn (Eq.trans (Eq.symm q) e')
theorem Stp.kx(G:WF W)(pr:Pre W P env ρ h)(k:KX W h h'):Stp W env P ρ h P ρ h':=by
 refine⟨fun b o n U U e=>k.keep b o n e,fun b o e=>?_,fun U U p U=>p,fun U U p U U U U=>p,fun b w=>.inl ?_⟩
 ·by_cases t:b∈W.T
  ·obtain⟨o',e',_⟩:=G.tx h' k.ti b t;exact⟨o',e'⟩
  ·exact⟨o,k.keep b o t e⟩
 ·obtain⟨i,x,c,sl,h1,h2,h3,h4⟩:=w
  obtain⟨a,w,_⟩:=(pr.er i x c sl h1 h2).var h3;have:=(w.keep k.keep).det h4
  cases this
  exact⟨i,x,c,sl,h1,h2,h3,w⟩
end
end
section
noncomputable abbrev aH(P X:Addr->Prop):Addr->Prop:=fun b=>P b/\¬X b
noncomputable abbrev fK(P:Addr->Prop)(h:Heap):Addr->Prop:=fun b=>P b/\∃o,h.get? b=some o
structure ik(W:Wp)(A:Around)(B:Addr->Prop)(I:Addr)(X:Addr->Prop)(St:Nat->Heap->Prop)(items:List V)(Tg:Expr->Prop):Prop where
 frame:∀i h h',St i h->(∀b o,(X b\/B b)->h.get? b=some o->h'.get? b=some o)->St i h'
 here:∀i h b,St i h->X b->∃o,h.get? b=some o
 next:∀(P:Addr->Prop) (i:Nat) (x:V) (t:Expr) (s:Shared) (Q:Option Value->Shared->Prop) (E':Value->Shared->Prop),(∀b,B b->P b)->(∀b,X b->¬P b)->Tg t->items[i]?=some x->St i s.heap->Ok W P s.heap ->
  (∀u s₁,(∀(Q':Unit->Shared->Prop) (E'':Value->Shared->Prop),(∀h' tk,(∀b o,¬X b->s.heap.get? b=some o->h'.get? b=some o)->W.TI h'->Rp P h' u x->St (i+1) h'->Q' () { s with heap:=h',toks:=tk }) ->
    wpAny W.M A (letOwnedTupleGo t (.ref I) u) Q' E'' s₁)->Q (some u) s₁) ->
  wpAny W.M A (pyNext (.ref I)) Q E' s
 done:∀(s:Shared) (Q:Option Value->Shared->Prop) (E':Value->Shared->Prop),St items.length s.heap->W.TI s.heap ->
  (∀h' tk,(∀b o,¬X b->s.heap.get? b=some o->h'.get? b=some o)->W.TI h'->Q none { s with heap:=h',toks:=tk })->wpAny W.M A (pyNext (.ref I)) Q E' s
 self:∀(s:Shared) (Q:Value->Shared->Prop) (E':Value->Shared->Prop),St 0 s.heap->Q (.ref I) s->wpAny W.M A (pyIter (.ref I)) Q E' s
section
variable{W:Wp}{A:Around}{E':Value->Shared->Prop}{s:Shared}{P:Addr->Prop}
theorem dM(G:WF W){h h':Heap}(t:W.TI h){a:Addr}(hb:∀b o,b≠a->h.get? b=some o->h'.get? b=some o){o:Obj}(ho:h.get? a=some o)(ha:a∉W.T)(hk:¬cz o):W.TI h':=
 G.ti h h' (fun b x e hx=>hb b x (fun q=>by
  subst q;rcases hx with hx | hx
  ·exact ha hx
  ·obtain rfl:=al_0 (Eq.trans (Eq.symm ho) e);exact hk hx) e) t
theorem ik.ofWalks(G:WF W){B:Addr->Prop}{I:Addr}{n:Nat}{Pw:Nat->Value->Prop}{St:Nat->Heap->Prop}{items:List V}(wk:Walks W.prog W.w A I [I] [I] n Pw St)(hI:I∉W.T)(hn:items.length=n)(hR:∀(i:Nat) x u,items[i]?=some x->Pw i u->∀P h,Rp P h u x)(hc:∀i h,St i h->∃o,h.get? I=some o/\¬cz o)(hgo:∀t u s Q E' i,St i s.heap->Q () s->wpAny W.M A (letOwnedTupleGo t (.ref I) u) Q E' s):ik W A B I (fun b=>b=I) St items (fun U=>True) where
 frame:=fun i h h' st k=>wk.frame i h h' st fun b hb o e=>k b o (.inl (by simpa using hb)) e
 here:=fun i h b st hb=>by
  obtain⟨o,ho,_⟩:=hc i h st;rw[hb];exact⟨o,ho⟩
 next:=fun P i x t s Q E' U U U hx st O h=>by
  obtain hi:i<n:=by rw[<-hn];exact(cX.mp hx).1
  refine wk.item i s Q E' hi st fun u h' tk hp st' hk=>?_;obtain⟨o,ho,hcl⟩:=hc i s.heap st;obtain hk':∀b o,¬b=I->s.heap.get? b=some o->h'.get? b=some o:=fun b o hb e=>hk b o (by simpa using hb) e;exact h u _ fun Q' E'' h2=>hgo t u _ Q' E'' (i+1) st' (h2 h' tk hk' (dM G O.ti hk' ho hI hcl) (hR i x u hx hp _ _) st')
 done:=fun s Q E' st ti h=>by
  rw[hn]at st;refine wk.done s Q E' st fun h' tk hk=>?_;obtain⟨o,ho,hcl⟩:=hc n s.heap st;obtain hk':∀b o,¬b=I->s.heap.get? b=some o->h'.get? b=some o:=fun b o hb e=>hk b o (by simpa using hb) e;exact h h' tk hk' (dM G ti hk' ho hI hcl)
 self:=fun s Q E' st h=>wk.self 0 s Q E' st h
set_option tactic.hygienic true in
theorem de{t:Expr}{I:Addr}{u:Value}{Q:Unit->Shared->Prop}{o:Obj}{c:String}(ho:s.heap.get? I=some o)(hc:o.cls=.type c)(hn:["enumerate", "zip", "dict_itemiterator", "dict_reverseitemiterator", "odict_iterator", "itertools.zip_longest", "itertools.pairwise"].contains c=false)(h:Q () s):
  wpAny W.M A (letOwnedTupleGo t (.ref I) u) Q E' s:=by
 have fin:wpAny W.M A (match(Value.ref I,u)with
   |(.ref r,.ref a)=>do
    let o <-load r
    match o.cls,o.data with
    |.type n,.fields vs=>
     if["enumerate", "zip", "dict_itemiterator", "dict_reverseitemiterator", "odict_iterator", "itertools.zip_longest", "itertools.pairwise"].contains n&&vs[0]?==some (rawInt a)then
      rule "for.unpacks-the-owned-tuple"
      updateField r 0 .none
    |_,_=>pure ()
   |_=>pure ()) Q E' s:=by
  obtain go:∀(n:Bool) (f:Sem Unit),(["enumerate", "zip", "dict_itemiterator", "dict_reverseitemiterator", "odict_iterator", "itertools.zip_longest", "itertools.pairwise"].contains c&&n)=true\/wpAny W.M A (if(["enumerate", "zip", "dict_itemiterator", "dict_reverseitemiterator", "odict_iterator", "itertools.zip_longest", "itertools.pairwise"].contains c&&n)=true then f else pure ()) Q E' s:=fun n f=>.inr (by rw[hn];exact az h)
  cases u with
  |ref a=>
   refine aj (wpAny_load ho ?_);rw[hc]
   cases o.data
   case fields vs=>exact(go _ _).resolve_left (by rw[hn];exact Bool.false_ne_true)
   all_goals exact az h
  |_=>exact az h
 cases t<;>first | exact fin | exact az h
noncomputable abbrev dJ(W:Wp)(A:Around)(P:Addr->Prop)(s:Shared)(Q:Value->Shared->Prop)(items:List V)(Tg:Expr->Prop):Prop:=
 ∀I X St h' tk,KX W s.heap h'->ik W A (fK P s.heap) I X St items Tg->St 0 h'->(∀b,X b->s.heap.get? b=none/\∃o,h'.get? b=some o)->Q (.ref I) { s with heap:=h',toks:=tk }
theorem aJ{h:Heap}{a b:Addr}{o:Obj}(e1:h.get? a=some o)(e2:h.get? b=none):a≠b:=fun q=>by rw[q,e2]at e1;cases e1
theorem aR(h:Heap):h.get? h.objs.size=none:=lB (bS _)
theorem lK{h:Heap}{o:Obj}(hf:o.isFreed=false):∀b,b=h.objs.size->h.get? b=none/\∃x,(h.push o).get? b=some x:=by
 rintro b rfl;exact⟨aR _,⟨_,eO _ hf⟩⟩
theorem yw(G:WF W)(hh:A.handled=none)(O:Ok W P s.heap){la:Addr}{vs:Array Value}{n:Nat}{l:List V}{Q:Value->Shared->Prop}(hl:IsL s.heap la vs n)(hp:P la)(r:Rps P s.heap vs.toList l)(h:dJ W A P s Q l fun U=>True):wpAny W.M A (pyIter (.ref la)) Q E' s:=by
 refine wpAny_pyIter_list hl.isList ?_;obtain K:=KX.push G O.ti { cls:=.type "list_iterator", data:=.fields #[.ref la,.int 0 0] };obtain hne:la≠s.heap.objs.size:=aJ hl (aR _);obtain hI:s.heap.objs.size∉W.T:=O.pt _ (O.top G);have hsz:vs.size=l.length:=by rw[<-Array.length_toList];exact r.length
 obtain sub:∀b o,P b->s.heap.get? b=some o->fK P s.heap b/\(s.heap.push { cls:=.type "list_iterator", data:=.fields #[.ref la,.int 0 0] }).get? b=some o:=
  fun b o p e=>⟨⟨p,o,e⟩,eP _ e⟩
 obtain bla:fK P s.heap la:=⟨hp,_,hl⟩;obtain bne:∀b,fK P s.heap b->b≠s.heap.objs.size:=fun b x=>aJ x.2.choose_spec (aR _);refine h s.heap.objs.size (fun b=>b=s.heap.objs.size)
  (fun i h=>h.IsListIter s.heap.objs.size la i/\IsL h la vs n/\Rps (fK P s.heap) h vs.toList l) _ s.toks K ?_ ⟨⟨_,eO _ rfl,rfl,rfl⟩,eP _ hl,r.mono sub⟩
  (lK rfl)
 constructor
 ·rintro i h h' ⟨⟨o,ho,a⟩,b,c⟩ k
  exact⟨⟨o,k _ _ (.inl rfl) ho,a⟩,k _ _ (.inr bla) b,c.mono fun b o p e=>⟨p,k b o (.inr p) e⟩⟩
 ·rintro i h b ⟨⟨o,ho,_⟩,_,_⟩ hb
  rw[hb];exact⟨o,ho⟩
 ·rintro P₂ i x t s₂ Q E' hB hX _ hx ⟨a,b,c⟩ O h
  obtain⟨u,hu,ru⟩:=c.get hx;refine wpAny_pyNext_list_item a b.isList (x:=u) (by simpa using hu) fun h' hit hs=>?_;obtain⟨o,ho,hc,hdd⟩:=a;obtain keep:=fun b o hb e=>hs.extBut b o hb e;obtain m:∀b o,fK P s.heap b->s₂.heap.get? b=some o->fK P s.heap b/\h'.get? b=some o:=fun b o p e=>⟨p,keep b o (bne b p) e⟩;refine h u _ fun Q' E'' h2=>de (hit.choose_spec.1) (hit.choose_spec.2.1) (by decide) (h2 h' s₂.toks keep (dM G O.ti keep ho hI (aV hdd (by simp[rawInt]))) ((ru.mono m).sub hB) ⟨hit,keep _ _ hne b,c.mono m⟩)
 ·rintro s₂ Q E' ⟨a,b,c⟩ ti h
  refine wpAny_pyNext_list_end hh a b.isList (by rw[Array.getElem?_eq_none];lia) fun h' he=>?_;obtain⟨o,ho,hc,hdd⟩:=a;exact h h' s₂.toks he (dM G ti he ho hI (aV hdd (by simp[rawInt])))
 ·rintro s Q E' ⟨a,b,c⟩ h
  exact wpAny_pyIter_listiter a h
theorem AU(G:WF W)(hh:A.handled=none)(O:Ok W P s.heap){x:Str}{t:Tok}{Q:Value->Shared->Prop}(h:dJ W A P s Q (x.cps.toList.map fun c=>V.str [c]) fun U=>True):wpAny W.M A (pyIter (.str x t)) Q E' s:=by
 refine wpAny_pyIter_strU ?_;obtain K:=KX.push G O.ti { cls:=.type (strIterType x),data:=.fields #[.str x t,.int 0 0] };obtain hI:s.heap.objs.size∉W.T:=O.pt _ (O.top G);obtain hR:∀(i:Nat) (y:V) (u:Value),(x.cps.toList.map fun c=>V.str [c])[i]?=some y->SignAt x i u->∀P h,Rp P h u y:=by
  rintro i y u e ⟨c,tk,hc,rfl⟩ P h;rw[bA,lm,hc]at e
  cases e
  exact Rp.s
 have two:∀ty,strIterType x=ty->(∀A',A'.handled=none->Walks W.prog W.w A' s.heap.objs.size [s.heap.objs.size] [s.heap.objs.size] x.cps.size (SignAt x) (fun i h=>h.IsStrIter s.heap.objs.size ty x t i)) ->
   ["enumerate", "zip", "dict_itemiterator", "dict_reverseitemiterator", "odict_iterator", "itertools.zip_longest", "itertools.pairwise"].contains ty=false->(Value.type ty≠.type "code") ->
   Q (.ref s.heap.objs.size) { s with heap:=s.heap.push { cls:=.type (strIterType x),data:=.fields #[.str x t,.int 0 0] } }:=by
  rintro ty e wk hn hc;refine h s.heap.objs.size (fun b=>b=s.heap.objs.size) (fun i h=>h.IsStrIter s.heap.objs.size ty x t i) _ s.toks K (.ofWalks G (wk A hh) hI (by simp) hR (fun i h st=>?_) (fun t u s' Q E' i st q=>?_))
   ⟨_,eO _ rfl,by rw[e],rfl⟩ (lK rfl)
  ·obtain⟨o,ho,hcl,hdd⟩:=st;exact⟨o,ho,aV hdd (by simp)⟩
  ·obtain⟨o,ho,hcl,_⟩:=st;exact de ho hcl hn q
 unfold strIterType at two;by_cases hx:x.cps.all (·<128)=true
 ·exact two _ (af hx) (fun A' hA=>Walks.strAscii hA _ x t) (by decide) (by simp)
 ·exact two _ (ag hx) (fun A' hA=>Walks.strWide hA _ x t) (by decide) (by simp)
theorem gM{a b c:Int}(ha:-1048576<=a)(ha':a<=1048576)(hb:-1048576<=b)(hb':b<=1048576)(hc:c=1\/c=-1):Builtin.Range.small a b c=true:=by
 obtain fit:∀x:Int,-9000000<=x->x<=9000000->Builtin.Range.rangeFitsLong x=true:=fun x h1 h2=>by
  unfold Builtin.Range.rangeFitsLong;simp only[jt,oi];lia
 have sz:-9000000<=Builtin.Range.rangeSize a b c/\Builtin.Range.rangeSize a b c<=9000000:=by
  unfold Builtin.Range.rangeSize;rcases hc with rfl | rfl
  ·simp only[show(1:Int)>0 from by decide,if_true,Int.ediv_one];split<;>lia
  ·simp only[show ¬(-1:Int)>0 from by decide,if_false,show(- -1:Int)=1 from rfl,Int.ediv_one];split<;>lia
 unfold Builtin.Range.small;rw[fit a (by lia) (by lia),fit b (by lia) (by lia),fit c (by lia) (by lia),fit _ sz.1 sz.2];rcases hc with rfl | rfl
 ·rw[af (by decide),fit _ (by lia) (by lia)];simp
 ·rw[ag (by decide),fit _ (by lia) (by lia)];simp
theorem wi(G:WF W)(hh:A.handled=none)(O:Ok W P s.heap){r:Addr}{a b c:Int}{t u v:Tok}{items:List V}{Q:Value->Shared->Prop}(hr:IsRange s.heap r a b c t u v)(hs:Builtin.Range.small a b c=true)(hn:(items.length:Int)=Builtin.Range.rangeSize a b c)(hi:∀(i:Nat) x,items[i]?=some x->x=.int (a+i*c))(h:dJ W A P s Q items fun U=>True):wpAny W.M A (pyIter (.ref r)) Q E' s:=by
 refine wpAny_pyIter_range hr hs ?_;obtain K:=KX.push G O.ti { cls:=.type "range_iterator", data:=.fields #[rawInt a,rawInt (Builtin.Range.rangeSize a b c),rawInt c] };obtain hI:s.heap.objs.size∉W.T:=O.pt _ (O.top G);refine h s.heap.objs.size (fun b=>b=s.heap.objs.size) _ _ s.toks K (.ofWalks G (Walks.range hh s.heap.objs.size a c items.length) hI rfl ?_ ?_ ?_) ?_ (lK rfl)
 ·rintro i x u e ⟨tk,rfl⟩ P h
  rw[hi i x e];exact Rp.i
 ·rintro i h st
  exact⟨_,st,aV rfl (by simp[rawInt])⟩
 ·rintro t u s Q E' i st q
  exact de st rfl (by decide) q
 ·show(s.heap.push _).get? _=_
  rw[eO _ rfl,<-hn];simp
theorem AV(G:WF W)(hh:A.handled=none)(O:Ok W P s.heap){la:Addr}{vs:Array Value}{n:Nat}{l:List V}{Q:Value->Shared->Prop}(hl:IsL s.heap la vs n)(hp:P la)(r:Rps P s.heap vs.toList l)(h:dJ W A P s Q l.reverse fun U=>True):wpAny W.M A (call (.type "reversed") [.ref la]) (fun x s₁=>wpAny W.M A (pyIter x) Q E' s₁) E' s:=by
 obtain hsz:vs.size=l.length:=by rw[<-Array.length_toList];exact r.length
 refine call_reversed_list hl.isList ?_;obtain K:=KX.push G O.ti (revObj la (vs.size-1));obtain hne:la≠s.heap.objs.size:=aJ hl (aR _);have hI:s.heap.objs.size∉W.T:=O.pt _ (O.top G);obtain sub:∀b o,P b->s.heap.get? b=some o->fK P s.heap b/\(s.heap.push (revObj la (vs.size-1))).get? b=some o:=
  fun b o p e=>⟨⟨p,o,e⟩,eP _ e⟩
 obtain bla:fK P s.heap la:=⟨hp,_,hl⟩;obtain bne:∀b,fK P s.heap b->b≠s.heap.objs.size:=fun b x=>aJ x.2.choose_spec (aR _);have ri:(s.heap.push (revObj la (vs.size-1))).IsRevIter s.heap.objs.size la (vs.size-1):=⟨_,eO _ rfl,rfl,rfl⟩;refine wpAny_pyIter_revIter ri ?_;refine h s.heap.objs.size (fun b=>b=s.heap.objs.size)
  (fun i h=>h.IsRevIter s.heap.objs.size la ((vs.size:Int)-1-i)/\IsL h la vs n/\Rps (fK P s.heap) h vs.toList l) _ s.toks K ?_ ⟨by simpa using ri,eP _ hl,r.mono sub⟩
  (lK rfl)
 constructor
 ·rintro i h h' ⟨⟨o,ho,a⟩,b,c⟩ k
  exact⟨⟨o,k _ _ (.inl rfl) ho,a⟩,k _ _ (.inr bla) b,c.mono fun b o p e=>⟨p,k b o (.inr p) e⟩⟩
 ·rintro i h b ⟨⟨o,ho,_⟩,_,_⟩ hb
  rw[hb];exact⟨o,ho⟩
 ·rintro P₂ i x t s₂ Q E' hB hX _ hx ⟨a,b,c⟩ O h
  have hlt:i<l.length:=by
   have:=(cX.mp hx).1
   simpa using this
  rw[List.getElem?_reverse hlt]at hx;obtain⟨u,hu,ru⟩:=c.get hx;have e1:((vs.size:Int)-1-i)=((l.length-1-i:Nat):Int):=(aq (fun z:Nat=>(z:Int)-1-i) hsz).trans (Gh hlt);rw[e1]at a;refine wpAny_pyNext_rev_item a b.isList (x:=u) (by simpa using hu) fun h' hit hs=>?_;obtain⟨o,ho,hc,hdd⟩:=a;have keep:=fun b o hb e=>hs.extBut b o hb e;have m:∀b o,fK P s.heap b->s₂.heap.get? b=some o->fK P s.heap b/\h'.get? b=some o:=fun b o p e=>⟨p,keep b o (bne b p) e⟩;obtain e2:((l.length-1-i:Nat):Int)-1=(vs.size:Int)-1-((i+1:Nat):Int):=by lia
  rw[e2]at hit;refine h u _ fun Q' E'' h2=>de (hit.choose_spec.1) (hit.choose_spec.2.1) (by decide) (h2 h' s₂.toks keep (dM G O.ti keep ho hI (aV hdd (by simp[rawInt]))) ((ru.mono m).sub hB) ⟨hit,keep _ _ hne b,c.mono m⟩)
 ·rintro s₂ Q E' ⟨a,b,c⟩ ti h
  obtain e1:((vs.size:Int)-1-(l.reverse.length:Nat))=-1:=by rw[ll];lia
  rw[e1]at a;refine wpAny_pyNext_rev_end hh a fun h' he=>?_;obtain⟨o,ho,hc,hdd⟩:=a;exact h h' s₂.toks he (dM G ti he ho hI (aV hdd (by simp[rawInt])))
 ·rintro s Q E' ⟨a,b,c⟩ h
  exact wpAny_pyIter_revIter a h
noncomputable def EL(t:Expr):Prop:=Ex3 fun es k pos=>t=.Tuple es k pos
theorem yx(G:WF W)(hh:A.handled=none)(O:Ok W P s.heap){la:Addr}{vs:Array Value}{n:Nat}{l:List V}{Q:Value->Shared->Prop}(hl:IsL s.heap la vs n)(hp:P la)(r:Rps P s.heap vs.toList l)(h:dJ W A P s Q (oN l) EL):wpAny W.M A (call (.type "enumerate") [.ref la]) (fun x s₁=>wpAny W.M A (pyIter x) Q E' s₁) E' s:=by
 have hsz:vs.size=l.length:=by rw[<-Array.length_toList];exact r.length
 have hsl:(oN l).length=l.length:=by simp[oN]
 refine call_enumerate_1 hl fun h₁ he hit hs hk=>?_;refine wpAny_pyIter_enum he ?_;obtain K:KX W s.heap h₁:=KX.of_all G O.ti hk;have n1:s.heap.get? s.heap.objs.size=none:=aR _;have n2:s.heap.get? (s.heap.objs.size+1)=none:=lB (by lia);obtain hI1:s.heap.objs.size∉W.T:=O.pt _ (O.fresh G n1);obtain hI2:s.heap.objs.size+1∉W.T:=O.pt _ (O.fresh G n2);obtain d1:la≠s.heap.objs.size:=aJ hl n1;obtain d2:la≠s.heap.objs.size+1:=aJ hl n2
 let X:Addr->Prop:=fun b=>b=s.heap.objs.size+1\/b=s.heap.objs.size
 obtain sub:∀b o,P b->s.heap.get? b=some o->fK P s.heap b/\h₁.get? b=some o:=
  fun b o p e=>⟨⟨p,o,e⟩,hk b o e⟩
 obtain bla:fK P s.heap la:=⟨hp,_,hl⟩;have bne:∀b,fK P s.heap b->¬X b:=fun b x q=>q.elim (aJ x.2.choose_spec n2) (aJ x.2.choose_spec n1);refine h (s.heap.objs.size+1) X
  (fun i h=>(∃old,IsEnum h (s.heap.objs.size+1) s.heap.objs.size i old)/\h.IsListIter s.heap.objs.size la i/\IsL h la vs n/\Rps (fK P s.heap) h vs.toList l) _ s.toks K ?_ ⟨⟨_,by simpa using he⟩,hit,hk _ _ hl,r.mono sub⟩
  (fun b hb=>by
   rcases hb with rfl | rfl
   ·exact⟨n2,⟨_,he⟩⟩
   ·obtain⟨o,ho,_⟩:=hit;exact⟨n1,⟨o,ho⟩⟩)
 have tiX:∀{h h':Heap}{i:Nat}{old:Value},W.TI h->IsEnum h (s.heap.objs.size+1) s.heap.objs.size i old->h.IsListIter s.heap.objs.size la i->(∀b o,¬X b->h.get? b=some o->h'.get? b=some o)->W.TI h':=by
  intro h h' i old t e1 ⟨o,ho,hc,hdd⟩ k;refine G.ti h h' (fun b x e hx=>k b x (fun q=>?_) e) t;rcases q with rfl | rfl
  ·rcases hx with hx | hx
   ·exact hI2 hx
   ·obtain rfl:=al_0 (Eq.trans (Eq.symm e1) e);exact aV rfl (by simp) hx
  ·rcases hx with hx | hx
   ·exact hI1 hx
   ·obtain rfl:=al_0 (Eq.trans (Eq.symm ho) e)
    exact aV hdd (by simp) hx
 constructor
 ·rintro i h h' ⟨⟨old,e⟩,⟨o,ho,a⟩,b,c⟩ k
  exact⟨⟨old,k _ _ (.inl (.inl rfl)) e⟩,⟨o,k _ _ (.inl (.inr rfl)) ho,a⟩,k _ _ (.inr bla) b,c.mono fun b o p e=>⟨p,k b o (.inr p) e⟩⟩
 ·rintro i h b ⟨⟨old,e⟩,⟨o,ho,_⟩,_,_⟩ hb
  rcases hb with hb | hb
  ·rw[hb];exact⟨_,e⟩
  ·rw[hb];exact⟨o,ho⟩
 ·rintro P₂ i x t s₂ Q E' hB hX ⟨es,kk,pos,rfl⟩ hx ⟨⟨old,e⟩,a,b,c⟩ O h
  have hlt:i<l.length:=by rw[<-hsl];exact(cX.mp hx).1
  obtain hxl:l[i]?=some l[i]:=cE hlt;obtain hx':x=.tup [.int i,l[i]]:=by
   have:(oN l)[i]?=some (.tup [.int i,l[i]]):=by simp[oN,hlt]
   rw[this]at hx;exact(al_0 hx).symm
  subst hx';obtain⟨u,hu,ru⟩:=c.get hxl;refine wpAny_pyNext_enum_item e a b.isList (x:=u) (by simpa using hu) (Nat.succ_ne_self _) fun h' ho hit' hT hsz' hk'=>?_;have keep:∀b o,¬X b->s₂.heap.get? b=some o->h'.get? b=some o:=fun b o hb e=>hk' b o (fun q=>hb (.inl q)) (fun q=>hb (.inr q)) e;refine h _ _ fun Q' E'' h2=>wpAny_letOwnedTupleGo_enum ho fun h'' he'' hs''=>?_;obtain ne1:s.heap.objs.size≠s.heap.objs.size+1:=by lia
  obtain hTn:s₂.heap.objs.size≠s.heap.objs.size+1:=(aJ e (aR _)).symm;obtain keep2:∀b o,¬X b->h'.get? b=some o->h''.get? b=some o:=fun b o hb e=>(hs''.2 b fun q=>hb (.inl q)).trans e;have keep3:∀b o,¬X b->s₂.heap.get? b=some o->h''.get? b=some o:=fun b o hb e=>keep2 b o hb (keep b o hb e);obtain pT:P₂ s₂.heap.objs.size:=O.top G;refine h2 h'' _ keep3 (tiX O.ti e a keep3) ?_ ⟨⟨_,by simpa using he''⟩,?_,keep3 _ _ (fun q=>q.elim d2 d1) b,c.mono fun b o p e=>⟨p,keep3 b o (bne b p) e⟩⟩
  ·refine Rp.ti pT ((hs''.2 _ hTn).trans hT) (Rps.cons Rp.i (Rps.cons (ru.mono fun b o p e=>⟨hB b p,keep3 b o (bne b p) e⟩) Rps.nil))
  ·obtain⟨o,ho',r⟩:=hit'
   exact⟨o,(hs''.2 _ ne1).trans ho',r⟩
 ·rintro s₂ Q E' ⟨⟨old,e⟩,a,b,c⟩ ti h
  rw[hsl]at e a;refine wpAny_pyNext_enum_end hh e a b.isList (by rw[Array.getElem?_eq_none];lia) fun h' he'=>?_;have keep:∀b o,¬X b->s₂.heap.get? b=some o->h'.get? b=some o:=fun b o hb e=>he' b o (fun q=>hb (.inr q)) e;exact h h' s₂.toks keep (tiX ti e a keep)
 ·rintro s Q E' ⟨⟨old,e⟩,a,b,c⟩ h
  exact wpAny_pyIter_enum e h
end
end
section
section
variable{W:Wp}{A:Around}{E':Value->Shared->Prop}{s:Shared}{P:Addr->Prop}{env:Env}{ρ:Ro}
theorem Pre.carve(G:WF W){h h':Heap}(pr:Pre W P env ρ h)(k:KX W h h'){X:Addr->Prop}(hn:∀b,X b->h.get? b=none/\∃o,h'.get? b=some o):Pre W (aH P X) env ρ h':=by
 have m:∀b o,P b->h.get? b=some o->aH P X b/\h'.get? b=some o:=fun b o p e=>⟨⟨p,fun x=>aJ e (hn b x).1 rfl⟩,k.keep b o (pr.ok.pt b p) e⟩;obtain pr':=pr.step k;have hid:∀a,Hid W P a->Hid W (aH P X) a:=fun a x=>⟨fun p=>x.np p.1,x.nt,x.n0⟩;refine⟨⟨pr'.ok.kept,pr'.ok.ti,fun b ht hb=>⟨pr'.ok.new b ht hb,fun x=>?_⟩,fun b p=>pr.ok.pt b p.1⟩,pr'.en,fun i x c sl h1 h2=>?_,pr.len,fun b x=>hid b (pr.hid b x),pr.inj,pr.ncl,pr'.dist⟩
 ·obtain⟨o,ho⟩:=(hn b x).2;exact nn (Eq.trans (Eq.symm hb) ho)
 ·obtain r:=pr.er i x c sl h1 h2
  cases sl with
  |unb=>trivial
  |val v=>obtain⟨u,a,b⟩:=r;exact⟨u,a.keep k.keep,b.mono m⟩
  |own l=>obtain⟨a,vs,n,e1,e2,e4,e5⟩:=r;exact⟨a,vs,n,e1.keep k.keep,hid a e2,k.keep _ _ e2.nt e4,e5.mono m⟩
  |itr l=>
   refine byG fun gG kG=>?_;obtain⟨a,e1,e2,la,i,vs,n,⟨o,ho,hc,hd⟩,hp,hl,rs⟩:=r;refine kG ?_;exact⟨a,e1.keep k.keep,hid a e2,la,i,vs,n,⟨o,k.keep _ _ e2.nt ho,hc,hd⟩,(m _ _ hp hl).1,(m _ _ hp hl).2,rs.mono m⟩
noncomputable def Tgt(env:Env)(x:Str)(a:Addr):Prop:=(env.kindOf x=some .local/\a=env.locals)\/((env.kindOf x=some .cell\/env.kindOf x=some .free)/\env.cells.lookup x=some a)
structure fA(W:Wp)(env:Env)(x:Str)(u:Value)(a:Addr)(h h':Heap):Prop where
 tgt:Tgt env x a
 same:Heap.SameBut a h h'
 at':aA W.T env h' x u
 others:∀y v,y≠x->aA W.T env h y v->aA W.T env h' y v
 en:fZ W.T env h'
 ti:W.TI h'
theorem fA.mutE{x:Str}{u:Value}{a:Addr}{h h':Heap}(st:fA W env x u a h h'):aw env a:=st.tgt.elim (fun q=>.inl q.2) fun q=>.inr ⟨x,q.2⟩
theorem Pre.store(pr:Pre W P env ρ s.heap){h':Heap}{i:Nat}{x:Str}{c:Bool}{u:Value}{a:Addr}(hx:(ac env.scope).slots[i]?=some (x,c))(st:fA W env x u a s.heap h'){sl:Sl}(hs:ESl W P env h' x sl)(hd:bk sl->∀(j:Nat) (y:Str) (cj:Bool) (sj:Sl) (b:Addr),i≠j->(ac env.scope).slots[j]?=some (y,cj)->ρ[j]?=some sj->bk sj->aA W.T env s.heap y (.ref b)->u≠.ref b):
  Pre W P env (ρ.set i sl) h':=by
 obtain hM:aw env a:=st.mutE;have ha:=pr.hid a hM;have keep:∀b o,b≠a->s.heap.get? b=some o->h'.get? b=some o:=fun b o hb e=>(st.same.2 b hb).trans e;have m:∀b o,P b->s.heap.get? b=some o->P b/\h'.get? b=some o:=fun b o p e=>⟨p,keep b o (fun q=>ha.np (q▸p)) e⟩;have ne:∀{j:Nat}{y:Str}{cj:Bool},i≠j->(ac env.scope).slots[j]?=some (y,cj)->y≠x:=by
  intro j y cj hij hy e;subst e;obtain nd:=pr.en.nd;have h1:((ac env.scope).slots.map (·.1))[i]?=some y:=by rw[bA,hx];rfl
  have h2:((ac env.scope).slots.map (·.1))[j]?=some y:=by rw[bA,hy];rfl
  obtain l1:=(cX.mp h1).1;exact hij ((List.getElem?_inj l1 nd).mp (h1.trans h2.symm))
 -- an own list is no place of the frame's
 have own_ne:∀{b:Addr}{o:Obj},s.heap.get? b=some o->(∀es n,o.data≠.dict es n)->(∀v,o.data≠.cell v)->b≠a:=by
  intro b o ho h1 h2 q;subst q;rcases st.tgt with⟨_,e⟩ | ⟨k,e⟩
  ·obtain⟨m,o',es,ep,ho',hd',_⟩:=pr.en.lns
   rw[<-e,ho]at ho';cases ho';exact h1 _ _ hd'
  ·have hxs:=dw hx
   cases c with
   |false=>
    have:=pr.en.locs x hxs;rcases k with k | k<;>(rw[this]at k;cases k)
   |true=>
    refine byG fun gG kG=>?_;obtain⟨_,c',v,e1,⟨o',ho',hd'⟩,_⟩:=pr.en.cells x hxs;refine kG ?_;obtain rfl:=al_0 (Eq.trans (Eq.symm e) e1);obtain rfl:=al_0 (Eq.trans (Eq.symm ho) ho');exact h2 _ hd'
 obtain er:∀(j:Nat) (y:Str) (cj:Bool) (sj:Sl),i≠j->(ac env.scope).slots[j]?=some (y,cj)->ρ[j]?=some sj->ESl W P env h' y sj:=by
  intro j y cj sj hij hy hj;have r:=pr.er j y cj sj hy hj;have hyx:=ne hij hy
  cases sj with
  |unb=>trivial
  |val v=>obtain⟨w,e1,e2⟩:=r;exact⟨w,st.others y w hyx e1,e2.mono m⟩
  |own l=>
   refine byG fun gG kG=>?_;obtain⟨b,vs,n,e1,e2,e4,e5⟩:=r;refine kG ?_;exact⟨b,vs,n,st.others y _ hyx e1,e2,keep _ _ (own_ne e4 (by simp) (by simp)) e4,e5.mono m⟩
  |itr l=>
   refine byG fun gG kG=>?_;obtain⟨b,e1,e2,la,k,vs,n,⟨o,ho,hc,hd⟩,hp,hl,rs⟩:=r;refine kG ?_;exact⟨b,st.others y _ hyx e1,e2,la,k,vs,n,⟨o,keep _ _ (own_ne ho (by rw[hd];simp) (by rw[hd];simp)) ho,hc,hd⟩,hp,(m _ _ hp hl).2,rs.mono m⟩
 have split:∀(j:Nat) (y:Str) (cj:Bool) (sj:Sl),(ac env.scope).slots[j]?=some (y,cj)->(ρ.set i sl)[j]?=some sj->(i=j/\y=x/\sj=sl)\/(i≠j/\ρ[j]?=some sj):=by
  intro j y cj sj hy hj;by_cases hij:i=j
  ·subst hij
   rw[hx]at hy;cases hy
   obtain hlt:i<ρ.length:=by rw[pr.len];exact(cX.mp hx).1
   rw[jU hlt]at hj;exact .inl ⟨rfl,rfl,(al_0 hj).symm⟩
  ·rw[fz hij]at hj
   exact .inr ⟨hij,hj⟩
 refine⟨⟨fun b o n e=>keep b o (fun q=>?_) (pr.ok.kept b o n e),st.ti,fun b hb e=>pr.ok.new b hb ?_,pr.ok.pt⟩,st.en,fun j y cj sj hy hj=>?_,by rw[gz];exact pr.len,pr.hid,pr.inj,pr.ncl,?_⟩
 ·rw[q,ha.n0]at e;cases e
 ·by_cases q:b=a
  ·subst q
   rcases st.tgt with⟨_,ea⟩ | ⟨k,ea⟩
   ·obtain⟨m,o,es,ep,ho,_⟩:=st.en.lns
    rw[<-ea,e]at ho;cases ho
   ·have hxs:=dw hx
    cases c with
    |false=>
     have:=pr.en.locs x hxs;rcases k with k | k<;>(rw[this]at k;cases k)
    |true=>
     refine byG fun gG kG=>?_;obtain⟨_,c',v,e1,⟨o',ho',hd'⟩,_⟩:=st.en.cells x hxs;refine kG ?_;obtain rfl:=al_0 (Eq.trans (Eq.symm ea) e1);exact nn (Eq.trans (Eq.symm e) ho')
  ·cases hq:s.heap.get? b with
   |none=>rfl
   |some o=>exact nn (Eq.trans (Eq.symm e) (keep b o q hq))
 ·rcases split j y cj sj hy hj with⟨rfl,rfl,rfl⟩ | ⟨hij,hj⟩
  ·exact hs
  ·exact er j y cj sj hij hy hj
 ·intro j k y z cj ck sj sk b hjk hy hz hj hk oj ok vj vk
  have back:∀(j:Nat) (y:Str) (cj:Bool) (sj:Sl) (b:Addr),i≠j->(ac env.scope).slots[j]?=some (y,cj)->ρ[j]?=some sj->bk sj->aA W.T env h' y (.ref b)->aA W.T env s.heap y (.ref b):=by
   intro j y cj sj b hij hy hj oj vj;refine byG fun gG kG=>?_;obtain⟨a1,w1,_⟩:=(pr.er j y cj sj hy hj).var oj;refine kG ?_;have:=(st.others y _ (ne hij hy) w1).det vj;rw[<-this];exact w1
  rcases split j y cj sj hy hj with⟨rfl,rfl,rfl⟩ | ⟨hij,hj'⟩<;>rcases split k z ck sk hz hk with⟨rfl,rfl,rfl⟩ | ⟨hik,hk'⟩
  ·exact hjk rfl
  ·exact hd oj k z ck sk b hik hz hk' ok (back k z ck sk b hik hz hk' ok vk) (st.at'.det vj)
  ·exact hd ok j y cj sj b hij hy hj' oj (back j y cj sj b hij hy hj' oj vj) (st.at'.det vk)
  ·exact pr.dist j k y z cj ck sj sk b hjk hy hz hj' hk' oj ok (back j y cj sj b hij hy hj' oj vj) (back k z ck sk b hik hz hk' ok vk)
theorem vM(en:fZ W.T env s.heap){i:Nat}{x:Str}{c:Bool}(hx:(ac env.scope).slots[i]?=some (x,c)):
  env.kindOf x=some .local\/((env.kindOf x=some .cell\/env.kindOf x=some .free)/\Ex2 fun c v=>dD (env.cells.lookup x=some c) (s.heap.IsCell c v) (c∉W.T)):=by
 obtain h:=dw hx
 cases c with
 |false=>exact .inl (en.locs x h)
 |true=>exact .inr (en.cells x h)
theorem bn(G:WF W)(pr:Pre W P env ρ s.heap){i:Nat}{x:Str}{c:Bool}{u:Value}(hx:(ac env.scope).slots[i]?=some (x,c)){Q:Unit->Shared->Prop}(h:∀a h' tk,fA W env x u a s.heap h'->Q () { s with heap:=h',toks:=tk }):wpAny W.M A (storeName env x u) Q E' s:=by
 have en:=pr.en;rcases vM en hx with hk | ⟨hk,cl,v,hc,hcell,hcT⟩
 ·obtain⟨m,hn⟩:=en.lns
  have hn0:=hn;obtain⟨o,es,ep,ho,hd,hkeys,hm⟩:=hn0;have hp:(env.scope.kind==ScopeKind.class||env.scope.kind==ScopeKind.module&&env.locals != env.globals)=false:=by rw[en.kind];rfl
  refine wpAny_storeName_local hk hn (fun h' hn' hs=>h env.locals h' _ ⟨.inl ⟨hk,rfl⟩,hs,.inl ⟨hk,en.lT,_,hn',by simp⟩,fun y w hy r=>?_,⟨en.kind,en.glob,en.blt,en.lT,⟨_,hn'⟩,fun y hy=>?_,en.locs,en.nd,en.ncd,fun y c' e1=>?_⟩,?_⟩) hp
  ·rcases r with⟨k,t,m',hn2,hm2⟩ | ⟨k,c',hc',hT,o2,ho2,hd2⟩
   ·have:=Ns.det hn hn2;subst this
    exact .inl ⟨k,t,_,hn',by simpa [hy]using hm2⟩
   ·refine .inr ⟨k,c',hc',hT,o2,?_,hd2⟩
    rw[hs.2 c' fun q=>pr.ncl y (q▸hc')];exact ho2
  ·obtain⟨k,c',v',e1,⟨o2,ho2,hd2⟩,e3⟩:=en.cells y hy
   refine⟨k,c',v',e1,⟨o2,?_,hd2⟩,e3⟩;rw[hs.2 c' fun q=>pr.ncl y (q▸e1)];exact ho2
  ·obtain⟨a,v',o2,ho2,hd2⟩:=en.allc y c' e1
   refine⟨a,v',o2,?_,hd2⟩;rw[hs.2 c' fun q=>pr.ncl y (q▸e1)];exact ho2
  ·exact G.ti _ _ (fun b o' e hb=>by
    by_cases q:b=env.locals
    ·subst q
     rcases hb with hb | hb
     ·exact absurd hb en.lT
     ·obtain rfl:=al_0 (Eq.trans (Eq.symm ho) e)
      obtain⟨vs,_,_,hv,_⟩:=hb;rw[hd]at hv;cases hv
    ·exact(hs.2 b q).trans e) pr.ok.ti
 ·have hcell0:=hcell
  obtain⟨o,ho,hd⟩:=hcell0;have fin:∀h',h'.IsCell cl (some u)->Heap.SameBut cl s.heap h'->Q () { s with heap:=h' }:=fun h' hc' hs=>by
   refine h cl h' s.toks ⟨.inr ⟨hk,hc⟩,hs,.inr ⟨hk,cl,hc,hcT,hc'⟩,fun y w hy r=>?_,⟨en.kind,en.glob,en.blt,en.lT,?_,fun y hy=>?_,en.locs,en.nd,en.ncd,fun y c' e1=>?_⟩,?_⟩
   ·rcases r with⟨k,t,m',⟨o2,es,ep,ho2,r2⟩,hm2⟩ | ⟨k,c',hc2,hT,o2,ho2,hd2⟩
    ·exact .inl ⟨k,t,m',⟨o2,es,ep,(hs.2 _ fun q=>pr.ncl x (by rw[q];exact hc)).trans ho2,r2⟩,hm2⟩
    ·exact .inr ⟨k,c',hc2,hT,o2,(hs.2 _ fun q=>hy (pr.inj y x c' hc2 (by rw[q];exact hc))).trans ho2,hd2⟩
   ·obtain⟨m,o2,es,ep,ho2,r2⟩:=en.lns
    exact⟨m,o2,es,ep,(hs.2 _ fun q=>pr.ncl x (by rw[q];exact hc)).trans ho2,r2⟩
   ·obtain⟨k,c',v',e1,⟨o2,ho2,hd2⟩,e3⟩:=en.cells y hy
    by_cases q:c'=cl
    ·subst q;exact⟨k,c',_,e1,hc',e3⟩
    ·exact⟨k,c',v',e1,⟨o2,(hs.2 _ q).trans ho2,hd2⟩,e3⟩
   ·obtain⟨a,v',o2,ho2,hd2⟩:=en.allc y c' e1
    by_cases q:c'=cl
    ·subst q;exact⟨a,_,hc'⟩
    ·exact⟨a,v',o2,(hs.2 _ q).trans ho2,hd2⟩
   ·exact G.ti _ _ (fun b o' e hb=>by
     by_cases q:b=cl
     ·subst q
      rcases hb with hb | hb
      ·exact absurd hb hcT
      ·obtain rfl:=al_0 (Eq.trans (Eq.symm ho) e)
       obtain⟨vs,_,_,hv,_⟩:=hb;rw[hd]at hv;cases hv
     ·exact(hs.2 b q).trans e) pr.ok.ti
  rcases hk with hk' | hk'
  ·exact wpAny_storeName_cell en.kind hk' hc hcell fin
  ·unfold storeName
   have e1:(env.scope.kind==ScopeKind.class&&env.kindOf x==some NameKind.cell)=false:=by rw[en.kind];rfl
   simp only[hk',show(some NameKind.free==some NameKind.globalImplicit)=false from rfl,Bool.false_and,jV,if_false,e1,show(env.scope.kind==ScopeKind.class)=false from by rw[en.kind];rfl];exact aj (wpAny_cellOf hc (wpAny_cellSet hcell fin))
theorem fA.stp{P0:Addr->Prop}{ρ0:Ro}{h0 h h':Heap}(pr:Pre W P env ρ h)(s0:Stp W env P0 ρ0 h0 P ρ h){i:Nat}{x:Str}{c:Bool}{u:Value}{a:Addr}(hx:(ac env.scope).slots[i]?=some (x,c))(st:fA W env x u a h h'){sl:Sl}(hn:bk sl->∀b,u=.ref b->aQ W env ρ0 h0 b\/h0.get? b=none):Stp W env P0 ρ0 h0 P (ρ.set i sl) h':=by
 obtain hM:aw env a:=st.mutE;obtain no:∀x o,¬aQ W env ρ0 h0 x->h0.get? x=some o->¬aQ W env ρ h x:=fun x o n e w=>by
  rcases s0.own x w with q | q
  ·exact n q
  ·exact nn (Eq.trans (Eq.symm q) e)
 refine⟨fun b o n m w e=>(st.same.2 b fun q=>m (q▸hM)).trans (s0.keep b o n m w e),fun b o e=>?_,s0.pp,s0.pn,fun b w=>?_⟩
 ·obtain⟨o',e'⟩:=s0.ex b o e
  by_cases q:b=a
  ·subst q
   rcases st.tgt with⟨_,ea⟩ | ⟨_,ea⟩
   ·obtain⟨m,o2,es,ep,ho,_⟩:=st.en.lns
    exact⟨o2,ea▸ho⟩
   ·obtain⟨_,v,o2,ho,_⟩:=st.en.allc x b ea
    exact⟨o2,ho⟩
  ·exact⟨o',(st.same.2 b q).trans e'⟩
 ·obtain⟨j,y,cj,sj,h1,h2,h3,h4⟩:=w
  by_cases hij:i=j
  ·subst hij
   rw[hx]at h1;cases h1
   have hlt:i<ρ.length:=by rw[pr.len];exact(cX.mp hx).1
   rw[jU hlt]at h2
   cases h2
   exact hn h3 b (st.at'.det h4)
  ·rw[fz hij]at h2
   have hyx:y≠x:=by
    intro e;subst e;have h1':((ac env.scope).slots.map (·.1))[i]?=some y:=by rw[bA,hx];rfl
    have h2':((ac env.scope).slots.map (·.1))[j]?=some y:=by rw[bA,h1];rfl
    obtain l1:=(cX.mp h1').1;exact hij ((List.getElem?_inj l1 pr.en.nd).mp (h1'.trans h2'.symm))
   obtain⟨a1,w1,_⟩:=(pr.er j y cj sj h1 h2).var h3;have:=(st.others y _ hyx w1).det h4
   cases this
   exact s0.own _ ⟨j,y,cj,sj,h1,h2,h3,w1⟩
theorem bF{v:V}{Z:Prop}(o:bk (.val v)):Z:=by
 obtain⟨l,e | e⟩:=o<;>cases e
theorem hS(G:WF W)(pr:Pre W P env ρ s.heap){i:Nat}{x:Str}{p:Pos}{u:Value}{v:V}(hx:(ac env.scope).ix x=some i)(r:Rp P s.heap u v){Q:Unit->Shared->Prop}(h:∀a h' tk,fA W env x u a s.heap h'->Pre W P env (ρ.set i (.val v)) h'->Stp W env P ρ s.heap P (ρ.set i (.val v)) h'->Q () { s with heap:=h',toks:=tk }):wpAny W.M A (assign (.Name x p) env u) Q E' s:=by
 obtain⟨c,hs⟩:=Cx.ix_spec hx;refine wpAny_assign_Name (bn G pr hs fun a h' tk st=>h a h' tk st (pr.store hs st ⟨u,st.at',r.mono fun b o p e=>⟨p,(st.same.2 b fun q=>?_).trans e⟩⟩ fun o=>bF o) (st.stp pr Stp.refl hs fun o=>bF o));obtain hM:aw env a:=st.mutE;exact(pr.hid a hM).np (q▸p)
end
end
section
noncomputable def rM(env:Env)(is:List Nat)(b:Addr):Prop:=∃i∈is,Ex2 fun x c=>(ac env.scope).slots[i]?=some (x,c)/\Tgt env x b
section
variable{W:Wp}{A:Around}{E':Value->Shared->Prop}{s:Shared}{P:Addr->Prop}{env:Env}{ρ:Ro}
theorem dR:∀(q:List (Nat×V)) (ρ:Ro),(q.foldl (fun(r:Ro) (q:Nat×V)=>r.set q.1 (.val q.2)) ρ).length=ρ.length:=by
 intro l
 induction l with
 |nil=>
  intro _;exact rfl
 |cons q l dR=>
  intro ρ;exact by rw[List.foldl_cons,dR,gz]
theorem kt{c:Cx}{e:Expr}{i:Nat}(h:gQ c e=some i):Ex2 fun x p=>e=.Name x p/\c.ix x=some i:=by
 exact bnd h fun x hx h=>(aS hx).elim fun p q=>⟨x,p,q,h⟩
theorem fS{c:Cx}{env:Env}{es:List Expr}{is:List Nat}(al:Al (gQ c) es is):(assignEach es env).length=es.length/\(assignEach es env).findIdx? (·.1)=none/\is.length=es.length:=by
 induction al with
 |nil=>exact⟨rfl,rfl,rfl⟩
 |@cons ex ix es is hi hr ih=>
  obtain⟨x,p,rfl,_⟩:=kt hi;refine⟨aq (·+1) ih.1,?_,aq (·+1) ih.2.2⟩;show List.findIdx? _ (_::assignEach es env)=none;rw[List.findIdx?_cons,ih.2.1];rfl
theorem gw(G:WF W):∀{es:List Expr}{is:List Nat}{vs:List Value}{l:List V}{ρ:Ro}{s:Shared}{Q:Unit->Shared->Prop},Al (gQ (ac env.scope)) es is->Pre W P env ρ s.heap->Rps P s.heap vs l->is.length=l.length ->
  (∀h' tk,(∀b o,¬rM env is b->s.heap.get? b=some o->h'.get? b=some o)->Pre W P env ((is.zip l).foldl (fun(r:Ro) (q:Nat×V)=>r.set q.1 (.val q.2)) ρ) h'->Stp W env P ρ s.heap P ((is.zip l).foldl (fun(r:Ro) (q:Nat×V)=>r.set q.1 (.val q.2)) ρ) h'->Q () { s with heap:=h',toks:=tk }) ->
  wpAny W.M A (assignInOrder ((assignEach es env).map (·.2)) vs) Q E' s:=by
 intro es is vs l ρ s Q al
 induction al generalizing vs l ρ s Q with
 |nil=>
  intro pr r hl h
  cases l with
  |nil=>exact r.n' (wpAny_assignInOrder_none (h s.heap s.toks (fun U U U e=>e) pr Stp.refl))
  |cons _ _=>cases hl
 |@cons ex i es is' hi hr gw=>
  intro pr r hl h
  cases l with
  |nil=>cases hl
  |cons v l=>
   obtain⟨nm,px,rfl,hi⟩:=kt hi;refine r.c' fun u us ru rr=>?_;refine wpAny_assignInOrder_more (hS G pr hi ru fun a h' tk st pr' s1=>?_);have tg:=st.tgt;have sb:=st.same;obtain hM:aw env a:=tg.elim (fun q=>.inl q.2) fun q=>.inr ⟨_,q.2⟩;obtain rr':Rps P h' us l:=rr.mono fun b o p e=>⟨p,(sb.2 b fun q=>(pr.hid a hM).np (q▸p)).trans e⟩;obtain⟨c,hs⟩:=Cx.ix_spec hi;refine gw (s:={ s with heap:=h',toks:=tk }) pr' rr' (Nat.succ.inj hl) fun h'' tk' k pr'' s2=>?_;refine h h'' tk' (fun b o nb e=>k b o (fun t=>nb ?_) ((sb.2 b fun q=>nb ?_).trans e)) pr'' (s1.trans s2)
   ·obtain⟨j,hj,q⟩:=t;exact⟨j,.tail _ hj,q⟩
   ·exact⟨i,.head _,_,c,hs,q▸tg⟩
theorem jo(G:WF W)(hh:A.handled=none)(pr:Pre W P env ρ s.heap){t:Expr}{p:Pat}{u:Value}{v:V}{ρ':Ro}(ht:vZ (ac env.scope) t=some p)(r:Rp P s.heap u v)(hb:fC p v ρ=some ρ'){Q:Unit->Shared->Prop}(h:∀h' tk,(∀b o,¬rM env p.slots b->s.heap.get? b=some o->h'.get? b=some o)->Pre W P env ρ' h'->Stp W env P ρ s.heap P ρ' h'->Q () { s with heap:=h',toks:=tk }):
  wpAny W.M A (assign t env u) Q E' s:=by
 revert hb h;refine eli ht (fun ht=>bnd ht fun es he ht=>mpi ht fun is hi hb h=>?tup) fun x hx ht=>mpi ht fun i hi hb h=>?nm
 case tup=>
  obtain⟨k,px,rfl⟩:=pf he
  cases v with
  |tup l=>
   refine aO hb fun hc hb=>?_;obtain rfl:=al_0 hb;refine r.t' fun a vs n hp ha rs=>?_;obtain hi:=eR hi;obtain⟨e1,e2,e3⟩:=fS (env:=env) hi;obtain l1:=rs.length;simp only[Array.length_toList]at l1;refine wpAny_assign_Tuple hh ⟨_,ha,rfl,n,rfl⟩ (by simp only[e1,<-e3,hc.1,l1]) e2 fun h' hx=>?_;have K:KX W s.heap h':=KX.of_all G pr.ok.ti fun b o e=>hx b o (Nat.ne_of_lt (Heap.lt_size e)) e;refine gw G (s:={ s with heap:=h' }) hi (pr.step K) (rs.kx pr.ok.pt K) hc.1 fun h'' tk k pr' s1=>?_;exact h h'' tk (fun b o nb e=>k b o nb (hx b o (Nat.ne_of_lt (Heap.lt_size e)) e)) pr' ((Stp.kx G pr K).trans s1)
  |_=>exact nn hb
 case nm=>
  obtain⟨px,rfl⟩:=aS hx;refine aO hb fun hlt hb=>?_;obtain rfl:=al_0 hb;obtain⟨c,hs⟩:=Cx.ix_spec hi;exact hS G pr hi r fun a h' tk st pr' s1=>h h' tk (fun b o nb e=>(st.same.2 b fun q=>nb ⟨i,.head _,x,c,hs,q▸st.tgt⟩).trans e) pr' s1
end
end
section
theorem ar{α:Type}:∀{l:List (Str×α)}{x:Str}{k:α},(l.map (·.1)).Nodup->(x,k)∈l->l.lookup x=some k:=by
 intro r
 induction r with
 |nil=>
  intro zv1 zv2 zv3 zv4
  first | exact nomatch zv4 | exact nomatch zv3 | exact nomatch zv2 | exact nomatch zv1 | contradiction
 |cons zx r ar=>
  obtain⟨y,j⟩:=zx;intro x k nd h;simp only[bc,fy]at nd;rcases aM.mp h with e | h
  ·cases e;simp[List.lookup_cons]
  ·have:(x==y)=false:=by
    simp only[bK];intro q;obtain h':x∈r.map (·.1):=lj (f:=fun p=>p.1) h;simp only[q]at h';exact nd.1 h'
   simp only[List.lookup_cons,this];exact ar nd.2 h
noncomputable def iI(cells:List (Str×Addr)):List (Str×NameKind)->List (Str×Addr)->Option (List (Str×Addr))
 |[],acc=>some acc
 |(n,k)::r,acc=>if k==.free then(match cells.lookup n with
   |some c=>iI cells r ((n,c)::acc)
   |none=>none)else iI cells r acc
set_option tactic.hygienic true in
theorem jk(env:Env)(f:Str×NameKind->List (Str×Addr)->Sem (ForInStep (List (Str×Addr))))(hf:∀n k acc,f (n,k) acc=if k==.free then(do let a <-cellOf env n;pure (.yield ((n,a)::acc)))else pure (.yield acc)):
  ∀(names:List (Str×NameKind)) (acc cl:List (Str×Addr)),iI env.cells names acc=some cl->forIn names acc f=pure cl
 |[],acc,cl,e=>by simp only[iI]at e;cases e;rfl
 |(n,k)::r,acc,cl,e=>by
  rw[List.forIn_cons,hf];simp only[iI]at e
  split at e
  ·rename_i hk
   rw[af hk]
   split at e
   ·rename_i c hc
    unfold cellOf;rw[hc];exact jk env f hf r _ cl e
   ·cases e
  ·rename_i hk
   rw[ag hk];exact jk env f hf r _ cl e
theorem fJ{scope:Scope}{env:Env}{cl:List (Str×Addr)}(e:iI env.cells scope.names []=some cl):closureFor scope env=pure cl:=by
 unfold closureFor;simp only;rw[jk env _ (fun n k acc=>by cases hk:k==NameKind.free<;>simp[hk]) scope.names [] cl e];rfl
set_option tactic.hygienic true in
theorem lV{cells:List (Str×Addr)}:∀{names:List (Str×NameKind)}{acc cl:List (Str×Addr)},iI cells names acc=some cl ->
  (∀x c,acc.lookup x=some c->cells.lookup x=some c)->(∀x c,cl.lookup x=some c->cells.lookup x=some c)/\(∀x,(acc.lookup x).isSome=true->(cl.lookup x).isSome=true)/\∀x,(x,NameKind.free)∈names->(cl.lookup x).isSome=true:=by
 intro r
 induction r with
 |nil=>
  intro acc cl e h;exact by simp only[iI]at e;cases e;exact⟨h,fun U a=>a,fun U a=>nomatch a⟩
 |cons zx r lV=>
  obtain⟨n,k⟩:=zx;intro acc cl e h;simp only[iI]at e
  split at e
  ·rename_i hk
   split at e
   ·rename_i c hc
    obtain h2:∀x c',((n,c)::acc).lookup x=some c'->cells.lookup x=some c':=by
     intro x c' hl;simp only[List.lookup_cons]at hl
     split at hl
     ·rename_i hx;simp only[beq_iff_eq.mp hx,hc];exact hl
     ·exact h x c' hl
    obtain⟨a,b,d⟩:=lV e h2;obtain s1:∀x,(acc.lookup x).isSome=true->(cl.lookup x).isSome=true:=fun x hx=>b x (by simp only[List.lookup_cons];split<;>simp[hx]);refine⟨a,s1,fun x hx=>?_⟩;rcases aM.mp hx with q | q
    ·cases q;exact b _ (by simp[List.lookup_cons])
    ·exact d x q
   ·cases e
  ·rename_i hk
   obtain⟨a,b,d⟩:=lV e h;refine⟨a,b,fun x hx=>?_⟩;rcases aM.mp hx with q | q
   ·cases q;exact absurd rfl hk
   ·exact d x q
theorem iE{cells:List (Str×Addr)}:∀{names:List (Str×NameKind)}{acc:List (Str×Addr)},(∀x,(x,NameKind.free)∈names->(cells.lookup x).isSome=true)->∃cl,iI cells names acc=some cl:=by
 intro r
 induction r with
 |nil=>
  intro acc _;exact⟨acc,rfl⟩
 |cons zx r iE=>
  obtain⟨n,k⟩:=zx;intro acc h;simp only[iI]
  split
  ·rename_i hk
   obtain⟨c,hc⟩:=nN.mp (h n (by rw[aB hk];exact .head _));rw[hc];exact iE fun x hx=>h x (.tail _ hx)
  ·exact iE fun x hx=>h x (.tail _ hx)
theorem cU:∀(names:List (Str×NameKind)) (n:Nat) (acc:List (Str×Addr)),cellsFrom n names acc=cellsFrom n names []++acc:=by
 intro r
 induction r with
 |nil=>
  intro n acc;exact rfl
 |cons zx r cU=>
  obtain⟨x,k⟩:=zx;intro n acc;unfold cellsFrom
  split
  ·simp only[cU (n+1) ((x,n)::acc),cU (n+1) [(x,n)],bX];rfl
  ·exact cU n acc
theorem e8:∀(names:List (Str×NameKind)) (n:Nat) (acc:List (Str×Addr)) (x:Str) (c:Addr),(x,c)∈cellsFrom n names acc->(x,NameKind.cell)∈names\/(x,c)∈acc:=by
 intro r
 induction r with
 |nil=>
  intro n acc x c h;exact .inr h
 |cons zx r e8=>
  obtain⟨y,k⟩:=zx;intro n acc x c h;unfold cellsFrom at h
  split at h
  ·rename_i hk
   rcases e8 _ _ x c h with q | q
   ·exact .inl (.tail _ q)
   ·rcases aM.mp q with q | q
    ·cases q;exact .inl (by rw[aB hk];exact .head _)
    ·exact .inr q
  ·rcases e8 _ _ x c h with q | q
   ·exact .inl (.tail _ q)
   ·exact .inr q
theorem bt:∀(names:List (Str×NameKind)) (n:Nat) (acc:List (Str×Addr)) (x:Str),(x,NameKind.cell)∈names\/(∃c,(x,c)∈acc)->∃c,(x,c)∈cellsFrom n names acc
 |[],n,acc,x,h=>h.elim (fun q=>nomatch q) id
 |(y,k)::r,n,acc,x,h=>by
  unfold cellsFrom
  split
  ·rename_i hk
   refine bt r _ _ x ?_;rcases h with h | ⟨c,h⟩
   ·rcases aM.mp h with q | q
    ·cases q;exact .inr ⟨_,.head _⟩
    ·exact .inl q
   ·exact .inr ⟨c,.tail _ h⟩
  ·rename_i hk
   refine bt r _ _ x ?_;rcases h with h | ⟨c,h⟩
   ·rcases aM.mp h with q | q
    ·cases q;exact absurd rfl hk
    ·exact .inl q
   ·exact .inr ⟨c,h⟩
theorem aE{α:Type}:∀{l:List (Str×α)}{x:Str}{c:α},(x,c)∈l->∃c',l.lookup x=some c':=by
 intro r
 induction r with
 |nil=>
  intro zv1 zv2 zv3
  first | exact nomatch zv3 | exact nomatch zv2 | exact nomatch zv1 | contradiction
 |cons zx r aE=>
  obtain⟨y,d⟩:=zx;intro x c h;simp only[List.lookup_cons]
  split
  ·exact⟨_,rfl⟩
  ·rename_i hx
   rcases aM.mp h with q | q
   ·cases q;simp at hx
   ·exact aE q
noncomputable def gm(env:Env)(p:Str×NameKind):Str×NameKind:=if(p.2==.free&&env.scope.kind==.function&&env.kindOf p.1==some .cell)then(p.1,.cell)else(p.1,p.2)
theorem cm(scope:Scope)(env:Env):(relabel scope env).names=scope.names.map (gm env):=rfl
theorem qG(env:Env)(p:Str×NameKind):(gm env p).1=p.1:=by unfold gm;split<;>rfl
theorem fN(env:Env)(p:Str×NameKind):(gm env p).2=p.2\/(p.2=.free/\(gm env p).2=.cell):=by
 unfold gm
 split
 ·rename_i h
  simp only[jt]at h;exact .inr ⟨aB h.1.1,rfl⟩
 ·exact .inl rfl
theorem lu(scope:Scope)(env:Env):gi (relabel scope env).names=gi scope.names:=by
 simp only[cm];unfold gi
 induction scope.names with
 |nil=>rfl
 |cons p r ih=>
  obtain h1:=qG env p;obtain h2:=fN env p;simp only[bc,List.filter_cons,List.filter_cons];obtain hk:aI (gm env p).2=aI p.2:=by
   rcases h2 with h2 | ⟨a,b⟩
   ·simp only[h2]
   ·simp only[a,b];rfl
  obtain hl:((gm env p).2 != .local)=(p.2 != .local):=by
   rcases h2 with h2 | ⟨a,b⟩
   ·simp only[h2]
   ·simp only[a,b];rfl
  simp only[hk]
  split
  ·simp only[bc,bc,ih,h1,hl]
  ·exact ih
theorem bz(env:Env):∀(names:List (Str×NameKind)) (x:Str),(names.map (gm env)).lookup x=(names.lookup x).map fun k=>(gm env (x,k)).2:=by
 intro r
 induction r with
 |nil=>
  intro x;exact rfl
 |cons zx r bz=>
  obtain⟨y,k⟩:=zx;intro x;rw[bc];obtain e:gm env (y,k)=(y,(gm env (y,k)).2):=Prod.ext (qG env (y,k)) rfl;rw[e,List.lookup_cons,List.lookup_cons]
  cases hx:x==y with
  |true=>rw[aB hx];rfl
  |false=>exact bz x
theorem gv(scope:Scope)(env:Env):ac (relabel scope env)=ac scope:=by
 unfold ac;rw[lu]
 congr 1
 funext x
 rw[cm,bz]
 cases scope.names.lookup x with
 |none=>rfl
 |some k=>
  simp only[Option.map_some];rcases fN env (x,k)with h | ⟨a,b⟩
  ·rw[h]
  ·have a':k=.free:=a
   rw[b,a'];rfl
section
variable{M:Model}{A:Around}{E':Value->Shared->Prop}{s:Shared}
theorem sO{scope:Scope}{globals:Addr}{cl:List (Str×Addr)}{qual:Str}{outer:Env}{Q:Env->Shared->Prop}(h:Q { scope,locals:=s.heap.objs.size,globals,cells:=cellsFrom (s.heap.objs.size+1) scope.names []++cl,qual,func:=none,code:=outer.code,frame:=outer.frame,builtins:=outer.builtins }
   { s with heap:=pushCells (s.heap.push { cls:=.type "dict", data:=.dict #[] }) scope.names }):
  wpAny M A (newFunctionEnv scope globals cl [] qual none .none (some outer)) Q E' s:=by
 simp only[newFunctionEnv,Option.isSome_some,if_true];refine aj (wpAny_alloc ?_);refine aj (wpAny_layCells _ (fun name kind cells=>by cases hkc:kind==NameKind.cell<;>simp[hkc]) _ _ _ _ ?_);rw[show({ s with heap:=s.heap.push { cls:=.type "dict", data:=.dict #[] } }:Shared).heap.objs.size=s.heap.objs.size+1 from Heap.size_push ..];rw[cU];exact aj (az (az h))
end
section
variable{W:Wp}{P:Addr->Prop}{env:Env}{ρ:Ro}
noncomputable def bw(scope:Scope)(cl:List (Str×Addr))(L:Addr)(env:Env):Env:=
 { scope:=relabel scope env,locals:=L,globals:=env.globals,cells:=cellsFrom (L+1) scope.names []++cl,qual:=env.qual,func:=none,code:=env.code,frame:=env.frame,builtins:=env.builtins }
theorem ky{c:Cx}{sc:Scope}{ks:List (Option Nat)}(e:AT c sc=some ks):ks.length=(ac sc).slots.length /\
  ∀(i:Nat) (x:Str) (b:Bool),(ac sc).slots[i]?=some (x,b)->(ks[i]?=some none/\((x,NameKind.local)∈sc.names\/(x,NameKind.cell)∈sc.names))\/∃j,dD (ks[i]?=some (some j)) (c.slots[j]?=some (x,true)) ((x,NameKind.free)∈sc.names):=by
 obtain key:∀{l:List (Str×NameKind)}{ks:List (Option Nat)},Al (fun p:Str×NameKind=>bif p.2==.free then(c.ix p.1).bind fun i=>(c.slots[i]?).bind fun q=>gd q.2 (some (some i))else some none) l ks->(∀p∈l,aI p.2=true/\p∈sc.names) ->
   ks.length=l.length/\∀(i:Nat) (x:Str) (b:Bool),(l.map fun p=>(p.1,p.2 != .local))[i]?=some (x,b) ->
   (ks[i]?=some none/\((x,NameKind.local)∈sc.names\/(x,NameKind.cell)∈sc.names))\/∃j,dD (ks[i]?=some (some j)) (c.slots[j]?=some (x,true)) ((x,NameKind.free)∈sc.names):=by
  intro l ks al
  induction al with
  |nil=>exact fun U=>⟨rfl,fun i x b h=>nn0 h⟩
  |@cons p k r ks' hk _ ih=>
   intro hl;obtain h1:=(ih fun q hq=>hl q (.tail _ hq)).1;obtain h2:=(ih fun q hq=>hl q (.tail _ hq)).2;refine⟨aq (·+1) h1,fun i x b h=>?_⟩
   cases i with
   |succ i=>exact h2 i x b h
   |zero=>
    obtain q1:=(hl p (.head _)).1;obtain q2:=(hl p (.head _)).2;obtain⟨x',kd⟩:=p;obtain rfl:x'=x:=aq Prod.fst (al_0 h);refine bcb hk (fun hf hk=>bnd hk fun j hj hk=>bnd hk fun q hq hk=>gdi hk fun ht hk=>sme hk (.inr ⟨j,rfl,?fr,aB hf▸q2⟩)) fun hf hk=>sme hk (.inl ⟨rfl,?lo⟩)
    case fr=>
     obtain⟨b',hb'⟩:=Cx.ix_spec hj;obtain rfl:=al_0 (hq.symm.trans hb');exact hq.trans (aq (fun b=>some (x',b)) ht)
    case lo=>cases kd<;>first | exact .inl q2 | exact .inr q2 | exact Bool.noConfusion q1 | exact Bool.noConfusion hf
 obtain h1:=(key (eR e) fun p hp=>⟨(fY.mp hp).2,(fY.mp hp).1⟩).1;obtain h2:=(key (eR e) fun p hp=>⟨(fY.mp hp).2,(fY.mp hp).1⟩).2;exact⟨h1.trans (aC _).symm,h2⟩
end
end
section
theorem jP{cells:List (Str×Addr)}:∀{names:List (Str×NameKind)}{acc cl:List (Str×Addr)},iI cells names acc=some cl->∀x c,cl.lookup x=some c->(x,NameKind.free)∈names\/acc.lookup x=some c:=by
 intro r
 induction r with
 |nil=>
  intro acc cl e x c h;exact by simp only[iI]at e;cases e;exact .inr h
 |cons zx r jP=>
  obtain⟨n,k⟩:=zx;intro acc cl e x c h;simp only[iI]at e
  split at e
  ·rename_i hk
   split at e
   ·rcases jP e x c h with q | q
    ·exact .inl (.tail _ q)
    ·rw[List.lookup_cons]at q
     split at q
     ·rename_i hx;rw[beq_iff_eq.mp hx,aB hk];exact .inl (.head _)
     ·exact .inr q
   ·cases e
  ·rcases jP e x c h with q | q
   ·exact .inl (.tail _ q)
   ·exact .inr q
theorem nE{ks:List (Option Nat)}{ρ:Ro}{i:Nat}{sl:Sl}(h:(capt ks ρ)[i]?=some sl):sl=.unb\/Ex2 fun j v=>dD (ks[i]?=some (some j)) (ρ[j]?=some (.val v)) (sl=.val v):=by
 unfold capt at h;exact mpi (P:=fun sl=>sl=.unb\/Ex2 fun j v=>dD (ks[i]?=some (some j)) (ρ[j]?=some (.val v)) (sl=.val v)) (bA.symm.trans h) fun k hk=>by
  generalize e:k.bind _=o
  cases o with
  |none=>exact .inl rfl
  |some v=>exact bnd e fun j hj e=>bnd e fun u hu e=>.inr ⟨j,v,hk.trans (aq some hj),ke e▸hu,rfl⟩
section
variable{W:Wp}{P:Addr->Prop}{env:Env}{ρ:Ro}
noncomputable def oZ(D L:Addr)(names:List (Str×NameKind)):Addr->Prop:=fun b=>b=D\/b=L\/∃x,(x,b)∈cellsFrom (L+1) names []
theorem BC(G:WF W){h₂:Heap}(pr:Pre W P env ρ h₂){sc:Scope}{ks:List (Option Nat)}{cl:List (Str×Addr)}{D L:Addr}{o:Obj}(hof:o.isFreed=false)(hD:D=h₂.objs.size)(hL:L=h₂.objs.size+1)(hs:cK sc=true)(hk:AT (ac env.scope) sc=some ks)(hcl:iI env.cells sc.names []=some cl):
  (∀b o',h₂.get? b=some o'->(pushCells ((h₂.push o).push { cls:=.type "dict", data:=.dict #[] }) sc.names).get? b=some o') /\
  (pushCells ((h₂.push o).push { cls:=.type "dict", data:=.dict #[] }) sc.names).get? D=some o /\
  (∀b,b=D\/b=L\/(∃x,(x,b)∈cellsFrom (L+1) sc.names [])->h₂.get? b=none) /\
  (¬aw (bw sc cl L env) D)/\(∀b,aw (bw sc cl L env) b->oZ D L sc.names b\/∃x,env.cells.lookup x=some b) /\
  Pre W (aH P (oZ D L sc.names)) (bw sc cl L env) (capt ks ρ) (pushCells ((h₂.push o).push { cls:=.type "dict", data:=.dict #[] }) sc.names):=by
 subst hD hL;unfold cK at hs;simp only[jt,oi,List.all_eq_true]at hs;obtain⟨⟨hkind,hnd⟩,hncd⟩:=hs;obtain hkind:=aB hkind;have hsz:(h₂.push o).objs.size=h₂.objs.size+1:=Heap.size_push ..;have hsz':((h₂.push o).push { cls:=.type "dict", data:=.dict #[] }).objs.size=h₂.objs.size+2:=by rw[Heap.size_push,hsz]
 have ok:=cellsFrom_ok sc.names ((h₂.push o).push { cls:=.type "dict", data:=.dict #[] }) (h₂.objs.size+2) [] ⟨fun U U hm=>(nomatch hm),List.Pairwise.nil⟩ (by rw[hsz'];exact bS _);rw[hsz']at ok;have keep:∀b o',h₂.get? b=some o'->(pushCells ((h₂.push o).push { cls:=.type "dict", data:=.dict #[] }) sc.names).get? b=some o':=
  fun b o' e=>pushCells_keeps _ _ b o' (eP _ (eP _ e))
 have atD:(pushCells ((h₂.push o).push { cls:=.type "dict", data:=.dict #[] }) sc.names).get? h₂.objs.size=some o:=
  pushCells_keeps _ _ _ _ (eP _ (eO _ hof))
 have nsL:(pushCells ((h₂.push o).push { cls:=.type "dict", data:=.dict #[] }) sc.names).Ns (h₂.objs.size+1) fun U=>none:=by
  have:=(Heap.Ns.new (h₂.push o) (.type "dict")).keeps (pushCells_keeps sc.names _);rw[hsz]at this;exact this
 have cellNew:∀x c,(x,c)∈cellsFrom (h₂.objs.size+1+1) sc.names []->(pushCells ((h₂.push o).push { cls:=.type "dict", data:=.dict #[] }) sc.names).IsCell c none/\h₂.objs.size+2<=c:=fun x c h=>ok.empty x c h;have none':∀b,b=h₂.objs.size\/b=h₂.objs.size+1\/(∃x,(x,b)∈cellsFrom (h₂.objs.size+1+1) sc.names [])->h₂.get? b=none:=by
  rintro b (rfl | rfl | ⟨x,hx⟩)
  ·exact aR _
  ·exact lB (by lia)
  ·exact lB (by have:=(cellNew x b hx).2;lia)
 have newT:∀b,h₂.get? b=none->b∉W.T:=fun b hb=>pr.ok.pt _ (pr.ok.fresh G hb);have new0:∀b,h₂.get? b=none->W.h0.get? b=none:=fun b hb=>by
  cases q:W.h0.get? b with
  |none=>rfl
  |some o=>exact nn (Eq.trans (Eq.symm hb) (pr.ok.kept b o (newT b hb) q))
 obtain Yex:∀b,oZ h₂.objs.size (h₂.objs.size+1) sc.names b->∃o',(pushCells ((h₂.push o).push { cls:=.type "dict", data:=.dict #[] }) sc.names).get? b=some o':=by
  rintro b (rfl | rfl | ⟨x,hx⟩)
  ·exact⟨_,atD⟩
  ·obtain⟨o',es,ep,e,_⟩:=nsL;exact⟨o',e⟩
  ·obtain⟨⟨o',e,_⟩,_⟩:=cellNew x b hx;exact⟨o',e⟩
 obtain m:∀b o',P b->h₂.get? b=some o'->aH P (oZ h₂.objs.size (h₂.objs.size+1) sc.names) b/\(pushCells ((h₂.push o).push { cls:=.type "dict", data:=.dict #[] }) sc.names).get? b=some o':=by
  intro b o' p e;refine⟨⟨p,fun hb=>?_⟩,keep b o' e⟩;exact nn (Eq.trans (Eq.symm (none' b hb)) e)
 obtain ti:W.TI (pushCells ((h₂.push o).push { cls:=.type "dict", data:=.dict #[] }) sc.names):=G.ti h₂ _ (fun b o' e U=>keep b o' e) pr.ok.ti;refine byG fun gG kG=>?_;obtain⟨clA,_,clB⟩:=lV hcl (fun U U h=>by simp at h);obtain⟨kl,ksp⟩:=ky hk;refine kG ?_;have hcx:ac (bw sc cl (h₂.objs.size+1) env).scope=ac sc:=gv sc env;obtain slotMem:∀x k,(x,k)∈sc.names->aI k=true->∃i:Nat,(ac sc).slots[i]?=some (x,k != .local):=by
  intro x k h hk;have:(x,k != .local)∈(ac sc).slots:=eH.mpr ⟨(x,k),fY.mpr ⟨h,hk⟩,rfl⟩;exact List.mem_iff_getElem?.mp this
 -- a free name is a cell of the outer frame's
 have free:∀x,(x,NameKind.free)∈sc.names->Ex2 fun c v=>jX (cl.lookup x=some c) (env.cells.lookup x=some c) (h₂.IsCell c v) (c∉W.T) ((x,true)∈(ac env.scope).slots):=by
  intro x hx;obtain⟨i,hi⟩:=slotMem x .free hx rfl;obtain⟨c,hc⟩:=nN.mp (clB x hx);have hc':=clA x c hc;rcases ksp i x _ hi with⟨_,q | q⟩ | ⟨j,_,hj,_⟩
  ·have a:=ar hnd hx;rw[ar hnd q]at a;cases a
  ·have a:=ar hnd hx;rw[ar hnd q]at a;cases a
  ·have hm:=dw hj
   refine byG fun gG kG=>?_;obtain⟨_,c',v,e1,e2,e3⟩:=pr.en.cells x hm;refine kG ?_;obtain rfl:=al_0 (Eq.trans (Eq.symm hc') e1);exact⟨c,v,hc,hc',e2,e3,hm⟩
 have ocNone:∀x,(x,NameKind.free)∈sc.names->(cellsFrom (h₂.objs.size+1+1) sc.names []).lookup x=none:=by
  intro x hx
  cases q:(cellsFrom (h₂.objs.size+1+1) sc.names []).lookup x with
  |none=>rfl
  |some c=>
   rcases e8 _ _ _ _ _ (mem_of_lookup q)with r | r
   ·have a:=ar hnd hx;rw[ar hnd r]at a;cases a
   ·cases r
 have cells:∀x c,(cellsFrom (h₂.objs.size+1+1) sc.names []++cl).lookup x=some c->(x,c)∈cellsFrom (h₂.objs.size+1+1) sc.names []\/(env.cells.lookup x=some c/\∃o',h₂.get? c=some o'):=by
  intro x c h;rw[List.lookup_append]at h
  cases q:(cellsFrom (h₂.objs.size+1+1) sc.names []).lookup x with
  |some c'=>rw[q]at h;cases h;exact .inl (mem_of_lookup q)
  |none=>
   rw[q]at h;have h:cl.lookup x=some c:=h;rcases jP hcl x c h with r | r
   ·obtain⟨c',v,e1,e2,⟨o',e3,_⟩,_⟩:=free x r
    obtain rfl:=al_0 (Eq.trans (Eq.symm h) e1);exact .inr ⟨e2,o',e3⟩
   ·simp at r
 refine⟨keep,atD,none',?_,?_,⟨fun b o' n e=>keep b o' (pr.ok.kept b o' n e),ti,fun b ht hb=>⟨pr.ok.new b ht ?_,fun y=>?_⟩,fun b p=>pr.ok.pt b p.1⟩,⟨?_,pr.en.glob,pr.en.blt,newT _ (none' _ (.inr (.inl rfl))),⟨_,nsL⟩,?_,?_,?_,?_,?_⟩,?_,?_,?_,?_,?_,?_⟩
 ·rintro(q | ⟨x,hx⟩)
  ·have q:h₂.objs.size=h₂.objs.size+1:=q
   lia
  ·rcases cells x _ hx with q | ⟨_,o1,qo⟩
   ·have:=(cellNew x _ q).2;lia
   ·rw[aR]at qo;cases qo
 ·rintro b (q | ⟨x,hx⟩)
  ·exact .inl (.inr (.inl q))
  ·rcases cells x b hx with q | ⟨q,_⟩
   ·exact .inl (.inr (.inr ⟨x,q⟩))
   ·exact .inr ⟨x,q⟩
 ·cases q:h₂.get? b with
  |none=>rfl
  |some o'=>exact nn (Eq.trans (Eq.symm hb) (keep b o' q))
 ·obtain⟨o',e⟩:=Yex b y;exact nn (Eq.trans (Eq.symm hb) e)
 ·exact hkind
 ·intro x hx
  rw[hcx]at hx;refine byG fun gG kG=>?_;obtain⟨⟨y,k⟩,hy,e⟩:=eH.mp hx;refine kG ?_;simp only[Prod.mk.injEq]at e;obtain⟨rfl,hkl⟩:=e;obtain⟨hy,hsk⟩:=fY.mp hy;have hlk:(bw sc cl (h₂.objs.size+1) env).kindOf y=some (gm env (y,k)).2:=by
   show(relabel sc env).names.lookup y=_;rw[cm,bz,ar hnd hy];rfl
  have hkind':k=.cell\/k=.free:=by cases k<;>simp[aI]at hsk hkl ⊢
  obtain hkk:(gm env (y,k)).2=.cell\/(gm env (y,k)).2=.free:=by
   rcases fN env (y,k)with h | ⟨_,h⟩
   ·rw[h];exact hkind'
   ·exact .inl h
  refine⟨?_,?_⟩
  ·rw[hlk];exact hkk.imp (fun h=>by rw[h]) fun h=>by rw[h]
  ·rcases hkind' with rfl | rfl
   ·obtain⟨c,hc⟩:=bt sc.names (h₂.objs.size+1+1) [] y (.inl hy)
    obtain⟨c',hc'⟩:=aE hc;have hm:=mem_of_lookup hc';refine⟨c',none,?_,(cellNew y c' hm).1,newT _ (none' _ (.inr (.inr ⟨y,hm⟩)))⟩;show(cellsFrom (h₂.objs.size+1+1) sc.names []++cl).lookup y=some c';rw[List.lookup_append,hc'];rfl
   ·obtain⟨c,v,e1,e2,⟨o',e3,e4⟩,e5,_⟩:=free y hy
    refine⟨c,v,?_,⟨o',keep _ _ e3,e4⟩,e5⟩;show(cellsFrom (h₂.objs.size+1+1) sc.names []++cl).lookup y=some c;rw[List.lookup_append,ocNone y hy,e1];rfl
 ·intro x hx
  rw[hcx]at hx;refine byG fun gG kG=>?_;obtain⟨⟨y,k⟩,hy,e⟩:=eH.mp hx;refine kG ?_;simp only[Prod.mk.injEq]at e;obtain⟨rfl,hkl⟩:=e;obtain⟨hy,hsk⟩:=fY.mp hy;have:k=.local:=by cases k<;>simp[aI]at hsk hkl ⊢
  subst this;show(relabel sc env).names.lookup y=_;rw[cm,bz,ar hnd hy];rfl
 ·rw[hcx]
  have:((ac sc).slots.map (·.1))=(sc.names.filter fun p=>aI p.2).map (·.1):=by
   unfold ac gi;simp[dI,Function.comp_def]
  rw[this];exact hnd.sublist (List.filter_sublist.map _)
 ·intro p hp
  rw[hcx]at hp;obtain⟨q,hq,rfl⟩:=eH.mp hp;have:=hncd q (fY.mp hq).1
  simpa using this
 ·intro x c hx
  rcases cells x c hx with q | ⟨q,_⟩
  ·exact⟨newT c (none' c (.inr (.inr ⟨x,q⟩))),none,(cellNew x c q).1⟩
  ·obtain⟨a,v,o1,ho,hd⟩:=pr.en.allc x c q
   exact⟨a,v,o1,keep _ _ ho,hd⟩
 ·intro i x c sl h1 h2
  rw[hcx]at h1;rcases nE h2 with rfl | ⟨j,v,e1,e2,rfl⟩
  ·trivial
  ·rcases ksp i x c h1 with⟨q,_⟩ | ⟨j',q,hj,hf⟩
   ·rw[e1]at q;cases q
   ·rw[e1]at q;cases q
    obtain⟨u,va,ru⟩:=pr.er j x true _ hj e2;refine⟨u,.inr ?_,ru.mono m⟩;refine byG fun gG kG=>?_;obtain⟨c',w,f1,f2,f3,f4,f5⟩:=free x hf;refine kG ?_;rcases va with⟨k1,_⟩ | ⟨_,c'',g1,g2,⟨o',g3,g4⟩⟩
    ·rcases(pr.en.cells x f5).1 with k2 | k2<;>(rw[k1]at k2;cases k2)
    ·obtain rfl:=al_0 (Eq.trans (Eq.symm f2) g1)
     refine⟨?_,c',?_,f4,⟨o',keep _ _ g3,g4⟩⟩
     ·obtain hlk:(bw sc cl (h₂.objs.size+1) env).kindOf x=some (gm env (x,NameKind.free)).2:=by
       show(relabel sc env).names.lookup x=_;rw[cm,bz,ar hnd hf];rfl
      rw[hlk];rcases fN env (x,NameKind.free)with h | ⟨_,h⟩
      ·rw[h];exact .inr rfl
      ·rw[h];exact .inl rfl
     ·show(cellsFrom (h₂.objs.size+1+1) sc.names []++cl).lookup x=some c'
      rw[List.lookup_append,ocNone x hf,f1];rfl
 ·rw[hcx,<-kl];unfold capt;rw[aC]
 ·rintro b (rfl | ⟨x,hx⟩)
  ·exact⟨fun p=>p.2 (.inr (.inl rfl)),newT _ (none' _ (.inr (.inl rfl))),new0 _ (none' _ (.inr (.inl rfl)))⟩
  ·rcases cells x b hx with q | ⟨q,_⟩
   ·exact⟨fun p=>p.2 (.inr (.inr ⟨x,q⟩)),newT _ (none' _ (.inr (.inr ⟨x,q⟩))),new0 _ (none' _ (.inr (.inr ⟨x,q⟩)))⟩
   ·have:=pr.hid b (.inr ⟨x,q⟩)
    exact⟨fun p=>this.np p.1,this.nt,this.n0⟩
 ·intro x y c hx hy
  rcases cells x c hx with p | ⟨p,o1,po⟩<;>rcases cells y c hy with q | ⟨q,o2,qo⟩
  ·exact name_of_addr ok.apart p q
  ·rw[none' c (.inr (.inr ⟨x,p⟩))]at qo;cases qo
  ·rw[none' c (.inr (.inr ⟨y,q⟩))]at po;cases po
  ·exact pr.inj x y c p q
 ·intro x hx
  rcases cells x _ hx with q | ⟨q,o1,qo⟩
  ·have:=(cellNew x _ q).2
   have h3:h₂.objs.size+2<=h₂.objs.size+1:=this;lia
  ·have h2:(bw sc cl (h₂.objs.size+1) env).locals=h₂.objs.size+1:=rfl
   rw[h2,none' _ (.inr (.inl rfl))]at qo;cases qo
 ·intro i j x y ci cj si sj a hij h1 h2 h3 h4 o1
  rcases nE h3 with rfl | ⟨_,_,_,_,rfl⟩
  ·obtain⟨l,e | e⟩:=o1<;>cases e
  ·obtain⟨l,e | e⟩:=o1<;>cases e
end
end
section
section
variable{W:Wp}{P P':Addr->Prop}{env:Env}{ρ:Ro}{h h':Heap}
theorem aA.keepM{T:List Addr}{x:Str}{v:Value}(k:∀b o,aw env b->h.get? b=some o->h'.get? b=some o)(r:aA T env h x v):aA T env h' x v:=by
 rcases r with⟨a,b,m,⟨o,es,ep,ho,r⟩,hm⟩ | ⟨a,c,hc,hT,⟨o,ho,hd⟩⟩
 ·exact .inl ⟨a,b,m,⟨o,es,ep,k _ _ (.inl rfl) ho,r⟩,hm⟩
 ·exact .inr ⟨a,c,hc,hT,⟨o,k _ _ (.inr ⟨x,hc⟩) ho,hd⟩⟩
theorem fZ.keepM{T:List Addr}(k:∀b o,aw env b->h.get? b=some o->h'.get? b=some o)(r:fZ T env h):fZ T env h' where
 kind:=r.kind
 glob:=r.glob
 blt:=r.blt
 lT:=r.lT
 lns:=by obtain⟨m,o,es,ep,ho,q⟩:=r.lns;exact⟨m,o,es,ep,k _ _ (.inl rfl) ho,q⟩
 cells:=fun x hx=>by
  refine byG fun gG kG=>?_;obtain⟨a,c,v,e1,⟨o,ho,hd⟩,e3⟩:=r.cells x hx;refine kG ?_;exact⟨a,c,v,e1,⟨o,k _ _ (.inr ⟨x,e1⟩) ho,hd⟩,e3⟩
 locs:=r.locs
 nd:=r.nd
 ncd:=r.ncd
 allc:=fun x c hx=>by
  refine byG fun gG kG=>?_;obtain⟨a,v,o,ho,hd⟩:=r.allc x c hx;refine kG ?_;exact⟨a,v,o,k _ _ (.inr ⟨x,hx⟩) ho,hd⟩
theorem Pre.stepG(pr:Pre W P env ρ h)(kM:∀b o,aw env b->h.get? b=some o->h'.get? b=some o)(kO:∀b o,aQ W env ρ h b->h.get? b=some o->h'.get? b=some o)(m:∀b o,P b->h.get? b=some o->P' b/\h'.get? b=some o)(hid:∀b,aw env b\/aQ W env ρ h b->Hid W P b->Hid W P' b)(ok:Ok W P' h'):Pre W P' env ρ h':=by
 refine⟨ok,pr.en.keepM kM,fun i x c sl h1 h2=>?_,pr.len,fun b x=>hid b (.inl x) (pr.hid b x),pr.inj,pr.ncl,?_⟩
 ·have r:=pr.er i x c sl h1 h2
  cases sl with
  |unb=>trivial
  |val v=>obtain⟨u,a,b⟩:=r;exact⟨u,a.keepM kM,b.mono m⟩
  |own l=>
   refine byG fun gG kG=>?_;obtain⟨a,vs,n,e1,e2,e4,e5⟩:=r;refine kG ?_;have o:aQ W env ρ h a:=⟨i,x,c,_,h1,h2,⟨l,.inl rfl⟩,e1⟩;exact⟨a,vs,n,e1.keepM kM,hid a (.inr o) e2,kO _ _ o e4,e5.mono m⟩
  |itr l=>
   refine byG fun gG kG=>?_;obtain⟨a,e1,e2,la,k,vs,n,⟨o,ho,hc,hd⟩,hp,hl,rs⟩:=r;refine kG ?_;have ow:aQ W env ρ h a:=⟨i,x,c,_,h1,h2,⟨l,.inr rfl⟩,e1⟩;exact⟨a,e1.keepM kM,hid a (.inr ow) e2,la,k,vs,n,⟨o,kO _ _ ow ho,hc,hd⟩,(m _ _ hp hl).1,(m _ _ hp hl).2,rs.mono m⟩
 ·intro i j x y ci cj si sj a hij h1 h2 h3 h4 o1 o2 v1 v2
  refine byG fun gG kG=>?_;obtain⟨a1,w1,_⟩:=(pr.er i x ci si h1 h3).var o1;obtain⟨a2,w2,_⟩:=(pr.er j y cj sj h2 h4).var o2;refine kG ?_;have e1:=(w1.keepM kM).det v1;have e2:=(w2.keepM kM).det v2
  cases e1;cases e2
  exact pr.dist i j x y ci cj si sj _ hij h1 h2 h3 h4 o1 o2 w1 w2
noncomputable def Wk(σ ρ:Ro):Prop:=σ.length=ρ.length/\∀i:Nat,σ[i]?=ρ[i]?\/σ[i]?=some .unb
theorem Pre.weak{σ:Ro}(pr:Pre W P env ρ h)(w:Wk σ ρ):Pre W P env σ h:=by
 have key:∀(i:Nat) (sl:Sl),σ[i]?=some sl->ρ[i]?=some sl\/sl=.unb:=fun i sl e=>by
  rcases w.2 i with q | q
  ·exact .inl (q▸e)
  ·obtain rfl:=al_0 (Eq.trans (Eq.symm q) e);exact .inr rfl
 refine⟨pr.ok,pr.en,fun i x c sl h1 h2=>?_,w.1.trans pr.len,pr.hid,pr.inj,pr.ncl,?_⟩
 ·rcases key i sl h2 with q | rfl
  ·exact pr.er i x c sl h1 q
  ·trivial
 ·intro i j x y ci cj si sj a hij h1 h2 h3 h4 o1 o2 v1 v2
  rcases key i si h3 with q | rfl
  ·rcases key j sj h4 with q' | rfl
   ·exact pr.dist i j x y ci cj si sj a hij h1 h2 q q' o1 o2 v1 v2
   ·obtain⟨l,e | e⟩:=o2<;>cases e
  ·obtain⟨l,e | e⟩:=o1<;>cases e
theorem cq:∀(q:List (Nat×V)) (ρ:Ro) (i:Nat),i∉q.map (·.1)->(q.foldl (fun(r:Ro) (q:Nat×V)=>r.set q.1 (.val q.2)) ρ)[i]?=ρ[i]?:=by
 intro l
 induction l with
 |nil=>
  intro ρ i _;exact rfl
 |cons q l cq=>
  intro ρ i h;rw[bc,aM]at h;rw[List.foldl_cons,cq _ i fun x=>h (.inr x),fz fun e=>h (.inl e.symm)]
theorem wJ{p:Pat}{v:V}{σ ρ':Ro}(hb:fC p v σ=some ρ'):ρ'.length=σ.length:=by
 cases p with
 |one i=>exact ifi hb fun U e=>sme e gz
 |many is=>exact bnd hb fun l U h=>ifi h fun U e=>sme e (dR _ _)
theorem oX{p:Pat}{v:V}{σ ρ':Ro}(hb:fC p v σ=some ρ'){i:Nat}(hi:i∉p.slots):ρ'[i]?=σ[i]?:=by
 cases p with
 |one j=>exact ifi hb fun U e=>sme e (fz fun q=>hi (fx.mpr q.symm))
 |many is=>exact bnd hb fun l U h=>ifi h fun U e=>sme e (cq _ _ _ fun hm=>hi<|by
   obtain⟨q,hz,e⟩:=eH.mp hm;exact e▸(List.of_mem_zip (a:=q.1) (b:=q.2) hz).1)
theorem Wk.bind{p:Pat}{v:V}{σ ρ':Ro}(hb:fC p v σ=some ρ')(hu:∀i∈p.slots,σ[i]?=some .unb):Wk σ ρ':=
 ⟨(wJ hb).symm,fun i=>by
  by_cases hi:i∈p.slots
  ·exact .inr (hu i hi)
  ·exact .inl (oX hb hi).symm⟩
theorem gP(hn:∀(i:Nat) (sl:Sl),ρ[i]?=some sl->¬bk sl)(b:Addr):¬aQ W env ρ h b:=by
 rintro⟨i,x,c,sl,h1,h2,h3,h4⟩;exact hn i sl h2 h3
noncomputable def bY(ρ:Ro):Prop:=∀(i:Nat) (sl:Sl),ρ[i]?=some sl->¬bk sl
theorem bY.capt(ks:List (Option Nat))(ρ:Ro):bY (Internal.capt ks ρ):=fun i sl h o=>by
 rcases nE h with rfl | ⟨j,v,_,_,rfl⟩
 ·obtain⟨l,e | e⟩:=o<;>cases e
 ·obtain⟨l,e | e⟩:=o<;>cases e
theorem bY.set(h:bY ρ)(i:Nat)(v:V):bY (ρ.set i (.val v)):=fun j sl hj o=>by
 by_cases e:i=j
 ·subst e
  rw[List.getElem?_set]at hj;simp only[if_true]at hj
  split at hj
  ·cases hj;obtain⟨l,e | e⟩:=o<;>cases e
  ·cases hj
 ·rw[fz e]at hj;exact h j sl hj o
theorem bY.foldl:∀(q:List (Nat×V)) (ρ:Ro),bY ρ->bY (q.foldl (fun(r:Ro) (q:Nat×V)=>r.set q.1 (.val q.2)) ρ):=by
 intro l
 induction l with
 |nil=>
  intro _ h;exact h
 |cons q l zih=>
  intro ρ h;exact by rw[List.foldl_cons];exact zih _ (h.set _ _)
theorem bY.bind{p:Pat}{v:V}{σ ρ':Ro}(hb:fC p v σ=some ρ')(h:bY σ):bY ρ':=by
 cases p with
 |one i=>exact ifi hb fun U e=>sme e (h.set _ _)
 |many is=>exact bnd hb fun l U h'=>ifi h' fun U e=>sme e (bY.foldl _ _ h)
theorem Ok.next{Z:Addr->Prop}(ok:Ok W P h)(k:∀b o,b∉W.T->¬Z b->h.get? b=some o->h'.get? b=some o)(ti:W.TI h')(hz:∀b,Z b->W.h0.get? b=none/\∃o,h'.get? b=some o):Ok W P h':=by
 refine⟨fun b o n e=>k b o n (fun z=>?_) (ok.kept b o n e),ti,fun b n e=>?_,ok.pt⟩
 ·exact nn (Eq.trans (Eq.symm ((hz b z).1)) e)
 ·refine ok.new b n ?_
  cases q:h.get? b with
  |none=>rfl
  |some o=>
   by_cases z:Z b
   ·obtain⟨o',e'⟩:=(hz b z).2;exact nn (Eq.trans (Eq.symm e) e')
   ·exact nn (Eq.trans (Eq.symm e) (k b o n z q))
theorem Pre.out{Z:Addr->Prop}(pr:Pre W P env ρ h)(k:∀b o,b∉W.T->¬Z b->h.get? b=some o->h'.get? b=some o)(ti:W.TI h')(hz:∀b,Z b->¬P b/\¬aw env b/\¬aQ W env ρ h b/\W.h0.get? b=none/\∃o,h'.get? b=some o):Pre W P env ρ h':=
 pr.stepG (fun b o x e=>k b o (pr.hid b x).nt (fun z=>(hz b z).2.1 x) e)
  (fun b o x e=>k b o (by
   obtain⟨i,y,c,sl,h1,h2,h3,h4⟩:=x;obtain⟨a,w,hd⟩:=(pr.er i y c sl h1 h2).var h3;have:=w.det h4
   cases this;exact hd.nt) (fun z=>(hz b z).2.2.1 x) e)
  (fun b o p e=>⟨p,k b o (pr.ok.pt b p) (fun z=>(hz b z).1 p) e⟩) (fun U U x=>x) (pr.ok.next k ti fun b z=>⟨(hz b z).2.2.2.1,(hz b z).2.2.2.2⟩)
end
end
section
noncomputable def pe(c:Code)(ip:Pos)(target:Expr)(ifs:List Expr)(emit:Sem Fin->Sem Fin)(it:Value)(env:Env):Sem Fin:=do
 standAt ip
 match <-pyNext it with
 |none=>pure (.done .next)
 |some v=>
  letOwnedTupleGo target it v
  assign target env v
  let mut ok:=true
  for c in ifs do
   if ok then ok <-isTrue c env (eval c env)
  if ok then emit (again c)else again c
noncomputable def q8(elt:Expr)(acc:Value)(env:Env):Sem Unit:=do let _ <-call (.builtin "list.append") [acc,<-eval elt env]
theorem CG(elt t it:Expr)(ifs:List Expr)(sc:Scope)(pos:Pos)(itv acc:Value)(env:Env):
  compTurn (.ListComp elt [⟨t,it,ifs,0⟩] sc pos) 0 itv acc env=pe (.compLoop (.ListComp elt [⟨t,it,ifs,0⟩] sc pos) 0 itv acc env) it.pos t ifs (fun k=>q8 elt acc env>>=fun U=>k) itv env:=by rfl
noncomputable abbrev pg(ifs:List Expr)(env:Env):Sem Bool:=
 forIn ifs true fun c r=>if r=true then do let ok <-isTrue c env (eval c env);pure (ForInStep.yield ok)else pure (ForInStep.yield r)
section
variable{prog:Program}{w:World}{A:Around}{R:Result->Shared->Prop}{s:Shared}
theorem nA{elt:Expr}{gens:List Comprehension}{sc:Scope}{pos ip:Pos}{d:Nat}{it acc:Value}{env:Env}{target:Expr}{ifs:List Expr}{emit:Sem Fin->Sem Fin}(ht:compTurn (.ListComp elt gens sc pos) d it acc env=pe (.compLoop (.ListComp elt gens sc pos) d it acc env) ip target ifs emit it env)(I:Nat->Shared->Prop)(turn:∀n s,I n s->∃E':Value->Shared->Prop,E'=(notedBy (model prog w) A env fun e s'=>R (.error e) s')/\wpAny (model prog w) A (pyNext it) (fun r s₁=>match r with
   |none=>R (.ok .next) s₁
   |some v=>wpAny (model prog w) A (letOwnedTupleGo target it v) (fun U s₁'=>wpAny (model prog w) A (assign target env v) (fun U s₂=>
     wpAny (model prog w) A (pg ifs env) (fun ok s₃=>
      if ok=true then ∀(k:Sem Fin) (Q':Fin->Shared->Prop),(∀s₅ m,m<n->I m s₅->wpAny (model prog w) A k Q' E' s₅)->wpAny (model prog w) A (emit k) Q' E' s₃
      else ∃m,m<n/\I m s₃) E' s₂) E' s₁') E' s₁) E' s)(n:Nat)(h:I n s):codeAny (model prog w) A (.compLoop (.ListComp elt gens sc pos) d it acc env) R s:=by
 refine codeAny_loop rfl I (fun n s hI=>?_) n h;obtain⟨E',rfl,turn⟩:=turn n s hI;show wpAny _ A ((compTurn (.ListComp elt gens sc pos) d it acc env).onRaise (fun x=>do noteFrame x env;theTreesLotGoes x)) _ _ s;refine wpAny_noted ?_;rw[ht];unfold pe;refine aj (wpAny_standAt (aj (wpAny_mono turn (fun r s₁ h₁=>?_) fun U U h'=>h')))
 cases r with
 |none=>exact az h₁
 |some v=>
  refine aj (wpAny_mono h₁ (fun U s₁' h₁'=>?_) fun U U h'=>h');refine aj (wpAny_mono h₁' (fun U s₂ h₂=>aj (wpAny_mono h₂ (fun ok s₃ h₃=>?_) fun U U h'=>h')) fun U U h'=>h')
  cases ok with
  |false=>exact az ⟨rfl,h₃⟩
  |true=>exact h₃ _ _ fun s₄ m hm hI=>az ⟨rfl,m,hm,hI⟩
theorem iH{elt:Expr}{gens:List Comprehension}{sc:Scope}{pos:Pos}{d:Nat}{it acc:Value}{env:Env}{g:Comprehension}(hg:gens[d]?=some g)(ha:g.is_async=0)(h0:codeAny (model prog w) A (.compLoop (.ListComp elt gens sc pos) d it acc env) R s)(h:∀E':Value->Shared->Prop,wpAny (model prog w) A (pyIter it) (fun it' s'=>codeAny (model prog w) A (.compLoop (.ListComp elt gens sc pos) d it' acc env) R s') E' s):
  codeAny (model prog w) A (.compStart (.ListComp elt gens sc pos) d it acc env) R s:=by
 refine codeAny_of_tree ?_;show wpAny _ _ ((compStart (.ListComp elt gens sc pos) d it acc env).onRaise (fun x=>do noteFrame x env;standAt theWindowsPlace)) _ _ s;refine wpAny_notedAt ?_;unfold compStart;have hcl:(clausesOf (.ListComp elt gens sc pos))[d]?=some g:=hg;rw[hcl];have e1:(Option.elim (some g) false fun x=>x.is_async != 0)=false:=by simp[ha]
 rw[e1];simp only[jV,if_false];refine aj (wpAny_askSetting (wpAny_ite ?_))
 split
 ·first
   |exact aj (az (az (And.intro rfl h0)))
   |exact az (And.intro rfl h0)
 ·first
   |exact aj (wpAny_rule (aj (wpAny_standAt (aj (wpAny_mono (h _) (fun it' s' h'=>az (And.intro rfl h')) fun U U x=>x)))))
   |(refine aj (wpAny_rule ?_);show wpAny _ _ (standAt _>>=_) _ _ s;exact aj (wpAny_standAt (aj (wpAny_mono (h _) (fun it' s' h'=>az (And.intro rfl h')) fun U U x=>x))))
end
end
section
noncomputable def zW(W:Wp)(A:Around)(P:Addr->Prop)(cenv:Env)(D:Addr)(Z:Addr->Prop)(emit:Sem Fin->Sem Fin)(E':Value->Shared->Prop)(σ:Ro)(l:List V):Prop:=
 ∀(s:Shared) (ys:Array Value) (n:Nat) (out:List V) (k:Sem Fin) (Q:Fin->Shared->Prop),Pre W P cenv σ s.heap->IsL s.heap D ys n->Rps P s.heap ys.toList out->out.length+l.length<=szLine ->
  (∀h' tk ys' n',(∀b o,b∉W.T->¬Z b->s.heap.get? b=some o->h'.get? b=some o)->Pre W P cenv σ h'->IsL h' D ys' n'->Rps P h' ys'.toList (out++l)->wpAny W.M A k Q E' { s with heap:=h',toks:=tk }) ->
  wpAny W.M A (emit k) Q E' s
theorem jx{env:Env}{is:List Nat}{b:Addr}(t:rM env is b):aw env b:=by
 obtain⟨i,_,x,c,_,tg⟩:=t;rcases tg with⟨_,e⟩ | ⟨_,e⟩
 ·exact .inl e
 ·exact .inr ⟨_,e⟩
inductive G9(W:Wp)(P:Addr->Prop)(cenv:Env)(D:Addr)(X Z:Addr->Prop)(St:Nat->Heap->Prop)(σ0:Ro)(f:V->Option (List V))(p:Pat)(items out0 out:List V)(s:Shared):Nat->Shared->Prop
 |mk (k:Nat) (h':Heap) (tk:Nat) (ys:Array Value) (n:Nat) (out1 out2:List V) (hk:k<=items.length) (st:St k h') (pr:Pre W P cenv σ0 h') (hD:IsL h' D ys n) (rs:Rps P h' ys.toList (out0++out1))
   (hf:fmM (items.drop k) f=some out2) (ho:out=out1++out2) (kp:∀b o,b∉W.T->¬X b->¬Z b->¬rM cenv p.slots b->s.heap.get? b=some o->h'.get? b=some o):
   G9 W P cenv D X Z St σ0 f p items out0 out s (items.length-k) { s with heap:=h',toks:=tk }
section
variable{W:Wp}{A:Around}{s:Shared}{P:Addr->Prop}
theorem rF(G:WF W)(hh:A.handled=none){elt:Expr}{gens:List Comprehension}{sc:Scope}{pos ip:Pos}{d:Nat}{I D:Addr}{cenv:Env}{target:Expr}{ifs:List Expr}{emit:Sem Fin->Sem Fin}{items:List V}{p:Pat}{σ0:Ro}{t:Ro->Option Bool}{g:Ro->Option (List V)}{X Z B:Addr->Prop}{St:Nat->Heap->Prop}{Tg:Expr->Prop}{R:Result->Shared->Prop}(ht:compTurn (.ListComp elt gens sc pos) d (.ref I) (.ref D) cenv=pe (.compLoop (.ListComp elt gens sc pos) d (.ref I) (.ref D) cenv) ip target ifs emit (.ref I) cenv)(it:ik W A B I X St items Tg)(tg:Tg target)(hp:vZ (ac cenv.scope) target=some p)(hB:∀b,B b->P b)(hX:∀b,X b->¬P b/\b∉W.T/\¬aw cenv b/\¬Z b/\W.h0.get? b=none)(hZ:∀b,Z b->¬P b)(zD:Z D)(hD:¬aw cenv D)(hDT:D∉W.T)(hu:∀i∈p.slots,σ0[i]?=some .unb)(hn:bY σ0)(tests:∀(ρ':Ro) (b:Bool) (s:Shared) (Q:Bool->Shared->Prop) (E':Value->Shared->Prop),t ρ'=some b->Pre W P cenv ρ' s.heap->(∀h' tk,KX W s.heap h'->Q b { s with heap:=h',toks:=tk })->wpAny W.M A (pg ifs cenv) Q E' s)(em:∀(ρ':Ro) (l:List V) (E':Value->Shared->Prop),g ρ'=some l->bY ρ'->(∀i:Nat,i∉p.slots->ρ'[i]?=σ0[i]?)->zW W A P cenv D Z emit E' ρ' l){out out0:List V}(hf:fmM items (me p t σ0 g)=some out)(hl:out0.length+out.length<=szLine)(st:St 0 s.heap)(pr:Pre W P cenv σ0 s.heap){ys:Array Value}{n:Nat}(hD0:IsL s.heap D ys n)(rs:Rps P s.heap ys.toList out0)(h:∀h' tk ys' n',(∀b o,b∉W.T->¬X b->¬Z b->¬rM cenv p.slots b->s.heap.get? b=some o->h'.get? b=some o)->Pre W (fun b=>P b\/X b) cenv σ0 h'->IsL h' D ys' n'->Rps P h' ys'.toList (out0++out) ->
   R (.ok .next) { s with heap:=h',toks:=tk }):
  codeAny W.M A (.compLoop (.ListComp elt gens sc pos) d (.ref I) (.ref D) cenv) R s:=by
 refine nA ht (G9 W P cenv D X Z St σ0 (me p t σ0 g) p items out0 out s) ?_ items.length (.mk 0 s.heap s.toks ys n [] out (cO _) st pr hD0 ((bQ out0).symm▸rs) hf rfl fun U U U U U U e=>e);intro m s' ci;refine⟨_,rfl,?_⟩;generalize (notedBy (model W.prog W.w) A cenv fun e s'=>R (.error e) s')=E';have DX:¬X D:=fun x=>(hX D x).2.2.2.1 zD;obtain⟨k,h0,tk,ys,n,out1,out2,hk,st,pr,hD0,rs,hff,ho,hkp⟩:=ci;rcases Nat.lt_or_ge k items.length with hlt | hge
 ·have hx:items[k]?=some items[k]:=cE hlt
  rw[List.drop_eq_getElem_cons hlt]at hff;generalize items[k]=x at hx hff;revert ho;refine bnd hff fun l hl1 hff=>mpi hff fun l2 hl2 ho=>?_;refine bnd hl1 fun ρ' hb hl1=>bnd hl1 fun tt ht1 hl1=>?_;refine it.next P k x target _ _ _ hB (fun b q=>(hX b q).1) tg hx st pr.ok fun u s₁ hu1=>hu1 _ _ fun h1 tk1 k1 ti1 ru st1=>?_;obtain pr1:Pre W P cenv σ0 h1:=pr.out (Z:=X) (fun b o U q e=>k1 b o q e) ti1 fun b q=>⟨(hX b q).1,(hX b q).2.2.1,gP hn b,(hX b q).2.2.2.2,it.here _ _ _ st1 q⟩;refine jo G hh (s:={ s with heap:=h1,toks:=tk1 }) pr1 hp ru hb fun h2 tk2 k2 pr2 U=>?_;have nt:∀b,P b->¬rM cenv p.slots b:=fun b pb q=>(pr.hid b (jx q)).np pb;obtain st2:St (k+1) h2:=it.frame _ _ _ st1 fun b o hb e=>k2 b o (fun q=>hb.elim (fun hb=>(hX b hb).2.2.1 (jx q)) fun hb=>nt b (hB b hb) q) e;obtain hD2:IsL h2 D ys n:=k2 _ _ (fun q=>hD (jx q)) (k1 _ _ DX hD0);obtain rs2:Rps P h2 ys.toList (out0++out1):=rs.mono fun b o p e=>⟨p,k2 b o (nt b p) (k1 b o (fun q=>(hX b q).1 p) e)⟩;have wk:Wk σ0 ρ':=Wk.bind hb hu;have hkB:∀b,X b\/B b->b∉W.T:=fun b hb=>hb.elim (fun q=>(hX b q).2.1) fun q=>pr.ok.pt b (hB b q);have dec:items.length-(k+1)<items.length-k:=Nat.sub_lt_sub_left hlt (dr k);have kp2:∀b o,b∉W.T->¬X b->¬Z b->¬rM cenv p.slots b->s.heap.get? b=some o->h2.get? b=some o:=fun b o n1 n2 n3 n4 e=>k2 b o n4 (k1 b o n2 (hkp b o n1 n2 n3 n4 e));refine tests ρ' tt { s with heap:=h2,toks:=tk2 } _ _ ht1 pr2 fun h3 tk3 K3=>?_;have st3:=it.frame _ _ _ st2 fun b o hb e=>K3.keep b o (hkB b hb) e;have hD3:=K3.keep _ _ hDT hD2;have rs3:=rs2.kx pr.ok.pt K3;have pr3:=pr2.step K3
  cases tt with
  |false=>
   refine⟨_,dec,.mk (k+1) h3 tk3 ys n out1 l2 hlt st3 (pr3.weak wk) hD3 rs3 hl2 ?_ fun b o n1 n2 n3 n4 e=>K3.keep b o n1 (kp2 b o n1 n2 n3 n4 e)⟩;rw[ho,<-(al_0 hl1:[]=l),List.nil_append]
  |true=>
   intro kk Q' hkk;refine em ρ' l E' hl1 (hn.bind hb) (fun i hi=>oX hb hi) { s with heap:=h3,toks:=tk3 } ys n (out0++out1) kk Q' pr3 hD3 rs3 (by
    rw[ho,<-bX,aG,aG]at hl;rw[aG,Nat.add_assoc];exact ai (Nat.add_le_add_left (i7 _ _) _) hl) fun h4 tk4 ys4 n4 k4 pr4 hD4 rs4=>?_
   refine hkk _ _ dec (.mk (k+1) h4 tk4 ys4 n4 (out1++l) l2 hlt ?_ (pr4.weak wk) hD4 (bX out0 out1 l▸rs4) hl2 (ho.trans (bX out1 l l2).symm) fun b o n1 n2 n3 n4 e=>k4 b o n1 n3 (K3.keep b o n1 (kp2 b o n1 n2 n3 n4 e)));exact it.frame _ _ _ st3 fun b o hb e=>k4 b o (hkB b hb) (fun q=>hb.elim (fun hb=>(hX b hb).2.2.2.1 q) fun hb=>hZ b q (hB b hb)) e
 ·obtain rfl:=Nat.le_antisymm hk hge
  refine it.done _ _ _ st pr.ok.ti fun h1 tk1 k1 ti1=>?_;rw[List.drop_length]at hff;obtain rfl:[]=out2:=al_0 hff;rw[bQ]at ho;subst ho;refine h h1 tk1 ys n (fun b o n1 n2 n3 n4 e=>k1 b o n2 (hkp b o n1 n2 n3 n4 e)) ?_ (k1 _ _ DX hD0) (rs.mono fun b o p e=>⟨p,k1 b o (fun q=>(hX b q).1 p) e⟩);refine pr.stepG (fun b o x e=>k1 b o (fun q=>(hX b q).2.2.1 x) e) (fun b o x e=>absurd x (gP hn b)) (fun b o p e=>⟨.inl p,k1 b o (fun q=>(hX b q).1 p) e⟩)
   (fun b hb x=>⟨fun q=>?_,x.nt,x.n0⟩) ⟨fun b o n1 e=>k1 b o (fun q=>?_) (pr.ok.kept b o n1 e),ti1,fun b n1 e=>?_,fun b q=>q.elim (pr.ok.pt b) fun q=>(hX b q).2.1⟩
  ·exact q.elim x.np fun q=>hb.elim (hX b q).2.2.1 (gP hn b)
  ·rw[(hX b q).2.2.2.2]at e;exact nn e
  ·by_cases q:X b
   ·exact .inr q
   ·refine .inl (pr.ok.new b n1 ?_)
    cases e2:h0.get? b with
    |none=>rfl
    |some o=>rw[k1 b o q e2]at e;exact nn e.symm
end
end
section
section
variable{W:Wp}{A:Around}{E':Value->Shared->Prop}{s:Shared}{P:Addr->Prop}{env:Env}{ρ:Ro}
theorem mQ{prog:Program}{w:World}{l:Addr}{items:Array Value}{n:Nat}{x:Value}{Q:Value->Shared->Prop}(hl:IsL s.heap l items n)(hQ:∀h' n',IsL h' l (items.push x) n'->Heap.SameBut l s.heap h'->Q .none { s with heap:=h' })(hsz:items.size<=sizeLine):
  wpAny (model prog w) A (call (.builtin "list.append") [.ref l,x]) Q E' s:=by
 refine wpAny_call_entry slot_list_append (Heap.IsList.typeIs ⟨_,hl,rfl,_,rfl⟩) entry_list_append ?_ (args_list_append _ _);show wpAny _ _ (updateSeq l (·.push x)>>=fun U=>ret .none) _ _ s;refine aj ?_;exact wpAny_updateSeq hl rfl (az ⟨.none,rfl,hQ _ _ (IsL.update hl _) (Heap.SameBut.update ..)⟩) hsz (by rw[Array.size_push];exact Nat.succ_le_succ hsz)
noncomputable def SE(W:Wp)(D:Nat)(c:Cx)(e:Expr)(φ:Ro->Option V):Prop:=
 ∀(A:Around) (env:Env) (ρ:Ro) (P:Addr->Prop) (s:Shared) (v:V) (Q:Value->Shared->Prop) (E':Value->Shared->Prop),AOk A D->ac env.scope=c->Pre W P env ρ s.heap->φ ρ=some v ->
  (∀u h' tk,KX W s.heap h'->Rp P h' u v->Q u { s with heap:=h',toks:=tk })->wpAny W.M A (eval e env) Q E' s
noncomputable def SQ(W:Wp)(D:Nat)(c:Cx)(e:Expr)(φ:Ro->Option V):Prop:=
 ∀(A:Around) (env:Env) (ρ:Ro) (P:Addr->Prop) (s:Shared) (v:V) (Q:Value->Shared->Prop) (E':Value->Shared->Prop),AOk A D->ac env.scope=c->Pre W P env ρ s.heap->φ ρ=some v ->
  (∀u h' tk,KX W s.heap h'->Rq P h' u v->Q u { s with heap:=h',toks:=tk })->wpAny W.M A (eval e env) Q E' s
noncomputable def SB(W:Wp)(D:Nat)(c:Cx)(e:Expr)(φ:Ro->Option Bool):Prop:=
 ∀(A:Around) (env:Env) (ρ:Ro) (P:Addr->Prop) (s:Shared) (v:Bool) (Q:Bool->Shared->Prop) (E':Value->Shared->Prop),AOk A D->ac env.scope=c->Pre W P env ρ s.heap->φ ρ=some v ->
  (∀h' tk,KX W s.heap h'->Q v { s with heap:=h',toks:=tk })->wpAny W.M A (isTrue e env (eval e env)) Q E' s
noncomputable def SBs(W:Wp)(D:Nat)(c:Cx)(es:List Expr)(φ:Ro->Option Bool):Prop:=
 ∀(A:Around) (env:Env) (ρ:Ro) (P:Addr->Prop) (s:Shared) (v:Bool) (Q:Bool->Shared->Prop) (E':Value->Shared->Prop),AOk A D->ac env.scope=c->Pre W P env ρ s.heap->φ ρ=some v ->
  (∀h' tk,KX W s.heap h'->Q v { s with heap:=h',toks:=tk })->wpAny W.M A (pg es env) Q E' s
noncomputable def SI(W:Wp)(D:Nat)(c:Cx)(e:Expr)(Tg:Expr->Prop)(φ:Ro->Option (List V)):Prop:=
 (∀env x,foldedSetIterable e env x=pure x) /\
 ∀(A:Around) (env:Env) (ρ:Ro) (P:Addr->Prop) (s:Shared) (v:List V) (Q:Value->Shared->Prop) (E':Value->Shared->Prop),AOk A D->ac env.scope=c->Pre W P env ρ s.heap->φ ρ=some v ->
  (∀hm tkm,KX W s.heap hm->dJ W A P { s with heap:=hm,toks:=tkm } Q v Tg)->wpAny W.M A (eval e env) (fun x s₁=>wpAny W.M A (pyIter x) Q E' s₁) E' s
theorem tA(G:WF W){D:Addr}{Z:Addr->Prop}{dd:Nat}{c:Cx}{elt:Expr}{φ:Ro->Option V}(h:SE W dd c elt φ)(ao:AOk A dd){cenv:Env}(hc:ac cenv.scope=c)(zD:Z D)(hD:¬P D/\¬aw cenv D/\D∉W.T/\W.h0.get? D=none){σ:Ro}{l:List V}(e:(φ σ).map (fun v=>[v])=some l)(hn:bY σ):
  zW W A P cenv D Z (fun k=>q8 elt (.ref D) cenv>>=fun U=>k) E' σ l:=by
 refine mpi e fun v hv=>?_;intro s ys n out k Q pr hL rs hl hk;unfold q8;refine aj (aj (h A cenv σ P s v _ E' ao hc pr hv fun u h1 tk1 K1 ru=>?_));have pr1:=pr.step K1;have hL1:IsL h1 D ys n:=K1.keep _ _ hD.2.2.1 hL;have rs1:=rs.kx pr.ok.pt K1;refine aj (mQ (s:={ s with heap:=h1,toks:=tk1 }) hL1 (fun h2 n2 hL2 sb=>?_) ?_)
 ·have k2:∀b o,b≠D->h1.get? b=some o->h2.get? b=some o:=fun b o hb e=>(sb.2 b hb).trans e
  obtain ti2:W.TI h2:=dM G pr1.ok.ti k2 hL1 hD.2.2.1 (by rintro⟨vs,q,t,e,_⟩;cases e);have m:∀b o,P b->h1.get? b=some o->P b/\h2.get? b=some o:=fun b o p e=>⟨p,k2 b o (fun q=>hD.1 (q▸p)) e⟩;refine az (hk h2 tk1 (ys.push u) n2 (fun b o n1 n2 e=>k2 b o (fun q=>n2 (q▸zD)) (K1.keep b o n1 e)) ?_ hL2 ?_)
  ·refine pr1.out (Z:=fun b=>b=D) (fun b o U hb e=>k2 b o hb e) ti2 ?_
   rintro b rfl;exact⟨hD.1,hD.2.1,gP hn b,hD.2.2.2,_,hL2⟩
  ·simp only[Array.toList_push]
   exact(rs1.mono m).append (Rps.cons (ru.mono m) Rps.nil)
 ·have:=rs1.length
  simp only[Array.length_toList]at this;simp only[this];exact ai (ai (i7 _ _) hl) (by decide)
end
end
section
section
variable{W:Wp}{A:Around}{E':Value->Shared->Prop}{s:Shared}{P:Addr->Prop}{env:Env}{ρ:Ro}
theorem ik.tg{B X:Addr->Prop}{I:Addr}{St:Nat->Heap->Prop}{items:List V}{Tg Tg':Expr->Prop}(k:∀t,Tg' t->Tg t)(r:ik W A B I X St items Tg):ik W A B I X St items Tg':=
 ⟨r.frame,r.here,fun P i x t s Q E' hB hX tg=>r.next P i x t s Q E' hB hX (k t tg),r.done,r.self⟩
theorem eW(G:WF W){h:Heap}(ok:Ok W P h){b:Addr}(hb:h.get? b=none):W.h0.get? b=none:=by
 cases q:W.h0.get? b with
 |none=>rfl
 |some o=>exact nn (Eq.trans (Eq.symm hb) (ok.kept b o (ok.pt b (ok.fresh G hb)) q))
end
end
section
structure tS(W:Wp)(A:Around)(P:Addr->Prop)(sc:Scope)(ks:List (Option Nat))(ρ:Ro)(h0:Heap)(env cenv:Env)(I D:Addr)(X B:Addr->Prop)(St:Nat->Heap->Prop)(items:List V)(Tg:Expr->Prop)(Pc:Addr->Prop)(h:Heap):Prop where
 scp:ac cenv.scope=ac sc
 pr:Pre W Pc cenv (capt ks ρ) h
 it:ik W A B I X St items Tg
 hB:∀b,B b->Pc b
 st:St 0 h
 hX:∀b,X b->¬Pc b/\b∉W.T/\¬aw cenv b/\b≠D/\W.h0.get? b=none/\h0.get? b=none
 hD:¬Pc D/\¬aw cenv D/\D∉W.T/\W.h0.get? D=none
 nD:h0.get? D=none
 lD:IsL h D #[] 0
 tgt:∀p b,pJ ks p=true->rM cenv p.slots b->h0.get? b=none/\¬Pc b/\¬X b
 old:∀b o,b∉W.T->h0.get? b=some o->h.get? b=some o
 sub:∀b,Pc b->P b
 mute:∀b,aw cenv b->h0.get? b=none\/∃x,env.cells.lookup x=some b
section
variable{W:Wp}{A:Around}{E':Value->Shared->Prop}{s:Shared}{P:Addr->Prop}{env:Env}{ρ:Ro}
theorem wD(G:WF W){dd:Nat}{c:Cx}{elt:Expr}{g0:Comprehension}{gs:List Comprehension}{sc:Scope}{pos pos':Pos}{ks:List (Option Nat)}{Tg:Expr->Prop}{φi:Ro->Option (List V)}{use:Option (Value->Sem Unit)}(ha:g0.is_async=0)(hs:cK sc=true)(hk:AT c sc=some ks)(hit:SI W dd c g0.iter Tg φi)(ao:AOk A dd)(hc:ac env.scope=c)(pr:Pre W P env ρ s.heap){items:List V}(hi:φi ρ=some items){out:List V}{Q:Value->Shared->Prop}{Kp:Heap->Prop}(loop:∀cenv I D X B St Pc (s3:Shared) (R:Result->Shared->Prop),tS W A P sc ks ρ s.heap env cenv I D X B St items Tg Pc s3.heap ->
   (∀h' tk ys n,Kp h'->(∃m,h'.Ns cenv.locals m)->IsL h' D ys n->Rps Pc h' ys.toList out->R (.ok .next) { s3 with heap:=h',toks:=tk }) ->
   codeAny W.M A (.compLoop (.ListComp elt (g0::gs) sc pos) 0 (.ref I) (.ref D) cenv) R s3)(fin:∀D C h' tk,Kp h'->s.heap.get? C=none->(∃m,h'.Ns C m)->Rp (aH P fun b=>b=C) h' (.ref D) (.lst out)->compPost W.M A E' use Q (.ref D) C (.ok .next) { s with heap:=h',toks:=tk }):
  wpAny W.M A (comprehension (.ListComp elt (g0::gs) sc pos) sc env pos' (newList []) false (eval g0.iter env) use) Q E' s:=by
 have hs':=hs;unfold cK at hs';simp only[jt,oi,List.all_eq_true]at hs';refine byG fun gG kG=>?_;obtain⟨⟨hkind,hnd⟩,hncd⟩:=hs';refine kG ?_;obtain hkind:=aB hkind;obtain kl:=(ky hk).1;obtain ksp:=(ky hk).2;obtain⟨cl,hcl⟩:∃cl,iI env.cells sc.names []=some cl:=by
  refine iE fun x hx=>?_;have hm:(x,true)∈(ac sc).slots:=eH.mpr ⟨(x,.free),fY.mpr ⟨hx,rfl⟩,rfl⟩;obtain⟨i,hi⟩:=List.mem_iff_getElem?.mp hm;rcases ksp i x _ hi with⟨_,q | q⟩ | ⟨j,_,hj,_⟩
  ·have a:=ar hnd hx;rw[ar hnd q]at a;cases a
  ·have a:=ar hnd hx;rw[ar hnd q]at a;cases a
  ·rw[<-hc]at hj
   refine byG fun gG kG=>?_;obtain⟨_,c',v,e1,_⟩:=pr.en.cells x (dw hj);refine kG ?_;rw[e1];rfl
 refine wpAny_comprehension_free rfl (hit.1 env) (fJ hcl) hkind (fun x hx hl=>ar hnd (by rw[<-hl];exact hx)) (hit.2 A env ρ P s items _ E' ao hc pr hi ?_);intro hm tkm Km I X St h2 tk2 K2 itok st hX2;have pr0:=pr;have pr:=pr.step Km;dsimp only at K2 itok hX2 ⊢;refine wpAny_newList (sO ?_);have hXP:∀b,X b->P b:=fun b x=>pr.ok.fresh G (hX2 b x).1;have pr2:=pr.carve G K2 hX2;refine byG fun gG kG=>?_;obtain⟨keep,atD,none',hDM,hMM,prc⟩:=BC G pr2 (o:={ cls:=.type "list", data:=.seq ([]:List Value).toArray }) rfl rfl rfl hs (by rw[hc];exact hk) hcl;refine kG ?_;show codeAny W.M A (.compStart _ 0 (.ref I) (.ref h2.objs.size) (bw sc cl (h2.push { cls:=.type "list", data:=.seq ([]:List Value).toArray }).objs.size env)) (compPost W.M A E' use Q (.ref h2.objs.size) (h2.push { cls:=.type "list", data:=.seq ([]:List Value).toArray }).objs.size) _;obtain hLd:(h2.push { cls:=.type "list", data:=.seq ([]:List Value).toArray }).objs.size=h2.objs.size+1:=Heap.size_push ..;rw[hLd];generalize hDd:h2.objs.size=D at *;have newT:∀b,h2.get? b=none->b∉W.T/\s.heap.get? b=none/\W.h0.get? b=none/\P b/\¬X b:=fun b hb=>by
  have p:=pr2.ok.fresh G hb;refine⟨pr.ok.pt b p.1,?_,eW G pr2.ok hb,p.1,p.2⟩
  cases q:s.heap.get? b with
  |none=>rfl
  |some o=>exact nn (Eq.trans (Eq.symm hb) (K2.keep b o (pr.ok.pt b p.1) (Km.keep b o (pr.ok.pt b p.1) q)))
 obtain nX:∀b,X b->s.heap.get? b=none:=fun b x=>by
  cases q:s.heap.get? b with
  |none=>rfl
  |some o=>have:=(hX2 b x).1;exact nn (Eq.trans (Eq.symm this) (Km.keep b o (pr.ok.pt b (hXP b x)) q))
 have nD:=newT D (none' D (.inl rfl));obtain nL:=newT (D+1) (none' _ (.inr (.inl rfl)));obtain old:∀b o,b∉W.T->s.heap.get? b=some o->(pushCells ((h2.push { cls:=.type "list", data:=.seq ([]:List Value).toArray }).push { cls:=.type "dict", data:=.dict #[] }) sc.names).get? b=some o:=
  fun b o n e=>keep b o (K2.keep b o n (Km.keep b o n e))
 have ci:∀s3:Shared,s3.heap=pushCells ((h2.push { cls:=.type "list", data:=.seq ([]:List Value).toArray }).push { cls:=.type "dict", data:=.dict #[] }) sc.names ->
   tS W A P sc ks ρ s.heap env (bw sc cl (D+1) env) I D X (fK P hm) St items Tg (aH (aH P X) (oZ D (D+1) sc.names)) s3.heap:=by
  intro s3 e3;rw[e3];refine⟨gv sc env,prc,itok,?_,?_,?_,⟨fun q=>q.2 (.inl rfl),hDM,nD.1,nD.2.2.1⟩,nD.2.1,atD,?_,old,fun b p=>p.1.1,fun b m=>(hMM b m).imp (fun y=>(newT b (none' b y)).2.1) id⟩
  ·rintro b ⟨p,o,ho⟩
   refine⟨⟨p,fun x=>?_⟩,fun y=>?_⟩
   ·exact nn (Eq.trans (Eq.symm ((hX2 b x).1)) ho)
   ·have:=K2.keep b o (pr.ok.pt b p) ho;exact nn (Eq.trans (Eq.symm (none' b y)) this)
  ·exact itok.frame _ _ _ st fun b o U e=>keep b o e
  ·intro b x
   refine byG fun gG kG=>?_;obtain⟨n1,o,ho⟩:=hX2 b x;refine kG ?_;refine⟨fun q=>q.1.2 x,pr.ok.pt b (hXP b x),fun m=>?_,fun q=>nD.2.2.2.2 (q▸x),eW G pr.ok n1,nX b x⟩;rcases hMM b m with y | y
   ·exact nn (Eq.trans (Eq.symm (none' b y)) ho)
   ·exact(pr.hid b (.inr y)).np (hXP b x)
  ·intro p b po ⟨i,hi,x,cc,hx,tg⟩
   have hY:oZ D (D+1) sc.names b:=by
    obtain hx':(ac sc).slots[i]?=some (x,cc):=by
     have:(ac (bw sc cl (D+1) env).scope).slots=(ac sc).slots:=by rw[show(bw sc cl (D+1) env).scope=relabel sc env from rfl,gv]
     rw[this]at hx;exact hx
    obtain ho:ks[i]?=some none:=by
     have:=List.all_eq_true.mp po i hi;exact aB this
    have hkn:∀k,sc.names.lookup x=some k->(bw sc cl (D+1) env).kindOf x=some (gm env (x,k)).2:=fun k e=>by
     show(relabel sc env).names.lookup x=_;rw[cm,bz,e];rfl
    rcases ksp i x cc hx' with⟨_,q | q⟩ | ⟨j,q,_⟩
    ·have hk1:=hkn _ (ar hnd q)
     have:(gm env (x,NameKind.local)).2=.local:=by
      rcases fN env (x,NameKind.local)with h | ⟨h,_⟩
      ·exact h
      ·cases h
     rw[this]at hk1;rcases tg with⟨_,e⟩ | ⟨e | e,_⟩
     ·exact .inr (.inl e)
     ·rw[hk1]at e;cases e
     ·rw[hk1]at e;cases e
    ·have hk1:=hkn _ (ar hnd q)
     have:(gm env (x,NameKind.cell)).2=.cell:=by
      rcases fN env (x,NameKind.cell)with h | ⟨h,_⟩
      ·exact h
      ·cases h
     rw[this]at hk1;rcases tg with⟨e,_⟩ | ⟨_,e⟩
     ·rw[hk1]at e;cases e
     ·obtain⟨c1,hc1⟩:=bt sc.names (D+1+1) [] x (.inl q)
      obtain⟨c2,hc2⟩:=aE hc1;have e:(cellsFrom (D+1+1) sc.names []++cl).lookup x=some b:=e;rw[List.lookup_append,hc2]at e
      cases e
      exact .inr (.inr ⟨x,mem_of_lookup hc2⟩)
    ·rw[ho]at q;cases q
   have n:=newT b (none' b hY);exact⟨n.2.1,fun q=>q.2 hY,n.2.2.2.2⟩
 have go:∀s3:Shared,s3={ s with heap:=pushCells ((h2.push { cls:=.type "list", data:=.seq ([]:List Value).toArray }).push { cls:=.type "dict", data:=.dict #[] }) sc.names,toks:=tk2 } ->
   codeAny W.M A (.compLoop (.ListComp elt (g0::gs) sc pos) 0 (.ref I) (.ref D) (bw sc cl (D+1) env)) (compPost W.M A E' use Q (.ref D) (D+1)) s3:=by
  rintro s3 rfl;refine loop _ I D X _ St _ _ _ (ci _ rfl) fun h' tk ys n k ns hL rs=>?_;refine fin D (D+1) h' tk k nL.2.1 ns ?_;refine Ex3.mk D ys n ⟨rfl,⟨nD.2.2.2.1,fun q=>?_⟩,hL,rs.sub fun b p=>⟨p.1.1,fun q=>p.2 (.inr (.inl q))⟩⟩;exact Nat.succ_ne_self D q.symm
 exact iH (g:=g0) rfl ha (go _ rfl) fun E''=>itok.self _ _ _ (ci _ rfl).st (go _ rfl)
end
end
section
section
variable{W:Wp}{A:Around}{E':Value->Shared->Prop}{s:Shared}{P:Addr->Prop}{env:Env}{ρ:Ro}
theorem w4{ks:List (Option Nat)}{p:Pat}(ho:pJ ks p=true)(ρ:Ro):∀i∈p.slots,(capt ks ρ)[i]?=some .unb:=fun i hi=>by
 have:=List.all_eq_true.mp ho i hi;unfold capt;simp only[bA,aB this];rfl
theorem tD(G:WF W){dd:Nat}{elt t it:Expr}{ifs:List Expr}{sc:Scope}{pos:Pos}{ks:List (Option Nat)}{Tg:Expr->Prop}{φ:Ro->Option V}{φt:Ro->Option Bool}{p:Pat}(helt:SE W dd (ac sc) elt φ)(hif:SBs W dd (ac sc) ifs φt)(tg:Tg t)(hp:vZ (ac sc) t=some p)(ho:pJ ks p=true)(ao:AOk A dd){items out:List V}(hf:fmM items (me p φt (capt ks ρ) fun ρ=>(φ ρ).map fun v=>[v])=some out)(hl:out.length<=szLine){h0:Heap}(cenv:Env)(I D:Addr)(X B:Addr->Prop)(St:Nat->Heap->Prop)(Pc:Addr->Prop)(s3:Shared)(R:Result->Shared->Prop)(ci:tS W A P sc ks ρ h0 env cenv I D X B St items Tg Pc s3.heap)(h:∀h' tk ys n,KX W h0 h'->(∃m,h'.Ns cenv.locals m)->IsL h' D ys n->Rps Pc h' ys.toList out->R (.ok .next) { s3 with heap:=h',toks:=tk }):
  codeAny W.M A (.compLoop (.ListComp elt [⟨t,it,ifs,0⟩] sc pos) 0 (.ref I) (.ref D) cenv) R s3:=by
 refine rF G ao.hd (P:=Pc) (Z:=fun b=>b=D) (out0:=[]) (CG elt t it ifs sc pos _ _ cenv) ci.it tg (by rw[ci.scp];exact hp) ci.hB
  (fun b x=>let q:=ci.hX b x;⟨q.1,q.2.1,q.2.2.1,q.2.2.2.1,q.2.2.2.2.1⟩) (fun b q=>q▸ci.hD.1) rfl ci.hD.2.1 ci.hD.2.2.1 (w4 ho ρ) (bY.capt ks ρ)
  (fun ρ' b s Q E' h1 h2 h3=>hif A cenv ρ' _ s b Q E' ao ci.scp h2 h1 h3) (fun ρ' l E' h1 h2 U=>tA G (Z:=fun b=>b=D) helt ao ci.scp rfl ci.hD h1 h2) hf (by simpa using hl) ci.st ci.pr ci.lD Rps.nil ?_
 intro h' tk ys n k pr' hL rs;refine h h' tk ys n ⟨fun b o nb e=>k b o nb (fun x=>?_) (fun q=>?_) (fun t=>?_) (ci.old b o nb e),pr'.ok.ti⟩ pr'.en.lns hL (by simpa using rs)
 ·exact nn (Eq.trans (Eq.symm ((ci.hX b x).2.2.2.2.2)) e)
 ·rw[q,ci.nD]at e;cases e
 ·exact nn (Eq.trans (Eq.symm ((ci.tgt p b ho t).1)) e)
noncomputable def GF(W:Wp)(A:Around)(P:Addr->Prop)(s:Shared)(E':Value->Shared->Prop)(use:Option (Value->Sem Unit))(Q:Value->Shared->Prop)(v:V):Prop:=
 ∀D C h' tk,KX W s.heap h'->s.heap.get? C=none->(∃m,h'.Ns C m)->Rp (aH P fun b=>b=C) h' (.ref D) v->compPost W.M A E' use Q (.ref D) C (.ok .next) { s with heap:=h',toks:=tk }
noncomputable def SC(W:Wp)(D:Nat)(c:Cx)(e:Expr)(φ:Ro->Option V):Prop:=
 ∀(A:Around) (env:Env) (ρ:Ro) (P:Addr->Prop) (s:Shared) (v:V) (E':Value->Shared->Prop) (use:Option (Value->Sem Unit)) (Q:Value->Shared->Prop),AOk A D->ac env.scope=c->Pre W P env ρ s.heap->φ ρ=some v ->
  GF W A P s E' use Q v->match e with
   |.ListComp elt gens sc pos=>wpAny W.M A (comprehension (.ListComp elt gens sc pos) sc env (firstIterPos gens pos) (newList []) (firstAsync gens) (firstIter gens env) use) Q E' s
   |_=>False
theorem SC.se(G:WF W){D:Nat}{c:Cx}{e:Expr}{φ:Ro->Option V}(h:SC W D c e φ):SE W D c e φ:=by
 intro A env ρ P s v Q E' ao hc pr hv hQ;have:=h A env ρ P s v E' none Q ao hc pr hv
 cases e with
 |ListComp elt gens sc pos=>
  simp only[eval_ListComp];refine this fun D C h' tk K nC ns r=>?_;obtain⟨m,ns⟩:=ns;refine⟨m,ns,fun h'' sb=>?_⟩;obtain pC:P C:=pr.ok.fresh G nC;refine byG fun gG kG=>?_;obtain⟨o,es,ep,ho,hd,_⟩:=ns;refine kG ?_;obtain k2:∀b o,b≠C->h'.get? b=some o->h''.get? b=some o:=fun b o hb e=>(sb.2 b hb).trans e;refine hQ _ h'' tk ⟨fun b o n e=>k2 b o (fun q=>by simp only[q,nC]at e;cases e) (K.keep b o n e),?_⟩ (r.mono fun b o p e=>⟨p.1,k2 b o p.2 e⟩);refine G.ti _ _ (fun b x e hx=>k2 b x (fun q=>?_) e) K.ti;rcases hx with hx | hx
  ·exact pr.ok.pt C pC (q▸hx)
  ·simp only[q,ho]at e;cases e
   refine byG fun gG kG=>?_;obtain⟨vs,_,_,hv,_⟩:=hx;refine kG ?_;simp only[hd]at hv;cases hv
 |_=>exact(this (fun D C h' tk K nC ns r=>by
  obtain⟨m,ns⟩:=ns;refine⟨m,ns,fun h'' sb=>?_⟩;obtain pC:P C:=pr.ok.fresh G nC;refine byG fun gG kG=>?_;obtain⟨o,es,ep,ho,hd,_⟩:=ns;refine kG ?_;obtain k2:∀b o,b≠C->h'.get? b=some o->h''.get? b=some o:=fun b o hb e=>(sb.2 b hb).trans e;refine hQ _ h'' tk ⟨fun b o n e=>k2 b o (fun q=>by simp only[q,nC]at e;cases e) (K.keep b o n e),?_⟩ (r.mono fun b o p e=>⟨p.1,k2 b o p.2 e⟩);refine G.ti _ _ (fun b x e hx=>k2 b x (fun q=>?_) e) K.ti;rcases hx with hx | hx
  ·exact pr.ok.pt C pC (q▸hx)
  ·simp only[q,ho]at e;cases e
   refine byG fun gG kG=>?_;obtain⟨vs,_,_,hv,_⟩:=hx;refine kG ?_;simp only[hd]at hv;cases hv)).elim
end
end
section
noncomputable def Cal(W:Wp)(D:Nat)(f:Addr)(φ:List V->Option V):Prop:=
 ∀(A:Around) (P:Addr->Prop) (us:List Value) (l:List V) (v:V) (s:Shared) (Q:Value->Shared->Prop) (E':Value->Shared->Prop),AOk A D->Ok W P s.heap->Rps P s.heap us l->φ l=some v ->
  (∀u h' tk,KX W s.heap h'->Rp P h' u v->Q u { s with heap:=h',toks:=tk })->wpAny W.M A (call (.ref f) us) Q E' s
structure Cfg(W:Wp)(tb:Tb)(Φ:Fun)(D:Nat):Prop where
 gc:∀x v,tb.gc.lookup x=some v->∃u,W.mg x=some u/\∀P h,Rp P h u v
 fn:∀x i,tb.gf.findIdx? (·==x)=some i->Ex3 fun a o fd=>jX (W.mg x=some (.ref a)) (W.h0.get? a=some o) (o.data=.func fd) (a∉W.T) (Cal W D a (Φ i))
structure IHn(W:Wp)(tb:Tb)(Φ:Fun)(D n:Nat):Prop where
 e:∀c x y,trE tb n c x=some y->SE W D c x (ev Φ y)
 q:∀c x y,trE tb n c x=some y->SQ W D c x (fun ρ=>pk y ρ (ev Φ y ρ))
 o:∀c x y,trO tb n c x=some y->∀(A:Around) (env:Env) (ρ:Ro) (P:Addr->Prop) (s:Shared) (v:V) (Q:Value->Shared->Prop) (E':Value->Shared->Prop),AOk A D->ac env.scope=c->Pre W P env ρ s.heap->ev Φ y ρ=some v ->
  (∀u h' tk,KX W s.heap h'->Rp P h' u v->Q u { s with heap:=h',toks:=tk })->wpAny W.M A (evalPart x env) Q E' s
 it:∀c x y,vF tb n c x=some y->SI W D c x (fun t=>kH y t=true) (eu Φ y)
 b:∀c x y,trB tb n c x=some y->SB W D c x (evb Φ y)
theorem SE.sq{W:Wp}{D:Nat}{c:Cx}{e:Expr}{φ ψ:Ro->Option V}(h:SE W D c e φ)(k:∀ρ,ψ ρ=φ ρ):SQ W D c e ψ:=
 fun A env ρ P s v Q E' ao hc pr hv hQ=>h A env ρ P s v Q E' ao hc pr (by rw[<-k];exact hv) fun u h' tk K r=>hQ u h' tk K r.rq
structure rO(x:Expr):Prop where
 star:∀rest env,starEach (x::rest) env=(false,eval x env)::starEach rest env
 nset:∀env v,foldedSetIterable x env v=pure v
 swp:∀y px line env,swapsWith x (some (.Name y px)) line env=pure false\/(swapsWith x (some (.Name y px)) line env=pure true/\Ex4 fun elt gens sc pos=>x=.ListComp elt gens sc pos)
 sole:∀es k tp line env,swapsWithSole [.Tuple es k tp] x line env=pure false
 swst:mf x=none->∀es k tp env,swappedStores [.Tuple es k tp] x env=pure none
 sops:∀o i,∃ops,subscripted x false o i=operate ops (getItem o i)
 aug:∀ov iv new,augStore x ov iv new=(do holding [new,ov,iv] (setItem ov iv new);release [new,ov,iv] [];pure .next)
theorem plain{tb:Tb}{n:Nat}{c:Cx}{x:Expr}{y:E}(h:trE tb n c x=some y):rO x:=by
 cases n
 case zero=>exact nn h
 cases x with
 |ListComp elt gens sc pos=>
  refine⟨fun U U=>rfl,fun U U=>rfl,fun y px line env=>?_,fun U U U U U=>rfl,fun U U U U U=>rfl,fun U U=>⟨_,rfl⟩,fun U U U=>rfl⟩;obtain⟨b,hb⟩:∃b,swapsWith (.ListComp elt gens sc pos) (some (.Name y px)) line env=pure b:=⟨_,rfl⟩
  cases b
  ·exact .inl hb
  ·exact .inr ⟨hb,_,_,_,_,rfl⟩
 |Tuple=>exact⟨fun U U=>rfl,fun U U=>rfl,fun U U U U=>.inl rfl,fun U U U U U=>rfl,fun h=>nn0 h.symm,fun U U=>⟨_,rfl⟩,fun U U U=>rfl⟩
 |_=>first | exact nn h | exact⟨fun U U=>rfl,fun U U=>rfl,fun U U U U=>.inl rfl,fun U U U U U=>rfl,fun U U U U U=>rfl,fun U U=>⟨_,rfl⟩,fun U U U=>rfl⟩
section
variable{W:Wp}{tb:Tb}{Φ:Fun}{D n:Nat}{c:Cx}{A:Around}{E':Value->Shared->Prop}{P:Addr->Prop}{env:Env}{ρ:Ro}
theorem ef(G:WF W)(ih:IHn W tb Φ D n)(ao:AOk A D)(hc:ac env.scope=c){pos:Pos}{es:List Expr}{ys:List E}{vs:List V}{s:Shared}{Q:List Value->Shared->Prop}(e:es.mapM (trE tb n c)=some ys)(pr:Pre W P env ρ s.heap)(hv:evs Φ ys ρ=some vs)(h:∀us h' tk,KX W s.heap h'->Rps P h' us vs->Q us { s with heap:=h',toks:=tk }):wpAny W.M A (spliced (backTo pos (starEach es env))) Q E' s:=by
 obtain al:=eR e;clear e
 induction al generalizing vs s Q with
 |nil=>exact fw (h [] s.heap s.toks (KX.refl pr.ok.ti) (al_0 hv▸Rps.nil))
 |cons hy _ ihh=>
  revert h;refine bnd hv fun v h1 hv=>mpi hv fun vs' h2 h=>?_;rw[(plain hy).star];exact dH (ih.e c _ _ hy A env ρ P s v _ E' ao hc pr h1 fun u h' tk K r1=>ihh (s:={ s with heap:=h',toks:=tk }) (pr.step K) h2 fun us h'' tk' K' r2=>h _ h'' tk' (K.trans K') (Rps.cons (r1.kx pr.ok.pt K') r2))
theorem rK(G:WF W)(ih:IHn W tb Φ D n)(ao:AOk A D)(hc:ac env.scope=c){pos:Pos}{es:List Expr}{ys:List E}{vs:List V}{s:Shared}{Q:List Value->Shared->Prop}(e:es.mapM (trE tb n c)=some ys)(pr:Pre W P env ρ s.heap)(hv:q7 Φ ys ρ=some vs)(h:∀us h' tk,KX W s.heap h'->RqL P h' us vs->Q us { s with heap:=h',toks:=tk }):wpAny W.M A (spliced (backTo pos (starEach es env))) Q E' s:=by
 obtain al:=eR e;clear e
 induction al generalizing vs s Q with
 |nil=>exact fw (h [] s.heap s.toks (KX.refl pr.ok.ti) (al_0 hv▸.nil))
 |cons hy _ ihh=>
  revert h;refine bnd hv fun v h1 hv=>mpi hv fun vs' h2 h=>?_;rw[(plain hy).star];exact dH (ih.q c _ _ hy A env ρ P s v _ E' ao hc pr h1 fun u h' tk K r1=>ihh (s:={ s with heap:=h',toks:=tk }) (pr.step K) h2 fun us h'' tk' K' r2=>h _ h'' tk' (K.trans K') (.cons (r1.kx G K.ti pr.ok.pt K') r2))
theorem gp{es:List Expr}{ys:List E}{pos:Pos}(e:es.mapM (trE tb n c)=some ys)(env:Env):(backTo pos (starEach es env)).any (·.1)=false:=by
 obtain al:=eR e;clear e
 induction al with
 |nil=>rfl
 |cons hy _ ih=>
  rw[(plain hy).star];exact ih
theorem bG{s:Shared}{es:List Expr}{ys:List E}{pos:Pos}{f:Value}{Q:Args->Shared->Prop}(e:es.mapM (trE tb n c)=some ys)(h:wpAny W.M A (spliced (backTo pos (starEach es env))) (fun vs s'=>Q { pos:=vs } s') E' s):
  wpAny W.M A (evalArgs f true (backTo pos (starEach es env)) []) Q E' s:=by
 cases eR e with
 |nil=>
  have h0:wpAny W.M A (spliced []) (fun vs s'=>Q { pos:=vs } s') E' s:=h;unfold evalArgs;exact aj (wpAny_mono h0 (fun vs s' hq=>aj (az (wpAny_holding (aj (az (aj (az (az hq)))))))) fun U U x=>x)
 |cons hy _=>
  rw[(plain hy).star]at h ⊢;exact fX h
end
end
section
noncomputable def mtT:Mt->String
 |.bitLength => "int"
 |.index => "list"
 |_ => "str"
noncomputable def DC:Mt->String
 |.bitLength => "int.bit_length"
 |.split => "str.split"
 |.index => "list.index"
 |.join => "str.join"
section
variable{W:Wp}{A:Around}{E':Value->Shared->Prop}{s:Shared}{P:Addr->Prop}
theorem AL{m:Mt}{x v:V}{vs:List V}{u:Value}(e:mtV m x vs=some v)(r:Rq P s.heap u x):s.TypeIs u (mtT m)/\∀a,u=.ref a->∃ob,s.heap.get? a=some ob/\ob.dict=none:=by
 obtain str:∀{l},Rq P s.heap u (.str l)->s.TypeIs u "str"/\∀a,u=.ref a->∃ob,s.heap.get? a=some ob/\ob.dict=none:=fun r=>r.s' fun y t U=>⟨typeIs_str _ _ _,fun a q=>by cases q⟩
 cases m
 case bitLength=>
  refine byG fun gG kG=>?_;obtain⟨i,hi,_⟩:=bj.mp (eN e fun U e=>e);refine kG ?_;rw[dN hi]at r;exact r.i' fun t=>⟨typeIs_int _ _ _,fun a q=>by cases q⟩
 all_goals refine aa e fun y hy e=>aa e fun l hl e=>?_
 case index=>
  rw[dF hl]at r;exact r.l' fun a ws k hla U=>⟨hla.isList.typeIs,fun b q=>by cases q;exact⟨_,hla,rfl⟩⟩
 all_goals
  rw[j9 hl]at r;exact str r
theorem C8(G:WF W)(O:Ok W P s.heap){m:Mt}{x v:V}{vs:List V}{u:Value}{us:List Value}{Q:Value->Shared->Prop}(e:mtV m x vs=some v)(r:Rq P s.heap u x)(rs:RqL P s.heap us vs)(h:∀u h' tk,KX W s.heap h'->Rp P h' u v->Q u { s with heap:=h',toks:=tk }):wpAny W.M A (call (.builtin (DC m)) (u::us)) Q E' s:=by
 cases m
 case bitLength=>
  refine eN e fun h0 e=>?_;obtain⟨i,hi,e⟩:=bj.mp e;simp only[fc h0]at rs;simp only[dN hi]at r;exact rs.z (r.i' fun t=>o7 O (e▸h))
 all_goals
  refine aa e fun y hy e=>aa e fun l hl e=>?_;simp only[aX hy]at rs;refine rs.o fun w rw'=>?_
 case index=>
  refine aa e fun i hi e=>aO e fun hs e=>?_;simp only[dF hl]at r;simp only[dN hi]at rw';obtain⟨j,hj,e⟩:=bj.mp e;obtain⟨b,hb⟩:=nN.mp hs.2;exact r.l' fun a ws k hla rr=>rw'.i' fun t=>w8 O hla rr hb hj hs.1 (e▸h)
 all_goals simp only[j9 hl]at r
 case join=>
  refine aa e fun l' hl' e=>aa e fun ps hp e=>eN e fun hok e=>?_;simp only[dF hl']at rw';obtain rfl:=al_0 e;exact r.s' fun x t hx=>rw'.l' fun a ws k hla rr=>by subst hx;exact y9 O hla rr hp hok h
 case split=>
  refine aa e fun y' hy' e=>aO e fun hs e=>?_;simp only[j9 hy']at rw';obtain rfl:=al_0 e;exact r.s' fun x t hx=>rw'.s' fun z t' hz=>by subst hx hz;exact w7 G O hs h
end
end
section
section
variable{W:Wp}{tb:Tb}{Φ:Fun}{D n:Nat}{c:Cx}
theorem C2{y:E}(h:∀i,y≠.var i)(ρ:Ro)(r:Option V):pk y ρ r=r:=by
 cases y<;>first | rfl | exact absurd rfl (h _)
theorem xz(G:WF W){k:Const}{kd:Nat}{pos:Pos}{v:V}(e:zy k=some v):SE W D c (.Constant k kd pos) (fun U=>some v):=by
 intro A env ρ P s v' Q E' ao hc pr hv h;have fin:∀{x:V}{u:Value},some x=some v->Rp P s.heap u x->∀tk,Q u { s with toks:=tk }:=fun hx r tk=>h _ s.heap tk (KX.refl pr.ok.ti) (al_0 hv▸al_0 hx▸r)
 cases k
 case none=>exact Constant_none (fin e Rp.n _)
 case bool=>exact Constant_bool (fin e Rp.b _)
 case int=>exact wpAny_Constant_int (fin e Rp.i _)
 case str=>exact wpAny_Constant_str (fin e Rp.s _)
 all_goals exact nn0 e
theorem Da(G:WF W){l r:Expr}{op:Operator}{pos:Pos}{a b:E}(ha:SQ W D c l (fun ρ=>pk a ρ (ev Φ a ρ)))(hb:SQ W D c r (fun ρ=>pk b ρ (ev Φ b ρ))):SE W D c (.BinOp l op r pos) (ev Φ (.bin op a b)):=fun A env ρ P s v Q E' ao hc pr hv h=>
 bnd hv fun x hx hv=>bnd hv fun y hy hv=>wpAny_BinOp (ha A env ρ P s x _ E' ao hc pr hx fun u h1 tk1 K1 r1=>hb A env ρ P _ y _ E' ao hc (pr.step K1) hy fun w h2 tk2 K2 r2=>
  jQ G ((pr.step K1).step K2).ok hv (r1.kx G K1.ti pr.ok.pt K2) r2 fun u3 h3 tk3 K3 r3=>h u3 h3 tk3 ((K1.trans K2).trans K3) r3)
theorem EY(G:WF W){x:Expr}{op:UnaryOp}{pos:Pos}{a:E}(ha:SE W D c x (ev Φ a)):SE W D c (.UnaryOp op x pos) (ev Φ (.un op a)):=fun A env ρ P s v Q E' ao hc pr hv h=>
 bnd hv fun x hx hv=>UnaryOp_ (ha A env ρ P s x _ E' ao hc pr hx fun u h1 tk1 K1 r1=>CE (pr.step K1).ok hv r1.rq fun u3 h3 tk3 K3 r3=>h u3 h3 tk3 (K1.trans K3) r3)
theorem nB{A:Around}(ao:AOk A D):A.units+64<cLine:=iV (Nat.add_le_add_left (show 64<=200 by decide) _) (iV (fF (i7 _ _) _) ao.units)
theorem D9(G:WF W){l r:Expr}{op:CmpOp}{pos:Pos}{a b:E}(hm:behindInMarks op r=false)(ha:SQ W D c l (fun ρ=>pk a ρ (ev Φ a ρ)))(hb:SQ W D c r (fun ρ=>pk b ρ (ev Φ b ρ))):SE W D c (.Compare l [op] [r] pos) (ev Φ (.cmp op a b)):=fun A env ρ P s v Q E' ao hc pr hv h=>
 bnd hv fun x hx hv=>bnd hv fun y hy hv=>by
  refine mpi hv (fun b' hv' h=>?_) h;exact wpAny_Compare1 (ha A env ρ P s x _ E' ao hc pr hx fun u h1 tk1 K1 r1=>hb A env ρ P _ y _ E' ao hc (pr.step K1) hy fun w h2 tk2 K2 r2=>
   qc ((pr.step K1).step K2).ok (nB ao) hv' (r1.kx G K1.ti pr.ok.pt K2) r2 (h _ h2 tk2 (K1.trans K2) Rp.b)) hm
theorem Df(G:WF W){l r:Expr}{op:CmpOp}{pos:Pos}{a b:E}(hm:behindInMarks op r=false)(ha:SQ W D c l (fun ρ=>pk a ρ (ev Φ a ρ)))(hb:SQ W D c r (fun ρ=>pk b ρ (ev Φ b ρ))):SB W D c (.Compare l [op] [r] pos) (evb Φ (.cmp op a b)):=fun A env ρ P s v Q E' ao hc pr hv h=>
 bnd hv fun x hx hv=>bnd hv fun y hy hv=>wpAny_isTrue_Compare1 (ha A env ρ P s x _ E' ao hc pr hx fun u h1 tk1 K1 r1=>hb A env ρ P _ y _ E' ao hc (pr.step K1) hy fun w h2 tk2 K2 r2=>
  qc ((pr.step K1).step K2).ok (nB ao) hv (r1.kx G K1.ti pr.ok.pt K2) r2 (wpAny_truthy_bool (h h2 tk2 (K1.trans K2)))) hm
theorem EZ(G:WF W){l r:Expr}{pos:Pos}{a b:E}(ha:SE W D c l (ev Φ a))(hb:SE W D c r (ev Φ b)):SE W D c (.BoolOp .Or [l,r] pos) (ev Φ (.orE a b)):=fun A env ρ P s v Q E' ao hc pr hv h=>
 bnd hv fun x hx hv=>bnd hv fun t ht hv=>BoolOp_or (ha A env ρ P s x _ E' ao hc pr hx fun u h1 tk1 K1 r1=>k5 (pr.step K1).ok ht r1.rq fun tk=>by
  cases t
  ·exact BoolOp_one (hb A env ρ P _ v _ E' ao hc (pr.step K1) hv fun w h2 tk2 K2 r2=>h w h2 tk2 (K1.trans K2) r2)
  ·exact h u h1 tk K1 (al_0 hv▸r1))
theorem Db(G:WF W){l r:Expr}{pos:Pos}{a b:E}(ha:SE W D c l (ev Φ a))(hb:SE W D c r (ev Φ b)):SE W D c (.BoolOp .And [l,r] pos) (ev Φ (.andE a b)):=fun A env ρ P s v Q E' ao hc pr hv h=>
 bnd hv fun x hx hv=>bnd hv fun t ht hv=>BoolOp_and (ha A env ρ P s x _ E' ao hc pr hx fun u h1 tk1 K1 r1=>k5 (pr.step K1).ok ht r1.rq fun tk=>by
  cases t
  ·exact h u h1 tk K1 (al_0 hv▸r1)
  ·exact BoolOp_one (hb A env ρ P _ v _ E' ao hc (pr.step K1) hv fun w h2 tk2 K2 r2=>h w h2 tk2 (K1.trans K2) r2))
theorem D8(G:WF W){t l r:Expr}{pos:Pos}{tt:B}{a b:E}(ht:SB W D c t (evb Φ tt))(ha:SE W D c l (ev Φ a))(hb:SE W D c r (ev Φ b)):SE W D c (.IfExp t l r pos) (ev Φ (.ife tt a b)):=fun A env ρ P s v Q E' ao hc pr hv h=>
 bnd hv fun x hx hv=>IfExp_ (ht A env ρ P s x _ E' ao hc pr hx fun h1 tk1 K1=>by
  cases x
  ·exact hb A env ρ P _ v _ E' ao hc (pr.step K1) hv fun w h2 tk2 K2 r2=>h w h2 tk2 (K1.trans K2) r2
  ·exact ha A env ρ P _ v _ E' ao hc (pr.step K1) hv fun w h2 tk2 K2 r2=>h w h2 tk2 (K1.trans K2) r2)
theorem Dg(G:WF W){pos:Pos}{es:List Expr}{bs:List B}(e:es.mapM (trB tb n c)=some bs)(hb:∀x y,trB tb n c x=some y->SB W D c x (evb Φ y)):SB W D c (.BoolOp .And es pos) (zb Φ bs):=by
 have al:=eR e;clear e
 induction al with
 |nil=>exact fun A env ρ P s v Q E' ao hc pr hv h=>isTrue_and_nil (al_0 hv▸h s.heap s.toks (KX.refl pr.ok.ti))
 |cons hy _ ih=>
  exact fun A env ρ P s v Q E' ao hc pr hv h=>bnd hv fun t ht hv=>isTrue_and (hb _ _ hy A env ρ P s t _ E' ao hc pr ht fun h1 tk1 K1=>by
   cases t
   ·obtain rfl:false=v:=al_0 hv;exact h h1 tk1 K1
   ·exact ih A env ρ P _ v _ E' ao hc (pr.step K1) hv fun h2 tk2 K2=>h h2 tk2 (K1.trans K2))
theorem F4(G:WF W){pos:Pos}{es:List Expr}{bs:List B}(e:es.mapM (trB tb n c)=some bs)(hb:∀x y,trB tb n c x=some y->SB W D c x (evb Φ y)):SB W D c (.BoolOp .Or es pos) (E7 Φ bs):=by
 have al:=eR e;clear e
 induction al with
 |nil=>exact fun A env ρ P s v Q E' ao hc pr hv h=>isTrue_or_nil (al_0 hv▸h s.heap s.toks (KX.refl pr.ok.ti))
 |cons hy _ ih=>
  exact fun A env ρ P s v Q E' ao hc pr hv h=>bnd hv fun t ht hv=>isTrue_or (hb _ _ hy A env ρ P s t _ E' ao hc pr ht fun h1 tk1 K1=>by
   cases t
   ·exact ih A env ρ P _ v _ E' ao hc (pr.step K1) hv fun h2 tk2 K2=>h h2 tk2 (K1.trans K2)
   ·obtain rfl:true=v:=al_0 hv;exact h h1 tk1 K1)
theorem De(G:WF W){e:Expr}{a:E}(ha:SQ W D c e (fun ρ=>pk a ρ (ev Φ a ρ)))(he:∀env whole,isTrue e env whole=(do let v <-whole;standAt e.pos;holding [v] (truthy v))):SB W D c e (evb Φ (.val a)):=fun A env ρ P s v Q E' ao hc pr hv h=>
 bnd hv fun x hx hv=>isTrue_plain (ha A env ρ P s x _ E' ao hc pr hx fun u h1 tk1 K1 r1=>k5 (pr.step K1).ok hv r1 fun tk=>h h1 tk K1) (he env _)
theorem Dd(G:WF W):∀{es:List Expr}{bs:List B},es.mapM (trB tb n c)=some bs->(∀x y,trB tb n c x=some y->SB W D c x (evb Φ y))->SBs W D c es (rt Φ bs):=by
 have fls:∀(es:List Expr) (A:Around) (env:Env) (s:Shared) (Q:Bool->Shared->Prop) (E':Value->Shared->Prop),Q false s ->
   wpAny W.M A (forIn es false fun c r=>if r=true then do let ok <-isTrue c env (eval c env);pure (ForInStep.yield ok)else pure (ForInStep.yield r)) Q E' s:=by
  intro es
  induction es with
  |nil=>intro A env s Q E' h;exact az h
  |cons x es ih=>
   intro A env s Q E' h;simp only[List.forIn_cons,jV,if_false];exact aj (az (ih A env s Q E' h))
 intro es bs e hb;have al:=eR e;clear e
 induction al with
 |nil=>exact fun A env ρ P s v Q E' ao hc pr hv h=>az (al_0 hv▸h s.heap s.toks (KX.refl pr.ok.ti))
 |@cons x y es ys hy _ ih=>
  intro A env ρ P s v Q E' ao hc pr hv h;refine bnd hv fun t ht hv=>?_;simp only[List.forIn_cons,if_true];refine aj (aj (hb x y hy A env ρ P s t _ E' ao hc pr ht fun h1 tk1 K1=>az ?_))
  cases t
  ·obtain rfl:false=v:=al_0 hv;exact fls es A env _ Q E' (h h1 tk1 K1)
  ·exact ih A env ρ P _ v _ E' ao hc (pr.step K1) hv fun h2 tk2 K2=>h h2 tk2 (K1.trans K2)
theorem ki{P:Addr->Prop}{h:Heap}{us:List Value}{l:List V}(rs:Rps P h us l)(hz:l.length<=szLine):us.length<=sizeLine:=rs.length▸ai hz (by decide)
theorem Aw(G:WF W)(ih:IHn W tb Φ D n){es:List Expr}{ys:List E}{pos:Pos}(e:es.mapM (trE tb n c)=some ys):SE W D c (.List es pos) (ev Φ (.list ys)):=fun A env ρ P s v Q E' ao hc pr hv h=>
 bnd hv fun l hl hv=>by
  refine ifs hv (fun hz h=>?_) h;refine wpAny_List_spliced (ef G ih ao hc e pr hl fun us h1 tk1 K1 rs=>?_);have K2:=KX.push G K1.ti { cls:=.type "list", data:=.seq us.toArray };exact⟨ki rs hz,h _ _ _ (K1.trans K2) (ku ((pr.step K1).ok.top G) (rs.kx pr.ok.pt K2))⟩
theorem xw(G:WF W)(ih:IHn W tb Φ D n){es:List Expr}{ys:List E}{k:Nat}{pos:Pos}(e:es.mapM (trE tb n c)=some ys):SE W D c (.Tuple es k pos) (ev Φ (.tuple ys)):=fun A env ρ P s v Q E' ao hc pr hv h=>
 bnd hv fun l hl hv=>by
  refine ifs hv (fun hz h=>?_) h;refine wpAny_Tuple_spliced (ef G ih ao hc e pr hl fun us h1 tk1 K1 rs=>?_);have K2:=KX.push G K1.ti { cls:=.type "tuple", data:=.seq us.toArray };exact⟨ki rs hz,h _ _ _ (K1.trans K2) (yc ((pr.step K1).ok.top G) (rs.kx pr.ok.pt K2))⟩
end
end
section
section
variable{W:Wp}{tb:Tb}{Φ:Fun}{D n:Nat}{c:Cx}
theorem Au(G:WF W){x:Str}{p:Pos}{i:Nat}(hd:(x==("__debug__" : Str))=false)(hx:c.ix x=some i):SE W D c (.Name x p) (ev Φ (.var i))/\SQ W D c (.Name x p) (fun ρ=>pk (.var i) ρ (ev Φ (.var i) ρ)):=
 ⟨fun A env ρ P s v Q E' ao hc pr hv h=>aa hv fun sl hs e=>eZ pr (by rw[hc];exact hx) hd (ke e▸hs) fun u h' tk K r=>h u h' tk K r,
  fun A env ρ P s v Q E' ao hc pr hv h=>E8 pr (by rw[hc];exact hx) hd hv fun u h' tk K r=>h u h' tk K r⟩
theorem F2(G:WF W)(C:Cfg W tb Φ D){x:Str}{p:Pos}{v:V}(hd:(x==("__debug__" : Str))=false)(hg:c.glob x=true)(hx:tb.gc.lookup x=some v):SE W D c (.Name x p) (ev Φ (.const v)):=by
 intro A env ρ P s v' Q E' ao hc pr hv h;obtain rfl:v=v':=al_0 hv;obtain⟨u,hm,r⟩:=C.gc x v hx;exact bh (bo G pr (by rw[hc];exact hg) hm (h u s.heap s.toks (KX.refl pr.ok.ti) (r P _))) hd
theorem D7(G:WF W){o i:Expr}{pos:Pos}{a b:E}(hp:rO i)(ha:SQ W D c o (fun ρ=>pk a ρ (ev Φ a ρ)))(hb:SE W D c i (ev Φ b)):SE W D c (.Subscript o i pos) (ev Φ (.sub a b)):=fun A env ρ P s v Q E' ao hc pr hv h=>
 aa hv fun x hx hv=>aa hv fun y hy hv=>Subscript_ (ha A env ρ P s x _ E' ao hc pr hx fun u h1 tk1 K1 r1=>hb A env ρ P _ y _ E' ao hc (pr.step K1) hy fun w h2 tk2 K2 r2=>by
  obtain⟨k,rfl⟩:∃k,y=.int k:=bnd hv fun k hk U=>⟨k,dN hk⟩;refine r2.i' fun t=>?_;refine byG fun gG kG=>?_;obtain⟨⟨T,id,hT,hl⟩,hg⟩:=Ai (W:=W) (A:=A) (E:=E') (t:=t) (Q:=Q) (s:={ s with heap:=h2,toks:=tk2 }) hv (r1.kx G K1.ti pr.ok.pt K2) fun u3 r3=>h u3 h2 tk2 (K1.trans K2) r3;obtain⟨ops,ho⟩:=hp.sops u (.int k t);refine kG ?_;exact tail_any hT hl hg ho)
theorem pK{P:Addr->Prop}{h:Heap}{u:Value}{v:V}{o:Option Int}(r:Rp P h u v)(e:iK v=some o):IsPart u o:=by
 cases v with
 |none=>exact r.n' (al_0 (show some none=some o from e)▸.none)
 |int i=>exact r.i' fun t=>al_0 (show some (some i)=some o from e)▸.int _ _
 |_=>exact nn0 e
theorem xy(G:WF W)(ih:IHn W tb Φ D n){o:Expr}{lo hi st:Option Expr}{p pos:Pos}{a b d e:E}(ha:SQ W D c o (fun ρ=>pk a ρ (ev Φ a ρ)))(hlo:trO tb n c lo=some b)(hhi:trO tb n c hi=some d)(hst:trO tb n c st=some e):
  SE W D c (.Subscript o (.Slice lo hi st p) pos) (ev Φ (.slice a b d e)):=fun A env ρ P s v Q E' ao hc pr hv h=>
 aa hv fun x hx hv=>aa hv fun l hl hv=>aa hv fun h' hh hv=>aa hv fun t ht hv=>aa hv fun l' el hv=>aa hv fun h'' eh hv=>aa hv fun t' et hv=>by
  refine Subscript_ (ha A env ρ P s x _ E' ao hc pr hx fun u h1 tk1 K1 r1=>?_);have pr1:=pr.step K1;refine wpAny_Slice (ih.o c lo b hlo A env ρ P _ l _ E' ao hc pr1 hl fun ul h2 tk2 K2 r2=>ih.o c hi d hhi A env ρ P _ h' _ E' ao hc (pr1.step K2) hh fun uh h3 tk3 K3 r3=>ih.o c st e hst A env ρ P _ t _ E' ao hc ((pr1.step K2).step K3) ht fun ut h4 tk4 K4 r4=>?_);have K25:=((K2.trans K3).trans K4).trans (KX.push G K4.ti { cls:=.type "slice", data:=.fields #[ul,uh,ut] });obtain⟨⟨T,id,hT,hl⟩,hg⟩:=vP (W:=W) (A:=A) (E:=E') (Q:=Q) (s:={ s with heap:=h4.push { cls:=.type "slice", data:=.fields #[ul,uh,ut] },toks:=tk4 }) (sl:=h4.objs.size) (vl:=ul) (vu:=uh) (vt:=ut) G (pr1.step K25).ok hv
   (r1.kx G K1.ti pr.ok.pt K25) ⟨_,eO _ rfl,rfl,rfl⟩ (pK r2 el) (pK r3 eh) (pK r4 et) fun u6 h6 tk6 K6 r6=>h u6 h6 tk6 ((K1.trans K25).trans K6) r6
  obtain⟨ops,ho⟩:∃ops,subscripted (.Slice lo hi st p) false u (.ref h4.objs.size)=operate ops (getItem u (.ref h4.objs.size)):=by cases st<;>exact⟨_,rfl⟩
  exact tail_any hT hl hg ho
theorem jH{P:Addr->Prop}{h:Heap}(ok:Ok W P h){a:Addr}{o:Obj}(ho:W.h0.get? a=some o)(ha:a∉W.T):h.get? a=some o:=ok.kept a o ha ho
theorem Ax(G:WF W)(C:Cfg W tb Φ D)(ih:IHn W tb Φ D n){f:Str}{p pos:Pos}{args:List Expr}{ys:List E}{i:Nat}(hd:(f==("__debug__" : Str))=false)(hg:c.glob f=true)(hf:tb.gf.findIdx? (·==f)=some i)(ha:args.mapM (trE tb n c)=some ys):SE W D c (.Call (.Name f p) args [] pos) (ev Φ (.call i ys)):=fun A env ρ P s v Q E' ao hc pr hv h=>aa hv fun vs hvs hv=>by
 obtain⟨a,o,fd,hm,ho,hdat,hT,cal⟩:=C.fn f i hf;refine eS (bh (bo G pr (by rw[hc];exact hg) hm ?_) hd);refine iU (o:=o) (fd:=fd) (bG ha (ef G ih ao hc ha pr hvs fun us h1 tk1 K1 rs=>?_));obtain pr1:=pr.step K1;exact⟨⟨jH pr1.ok ho hT,hdat⟩,cal A P us vs v _ Q E' ao pr1.ok rs hv fun u h2 tk2 K2 r2=>h u h2 tk2 (K1.trans K2) r2⟩
noncomputable def hH:Bi->Str
 |.len => "len" | .sum => "sum" | .divmod => "divmod" | .ord => "ord" | .chr => "chr"
theorem tK(b:Bi):hH b∈lZ/\hH b ≠ "__name__"/\bootBuiltins (hH b)=some b.val:=by cases b<;>decide
theorem FY{f:Str}{b:Bi}(e:BJ f=some b):f=hH b:=by
 obtain st:∀{x:Bi}{o:Option Bi} (c:Str),hH x=c->(o=some b->f=hH b)->(bif f==c then some x else o)=some b->f=hH b:=fun c hx k h=>
  bci (P:=fun U=>f=hH b) h (fun q h=>(al_0 h:_=b)▸(aB q).trans hx.symm) k
 exact st "len" rfl (st "sum" rfl (st "divmod" rfl (st "ord" rfl (st "chr" rfl nn0)))) e
theorem F3(G:WF W)(ih:IHn W tb Φ D n){f:Str}{p pos:Pos}{args:List Expr}{ys:List E}{b:Bi}(hd:(f==("__debug__" : Str))=false)(hg:c.glob f=true)(hf:BJ f=some b)(ha:args.mapM (trE tb n c)=some ys):SE W D c (.Call (.Name f p) args [] pos) (ev Φ (.bi b ys)):=fun A env ρ P s v Q E' ao hc pr hv h=>aa hv fun vs hvs hv=>by
 obtain h1:=(tK b).1;obtain h2:=(tK b).2.1;obtain h3:=(tK b).2.2;rw[<-FY hf]at h1 h2 h3;refine eS (bh (ce G pr (by rw[hc];exact hg) (G.nb f h1) (by rw[G.bi f h2,h3]) ?_) hd);obtain go:∀us h1 tk1,KX W s.heap h1->RqL P h1 us vs->wpAny W.M A (call b.val us) Q E' { s with heap:=h1,toks:=tk1 }:=fun us h1 tk1 K1 rs=>
  Ex G (pr.step K1).ok ao.hd hv rs fun u h2 tk2 K2 r2=>h u h2 tk2 (K1.trans K2) r2
 cases b<;>exact iS (gp ha env) (bG ha (rK G ih ao hc ha pr hvs go))
theorem jn{o:Expr}(h:kq o=true)(m:Str)(env:Env):attributeBase o m env (eval o env)=eval o env:=by
 rcases Bool.or_eq_true_iff.mp h with h | h
 ·rcases Bool.or_eq_true_iff.mp h with h | h
  ·exact Expr.Name.elim (motive_1:=fun o=>attributeBase o m env (eval o env)=eval o env) o (aB h) fun U U=>rfl
  ·exact Expr.Subscript.elim (motive_1:=fun o=>attributeBase o m env (eval o env)=eval o env) o (aB h) fun U U U=>rfl
 ·exact Expr.Constant.elim (motive_1:=fun o=>attributeBase o m env (eval o env)=eval o env) o (aB h) fun U U U=>rfl
noncomputable def mN:Mt->Str
 |.bitLength => "bit_length" | .split => "split" | .index => "index" | .join => "join"
theorem Fm{m:Str}{mt:Mt}(e:AM m=some mt):m=mN mt:=by
 obtain st:∀{x:Mt}{o:Option Mt} (c:Str),mN x=c->(o=some mt->m=mN mt)->(bif m==c then some x else o)=some mt->m=mN mt:=fun c hx k h=>
  bci (P:=fun U=>m=mN mt) h (fun q h=>(al_0 h:_=mt)▸(aB q).trans hx.symm) k
 exact st (x:=.bitLength) "bit_length" rfl (st (x:=.split) "split" rfl (st (x:=.index) "index" rfl (st (x:=.join) "join" rfl nn0))) e
theorem pM{m:Str}{mt:Mt}(e:AM m=some mt):PlainAttrs (mtT mt)/\Slot (mtT mt) m (DC mt)/\typeOf (.builtin (DC mt))=pure (.type "method_descriptor"):=by
 rw[Fm e]
 cases mt
 case bitLength=>exact⟨PySem.F.plainAttrs_int,PySem.F.slot_int_bit_length,by rfl⟩
 case split=>exact⟨PySem.F.plainAttrs_str,PySem.F.slot_str_split,by rfl⟩
 case index=>exact⟨PySem.F.plainAttrs_list,PySem.F.slot_list_index,by rfl⟩
 case join=>exact⟨PySem.F.plainAttrs_str,PySem.F.slot_str_join,by rfl⟩
theorem z5{args:List Expr}{ys:List E}{pos:Pos}{env:Env}(ha:args.mapM (trE tb n c)=some ys)(hn:decide (args.length<30)=true):
  ((backTo pos (starEach args env)).all (fun x=>!x.1)&&(backToKw pos (keywordEach [] env)).all (fun x=>x.1.isSome)&&decide (args.length+([]:List Keyword).length+(if([]:List Keyword).isEmpty then 0 else 1)<30))=true:=by
 obtain h2:(backTo pos (starEach args env)).all (fun x=>!x.1)=true:=by
  simp only[List.all_eq_not_any_not];simp only[Bool.not_not];simp only[gp (pos:=pos) ha env];rfl
 simp only[h2];exact hn
theorem Av(G:WF W)(ih:IHn W tb Φ D n){o:Expr}{m:Str}{ap pos:Pos}{args:List Expr}{ys:List E}{a:E}{mt:Mt}(hl:(ap.endLine==pos.line)=true)(hr:kq o=true)(hn:decide (args.length<30)=true)(hm:AM m=some mt)(hso:SQ W D c o (fun ρ=>pk a ρ (ev Φ a ρ)))(ha:args.mapM (trE tb n c)=some ys):SE W D c (.Call (.Attribute o m ap) args [] pos) (ev Φ (.meth mt a ys)):=fun A env ρ P s v Q E' ao hc pr hv h=>aa hv fun x hx hv=>aa hv fun vs hvs hv=>by
 obtain s1:=(pM hm).1;obtain s2:=(pM hm).2.1;obtain s3:=(pM hm).2.2;refine wpAny_Call_method (jn hr m env) (z5 ha hn) hl s1 s2 s3 (hso A env ρ P s x _ E' ao hc pr hx fun u h1 tk1 K1 r1=>?_);obtain pr1:=pr.step K1;obtain⟨t1,t2⟩:=AL (s:={ s with heap:=h1,toks:=tk1 }) hv r1;exact⟨t1,t2,iS (gp ha env) (bG ha (rK G ih ao hc ha pr1 hvs fun us h2 tk2 K2 rs=>
  C8 G (pr1.step K2).ok hv (r1.kx G K1.ti pr.ok.pt K2) rs fun u3 h3 tk3 K3 r3=>h u3 h3 tk3 ((K1.trans K2).trans K3) r3))⟩
end
end
section
section
variable{W:Wp}{tb:Tb}{Φ:Fun}{D n:Nat}{c:Cx}
theorem dJ.tg{A:Around}{P:Addr->Prop}{s:Shared}{Q:Value->Shared->Prop}{items:List V}{Tg Tg':Expr->Prop}(k:∀t,Tg' t->Tg t)(h:dJ W A P s Q items Tg'):dJ W A P s Q items Tg:=
 fun I X St h' tk K it=>h I X St h' tk K (it.tg k)
theorem jZ(G:WF W){A:Around}{env:Env}{ρ:Ro}{P:Addr->Prop}{s:Shared}{E':Value->Shared->Prop}(ih:IHn W tb Φ D n)(ao:AOk A D)(hc:ac env.scope=c)(pr:Pre W P env ρ s.heap){f:Str}{T:String}{p pos:Pos}{args:List Expr}{ys:List E}(hd:(f==("__debug__" : Str))=false)(hg:c.glob f=true)(h1:f∈lZ)(h2:f ≠ "__name__")(h3:bootBuiltins f=some (.type T))(ha:args.mapM (trE tb n c)=some ys){vs:List V}(hv:evs Φ ys ρ=some vs){Q:Value->Shared->Prop}(h:∀us h' tk,KX W s.heap h'->Rps P h' us vs->wpAny W.M A (call (.type T) us) Q E' { s with heap:=h',toks:=tk }):
  wpAny W.M A (eval (.Call (.Name f p) args [] pos) env) Q E' s:=by
 refine eS (bh (ce G pr (by rw[hc];exact hg) (G.nb f h1) (by rw[G.bi f h2,h3]) ?_) hd);exact PyProof.Rows.callWith_type (gp ha env) (bG ha (ef G ih ao hc ha pr hv h))
theorem gN{a c:Int}{n i:Nat}{f:Nat->V}(hf:∀k:Nat,f k=.int (a+k*c)){v:V}(e:((List.range n).map f)[i]?=some v):v=.int (a+i*c):=by
 rw[bA]at e;obtain⟨j,hj,rfl⟩:=bj.mp e;obtain⟨hlt,rfl⟩:=cX.mp hj;rw[List.getElem_range];exact hf i
theorem uf(a b:Int)(f:Nat->V):((((List.range (b-a).toNat).map f).length:Nat):Int)=Builtin.Range.rangeSize a b 1:=by
 simp only[aC,List.length_range,Builtin.Range.rangeSize];simp;split<;>lia
theorem vQ(a b:Int)(f:Nat->V):((((List.range (a-b).toNat).map f).length:Nat):Int)=Builtin.Range.rangeSize a b (-1):=by
 simp only[aC,List.length_range,Builtin.Range.rangeSize];simp;split<;>lia
theorem xk(G:WF W)(ih:IHn W tb Φ D n){p pos:Pos}{args:List Expr}{ys:List E}(hg:c.glob "range" = true)(ha:args.mapM (trE tb n c)=some ys){Tg:Expr->Prop}:SI W D c (.Call (.Name "range" p) args [] pos) Tg (eu Φ (.range ys)):=by
 refine⟨fun U U=>rfl,fun A env ρ P s items Q E' ao hc pr hv h=>aa hv fun vs hvs hv=>aa hv fun ns hn hv=>?_⟩;refine jZ G ih ao hc pr (by decide) hg (by decide) (by decide) (by rfl) ha hvs fun us h1 tk1 K1 rs=>?_;obtain pr1:=pr.step K1;rw[cw hn]at rs;have fin:∀{a b c:Int}{t u v:Tok}{tk:Nat},Builtin.Range.small a b c=true->((items.length:Nat):Int)=Builtin.Range.rangeSize a b c->(∀(i:Nat) x,items[i]?=some x->x=.int (a+i*c)) ->
   wpAny W.M A (pyIter (.ref h1.objs.size)) Q E' { s with heap:=h1.push { cls:=.type "range", data:=.fields #[.int a t,.int b u,.int c v] },toks:=tk }:=by
  intro a b c t u v tk e1 e2 e3;obtain K2:=KX.push G pr1.ok.ti { cls:=.type "range", data:=.fields #[.int a t,.int b u,.int c v] };exact wi G ao.hd (pr1.step K2).ok (s:={ s with heap:=_,toks:=tk }) (eO _ rfl) e1 e2 e3 (dJ.tg (fun U U=>trivial) (h _ _ (K1.trans K2)))
 cases ns with
 |nil=>exact nn0 hv
 |cons a ns=>
  cases ns with
  |nil=>
   refine aO hv fun hz e=>rs.c' fun u U r rs=>rs.n' (r.i' fun t=>call_range_1 (fin (gM (by decide) (by decide) hz.1 hz.2 (.inl rfl)) ?_ fun i x hx=>?_))
   ·rw[<-(al_0 e:_=items)]
    have:=uf 0 a fun k=>.int k;rw[Int.sub_zero]at this;exact this
   ·rw[<-(al_0 e:_=items)]at hx
    exact gN (fun k=>by rw[Int.mul_one,fv]) hx
  |cons b ns=>
   cases ns with
   |nil=>
    refine aO hv fun hz e=>rs.c' fun u U r rs=>rs.c' fun u' U r' rs=>rs.n' (r.i' fun t=>r'.i' fun t'=>call_range_2 (fin (gM hz.1 hz.2.1 hz.2.2.1 hz.2.2.2 (.inl rfl)) ?_ fun i x hx=>?_))
    ·rw[<-(al_0 e:_=items)];exact uf a b _
    ·rw[<-(al_0 e:_=items)]at hx
     exact gN (fun k=>by rw[Int.mul_one]) hx
   |cons k ns=>
    cases ns with
    |nil=>
     refine aO hv fun hz e=>?_;obtain⟨rfl,hz⟩:=hz;refine rs.c' fun u U r rs=>rs.c' fun u' U r' rs=>rs.c' fun u'' U r'' rs=>rs.n' (r.i' fun t=>r'.i' fun t'=>r''.i' fun t''=>call_range_3 (by decide) (fin (gM hz.1 hz.2.1 hz.2.2.1 hz.2.2.2 (.inr rfl)) ?_ fun i x hx=>?_) (.inl ?_))
     ·rw[<-(al_0 e:_=items)];exact vQ a b _
     ·rw[<-(al_0 e:_=items)]at hx
      exact gN (fun k=>by rw[Int.mul_neg,Int.mul_one];rfl) hx
     ·simp[Builtin.divisionGoesByPylong]
      have:Nat.log2 1=0:=by decide
      lia
    |cons _ _=>exact nn0 hv
theorem BM{a:Expr}{y:E}{l:V}{ρ:Ro}(ha:trE tb n c a=some y)(hl:ev Φ y ρ=some l):[a].mapM (trE tb n c)=some [y]/\evs Φ [y] ρ=some [l]:=by
 refine⟨by simp[ha],?_⟩;show(ev Φ y ρ).bind _=_;rw[hl];rfl
theorem Ap(G:WF W)(ih:IHn W tb Φ D n){p pos:Pos}{a:Expr}{y:E}(hg:c.glob "enumerate" = true)(ha:trE tb n c a=some y):SI W D c (.Call (.Name "enumerate" p) [a] [] pos) (fun t=>kH (.enum y) t=true) (eu Φ (.enum y)):=by
 refine⟨fun U U=>rfl,fun A env ρ P s items Q E' ao hc pr hv h=>aa hv fun v hl hv=>aa hv fun l e hv=>aO hv fun hz hv=>?_⟩;rw[dF e]at hl;refine jZ G ih ao hc pr (ys:=[y]) (vs:=[.lst l]) (by decide) hg (by decide) (by decide) (by rfl) (BM ha hl).1 (BM ha hl).2 fun us h1 tk1 K1 rs=>rs.c' fun u U r rs=>rs.n' (r.l' fun la vs k hp hla rr=>?_);refine yx G ao.hd (pr.step K1).ok (s:={ s with heap:=h1,toks:=tk1 }) hla hp rr (dJ.tg (fun t ht=>?_) ((al_0 hv:_=items)▸h _ _ K1));obtain⟨l,hl⟩:=nN.mp ht;obtain⟨k,p,e⟩:=pf hl;exact⟨_,_,_,e⟩
theorem CY(G:WF W)(ih:IHn W tb Φ D n){p pos:Pos}{a:Expr}{y:E}(hg:c.glob "reversed" = true)(ha:trE tb n c a=some y){Tg:Expr->Prop}:SI W D c (.Call (.Name "reversed" p) [a] [] pos) Tg (eu Φ (.rev y)):=by
 refine⟨fun U U=>rfl,fun A env ρ P s items Q E' ao hc pr hv h=>aa hv fun v hl hv=>aa hv fun l e hv=>aO hv fun hz hv=>?_⟩;rw[dF e]at hl;refine jZ G ih ao hc pr (ys:=[y]) (vs:=[.lst l]) (by decide) hg (by decide) (by decide) (by rfl) (BM ha hl).1 (BM ha hl).2 fun us h1 tk1 K1 rs=>rs.c' fun u U r rs=>rs.n' (r.l' fun la vs k hp hla rr=>?_);exact AV G ao.hd (pr.step K1).ok (s:={ s with heap:=h1,toks:=tk1 }) hla hp rr (dJ.tg (fun U U=>trivial) ((al_0 hv:_=items)▸h _ _ K1))
theorem CZ(G:WF W){e:Expr}{y:E}(he:SE W D c e (ev Φ y))(hs:∀env x,foldedSetIterable e env x=pure x){Tg:Expr->Prop}:SI W D c e Tg (eu Φ (.exp y)):=by
 refine⟨hs,fun A env ρ P s items Q E' ao hc pr hv h=>aa hv fun v hl hv=>he A env ρ P s v _ E' ao hc pr hl fun u h1 tk1 K1 r1=>?_⟩
 cases v with
 |lst l=>exact aO hv fun hz hv=>r1.l' fun la vs k hp hla rr=>yw G ao.hd (pr.step K1).ok (s:={ s with heap:=h1,toks:=tk1 }) hla hp rr (dJ.tg (fun U U=>trivial) ((al_0 hv:_=items)▸h _ _ K1))
 |str l=>exact aO hv fun hz hv=>r1.s' fun x t hx=>AU G ao.hd (pr.step K1).ok (s:={ s with heap:=h1,toks:=tk1 }) (dJ.tg (fun U U=>trivial) (hx.symm▸(al_0 hv:_=items)▸h _ _ K1))
 |_=>exact nn0 hv
end
end
section
section
variable{W:Wp}{tb:Tb}{Φ:Fun}{D n:Nat}{c:Cx}
theorem uq(G:WF W)(ih:IHn W tb Φ D n){elt:Expr}{gens:List Comprehension}{sc:Scope}{pos:Pos}{y:E}(h:trE tb (n+1) c (.ListComp elt gens sc pos)=some y):SC W D c (.ListComp elt gens sc pos) (ev Φ y):=by
 obtain tgE:∀{es:List Expr}{bs:List B},es.mapM (trB tb n (ac sc))=some bs->SBs W D (ac sc) es (rt Φ bs):=fun h=>Dd G h fun x y hy=>ih.b _ x y hy;refine gdi h fun hs h=>bnd h fun ks hk h=>bnd h fun elt' helt h=>bnd h fun g hg h=>bnd h fun g1 h1 h=>bnd h fun p hp h=>bnd h fun it hit h=>bnd h fun ifs hif h=>gds h fun hc'=>?_;obtain c1:=(aT hc').1;obtain c2:=(aT hc').2;rw[aX hg,DY h1];exact fun A env ρ P s v E' use Q ao hc pr hv fin=>aa hv fun items hi hv=>aa hv fun out hf hv=>aO hv fun hl hv=>
  wD G (g0:=⟨g1.1,g1.2.1,g1.2.2,0⟩) (gs:=[]) (pos:=pos) rfl hs hk (ih.it c _ it hit) ao hc pr hi
   (tD G (ih.e _ _ _ helt) (tgE hif) c2 hp c1 ao hf hl) ((al_0 hv:_=v).symm▸fin)
end
end
section
section
variable{W:Wp}{tb:Tb}{Φ:Fun}{D n:Nat}{c:Cx}
noncomputable def mT:E->Bool
 |.var _=>true
 |_=>false
theorem jm{e:Expr}{y:E}(h:SE W D c e (ev Φ y))(hy:mT y=false):SE W D c e (ev Φ y)/\SQ W D c e (fun ρ=>pk y ρ (ev Φ y ρ)):=
 ⟨h,h.sq fun ρ=>C2 (fun i q=>by subst q;cases hy) ρ _⟩
theorem BG{op:BoolOp}{l r:Expr}{pos:Pos}{a b:E}(G:WF W)(ha:SE W D c l (ev Φ a))(hb:SE W D c r (ev Φ b)):SE W D c (.BoolOp op [l,r] pos) (ev Φ (Cu op a b)):=
 match op with | .And=>Db G ha hb | .Or=>EZ G ha hb
theorem Dc{elt:Expr}{gens:List Comprehension}{sc:Scope}{pos:Pos}{y:E}(h:trE tb (n+1) c (.ListComp elt gens sc pos)=some y):mT y=false:=
 gdi h fun U h=>bnd h fun U U h=>bnd h fun U U h=>bnd h fun U U h=>bnd h fun U U h=>bnd h fun U U h=>bnd h fun U U h=>bnd h fun U U h=>gds h fun U=>rfl
theorem tB(G:WF W)(C:Cfg W tb Φ D)(ih:IHn W tb Φ D n){x:Expr}{y:E}(h:trE tb (n+1) c x=some y):SE W D c x (ev Φ y)/\SQ W D c x (fun ρ=>pk y ρ (ev Φ y ρ)):=by
 cases x with
 |Constant k kd pos=>
  refine mpi h fun v hv=>jm ?_ rfl;exact xz (W:=W) (D:=D) (c:=c) (kd:=kd) (pos:=pos) G hv
 |Name x p=>exact gdi h fun hd h=>eli h (fun h=>gdi h fun hg h=>mpi h fun v hv=>jm (F2 G C (mK hd) hg hv) rfl) fun i hi h=>sme h (Au G (mK hd) hi)
 |BinOp l op r pos=>exact bnd h fun a ha h=>mpi h fun b hb=>jm (Da G (ih.q c l a ha) (ih.q c r b hb)) rfl
 |UnaryOp op x pos=>exact mpi h fun a ha=>jm (EY G (ih.e c x a ha)) rfl
 |Compare l ops rs pos=>
  refine bnd h fun op ho h=>bnd h fun r hr h=>gdi h fun hm h=>bnd h fun a ha h=>mpi h fun b hb=>?_;rw[aX ho,aX hr];exact jm (D9 G (mK hm) (ih.q c l a ha) (ih.q c r b hb)) rfl
 |BoolOp op vs pos=>
  refine bnd h fun p hp h=>bnd h fun a ha h=>mpi h fun b hb=>?_;rw[iZ hp];exact jm (BG G (ih.e c _ a ha) (ih.e c _ b hb)) (by cases op<;>rfl)
 |IfExp t l r pos=>exact bnd h fun t' ht h=>bnd h fun a ha h=>mpi h fun b hb=>jm (D8 G (ih.b c t t' ht) (ih.e c l a ha) (ih.e c r b hb)) rfl
 |List es pos=>exact mpi h fun ys hy=>jm (Aw G ih hy) rfl
 |Tuple es k pos=>exact mpi h fun ys hy=>jm (xw G ih hy) rfl
 |ListComp elt gens sc pos=>exact jm (SC.se G (uq G ih h)) (Dc h)
 |Subscript o i pos=>
  refine bnd h fun a ha h=>eli h (fun h=>mpi h fun b hb=>jm (D7 G (plain hb) (ih.q c o a ha) (ih.e c i b hb)) rfl) fun q hq h=>bnd h fun lo h1 h=>bnd h fun hi h2 h=>mpi h fun st h3=>?_;rw[xj hq];exact jm (xy G ih (ih.q c o a ha) h1 h2 h3) rfl
 |Call func args kws pos=>
  refine gdi h fun hk h=>bnd h fun as has h=>eli h (fun h=>bnd h fun q hq h=>gdi h fun hg h=>bnd h fun a ha h=>mpi h fun mt hm=>?meth) fun f hf h=>gdi h fun hg h=>eli h (fun h=>mpi h fun b hb=>?bi) fun i hi h=>sme h ?call
  case meth=>
   obtain f1:=(aT hg).1;obtain f2:=(aT hg).2;obtain⟨f2,f3⟩:=aT f2;rw[fc hk,qg hq];exact jm (Av G ih f1 f2 f3 hm (ih.q c _ a ha) has) rfl
  all_goals
   obtain g1:=(aT hg).1;obtain g2:=(aT hg).2;obtain⟨p,rfl⟩:=aS hf;rw[fc hk]
  case bi=>exact jm (F3 G ih (mK g2) g1 hb has) rfl
  case call=>exact jm (Ax G C ih (mK g2) g1 hi has) rfl
 |_=>exact nn h
theorem vY{x:Expr}(h:xK x=true)(env:Env)(whole:Sem Value):isTrue x env whole=(do let v <-whole;standAt x.pos;holding [v] (truthy v)):=by
 rcases Bool.or_eq_true_iff.mp h with h | h
 ·rcases Bool.or_eq_true_iff.mp h with h | h
  ·rcases Bool.or_eq_true_iff.mp h with h | h
   ·exact Expr.Name.elim (motive_1:=fun x=>isTrue x env whole=(do let v <-whole;standAt x.pos;holding [v] (truthy v))) x (aB h) fun U U=>rfl
   ·exact Expr.Call.elim (motive_1:=fun x=>isTrue x env whole=(do let v <-whole;standAt x.pos;holding [v] (truthy v))) x (aB h) fun U U U U=>rfl
  ·exact Expr.Subscript.elim (motive_1:=fun x=>isTrue x env whole=(do let v <-whole;standAt x.pos;holding [v] (truthy v))) x (aB h) fun U U U=>rfl
 ·exact Expr.BinOp.elim (motive_1:=fun x=>isTrue x env whole=(do let v <-whole;standAt x.pos;holding [v] (truthy v))) x (aB h) fun U U U U=>rfl
theorem Ey(G:WF W)(C:Cfg W tb Φ D)(ih:IHn W tb Φ D n){x:Expr}{y:B}(h:trB tb (n+1) c x=some y):SB W D c x (evb Φ y):=by
 refine eli h (fun h=>eli h (fun h=>gdi h fun hp h=>mpi h fun a ha=>De G (ih.q c x a ha) (vY hp)) fun q hq h=>?_) fun q hq h=>mpi h fun bs hb=>?_
 ·refine bnd h fun op ho h=>bnd h fun r hr h=>gdi h fun hm h=>bnd h fun a ha h=>mpi h fun b hb=>?_
  rw[Cr hq,aX ho,aX hr];exact Df G (mK hm) (ih.q c _ a ha) (ih.q c r b hb)
 ·rw[FX hq]
  cases q.1
  ·exact Dg G hb fun x y hy=>ih.b c x y hy
  ·exact F4 G hb fun x y hy=>ih.b c x y hy
theorem AX(G:WF W)(C:Cfg W tb Φ D)(ih:IHn W tb Φ D n){x:Expr}{y:It}(h:vF tb (n+1) c x=some y):SI W D c x (fun t=>kH y t=true) (eu Φ y):=by
 refine eli h (fun h=>mpi h fun a ha=>CZ G (ih.e c x a ha) (plain ha).nset) fun q hq h=>?_;revert h;refine bnd hq fun r hr hq=>bnd hq fun f hf hq=>gds hq fun hg h=>?_;have hg:=(aT hg).1;rw[f8 hr];obtain⟨p,e⟩:=aS hf;rw[e];refine bci h (fun e h=>mpi h fun ys hy=>?_) fun h=>bci h (fun e h=>bnd h fun a ha h=>mpi h fun y hy=>?_) fun h=>gdi h fun e h=>bnd h fun a ha h=>mpi h fun y hy=>?_
 all_goals
  have:=aB e;subst this
  try rw[show r.2.1=[a]from aX ha]
 ·exact xk G ih hg hy
 ·exact Ap G ih hg hy
 ·exact CY G ih hg hy
theorem cA(G:WF W)(C:Cfg W tb Φ D)(n:Nat):IHn W tb Φ D n:=by
 induction n with
 |zero=>exact⟨fun c x y h=>nn h,fun c x y h=>nn h,fun c x y h=>nn h,fun c x y h=>nn h,fun c x y h=>nn h⟩
 |succ n ih=>
  refine⟨fun c x y h=>(tB G C ih h).1,fun c x y h=>(tB G C ih h).2,?_,fun c x y h=>AX G C ih h,fun c x y h=>Ey G C ih h⟩;intro c x y h A env ρ P s v Q E' ao hc pr hv hQ
  cases x with
  |none=>
   obtain rfl:E.const .none=y:=al_0 h;obtain rfl:V.none=v:=al_0 hv;rw[evalPart_none];exact az (hQ .none s.heap s.toks (KX.refl pr.ok.ti) Rp.n)
  |some e=>
   rw[evalPart_some];exact ih.e c e y h A env ρ P s v Q E' ao hc pr hv hQ
end
end
section
section
variable{W:Wp}{P P' P'':Addr->Prop}{env:Env}{ρ ρ' ρ'':Ro}{h h' h'':Heap}
theorem cb(pr:Pre W P env ρ h){b:Addr}(o:aQ W env ρ h b):Hid W P b/\¬aw env b/\∃o,dD (h.get? b=some o) ((∀es n,o.data≠.dict es n)) (∀v,o.data≠.cell v):=by
 obtain⟨i,x,c,sl,h1,h2,h3,h4⟩:=o;obtain r:=pr.er i x c sl h1 h2;have nm:∀{o:Obj},h.get? b=some o->(∀es n,o.data≠.dict es n)->(∀v,o.data≠.cell v)->¬aw env b:=by
  intro o ho n1 n2 m;rcases m with rfl | ⟨y,hy⟩
  ·obtain⟨m,o',es,ep,ho',hd',_⟩:=pr.en.lns
   obtain rfl:=al_0 (Eq.trans (Eq.symm ho) ho');exact n1 _ _ hd'
  ·obtain⟨_,v,o',ho',hd'⟩:=pr.en.allc y b hy
   obtain rfl:=al_0 (Eq.trans (Eq.symm ho) ho');exact n2 _ hd'
 obtain⟨l,rfl | rfl⟩:=h3
 ·obtain⟨a,vs,n,e1,e2,e4,e5⟩:=r
  have:=e1.det h4
  cases this
  exact⟨e2,nm e4 (by simp) (by simp),_,e4,by simp,by simp⟩
 ·obtain⟨a,e1,e2,la,k,vs,n,⟨o,ho,hc,hd⟩,_⟩:=r
  have:=e1.det h4
  cases this
  exact⟨e2,nm ho (by rw[hd];simp) (by rw[hd];simp),o,ho,by rw[hd];simp,by rw[hd];simp⟩
theorem cI(pr:Pre W P env ρ h)(k:∀b o,aw env b->h.get? b=some o->h'.get? b=some o){b:Addr}(w:aQ W env ρ h' b):aQ W env ρ h b:=
 by
  obtain⟨i,x,c,sl,h1,h2,h3,h4⟩:=w;obtain⟨a,w,_⟩:=(pr.er i x c sl h1 h2).var h3;exact Value.ref.inj ((w.keepM k).det h4)▸⟨i,x,c,sl,h1,h2,h3,w⟩
theorem ak{b:Addr}{o:Obj}{p:Prop}(n:h.get? b=none)(e:h.get? b=some o):p:=by rw[n]at e;exact nn0 e
set_option tactic.hygienic true in
theorem Pre.frz1(pr:Pre W P env ρ h)(i:Nat):∃P',Pre W P' env (frz1 ρ i) h/\Stp W env P ρ h P' (frz1 ρ i) h:=by
 unfold Internal.frz1
 split
 ·rename_i l hl
  have hlt:i<ρ.length:=(cX.mp hl).1;obtain⟨⟨x,c⟩,hx⟩:∃q,(ac env.scope).slots[i]?=some q:=⟨_,cE (by rw[<-pr.len];exact hlt)⟩;obtain⟨a,vs,n,e1,e2,e4,e5⟩:=pr.er i x c _ hx hl;have oa:aQ W env ρ h a:=⟨i,x,c,_,hx,hl,⟨l,.inl rfl⟩,e1⟩;obtain⟨_,nma,_⟩:=cb pr oa;have sub:∀b,P b->P b\/b=a:=fun b p=>.inl p;have split':∀(j:Nat) (y:Str) (cj:Bool) (sj:Sl),(ac env.scope).slots[j]?=some (y,cj)->(ρ.set i (.val (.lst l)))[j]?=some sj->(i=j/\y=x/\sj=.val (.lst l))\/(i≠j/\ρ[j]?=some sj):=by
   intro j y cj sj hy hj;by_cases hij:i=j
   ·subst hij
    rw[hx]at hy;cases hy
    rw[jU hlt]at hj;exact .inl ⟨rfl,rfl,(al_0 hj).symm⟩
   ·rw[fz hij]at hj
    exact .inr ⟨hij,hj⟩
  refine⟨fun b=>P b\/b=a,⟨⟨pr.ok.kept,pr.ok.ti,fun b n e=>.inl (pr.ok.new b n e),fun b p=>p.elim (pr.ok.pt b) fun q=>q▸e2.nt⟩,pr.en,?_,by rw[gz];exact pr.len,?_,pr.inj,pr.ncl,?_⟩,?_⟩
  ·intro j y cj sj hy hj
   rcases split' j y cj sj hy hj with⟨rfl,rfl,rfl⟩ | ⟨hij,hj⟩
   ·exact⟨_,e1,Rp.li (.inr rfl) e4 (e5.sub sub)⟩
   ·obtain r:=pr.er j y cj sj hy hj
    have hd:∀b,aA W.T env h y (.ref b)->bk sj->Hid W P b->Hid W (fun b=>P b\/b=a) b:=fun b v o x=>⟨fun q=>by
     rcases q with q | rfl
     ·exact x.np q
     ·exact pr.dist i j _ _ _ _ _ _ _ hij hx hy hl hj ⟨l,.inl rfl⟩ o e1 v,x.nt,x.n0⟩
    cases sj with
    |unb=>trivial
    |val v=>obtain⟨u,f1,f2⟩:=r;exact⟨u,f1,f2.sub sub⟩
    |own l2=>obtain⟨b,ws,m,f1,f2,f4,f5⟩:=r;exact⟨b,ws,m,f1,hd b f1 ⟨l2,.inl rfl⟩ f2,f4,f5.sub sub⟩
    |itr l2=>
     obtain⟨b,f1,f2,la,k,ws,m,q1,q2,q3,q4⟩:=r;exact⟨b,f1,hd b f1 ⟨l2,.inr rfl⟩ f2,la,k,ws,m,q1,.inl q2,q3,q4.sub sub⟩
  ·intro b m
   obtain x:=pr.hid b m;exact⟨fun q=>q.elim x.np fun q=>nma (q▸m),x.nt,x.n0⟩
  ·intro j k y z cj ck sj sk b hjk hy hz hj hk oj ok vj vk
   rcases split' j y cj sj hy hj with⟨rfl,rfl,rfl⟩ | ⟨_,hj⟩
   ·obtain⟨m,e | e⟩:=oj<;>cases e
   ·rcases split' k z ck sk hz hk with⟨rfl,rfl,rfl⟩ | ⟨_,hk⟩
    ·obtain⟨m,e | e⟩:=ok<;>cases e
    ·exact pr.dist j k y z cj ck sj sk b hjk hy hz hj hk oj ok vj vk
  ·refine⟨fun U U U U U e=>e,fun U o e=>⟨o,e⟩,fun U U p U=>.inl p,fun b o p n m w e q=>?_,fun b w=>.inl ?_⟩
   ·rcases q with q | rfl
    ·exact p q
    ·exact w oa
   ·obtain⟨j,y,cj,sj,h1,h2,h3,h4⟩:=w
    rcases split' j y cj sj h1 h2 with⟨rfl,rfl,rfl⟩ | ⟨_,hj⟩
    ·obtain⟨m,e | e⟩:=h3<;>cases e
    ·exact⟨j,y,cj,sj,h1,hj,h3,h4⟩
 ·exact⟨P,pr,Stp.refl⟩
theorem Pre.frz:∀(is:List Nat){P:Addr->Prop}{ρ:Ro},Pre W P env ρ h->∃P',Pre W P' env (frz is ρ) h/\Stp W env P ρ h P' (frz is ρ) h:=by
 intro is
 induction is with
 |nil=>
  intro P ρ pr;exact⟨P,pr,Stp.refl⟩
 |cons i is zih=>
  intro P ρ pr;refine byG fun gG kG=>?_;obtain⟨P1,pr1,s1⟩:=pr.frz1 i;obtain⟨P2,pr2,s2⟩:=zih pr1;refine kG ?_;exact⟨P2,pr2,s1.trans s2⟩
end
end
section
noncomputable def rP(W:Wp)(env:Env)(P:Addr->Prop)(ρ:Ro)(s:Shared)(Q:Flow->Shared->Prop):Out->Prop
 |.nxt ρ'=>∀P' h' tk,Pre W P' env ρ' h'->Stp W env P ρ s.heap P' ρ' h'->Q .next { s with heap:=h',toks:=tk }
 |.ret v ρ'=>∀u P' h' tk,Pre W P' env ρ' h'->Stp W env P ρ s.heap P' ρ' h'->Rp P' h' u v->Q (.ret u) { s with heap:=h',toks:=tk }
 |.brk ρ'=>∀P' h' tk,Pre W P' env ρ' h'->Stp W env P ρ s.heap P' ρ' h'->Q .brk { s with heap:=h',toks:=tk }
theorem rP.at{W:Wp}{env:Env}{P P1:Addr->Prop}{ρ ρ1:Ro}{s:Shared}{h1:Heap}{tk1:Nat}{Q:Flow->Shared->Prop}{o:Out}(st:Stp W env P ρ s.heap P1 ρ1 h1)(x:rP W env P ρ s Q o):rP W env P1 ρ1 { s with heap:=h1,toks:=tk1 } Q o:=by
 cases o with
 |nxt ρ'=>exact fun P' h' tk pr s'=>x P' h' tk pr (st.trans s')
 |ret v ρ'=>exact fun u P' h' tk pr s' r=>x u P' h' tk pr (st.trans s') r
 |brk ρ'=>exact fun P' h' tk pr s'=>x P' h' tk pr (st.trans s')
noncomputable def SX(τ:Nat)(W:Wp)(D:Nat)(c:Cx)(st:Stmt)(φ:Ro->Option Out):Prop:=
 ∀(A:Around) (env:Env) (ρ:Ro) (P:Addr->Prop) (s:Shared) (o:Out) (Q:Flow->Shared->Prop) (E':Value->Shared->Prop),AOk A D->W.fs A env->ac env.scope=c->Pre W P env ρ s.heap->φ ρ=some o->τ<=s.toks ->
  rP W env P ρ s Q o->wpAny W.M A (exec st env) Q E' s
noncomputable def SXs(τ:Nat)(W:Wp)(D:Nat)(c:Cx)(st:List Stmt)(φ:Ro->Option Out):Prop:=
 ∀(A:Around) (env:Env) (ρ:Ro) (P:Addr->Prop) (s:Shared) (o:Out) (Q:Flow->Shared->Prop) (E':Value->Shared->Prop),AOk A D->W.fs A env->ac env.scope=c->Pre W P env ρ s.heap->φ ρ=some o->τ<=s.toks ->
  rP W env P ρ s Q o->wpAny W.M A (execs st env) Q E' s
section
variable{W:Wp}{tb:Tb}{Φ:Fun}{τ N D n:Nat}{c:Cx}
theorem Aa:SXs τ W D c [] (exs Φ N []):=fun A env ρ P s o Q E' ao fo hc pr hv ht h=>by
 obtain rfl:Out.nxt ρ=o:=al_0 hv;exact eG (h P s.heap s.toks pr Stp.refl)
theorem wY{st:Stmt}{rest:List Stmt}{x:S}{xs:List S}(h1:SX τ W D c st (ex Φ N x))(h2:SXs τ W D c rest (exs Φ N xs)):SXs τ W D c (st::rest) (exs Φ N (x::xs)):=fun A env ρ P s o Q E' ao fo hc pr hv ht h=>aa hv fun w hw hv=>by
 refine aF (dL ht (h1 A env ρ P s w _ _ ao fo hc pr hw ht ?_))
 cases w with
 |nxt ρ'=>exact fun P' h' tk pr' st ht'=>h2 A env ρ' P' _ o Q E' ao fo hc pr' hv ht' (h.at st)
 |ret v ρ'=>obtain rfl:Out.ret v ρ'=o:=al_0 hv;exact fun u P' h' tk pr' st r U=>h u P' h' tk pr' st r
 |brk ρ'=>obtain rfl:Out.brk ρ'=o:=al_0 hv;exact fun P' h' tk pr' st U=>h P' h' tk pr' st
theorem Pre.less(G:WF W){A:Around}{env:Env}{ρ:Ro}{P:Addr->Prop}{h h':Heap}(pr:Pre W P env ρ h)(k:KX W h h'){X:Addr->Prop}(hn:∀b,X b->h.get? b=none/\∃o,h'.get? b=some o):Pre W (aH P X) env ρ h'/\Stp W env P ρ h (aH P X) ρ h':=by
 obtain st:=Stp.kx G pr k;exact⟨pr.carve G k hn,st.keep,st.ex,fun b o p e=>⟨p,fun x=>ak (hn b x).1 e⟩,fun b o p U U U e q=>p q.1,st.own⟩
theorem Pre.drop(G:WF W){env:Env}{ρ ρ3:Ro}{P P1:Addr->Prop}{h h3 h4:Heap}{C0:Addr}{m:Str->Option Value}(pr3:Pre W (aH P1 fun b=>b=C0) env ρ3 h3)(st:Stp W env P ρ h (aH P1 fun b=>b=C0) ρ3 h3)(pC:P1 C0)(nCT:C0∉W.T)(nMC:¬aw env C0)(nC:h.get? C0=none)(n0:W.h0.get? C0=none)(ns:h3.Ns C0 m)(sb4:Heap.SameBut C0 h3 h4)(pn:∀b o,¬P b->b∉W.T->¬aw env b->¬aQ W env ρ h b->h.get? b=some o->¬P1 b):
  Pre W P1 env ρ3 h4/\Stp W env P ρ h P1 ρ3 h4:=by
 have k4:∀b o,b≠C0->h3.get? b=some o->h4.get? b=some o:=fun b o hb e=>(sb4.2 b hb).trans e;refine byG fun gG kG=>?_;obtain⟨o,es,ep,ho,hd,_⟩:=ns;refine kG ?_;obtain ti4:W.TI h4:=G.ti _ _ (fun b x e hx=>k4 b x (fun q=>by
  rcases hx with hx | hx
  ·exact nCT (q▸hx)
  ·rw[q,ho]at e;cases e
   refine byG fun gG kG=>?_;obtain⟨vs,_,_,hv,_⟩:=hx;refine kG ?_;rw[hd]at hv;cases hv) e) pr3.ok.ti
 have nOw:¬aQ W env ρ3 h3 C0:=fun w=>by
  refine byG fun gG kG=>?_;obtain⟨_,_,o',ho',n1,_⟩:=cb pr3 w;refine kG ?_;obtain rfl:=al_0 (Eq.trans (Eq.symm ho) ho');exact n1 _ _ hd
 have kM:∀b o,aw env b->h3.get? b=some o->h4.get? b=some o:=fun b o x e=>k4 b o (fun q=>nMC (q▸x)) e;have neC:∀b o,h.get? b=some o->b≠C0:=fun b o e q=>ak (q▸nC) e;refine⟨pr3.stepG kM (fun b o x e=>k4 b o (fun q=>nOw (q▸x)) e) (fun b o p e=>⟨p.1,k4 b o p.2 e⟩) (fun b hb x=>⟨fun p=>x.np ⟨p,fun q=>?_⟩,x.nt,x.n0⟩)
  ⟨fun b o n e=>k4 b o (fun q=>ak n0 (q▸e)) (pr3.ok.kept b o n e),ti4,fun b n e=>?_,fun b p=>?_⟩,
  fun b o n m w e=>k4 b o (neC b o e) (st.keep b o n m w e),fun b o e=>?_,fun b o p e=>(st.pp b o p e).1,pn,fun b w=>?_⟩
 ·exact hb.elim (fun hb=>nMC (q▸hb)) fun hb=>nOw (q▸hb)
 ·by_cases q:b=C0
  ·exact q▸pC
  ·refine(pr3.ok.new b n ?_).1
   rw[<-sb4.2 b q];exact e
 ·by_cases q:b=C0
  ·exact q▸nCT
  ·exact pr3.ok.pt b ⟨p,q⟩
 ·obtain⟨o',e'⟩:=st.ex b o e
  exact⟨o',k4 b o' (neC b o e) e'⟩
 ·exact st.own _ (cI pr3 kM w)
theorem dc(G:WF W){A:Around}{env:Env}{ρ ρ1:Ro}{P P1:Addr->Prop}{s:Shared}{E':Value->Shared->Prop}{Q:Unit->Shared->Prop}{h0 h1:Heap}{tk:Nat}{i:Nat}{x:Str}{cc:Bool}{v:V}{u:Value}(pr:Pre W P1 env ρ1 h1)(s1:Stp W env P ρ h0 P1 ρ1 h1)(hx:(ac env.scope).slots[i]?=some (x,cc))(r:Rp P1 h1 u v)(hQ:∀h3 tk3,Pre W P1 env (ρ1.set i (.val v)) h3->Stp W env P ρ h0 P1 (ρ1.set i (.val v)) h3->Q () { s with heap:=h3,toks:=tk3 }):wpAny W.M A (storeName env x u) Q E' { s with heap:=h1,toks:=tk }:=
 bn G (s:={ s with heap:=h1,toks:=tk }) pr hx fun a h3 tk3 st=>
  hQ h3 tk3 (pr.store (sl:=.val v) hx st ⟨u,st.at',r.mono fun b o p e=>⟨p,(st.same.2 b fun q=>(pr.hid a st.mutE).np (q▸p)).trans e⟩⟩ fun o=>bF o) (st.stp pr s1 hx fun o=>bF o)
@[elab_as_elim] theorem jB{i:Nat}{v:V}{ρ:Ro}{o:Out}{M:Out->Prop}(h:(nY i v ρ).map Out.nxt=some o)(k:M (.nxt (ρ.set i (.val v)))):M o:=
 mpi h fun ρ' h=>ifs (P:=fun ρ'=>M (.nxt ρ')) h fun U=>k
theorem CP(G:WF W)(ih:IHn W tb Φ D (n+1))(C:Cfg W tb Φ D){x:Str}{px pos:Pos}{v:Expr}{i:Nat}{e:E}(hx:c.ix x=some i)(hv:trE tb (n+2) c v=some e):SX τ W D c (.Assign [.Name x px] v pos) (ex Φ N (.asg i e)):=fun A env ρ P s o Q E' ao fo hc pr ho ht h=>aa ho fun w hw ho=>by
 revert h;refine jB ho fun h=>?_;obtain⟨P1,pr1,s1⟩:=Pre.frz (av e) pr;rcases(plain hv).swp x px pos.line env with hs | ⟨hs,elt,gens,sc,cpos,rfl⟩
 ·refine fW ((tB G C ih hv).1 A env _ P1 s w _ E' ao hc pr1 hw fun u h2 tk2 K2 r2=>?_) hs
  obtain⟨cc,hsl⟩:=Cx.ix_spec (hc▸hx);exact dc (s:=s) G (pr1.step K2) (s1.trans (Stp.kx G pr1 K2)) hsl r2 fun h3 tk3 pr3 s3=>h P1 h3 tk3 pr3 s3
 ·rw[exec_Assign_Name_used _ _ _ _ hs]
  refine aj (wpAny_standAt (aj ?_));refine aj (wpAny_mono (uq G ih hv A env _ P1 s w E' (some (assign (.Name x px) env)) (fun U s'=>Q .next s') ao hc pr1 hw ?_) (fun U s' hq=>az (az hq)) fun U U e=>e);intro D0 C0 h2 tk2 K2 nC ns r2;refine byG fun gG kG=>?_;obtain⟨m,ns⟩:=ns;obtain⟨oC,esC,epC,hoC,_⟩:=id ns;obtain⟨pr2,s2⟩:=Pre.less (A:=A) G pr1 K2 (X:=fun b=>b=C0) fun b q=>q▸⟨nC,oC,hoC⟩;refine kG ?_;refine hS G (s:={ s with heap:=h2,toks:=tk2 }) pr2 (by rw[hc];exact hx) r2 fun a h3 tk3 st pr3 s3=>?_;have pC:P1 C0:=pr1.ok.fresh G nC;have nMC:¬aw env C0:=fun m=>(pr1.hid C0 m).np pC;have hCa:C0≠a:=fun q=>nMC (q▸st.mutE);refine⟨m,ns.sameBut st.same hCa,fun h4 sb4=>?_⟩;obtain pr4:=(Pre.drop G pr3 ((s1.trans s2).trans s3) pC (pr1.ok.pt C0 pC) nMC nC (eW G pr1.ok nC) (ns.sameBut st.same hCa) sb4 s1.pn).1;obtain s4:=(Pre.drop G pr3 ((s1.trans s2).trans s3) pC (pr1.ok.pt C0 pC) nMC nC (eW G pr1.ok nC) (ns.sameBut st.same hCa) sb4 s1.pn).2;exact h P1 h4 tk3 pr4 s4
end
end
section
noncomputable def SF(W:Wp)(D:Nat)(c:Cx)(e:Expr)(φ:Ro->Option V):Prop:=
 ∀(A:Around) (env:Env) (ρ:Ro) (P:Addr->Prop) (s:Shared) (l:List V) (Q:Value->Shared->Prop) (E':Value->Shared->Prop),AOk A D->ac env.scope=c->Pre W P env ρ s.heap->φ ρ=some (.lst l) ->
  (∀h1 a vs n h' tk,KX W s.heap h1->KX W h1 h'->h1.get? a=none->IsL h' a vs n->Rps P h1 vs.toList l->Q (.ref a) { s with heap:=h',toks:=tk })->wpAny W.M A (eval e env) Q E' s
section
variable{W:Wp}{tb:Tb}{Φ:Fun}{τ N D n:Nat}{c:Cx}
theorem Aq(G:WF W)(ih:IHn W tb Φ D n){es:List Expr}{ys:List E}{pos:Pos}(e:es.mapM (trE tb n c)=some ys):SF W D c (.List es pos) (ev Φ (.list ys)):=fun A env ρ P s v Q E' ao hc pr hv h=>aa hv fun l hl hv=>aO hv fun hz hv=>by
 obtain rfl:l=v:=AR (al_0 hv);refine wpAny_List_spliced (ef G ih ao hc e pr hl fun us h1 tk1 K1 rs=>?_);exact⟨ki rs hz,h h1 _ us.toArray 0 _ _ K1 (KX.push G K1.ti _) (aR _) (eO _ rfl) rs⟩
theorem BO{x y:V}{l:List V}(h:bR .Add x y=some (.lst l)):Ex2 fun l1 l2=>gx (x=.lst l1) (y=.lst l2) (l=l1++l2) (l1.length+l2.length<=szLine):=by
 cases x with
 |lst l1=>
  cases y with
  |lst l2=>exact aO h fun hz h=>⟨l1,l2,rfl,rfl,(AR (al_0 h)).symm,hz⟩
  |_=>exact nn0 h
 |str a=>
  cases y with
  |str b=>exact aO h fun U h=>nomatch al_0 h
  |_=>exact nn0 h
 |int a=>
  cases y with
  |int b=>nomatch al_0 h
  |_=>exact nn0 h
 |_=>exact nn0 h
theorem D6(G:WF W){l r:Expr}{pos:Pos}{a b:E}(ha:SQ W D c l (fun ρ=>pk a ρ (ev Φ a ρ)))(hb:SQ W D c r (fun ρ=>pk b ρ (ev Φ b ρ))):SF W D c (.BinOp l .Add r pos) (ev Φ (.bin .Add a b)):=fun A env ρ P s v Q E' ao hc pr hv h=>aa hv fun x hx hv=>aa hv fun y hy hv=>by
 obtain⟨l1,l2,rfl,rfl,rfl,hz⟩:=BO hv;refine wpAny_BinOp (ha A env ρ P s _ _ E' ao hc pr hx fun u h1 tk1 K1 r1=>hb A env ρ P _ _ _ E' ao hc (pr.step K1) hy fun w h2 tk2 K2 r2=>?_);obtain r1:=r1.kx G K1.ti pr.ok.pt K2;refine r1.l' fun a1 vs1 n1 hl1 rr1=>r2.l' fun a2 vs2 n2 hl2 rr2=>?_;refine PySem.P.add_list (s:={ s with heap:=h2,toks:=tk2 }) hl1 hl2 (h h2 _ (vs1++vs2) 0 _ _ (K1.trans K2) (KX.push G K2.ti _) (aR _) (eO _ rfl) (by simp only[lq];exact rr1.append rr2)) ?_;simp only[<-Array.length_toList,<-Array.length_toList,rr1.length,rr2.length];exact ai hz (by decide)
theorem os(G:WF W){A:Around}{env:Env}{ρ ρ1:Ro}{P P1:Addr->Prop}{s:Shared}{E':Value->Shared->Prop}{Q:Unit->Shared->Prop}{h0 h1 h2:Heap}{tk:Nat}{i:Nat}{x:Str}{cc:Bool}{sl:Sl}{a:Addr}(pr:Pre W P1 env ρ1 h1)(s1:Stp W env P ρ h0 P1 ρ1 h1)(hx:(ac env.scope).slots[i]?=some (x,cc))(K:KX W h1 h2)(na:h1.get? a=none)(ha:∃o,dD (h2.get? a=some o) ((∀es n,o.data≠.dict es n)) (∀v,o.data≠.cell v))(io:bk sl)(hs:∀h3:Heap,(∀b o,¬aw env b->h2.get? b=some o->h3.get? b=some o)->aA W.T env h3 x (.ref a)->Hid W (aH P1 fun b=>b=a) a->ESl W (aH P1 fun b=>b=a) env h3 x sl)(hQ:∀P' h3 tk3,Pre W P' env (ρ1.set i sl) h3->Stp W env P ρ h0 P' (ρ1.set i sl) h3->Q () { s with heap:=h3,toks:=tk3 }):wpAny W.M A (storeName env x (.ref a)) Q E' { s with heap:=h2,toks:=tk }:=by
 obtain⟨o,ho,hd1,hd2⟩:=ha;obtain hX:∀b,b=a->h1.get? b=none/\∃o,h2.get? b=some o:=by rintro b rfl;exact⟨na,o,ho⟩
 obtain⟨pr2,s2⟩:=Pre.less (A:=A) G pr K (X:=fun b=>b=a) hX;obtain pa:P1 a:=pr.ok.fresh G na;obtain nM:¬aw env a:=fun m=>(pr.hid a m).np pa;obtain hid:Hid W (aH P1 fun b=>b=a) a:=⟨fun q=>q.2 rfl,pr.ok.pt a pa,eW G pr.ok na⟩;refine bn G (s:={ s with heap:=h2,toks:=tk }) pr2 hx fun t h3 tk3 st=>?_;obtain hM:=st.mutE;obtain k3:∀b o,¬aw env b->h2.get? b=some o->h3.get? b=some o:=fun b o m e=>(st.same.2 b fun q=>m (q▸hM)).trans e;refine hQ _ h3 tk3 (pr2.store hx st (hs h3 k3 st.at' hid) fun U j y cj sj b hij hy hj oj vj q=>?_) (st.stp pr2 (s1.trans s2) hx fun U b q=>?_)
 ·cases q
  obtain⟨_,_,o',ho',_⟩:=cb pr (cI pr (fun b o m e=>K.keep b o (pr.hid b m).nt e) ⟨j,y,cj,sj,hy,hj,oj,vj⟩);exact ak na ho'
 ·cases q
  right
  cases e:h0.get? a with
  |none=>rfl
  |some o'=>obtain⟨o2,e2⟩:=s1.ex a o' e;exact ak na e2
theorem rZ(G:WF W){x:Str}{px pos:Pos}{v:Expr}{i:Nat}{e:E}(hx:c.ix x=some i)(hs:∀line env,swapsWith v (some (.Name x px)) line env=pure false)(hv:SF W D c v (ev Φ e)):SX τ W D c (.Assign [.Name x px] v pos) (ex Φ N (.own i e)):=fun A env ρ P s o Q E' ao fo hc pr ho ht h=>aa ho fun w hw ho=>aa ho fun l e1 ho=>aO ho fun hlt ho=>by
 obtain rfl:=al_0 ho;simp only[dF e1]at hw;obtain⟨P1,pr1,s1⟩:=Pre.frz (av e) pr;obtain⟨cc,hsl⟩:=Cx.ix_spec (hc▸hx);refine fW (hv A env _ P1 s l _ E' ao hc pr1 hw fun h1 a vs n h2 tk2 K1 K2 na hL rs=>?_) (hs _ _);have pr2:=pr1.step K1;have nM:∀b,P1 b->¬aw env b:=fun b p m=>(pr2.hid b m).np p;refine os G pr2 (s1.trans (Stp.kx G pr1 K1)) hsl K2 na ⟨_,hL,(fun U U q=>by cases q),(fun U q=>by cases q)⟩ ⟨l,.inl rfl⟩ (fun h3 k3 va hid=>?_) fun P' h3 tk3 pr3 s3=>h P' h3 tk3 pr3 s3;exact⟨a,vs,n,va,hid,k3 _ _ (nM a (pr2.ok.fresh G na)) hL,rs.mono fun b o p e=>⟨⟨p,fun q=>ak (q▸na) e⟩,k3 _ _ (nM b p) (K2.keep _ _ (pr1.ok.pt b p) e)⟩⟩
end
end
section
section
variable{W:Wp}{A:Around}{E':Value->Shared->Prop}{s:Shared}{P:Addr->Prop}
theorem B6(O:Ok W P s.heap){op:Operator}{m n:Int}{t u:Tok}{v:V}{Q:Value->Shared->Prop}(ho:uM op=true)(e:bR op (.int m) (.int n)=some v)(h:∀u h' tk,KX W s.heap h'->Rp P h' u v->Q u { s with heap:=h',toks:=tk }):wpAny W.M A (inplaceOp op (.int m t) (.int n u)) Q E' s:=by
 obtain⟨w,hw,e⟩:=bj.mp e;have fin:∀z:Int,some z=some w->∀tk,Q (.int z s.toks) { s with toks:=tk }:=fun z hz tk=>h _ s.heap tk (KX.refl O.ti) (e▸al_0 hz▸Rp.i)
 cases op
 case Add=>exact PyProof.Rows.iadd_int (fin _ hw _)
 case Sub=>exact PyProof.Rows.isub_int (fin _ hw _)
 case Mult=>exact aO hw fun hm hw=>PyProof.Rows.imul_int (fin _ hw _) (C7 hm)
 case LShift=>exact aO hw fun hn hw=>ilshift_int hn.1 (by have:=hn.2;simp only[ibits]at this;lia) (fin _ hw _)
 case RShift=>exact aO hw fun hn hw=>irshift_int hn (fin _ hw _)
 case BitOr=>exact ior_int (fin _ hw _)
 all_goals cases ho
theorem B5(O:Ok W P s.heap){op:Operator}{m n:List Nat}{a b:Value}{v:V}{Q:Value->Shared->Prop}(e:bR op (.str m) (.str n)=some v)(rx:Rp P s.heap a (.str m))(ry:Rp P s.heap b (.str n))(h:∀u h' tk,KX W s.heap h'->Rp P h' u v->Q u { s with heap:=h',toks:=tk }):wpAny W.M A (inplaceOp op a b) Q E' s:=by
 cases op
 case Add=>
  refine rx.s' fun x t hx=>ry.s' fun y u hy=>aO e fun hz e=>?_;subst hx hy;refine PyProof.Rows.iadd_str (fun t' tk=>h _ s.heap tk (KX.refl O.ti) (al_0 e▸?_)) (by simp only[dX,dX];exact ai hz (by decide));exact Ex2.mk _ _ ⟨rfl,lq⟩
 all_goals exact nn0 e
theorem pU(G:WF W)(O:Ok W P s.heap){op:Operator}{x y v:V}{a b:Value}{Q:Value->Shared->Prop}(e:kz op x y=some v)(rx:Rp P s.heap a x)(ry:Rp P s.heap b y)(h:∀u h' tk,KX W s.heap h'->Rp P h' u v->Q u { s with heap:=h',toks:=tk }):wpAny W.M A (inplaceOp op a b) Q E' s:=by
 refine bci (P:=fun U=>wpAny W.M A (inplaceOp op a b) Q E' s) e (fun hk e=>?_) nn0;obtain⟨ho,hk⟩:=aT hk
 cases x with
 |int m=>
  cases y with
  |int n=>exact rx.i' fun t=>ry.i' fun u=>B6 O ho e h
  |_=>cases hk
 |str m=>
  cases y with
  |str n=>exact B5 O e rx ry h
  |_=>cases hk
 |_=>cases hk
end
section
variable{W:Wp}{tb:Tb}{Φ:Fun}{τ N D n:Nat}{c:Cx}
set_option tactic.hygienic true in
theorem Bf{is:List Nat}{ρ:Ro}{i:Nat}{v:V}(h:ρ[i]?=some (.val v)):(frz is ρ)[i]?=some (.val v):=by
 unfold frz
 induction is generalizing ρ with
 |nil=>exact h
 |cons j is ih=>
  rw[List.foldl_cons];refine ih ?_;unfold frz1
  split
  ·rename_i l hl
   rw[fz]
   ·exact h
   ·rintro rfl;rw[h]at hl;cases hl
  ·exact h
theorem CO(G:WF W){x:Str}{px pos:Pos}{op:Operator}{v:Expr}{i:Nat}{e:E}(hx:c.ix x=some i)(hv:SE W D c v (ev Φ e)):SX τ W D c (.AugAssign (.Name x px) op v pos) (ex Φ N (.aug i op e)):=fun A env ρ P s o Q E' ao fo hc pr ho ht h=>aa ho fun sl hi ho=>aa ho fun xv hs ho=>aa ho fun yv hy ho=>aa ho fun w hw ho=>by
 rw[ke hs]at hi;revert h;refine jB ho fun h=>?_;refine byG fun gG kG=>?_;obtain⟨P1,pr1,s1⟩:=Pre.frz (av e) pr;obtain⟨cc,hsl⟩:=Cx.ix_spec (hc▸hx);refine kG ?_;refine esv (pr1.er i x cc _ hsl (Bf hi)) fun u0 va r0=>wpAny_AugAssign_Name (bf pr1 (aZ pr1 hsl) va ?_);refine hv A env _ P1 s yv _ E' ao hc pr1 hy fun u1 h1 tk1 K1 r1=>?_;obtain pr2:=pr1.step K1;exact pU G pr2.ok (s:={ s with heap:=h1,toks:=tk1 }) hw (r0.kx pr1.ok.pt K1) r1 fun u2 h2 tk2 K2 r2=>
  dc (s:=s) G (pr2.step K2) (s1.trans (Stp.kx G pr1 (K1.trans K2))) hsl r2 fun h3 tk3 pr3 s3=>h P1 h3 tk3 pr3 s3
theorem wZ(G:WF W){v:Expr}{pos:Pos}{e:E}(hv:SE W D c v (ev Φ e)):SX τ W D c (.Return (some v) pos) (ex Φ N (.ret e)):=fun A env ρ P s o Q E' ao fo hc pr ho ht h=>by
 refine mpi ho (fun w hw h=>?_) h;obtain⟨P1,pr1,s1⟩:=Pre.frz (av e) pr;exact wpAny_Return_some (hv A env _ P1 s w _ E' ao hc pr1 hw fun u1 h1 tk1 K1 r1=>h u1 P1 h1 tk1 (pr1.step K1) (s1.trans (Stp.kx G pr1 K1)) r1)
theorem CN(G:WF W){t:Expr}{a b:List Stmt}{pos:Pos}{tt:B}{xs ys:List S}(ht:SB W D c t (evb Φ tt))(ha:SXs τ W D c a (exs Φ N xs))(hb:SXs τ W D c b (exs Φ N ys)):SX τ W D c (.If t a b pos) (ex Φ N (.ite tt xs ys)):=fun A env ρ P s o Q E' ao fo hc pr ho htk h=>aa ho fun x hx ho=>by
 obtain⟨P1,pr1,s1⟩:=Pre.frz (gk tt) pr;refine wpAny_If (dL htk (ht A env _ P1 s x _ _ ao hc pr1 hx fun h1 tk1 K1 ht1=>?_))
 cases x
 ·exact hb A env _ P1 _ o _ E' ao fo hc (pr1.step K1) ho ht1 (h.at (s1.trans (Stp.kx G pr1 K1)))
 ·exact ha A env _ P1 _ o _ E' ao fo hc (pr1.step K1) ho ht1 (h.at (s1.trans (Stp.kx G pr1 K1)))
end
end
section
section
variable{W:Wp}{P:Addr->Prop}{env:Env}{ρ:Ro}{h h':Heap}
theorem Pre.mut(G:WF W)(pr:Pre W P env ρ h){i:Nat}{x:Str}{c:Bool}{sl0 sl:Sl}{a:Addr}(hx:(ac env.scope).slots[i]?=some (x,c))(hi:ρ[i]?=some sl0)(io:bk sl0)(va:aA W.T env h x (.ref a))(k:∀b o,b∉W.T->b≠a->h.get? b=some o->h'.get? b=some o)(ti:W.TI h')(ea:∃o,h'.get? a=some o)(hs:aA W.T env h' x (.ref a)->Hid W P a->(∀b o,P b->h.get? b=some o->P b/\h'.get? b=some o)->ESl W P env h' x sl):
  Pre W P env (ρ.set i sl) h'/\Stp W env P ρ h P (ρ.set i sl) h':=by
 have oa:aQ W env ρ h a:=⟨i,x,c,_,hx,hi,io,va⟩;obtain⟨hid,nma,_⟩:=cb pr oa;have kM:∀b o,aw env b->h.get? b=some o->h'.get? b=some o:=fun b o m e=>k b o (pr.hid b m).nt (fun q=>nma (q▸m)) e;have m:∀b o,P b->h.get? b=some o->P b/\h'.get? b=some o:=fun b o p e=>⟨p,k b o (pr.ok.pt b p) (fun q=>hid.np (q▸p)) e⟩;have hlt:i<ρ.length:=(cX.mp hi).1;have split':∀(j:Nat) (y:Str) (cj:Bool) (sj:Sl),(ac env.scope).slots[j]?=some (y,cj)->(ρ.set i sl)[j]?=some sj->(i=j/\y=x/\sj=sl)\/(i≠j/\ρ[j]?=some sj):=by
  intro j y cj sj hy hj;by_cases hij:i=j
  ·subst hij
   rw[hx]at hy;cases hy
   rw[jU hlt]at hj;exact .inl ⟨rfl,rfl,(al_0 hj).symm⟩
  ·rw[fz hij]at hj
   exact .inr ⟨hij,hj⟩
 have back:∀(j:Nat) (y:Str) (cj:Bool) (sj:Sl) (b:Addr),(ac env.scope).slots[j]?=some (y,cj)->ρ[j]?=some sj->bk sj->aA W.T env h' y (.ref b)->aA W.T env h y (.ref b):=by
  intro j y cj sj b hy hj oj vj;obtain⟨a1,w1,_⟩:=(pr.er j y cj sj hy hj).var oj;have:=(w1.keepM kM).det vj;rw[<-this];exact w1
 refine⟨⟨⟨fun b o n e=>k b o n (fun q=>by rw[q,hid.n0]at e;cases e) (pr.ok.kept b o n e),ti,fun b n e=>?_,pr.ok.pt⟩,pr.en.keepM kM,?_,by rw[gz];exact pr.len,pr.hid,pr.inj,pr.ncl,?_⟩,?_⟩
 ·refine pr.ok.new b n ?_
  cases q:h.get? b with
  |none=>rfl
  |some o=>
   by_cases z:b=a
   ·subst z;obtain⟨o',e'⟩:=ea;exact nn (Eq.trans (Eq.symm e) e')
   ·exact nn (Eq.trans (Eq.symm e) (k b o n z q))
 ·intro j y cj sj hy hj
  rcases split' j y cj sj hy hj with⟨rfl,rfl,rfl⟩ | ⟨hij,hj⟩
  ·exact hs (va.keepM kM) hid m
  ·obtain r:=pr.er j y cj sj hy hj
   have ne:∀b,aA W.T env h y (.ref b)->bk sj->b≠a:=fun b v o q=>by
    subst q;exact pr.dist i j _ _ _ _ _ _ _ hij hx hy hi hj io o va v
   cases sj with
   |unb=>trivial
   |val v=>obtain⟨u,f1,f2⟩:=r;exact⟨u,f1.keepM kM,f2.mono m⟩
   |own l2=>obtain⟨b,ws,n,f1,f2,f4,f5⟩:=r;exact⟨b,ws,n,f1.keepM kM,f2,k _ _ f2.nt (ne b f1 ⟨l2,.inl rfl⟩) f4,f5.mono m⟩
   |itr l2=>
    obtain⟨b,f1,f2,la,kk,ws,n,⟨o,ho,hc,hd⟩,q2,q3,q4⟩:=r;exact⟨b,f1.keepM kM,f2,la,kk,ws,n,⟨o,k _ _ f2.nt (ne b f1 ⟨l2,.inr rfl⟩) ho,hc,hd⟩,q2,(m _ _ q2 q3).2,q4.mono m⟩
 ·intro j k2 y z cj ck sj sk b hjk hy hz hj hk oj ok vj vk
  rcases split' j y cj sj hy hj with⟨rfl,rfl,rfl⟩ | ⟨hij,hj'⟩
  ·rcases split' k2 z ck sk hz hk with⟨rfl,rfl,rfl⟩ | ⟨hik,hk⟩
   ·exact hjk rfl
   ·have:=(va.keepM kM).det vj
    cases this
    exact pr.dist i k2 _ _ _ _ _ _ _ hik hx hz hi hk io ok va (back k2 z ck sk _ hz hk ok vk)
  ·rcases split' k2 z ck sk hz hk with⟨rfl,rfl,rfl⟩ | ⟨hik,hk⟩
   ·have:=(va.keepM kM).det vk
    cases this
    exact pr.dist i j _ _ _ _ _ _ _ hij hx hy hi hj' io oj va (back j y cj sj _ hy hj' oj vj)
   ·exact pr.dist j k2 y z cj ck sj sk b hjk hy hz hj' hk oj ok (back j y cj sj b hy hj' oj vj) (back k2 z ck sk b hz hk ok vk)
 ·refine⟨fun b o n m w e=>k b o n (fun q=>w (q▸oa)) e,fun b o e=>?_,fun U U p U=>p,fun U U p U U U U=>p,fun b w=>.inl ?_⟩
  ·by_cases z:b=a
   ·subst z;exact ea
   ·by_cases t:b∈W.T
    ·obtain⟨o',e',_⟩:=G.tx h' ti b t;exact⟨o',e'⟩
    ·exact⟨o,k b o t z e⟩
  ·obtain⟨j,y,cj,sj,h1,h2,h3,h4⟩:=w
   rcases split' j y cj sj h1 h2 with⟨rfl,rfl,rfl⟩ | ⟨hij,hj⟩
   ·cases(va.keepM kM).det h4
    exact oa
   ·exact cI pr kM ⟨j,y,cj,sj,h1,hj,h3,h4⟩
theorem Pre.mutL(G:WF W)(pr:Pre W P env ρ h){i:Nat}{x:Str}{c:Bool}{l l':List V}{a:Addr}{vs:Array Value}{n:Nat}(hx:(ac env.scope).slots[i]?=some (x,c))(hi:ρ[i]?=some (.own l))(va:aA W.T env h x (.ref a))(hl:IsL h a vs n)(f:Array Value->Array Value)(rs:Rps P h (f vs).toList l'):
  Pre W P env (ρ.set i (.own l')) (h.update a (Obj.mapSeq f))/\Stp W env P ρ h P (ρ.set i (.own l')) (h.update a (Obj.mapSeq f)):=by
 obtain sb:Heap.SameBut a h (h.update a (Obj.mapSeq f)):=Heap.SameBut.update ..;have k:∀b o,b≠a->h.get? b=some o->(h.update a (Obj.mapSeq f)).get? b=some o:=fun b o hb e=>(sb.2 b hb).trans e;obtain oa:aQ W env ρ h a:=⟨i,x,c,_,hx,hi,⟨l,.inl rfl⟩,va⟩;obtain hid:=(cb pr oa).1;refine pr.mut G hx hi ⟨l,.inl rfl⟩ va (fun b o U hb e=>k b o hb e) (dM G pr.ok.ti k hl hid.nt (by rintro⟨vs,q,t,e,_⟩;cases e)) ⟨_,IsL.update hl f⟩ fun va' hid m=>⟨a,_,_,va',hid,IsL.update hl f,rs.mono m⟩
end
section
variable{W:Wp}{tb:Tb}{Φ:Fun}{τ N D n:Nat}{c:Cx}
theorem gS{T:List Addr}{env:Env}{h:Heap}(en:fZ T env h):interactive env=false:=by
 unfold interactive;rw[en.kind];rfl
theorem qL{A:Around}{env:Env}{ρ:Ro}{P:Addr->Prop}{s:Shared}{E':Value->Shared->Prop}{Q:Value->Shared->Prop}(G:WF W)(pr:Pre W P env ρ s.heap){x:Str}{px ap pos:Pos}{m:Str}{id:String}{i:Nat}{args:List Expr}{l:List V}(hx:(ac env.scope).ix x=some i)(hd:(x==("__debug__" : Str))=false)(hi:ρ[i]?=some (.own l))(hl:(ap.endLine==pos.line)=true)(ha:decide (args.length<30)=true)(hp:(backTo pos (starEach args env)).any (·.1)=false)(sl:Slot "list" m id)(hty:typeOf (.builtin id)=pure (.type "method_descriptor"))(h:∀a vs n c,(ac env.scope).slots[i]?=some (x,c)->aA W.T env s.heap x (.ref a)->IsL s.heap a vs n->Rps P s.heap vs.toList l->Hid W P a->vs.size=l.length->wpAny W.M A (callWith pos (.builtin id) [.ref a] (backTo pos (starEach args env)) []) Q E' s):
  wpAny W.M A (eval (.Call (.Attribute (.Name x px) m ap) args [] pos) env) Q E' s:=by
 obtain⟨c,hs⟩:=Cx.ix_spec hx;refine eso (pr.er i x c _ hs hi) fun a vs n e1 e2 e4 e5=>?_;obtain few:((backTo pos (starEach args env)).all (fun x=>!x.1)&&(backToKw pos (keywordEach [] env)).all (fun x=>x.1.isSome)&&decide (args.length+([]:List Keyword).length+(if([]:List Keyword).isEmpty then 0 else 1)<30))=true:=by
  obtain h2:(backTo pos (starEach args env)).all (fun x=>!x.1)=true:=by
   rw[List.all_eq_not_any_not];simp only[Bool.not_not];rw[hp];rfl
  rw[h2];exact ha
 refine wpAny_Call_method rfl few hl PySem.F.plainAttrs_list sl hty (bh (bf pr (aZ pr hs) e1 ?_) hd);exact⟨e4.isList.typeIs,fun b q=>by cases q;exact⟨_,e4,rfl⟩,h a vs n c hs e1 e4 e5 e2 ((Array.length_toList ..).symm.trans e5.length)⟩
theorem CQ(G:WF W){x:Str}{px ap pos p2:Pos}{v:Expr}{i:Nat}{e:E}(hx:c.ix x=some i)(hd:(x==("__debug__" : Str))=false)(hl:(ap.endLine==pos.line)=true)(hst:∀rest env,starEach (v::rest) env=(false,eval v env)::starEach rest env)(hv:SE W D c v (ev Φ e)):
  SX τ W D c (.Expr (.Call (.Attribute (.Name x px) "append" ap) [v] [] pos) p2) (ex Φ N (.app i e)):=fun A env ρ P s o Q E' ao fo hc pr ho ht h=>aa ho fun w hw ho=>aa ho fun sl hli ho=>aa ho fun l e0 ho=>aO ho fun hz ho=>by
 obtain rfl:=al_0 ho;rw[sL e0]at hli;obtain⟨P1,pr1,s1⟩:=Pre.frz (av e) pr;refine wpAny_Expr (qL G pr1 (by rw[hc];exact hx) hd hli hl rfl (by rw[hst];rfl) PySem.F.slot_list_append (by rfl) fun a vs n cc hsl va hL rs hid e1=>?_) (gS pr.en) rfl;rw[hst];refine PySem.P.append_list (hv A env _ P1 s w _ E' ao hc pr1 hw fun u h1 tk1 K1 r1=>?_);obtain hL1:=K1.keep _ _ hid.nt hL;obtain pr3:=((pr1.step K1).mutL G hsl hli (va.keep K1.keep) hL1 (fun xs=>xs.push u) (by rw[Array.toList_push];exact(rs.kx pr1.ok.pt K1).append (Rps.cons r1 Rps.nil))).1;obtain s3:=((pr1.step K1).mutL G hsl hli (va.keep K1.keep) hL1 (fun xs=>xs.push u) (by rw[Array.toList_push];exact(rs.kx pr1.ok.pt K1).append (Rps.cons r1 Rps.nil))).2;exact⟨vs,n,by rw[e1];exact ai (bP hz) (by decide),hL1,h P1 _ tk1 pr3 ((s1.trans (Stp.kx G pr1 K1)).trans s3)⟩
theorem Ac(G:WF W){x:Str}{px ap pos p2:Pos}{i:Nat}(hx:c.ix x=some i)(hd:(x==("__debug__" : Str))=false)(hl:(ap.endLine==pos.line)=true):
  SX τ W D c (.Expr (.Call (.Attribute (.Name x px) "reverse" ap) [] [] pos) p2) (ex Φ N (.revs i)):=fun A env ρ P s o Q E' ao fo hc pr ho ht h=>aa ho fun sl hli ho=>aa ho fun l e0 ho=>aO ho fun hz ho=>by
 obtain rfl:=al_0 ho;rw[sL e0]at hli;refine wpAny_Expr (qL G pr (by rw[hc];exact hx) hd hli hl rfl rfl PySem.F.slot_list_reverse PySem.F.type_list_reverse fun a vs n cc hsl va hL rs hid e1=>?_) (gS pr.en) rfl;obtain pr3:=(pr.mutL G hsl hli va hL (fun xs=>xs.reverse) (by rw[Array.toList_reverse];exact rs.reverse)).1;obtain s3:=(pr.mutL G hsl hli va hL (fun xs=>xs.reverse) (by rw[Array.toList_reverse];exact rs.reverse)).2;exact PySem.P.reverse_list hL (h P _ s.toks pr3 s3) (by rw[e1];exact ai (bP hz) (by decide))
end
end
section
theorem E4{i:Int}(h0:0<=i)(hi:i<1048576):Builtin.List.listFitsIndex i=true:=by
 unfold Builtin.List.listFitsIndex;simp;lia
theorem gJ{prog:Program}{w:World}{A:Around}{E:Value->Shared->Prop}{s:Shared}{l:Addr}{items:Array Value}{n:Nat}{k:Int}{t:Tok}{v:Value}{Q:Unit->Shared->Prop}(hl:IsL s.heap l items n)(h0:0<=k)(hk:k<items.size)(hs:k<1048576)(hQ:Q () { s with heap:=s.heap.update l (Obj.mapSeq (·.setIfInBounds k.toNat v)) }):wpAny (model prog w) A (setItem (.ref l) (.int k t) v) Q E s:=by
 obtain hlL:=hl.isList;unfold setItem;refine wpAny_holding ?_;refine aj (wpAny_sequenceKey hlL.typeIs (by decide) ?_);refine aj (wpAny_callSpecial?_slot (name:=Str.ofString "__setitem__") hlL.typeIs slot_list_setitem
  (wpAny_call_entry slot_list_setitem hlL.typeIs entry_list_setitem ?_ (args_list_setitem _ _ _)))
 show wpAny _ _ (Builtin.List.listSubscript? (.int k t)>>=_) _ _ s;refine aj (wpAny_listSubscript_int (E4 h0 hs) ?_);obtain⟨j,rfl⟩:=lh h0;obtain hj:j<items.size:=by lia
 obtain hx':items[j]?=some items[j]:=Array.getElem?_eq_getElem hj;refine aj (aj (wpAny_seqItemAt hl rfl (az ?_)));rw[hx'];refine aj (wpAny_setSeqItemAt hl rfl ?_)
 first
  |exact aj (az (az ⟨.none,rfl,az hQ⟩))
  |exact az ⟨.none,rfl,az hQ⟩
section
variable{W:Wp}{tb:Tb}{Φ:Fun}{τ N D n:Nat}{c:Cx}
theorem Rps.set{P:Addr->Prop}{h:Heap}{u:Value}{v:V}(r:Rp P h u v){us:List Value}{l:List V}(rs:Rps P h us l):∀j,Rps P h (us.set j u) (l.set j v):=
 rs.rec' (Mp:=fun us l=>∀j,Rps P h (us.set j u) (l.set j v)) (fun U=>Rps.nil) fun U U U U a b ih j=>by
  cases j with
  |zero=>exact Rps.cons r b
  |succ j=>exact Rps.cons a (ih j)
theorem wm{op:Operator}{l l':List V}{k:Int}{y:V}(h:qX op l k y=some l'):0<=k/\l.length<=szLine/\Ex2 fun x v=>dD (l[k.toNat]?=some x) (kz op x y=some v) (l'=l.set k.toNat v):=
 aO h fun g h=>aa h fun x hx h=>(by obtain⟨v,hv,e⟩:=bj.mp h;exact⟨g.1,g.2,x,v,hx,hv,e.symm⟩)
theorem Ae(G:WF W){x:Str}{px sp pos:Pos}{op:Operator}{ie v:Expr}{i:Nat}{j e:E}(hx:c.ix x=some i)(hd:(x==("__debug__" : Str))=false)(pl:rO ie)(hj:SE W D c ie (ev Φ j))(hv:SE W D c v (ev Φ e)):
  SX τ W D c (.AugAssign (.Subscript (.Name x px) ie sp) op v pos) (ex Φ N (.isub i j op e)):=fun A env ρ P s o Q E' ao fo hc pr ho ht h=>aa ho fun kv hk ho=>aa ho fun k ek ho=>aa ho fun sl hli ho=>aa ho fun l e0 ho=>aa ho fun y hy ho=>by
 revert h;refine mpi ho fun l' hl' h=>?_;rw[sL e0]at hli;rw[dN ek]at hk;refine byG fun gG kG=>?_;obtain⟨h0,hz,old,w,hold,hw,rfl⟩:=wm hl';obtain⟨P1,pr1,s1⟩:=Pre.frz (av j++av e) pr;obtain⟨cc,hsl⟩:=Cx.ix_spec (hc▸hx);refine kG ?_;refine eso (pr1.er i x cc _ hsl hli) fun a vs n va hid hL rs=>?_;refine wpAny_AugAssign_Subscript_any (bh (bf pr1 (aZ pr1 hsl) va ?_) hd) pl.aug;refine hj A env _ P1 s _ _ E' ao hc pr1 hk fun u1 h1 tk1 K1 r1=>r1.i' fun t=>?_;obtain pr2:=pr1.step K1;obtain hL1:IsL h1 a vs n:=K1.keep _ _ hid.nt hL;obtain rs1:=rs.kx pr1.ok.pt K1;refine byG fun gG kG=>?_;obtain⟨u0,hu0,r0⟩:=rs1.get hold;refine kG ?_;obtain e1:=rs.length;rw[Array.length_toList]at e1;obtain hlt:=(cX.mp hold).1;have hk2:k<vs.size:=by lia
 have hk3:k<1048576:=by have hs:szLine=1048576:=rfl;lia
 refine wpAny_getItem_list (s:={ s with heap:=h1,toks:=tk1 }) hL1.isList h0 (by lia) (by rw[<-lm];exact hu0) ?_;refine hv A env _ P1 _ y _ E' ao hc pr2 hy fun u2 h2 tk2 K2 r2=>?_;obtain pr3:=pr2.step K2;refine pU G pr3.ok (s:={ s with heap:=h2,toks:=tk2 }) hw (r0.kx pr1.ok.pt K2) r2 fun u3 h3 tk3 K3 r3=>?_;obtain K13:=K2.trans K3;obtain hL3:IsL h3 a vs n:=K13.keep _ _ hid.nt hL1;refine gJ (s:={ s with heap:=h3,toks:=tk3 }) hL3 h0 hk2 hk3 ?_;obtain pr4:=((pr3.step K3).mutL G hsl hli (va.keep (K1.trans K13).keep) hL3 (fun xs=>xs.setIfInBounds k.toNat u3) (by rw[Array.toList_setIfInBounds];exact Rps.set r3 (rs1.kx pr1.ok.pt K13) k.toNat)).1;obtain s4:=((pr3.step K3).mutL G hsl hli (va.keep (K1.trans K13).keep) hL3 (fun xs=>xs.setIfInBounds k.toNat u3) (by rw[Array.toList_setIfInBounds];exact Rps.set r3 (rs1.kx pr1.ok.pt K13) k.toNat)).2;exact h P1 _ tk3 pr4 (((s1.trans (Stp.kx G pr1 K1)).trans (Stp.kx G pr2 K13)).trans s4)
end
end
section
theorem fI:∀(n:Nat) (l:List Str),l.length<=n->l.eraseDups.length<=l.length/\(l.eraseDups.length=l.length->l.Nodup):=by
 intro n
 induction n with
 |zero=>
  intro l h
  cases l with
  |nil=>exact⟨bS _,fun U=>List.nodup_nil⟩
  |cons _ _=>exact absurd h (Nat.not_succ_le_zero _)
 |succ n fI=>
  intro l h
  cases l with
  |nil=>exact⟨bS _,fun U=>List.nodup_nil⟩
  |cons a l=>
   rw[List.eraseDups_cons];obtain hf:(l.filter fun b=>!b==a).length<=l.length:=List.length_filter_le _ _;obtain hn:(l.filter fun b=>!b==a).length<=n:=by simp at h;lia
   obtain⟨h1,h2⟩:=fI (l.filter fun b=>!b==a) hn;refine⟨by simp only[List.length_cons];lia,fun e=>?_⟩;simp only[List.length_cons]at e;obtain e2:(l.filter fun b=>!b==a).length=l.length:=by lia
   obtain e3:=List.length_filter_eq_length_iff.mp e2;obtain e4:l.filter (fun b=>!b==a)=l:=List.filter_eq_self.mpr e3;rw[e4]at h2;refine fy.mpr ⟨fun hm=>?_,h2 (by rw[e4]at e;lia)⟩;have:=e3 a hm;simp at this
theorem Fq{α:Type}{P:α->Prop}{c:Prop}[Decidable c]{x y:α}(hx:c->P x)(hy:¬c->P y):P (ite c x y):=
 dite c (fun h=>(af h).symm▸hx h) fun h=>(ag h).symm▸hy h
noncomputable def SwP(es:List Expr)(env:Env)(x:Sem (Option (List Str))):Prop:=x=pure none\/∃names:List Str,x=pure (some names)/\names.length=es.length/\names.Nodup /\
 es.filterMap (fun | .Name id pos=>if env.kindOf id==some .local&&pos.line==((es.head?.map (·.pos.line)).getD 0)then some id else none | _=>none)=names
theorem pw{es:List Expr}{env:Env}{c:Prop}[Decidable c]{y:Sem (Option (List Str))}(hy:¬c->SwP es env y):SwP es env (ite c (pure none) y):=Fq (fun U=>.inl rfl) hy
theorem oM{a b c d:Nat}(h:¬(a != b||c != d)=true):a=b/\c=d:=by simpa using h
theorem Ah{es:List Expr}{k:Nat}{tp:Pos}{v:Expr}{env:Env}(pl:rO v)(hv:nw v=false):SwP es env (swappedStores [.Tuple es k tp] v env):=by
 cases ht:mf v with
 |none=>exact .inl (pl.swst ht es k tp env)
 |some vs=>
  obtain⟨k2,p2,rfl⟩:=pf ht;obtain hv:vs.all (constantsAlone 8)=false:=hv;refine pw fun U=>pw fun U=>pw fun h1=>pw fun U=>Fq (P:=SwP es env) (fun h=>nomatch hv.symm.trans h) fun U=>.inr ⟨_,rfl,(oM h1).1,(fI _ _ (bS _)).2 (oM h1).2,rfl⟩
theorem eX:∀(q:List (Nat×V)) (ρ:Ro) (i:Nat) (v:V),(q.map (·.1)).Nodup->(i,v)∈q->i<ρ.length->(q.foldl (fun(r:Ro) (q:Nat×V)=>r.set q.1 (.val q.2)) ρ)[i]?=some (.val v):=by
 intro q
 induction q with
 |nil=>
  intro _ _ _ _ h _;exact nomatch h
 |cons p q eX=>
  intro ρ i v nd h hl;rw[List.foldl_cons];simp only[bc,fy]at nd;rcases aM.mp h with e | h
  ·subst e
   rw[cq _ _ _ nd.1,jU hl]
  ·exact eX _ i v nd.2 h (by rw[gz];exact hl)
theorem o9(q:List (Nat×V))(ρ:Ro)(nd:(q.map (·.1)).Nodup)(hl:∀p∈q,p.1<ρ.length):
  q.reverse.foldl (fun(r:Ro) (q:Nat×V)=>r.set q.1 (.val q.2)) ρ=q.foldl (fun(r:Ro) (q:Nat×V)=>r.set q.1 (.val q.2)) ρ:=by
 obtain nd':(q.reverse.map (·.1)).Nodup:=by rw[List.map_reverse];exact List.pairwise_reverse.mpr (nd.imp fun h=>h.symm)
 refine List.ext_getElem? fun i=>?_;by_cases h:i∈q.map (·.1)
 ·obtain⟨⟨j,v⟩,hm,rfl⟩:=eH.mp h
  rw[eX _ _ _ v nd hm (hl _ hm),eX _ _ _ v nd' (List.mem_reverse.mpr hm) (hl _ hm)]
 ·rw[cq _ _ _ h,cq _ _ _ (by rw[List.map_reverse,List.mem_reverse];exact h)]
section
variable{W:Wp}{A:Around}{E':Value->Shared->Prop}{s:Shared}{P:Addr->Prop}{env:Env}{ρ:Ro}
theorem qk(G:WF W){names:List Str}{is:List Nat}(e:Al (ac env.scope).ix names is):∀{vs:List Value}{l:List V}{ρ:Ro}{s:Shared}{Q:Unit->Shared->Prop},Pre W P env ρ s.heap->Rps P s.heap vs l->is.length=l.length ->
  (∀h' tk,Pre W P env ((is.zip l).foldl (fun(r:Ro) (q:Nat×V)=>r.set q.1 (.val q.2)) ρ) h'->Stp W env P ρ s.heap P ((is.zip l).foldl (fun(r:Ro) (q:Nat×V)=>r.set q.1 (.val q.2)) ρ) h'->Q () { s with heap:=h',toks:=tk }) ->
  wpAny W.M A (assignInOrder (names.map fun n=>bindName env n) vs) Q E' s:=by
 induction e with
 |nil=>
  intro vs l ρ s Q pr r hl h;obtain rfl:l=[]:=List.eq_nil_of_length_eq_zero hl.symm;exact r.n' (wpAny_assignInOrder_none (h s.heap s.toks pr Stp.refl))
 |cons hi _ ih=>
  intro vs l ρ s Q pr r hl h
  cases l with
  |nil=>cases hl
  |cons v l=>
   refine r.c' fun u us ru rr=>?_;obtain⟨c,hs⟩:=Cx.ix_spec hi;refine wpAny_assignInOrder_more (wpAny_bindName (bn G pr hs fun a h' tk st=>?_));obtain m:∀b o,P b->s.heap.get? b=some o->P b/\h'.get? b=some o:=fun b o p e=>⟨p,(st.same.2 b fun q=>(pr.hid a st.mutE).np (q▸p)).trans e⟩;exact ih (s:={ s with heap:=h',toks:=tk }) (pr.store (sl:=.val v) hs st ⟨u,st.at',ru.mono m⟩ fun o=>bF o) (rr.mono m) (Nat.succ.inj hl)
    fun h'' tk' pr'' s2=>h h'' tk' pr'' ((st.stp pr Stp.refl hs fun o=>bF o).trans s2)
end
section
variable{W:Wp}{tb:Tb}{Φ:Fun}{τ N D n:Nat}{c:Cx}
noncomputable abbrev qz(env:Env)(line:Nat):Expr->Option Str:=fun | .Name id pos=>if env.kindOf id==some .local&&pos.line==line then some id else none | _=>none
theorem x9{env:Env}{line:Nat}{x:Expr}{i:Nat}{w:Str}(h:qz env line x=some w)(hi:gQ c x=some i):c.ix w=some i:=by
 obtain⟨id,p,rfl,hi⟩:=kt hi;exact aO h fun U h=>(al_0 h:id=w)▸hi
theorem y7{env:Env}{es:List Expr}{is:List Nat}(line:Nat)(e:Al (gQ c) es is)(hl:(es.filterMap (qz env line)).length=es.length):Al c.ix (es.filterMap (qz env line)) is:=by
 induction e with
 |nil=>exact .nil
 |@cons x i es is hi _ ih=>
  rw[List.filterMap_cons]at hl ⊢
  cases hw:qz env line x with
  |none=>
   rw[hw]at hl;exact absurd (List.length_filterMap_le (qz env line) es) (by rw[hl];exact Nat.not_succ_le_self _)
  |some w=>
   rw[hw]at hl;exact .cons (x9 hw hi) (ih (Nat.succ.inj hl))
theorem ED{α β:Type}{f:α->Option β}{as:List α}{bs:List β}(e:Al f as bs):∀j∈bs,∃y∈as,f y=some j:=by
 induction e with
 |nil=>exact fun j hj=>nomatch hj
 |cons h _ ih=>exact fun j hj=>(aM.mp hj).elim (fun q=>q▸⟨_,.head _,h⟩) fun q=>(by obtain⟨y,hy,e⟩:=ih j q;exact⟨y,.tail _ hy,e⟩)
theorem DI{c:Cx}{names:List Str}{is:List Nat}(nd:names.Nodup)(e:Al c.ix names is):is.Nodup:=by
 induction e with
 |nil=>exact List.nodup_nil
 |cons hi t ih=>
  obtain⟨n1,n2⟩:=fy.mp nd;refine fy.mpr ⟨fun hm=>?_,ih n2⟩;obtain⟨y,hy,ey⟩:=ED t _ hm;obtain⟨b1,s1⟩:=Cx.ix_spec hi;obtain⟨b2,s2⟩:=Cx.ix_spec ey;rw[s1]at s2
  cases s2
  exact n1 hy
theorem EE{α β:Type}{f:α->Option β}{as as':List α}{bs bs':List β}(e:Al f as bs)(e':Al f as' bs'):Al f (as++as') (bs++bs'):=by
 induction e with
 |nil=>exact e'
 |cons h _ ih=>exact .cons h ih
theorem EC{α β:Type}{f:α->Option β}{as:List α}{bs:List β}(e:Al f as bs):Al f as.reverse bs.reverse:=by
 induction e with
 |nil=>exact .nil
 |cons h _ ih=>
  rw[List.reverse_cons,List.reverse_cons];exact EE ih (.cons h .nil)
theorem p8{α β:Type}:∀{l:List α}{r:List β},l.length=r.length->l.reverse.zip r.reverse=(l.zip r).reverse:=by
 intro l
 induction l with
 |nil=>
  intro zv1 _
  match zv1 with
  |[]=>
   exact rfl
 |cons x l p8=>
  intro zv1 e
  match zv1 with
  |y::r=>
   obtain e':l.length=r.length:=by simpa using e
   rw[List.reverse_cons,List.reverse_cons,List.zip_append (by simp[e']),p8 e',List.zip_cons_cons];simp
theorem CM(G:WF W){es:List Expr}{k:Nat}{tp pos:Pos}{v:Expr}{is:List Nat}{e:E}(hi:es.mapM (gQ c)=some is)(pl:rO v)(hct:nw v=false)(hv:SE W D c v (ev Φ e)):
  SX τ W D c (.Assign [.Tuple es k tp] v pos) (ex Φ N (.unp is e)):=fun A env ρ P s o Q E' ao fo hc pr ho ht h=>aa ho fun v0 hl ho=>aa ho fun l et ho=>by
 revert h;refine mpi ho fun ρ' hb h=>?_;rw[tY et]at hl;obtain⟨P1,pr1,s1⟩:=Pre.frz (av e) pr;obtain hs:=pl.sole es k tp pos.line env;obtain al:=eR hi;rcases Ah (es:=es) (k:=k) (tp:=tp) (env:=env) pl hct with hw | ⟨names,hw,hlen,hnd,hnm⟩
 ·refine Assign_Tuple (hv A env _ P1 s _ _ E' ao hc pr1 hl fun u h1 tk1 K1 r1=>?_) hs hw
  refine jo G ao.hd (s:={ s with heap:=h1,toks:=tk1 }) (pr1.step K1) (p:=.many is) (by rw[hc];exact aq (Option.map Pat.many) hi) r1 hb fun h2 tk2 U pr2 s2=>?_;exact h P1 h2 tk2 pr2 ((s1.trans (Stp.kx G pr1 K1)).trans s2)
 ·refine Assign_Tuple_swapped (hv A env _ P1 s _ _ E' ao hc pr1 hl fun u h1 tk1 K1 r1=>r1.t' fun a vs nn pa ha rs=>?_) hs hw
  refine aO hb fun hcd hb=>?_;obtain rfl:=al_0 hb;obtain e1:=rs.length;rw[Array.length_toList]at e1;subst hnm;have hni:=y7 (env:=env) _ al hlen;obtain hil:is.length=es.length:=(fS (env:=env) (eR hi)).2.2;rw[show(es.filterMap _).length=vs.size by rw[hlen,<-hil,hcd.1,e1]];refine wpAny_unpackItems_tuple ao.hd (s:={ s with heap:=h1,toks:=tk1 }) ⟨_,ha,rfl,nn,rfl⟩ fun h2 hx=>?_;have K2:KX W h1 h2:=KX.of_all G K1.ti fun b o e=>hx b o (Nat.ne_of_lt (Heap.lt_size e)) e;rw[<-hc]at hni;refine qk G (EC hni) (s:={ s with heap:=h2,toks:=tk1 }) (l:=l.reverse) ((pr1.step K1).step K2) (rs.kx pr1.ok.pt K2).reverse (by simp[hcd.1]) fun h3 tk3 pr3 s3=>?_;rw[p8 hcd.1,o9 _ _ (by rw[List.map_fst_zip (Nat.le_of_eq hcd.1)];exact DI hnd hni) (fun p hp=>by
   simpa using List.all_eq_true.mp hcd.2 p.1 (List.of_mem_zip (a:=p.1) (b:=p.2) hp).1)]at pr3 s3
  exact h P1 h3 tk3 pr3 ((s1.trans (Stp.kx G pr1 (K1.trans K2))).trans s3)
end
end
section
section
variable{W:Wp}{tb:Tb}{Φ:Fun}{τ N D n:Nat}{c:Cx}
theorem Stp.outX{env:Env}{P Pk:Addr->Prop}{ρ ρk:Ro}{h hk h':Heap}{X:Addr->Prop}(st:Stp W env P ρ h Pk ρk hk)(pr:Pre W Pk env ρk hk)(k:∀b o,¬X b->hk.get? b=some o->h'.get? b=some o)(xn:∀b,X b->h.get? b=none)(xm:∀b,X b->¬aw env b):
  Stp W env P ρ h Pk ρk h':=by
 refine⟨fun b o n m w e=>k b o (fun x=>ak (xn b x) e) (st.keep b o n m w e),fun b o e=>?_,st.pp,st.pn,fun b w=>?_⟩
 ·obtain⟨o',e'⟩:=st.ex b o e
  exact⟨o',k b o' (fun x=>ak (xn b x) e) e'⟩
 ·exact st.own _ (cI pr (fun b o m e=>k b o (fun x=>xm b x m) e) w)
theorem yT{α β:Type}{M:Model}{A:Around}{s:Shared}{t:Sem α}{k:α->Sem β}{Q:β->Shared->Prop}{E:Value->Shared->Prop}(hn:τ<=s.toks)(h:wpAny M A t (fun x s₁=>wpAny M A (k x) (fun b s₂=>τ<=s₂.toks->Q b s₂) E s₁) E s):
  wpAny M A t (fun x s₁=>wpAny M A (k x) Q E s₁) E s:=
 dL hn (wpAny_mono h (fun x s₁ h₁ ht=>dL ht (wpAny_mono h₁ (fun U U q=>q) fun U U e U=>e)) fun U U e U=>e)
inductive FZ(τ:Nat)(W:Wp)(env:Env)(P:Addr->Prop)(ρ:Ro)(s:Shared)(f:Nat->Ro->Option Out)(o:Out):Nat->Shared->Prop
 |mk (n:Nat) (ρk:Ro) (Pk:Addr->Prop) (hk:Heap) (tk:Nat) (pr:Pre W Pk env ρk hk) (st:Stp W env P ρ s.heap Pk ρk hk) (hl:f n ρk=some o) (htk:τ<=tk):FZ τ W env P ρ s f o n { s with heap:=hk,toks:=tk }
theorem Ab(G:WF W){t:Expr}{b:List Stmt}{pos:Pos}{tt:B}{xs:List S}(ht:SB W D c t (evb Φ tt))(hb:SXs τ W D c b (exs Φ N xs)):SX τ W D c (.While t b [] pos) (ex Φ N (.whil tt xs)):=by
 intro A env ρ P s o Q E' ao fo hc pr ho htk h;obtain⟨P1,pr1,s1⟩:=Pre.frz (gk tt) pr;refine wpAny_While (codeAny_whileLoop (FZ τ W env P ρ s (qU (fun ρ=>evb Φ tt ρ) (fun ρ=>exs Φ N xs ρ)) o) ?_ N (.mk N _ P1 s.heap s.toks pr1 s1 ho htk));intro n s' iv;generalize (notedBy (model W.prog W.w) A env fun e s'=>_)=E1;obtain⟨ρk,Pk,hk,tk,prk,sk,hl,ht0⟩:=iv
 cases n with
 |zero=>exact nn0 hl
 |succ n=>
  refine aa hl fun tv hf hl=>dL (s:={ s with heap:=hk,toks:=tk }) ht0 (ht A env ρk Pk _ tv _ _ ao hc prk hf fun h1 tk1 K1 ht1=>?_);obtain prk1:=prk.step K1;have sk1:=sk.trans (Stp.kx G prk K1)
  cases tv with
  |false=>
   obtain rfl:Out.nxt ρk=o:=al_0 hl;exact eG (h Pk h1 tk1 prk1 sk1)
  |true=>
   refine aa hl fun q hx hl=>dL (s:={ s with heap:=h1,toks:=tk1 }) ht1 (hb A env ρk Pk _ q _ _ ao fo hc prk1 hx ht1 ?_)
   cases q with
   |nxt ρ'=>exact fun P' h2 tk2 pr2 s2 ht2=>⟨n,dr n,.mk n ρ' P' h2 tk2 pr2 (sk1.trans s2) hl ht2⟩
   |ret v ρ'=>obtain rfl:Out.ret v ρ'=o:=al_0 hl;exact fun u P' h2 tk2 pr2 s2 r U=>h u P' h2 tk2 pr2 (sk1.trans s2) r
   |brk ρ'=>obtain rfl:Out.nxt ρ'=o:=al_0 hl;exact fun P' h2 tk2 pr2 s2 U=>h P' h2 tk2 pr2 (sk1.trans s2)
inductive G7(τ:Nat)(W:Wp)(env:Env)(P:Addr->Prop)(ρ:Ro)(s:Shared)(St:Nat->Heap->Prop)(f:List V->Ro->Option Out)(items:List V)(B X:Addr->Prop)(o:Out):Nat->Shared->Prop
 |mk (k:Nat) (ρk:Ro) (Pk:Addr->Prop) (hk:Heap) (tk:Nat) (le:k<=items.length) (st:St k hk) (pr:Pre W Pk env ρk hk) (sk:Stp W env P ρ s.heap Pk ρk hk) (hl:f (items.drop k) ρk=some o)
   (hB:∀b,B b->Pk b/\∃o,hk.get? b=some o) (hX:∀b,X b->¬Pk b/\¬aQ W env ρk hk b) (htk:τ<=tk):G7 τ W env P ρ s St f items B X o (items.length-k) { s with heap:=hk,toks:=tk }
theorem Af(G:WF W){t it:Expr}{b:List Stmt}{pos:Pos}{p:Pat}{ii:It}{xs:List S}{Tg:Expr->Prop}(hp:vZ c t=some p)(tg:Tg t)(hi:SI W D c it Tg (eu Φ ii))(hb:SXs τ W D c b (exs Φ N xs)):
  SX τ W D c (.For t it b [] pos) (ex Φ N (.forr p ii xs)):=by
 intro A env ρ P s o Q E' ao fo hc pr ho htk h;refine aa ho fun items hit ho=>?_;obtain⟨P1,pr1,s1⟩:=Pre.frz (sF ii) pr;refine wpAny_For (yT htk (hi.2 A env _ P1 s items _ _ ao hc pr1 hit ?_)) (hi.1 env);intro hm tkm Km I X St h1 tk1 K1 itok st hX1;dsimp only at K1 itok hX1 ⊢;intro ht1;have prm:=pr1.step Km;have sm:=s1.trans (Stp.kx G pr1 Km);obtain⟨prx,sx⟩:=Pre.less (A:=A) G prm K1 hX1;have hXP:∀b,X b->P1 b:=fun b x=>prm.ok.fresh G (hX1 b x).1;have xT:∀b,X b->b∉W.T:=fun b x=>prm.ok.pt b (hXP b x);have xM:∀b,X b->¬aw env b:=fun b x m=>(prm.hid b m).np (hXP b x);have x0:∀b,X b->W.h0.get? b=none:=fun b x=>eW G prm.ok (hX1 b x).1;have xs0:∀b,X b->s.heap.get? b=none:=fun b x=>by
  cases e:s.heap.get? b with
  |none=>rfl
  |some o=>obtain⟨o',e'⟩:=sm.ex b o e;exact ak (hX1 b x).1 e'
 refine codeAny_forLoop_any (G7 τ W env P ρ s St (fj p fun ρ=>exs Φ N xs ρ) items (fK P1 hm) X o) ?_ items.length
  (.mk 0 _ _ h1 tk1 (cO _) st prx (sm.trans sx) ho (fun b ⟨p,o,e⟩=>⟨⟨p,fun x=>ak (hX1 b x).1 e⟩,o,K1.keep b o (prm.ok.pt b p) e⟩) (fun b x=>⟨fun q=>q.2 x,fun w=>?_⟩) ht1)
 ·intro m s' iv
  generalize (notedBy (model W.prog W.w) A env fun e s'=>_)=E1;obtain⟨k,ρk,Pk,hk,tk,hle,stk,prk,sk,hl,hBk,hXk,ht0⟩:=iv;refine dL (s:={ s with heap:=hk,toks:=tk }) ht0 ?_;rcases Nat.lt_or_ge k items.length with hlt | hge
  ·have hx:items[k]?=some items[k]:=cE hlt
   rw[List.drop_eq_getElem_cons hlt]at hl;generalize items[k]=x at hx hl;refine aa hl fun ρ1 hbp hl=>aa hl fun q hq hl=>?_;refine itok.next Pk k x t _ _ _ (fun b q=>(hBk b q).1) (fun b q=>(hXk b q).1) tg hx stk prk.ok fun u s₁ hu1 hts=>dL hts (hu1 _ _ fun h2 tk2 k2 ti2 ru st2 ht2=>?_);have pr2:Pre W Pk env ρk h2:=prk.out (Z:=X) (fun b o U q e=>k2 b o q e) ti2 fun b q=>⟨(hXk b q).1,xM b q,(hXk b q).2,x0 b q,itok.here _ _ _ st2 q⟩;have kM:∀b o,aw env b->hk.get? b=some o->h2.get? b=some o:=fun b o m e=>k2 b o (fun x=>xM b x m) e;refine dL (s:={ s with heap:=h2,toks:=tk2 }) ht2 (jo G ao.hd (s:={ s with heap:=h2,toks:=tk2 }) pr2 (by rw[hc];exact hp) ru hbp fun h3 tk3 k3 pr3 s3 ht3=>?_);have st3:St (k+1) h3:=itok.frame _ _ _ st2 fun b o hb e=>k3 b o (fun q=>hb.elim (fun hb=>xM b hb (jx q)) fun hb=>(pr2.hid b (jx q)).np (hBk b hb).1) e;have sk3:=(sk.outX prk k2 xs0 xM).trans s3;have hX3:∀b,X b->¬aQ W env ρ1 h3 b:=fun b x w=>(s3.own b w).elim (fun q=>(hXk b x).2 (cI prk kM q)) fun q=>by
    obtain⟨o,e⟩:=itok.here _ _ _ st2 x;exact ak q e
   obtain hB3:∀b,fK P1 hm b->Pk b/\∃o,h3.get? b=some o:=fun b q=>by
    obtain⟨p,o,e⟩:=hBk b q;exact⟨p,s3.ex b o (k2 b o (fun x=>(hXk b x).1 p) e)⟩
   refine dL (s:={ s with heap:=h3,toks:=tk3 }) ht3 (hb A env ρ1 Pk _ q _ _ ao fo hc pr3 hq ht3 ?_)
   cases q with
   |nxt ρ'=>
    intro P' h4 tk4 pr4 s4 ht4;refine⟨_,Nat.sub_lt_sub_left hlt (dr k),.mk (k+1) ρ' P' h4 tk4 hlt ?_ pr4 (sk3.trans s4) hl (fun b q=>?_) (fun b x=>?_) ht4⟩
    ·refine itok.frame _ _ _ st3 fun b o hb e=>hb.elim (fun hb=>s4.keep b o (xT b hb) (xM b hb) (hX3 b hb) e) fun hb=>?_
     have pb:=(hBk b hb).1;exact s4.keep b o (pr3.ok.pt b pb) (fun m=>(pr3.hid b m).np pb) (fun w=>(cb pr3 w).1.np pb) e
    ·obtain⟨pb,o,e⟩:=hB3 b q
     exact⟨s4.pp b o pb e,s4.ex b o e⟩
    ·obtain⟨o,e⟩:=itok.here _ _ _ st3 x
     exact⟨s4.pn b o (hXk b x).1 (xT b x) (xM b x) (hX3 b x) e,fun w=>(s4.own b w).elim (hX3 b x) fun q=>ak q e⟩
   |ret v ρ'=>obtain rfl:Out.ret v ρ'=o:=al_0 hl;exact fun u P' h4 tk4 pr4 s4 r U=>h u P' h4 tk4 pr4 (sk3.trans s4) r
   |brk ρ'=>obtain rfl:Out.nxt ρ'=o:=al_0 hl;exact fun P' h4 tk4 pr4 s4 U=>h P' h4 tk4 pr4 (sk3.trans s4)
  ·obtain rfl:=Nat.le_antisymm hle hge
   rw[List.drop_length]at hl;obtain rfl:Out.nxt ρk=o:=al_0 hl;refine itok.done _ _ _ stk prk.ok.ti fun h2 tk2 k2 ti2 U=>?_;obtain kM:∀b o,aw env b->hk.get? b=some o->h2.get? b=some o:=fun b o m e=>k2 b o (fun x=>xM b x m) e;have st2:=sk.outX prk k2 xs0 xM;refine eG (h (fun b=>Pk b\/X b) h2 tk2 ?_ ⟨st2.keep,st2.ex,fun b o p e=>.inl (st2.pp b o p e),fun b o p n m w e q=>q.elim (st2.pn b o p n m w e) fun x=>ak (xs0 b x) e,st2.own⟩);refine prk.stepG kM (fun b o w e=>k2 b o (fun x=>(hXk b x).2 w) e) (fun b o p e=>⟨.inl p,k2 b o (fun x=>(hXk b x).1 p) e⟩) (fun b hb x=>⟨fun q=>q.elim x.np fun q=>hb.elim (xM b q) (hXk b q).2,x.nt,x.n0⟩)
    ⟨fun b o n e=>k2 b o (fun x=>ak (x0 b x) e) (prk.ok.kept b o n e),ti2,fun b n e=>?_,fun b q=>q.elim (prk.ok.pt b) (xT b)⟩
   by_cases q:X b
   ·exact .inr q
   ·refine .inl (prk.ok.new b n ?_)
    cases e2:hk.get? b with
    |none=>rfl
    |some o=>rw[k2 b o q e2]at e;exact nn0 e.symm
 ·have gone:∀{b},X b->∀{ρ'},aQ W env ρ' hm b->Pre W P1 env ρ' hm->False:=fun{b} x {ρ'} w pr=>by
   obtain⟨_,_,o,ho,_⟩:=cb pr w;exact ak (hX1 b x).1 ho
  rcases sx.own b w with q | q
  ·exact gone x q prm
  ·rcases(Stp.kx G prm K1).own b w with q | q
   ·exact gone x q prm
   ·exact gone x (cI prm (fun b o m e=>K1.keep b o (prm.hid b m).nt e) w) prm
end
end
section
section
variable{prog:Program}{w:World}{A:Around}{E':Value->Shared->Prop}{s:Shared}
theorem gZ{la:Addr}{vs:Array Value}{Q:Value->Shared->Prop}(hl:s.heap.IsList la vs)(h:Q (.ref s.heap.objs.size) { s with heap:=s.heap.push { cls:=.type "list_iterator", data:=.fields #[.ref la,.int 0 0] } }):wpAny (model prog w) A (call (.builtin "iter") [.ref la]) Q E' s:=by
 refine call_function_entry (by decide +kernel) (by decide +kernel) kdk_entry_iter (kdk_args_iter _) ?_;unfold Builtin.«iter»;refine aj (m:=someArgs "iter" 1 2 _) (wpAny_of_eq (a:=[Value.ref la]) (by first | rfl | kernel_rfl!) ?_);exact aj (wpAny_pyIter_list hl (az ⟨_,rfl,h⟩))
theorem nF{it l:Addr}{i:Nat}{items:Array Value}{x:Value}{Q:Value->Shared->Prop}(hit:s.heap.IsListIter it l i)(hl:s.heap.IsList l items)(hx:items[i]?=some x)(hQ:∀h',h'.IsListIter it l (i+1)->Heap.SameBut it s.heap h'->Q x { s with heap:=h' }):wpAny (model prog w) A (call (.builtin "next") [.ref it]) Q E' s:=by
 refine byG fun gG kG=>?_;obtain⟨o,ho,hc,hd⟩:=id hit;obtain⟨ol,hol,_,nl,hdl⟩:=hl;refine kG ?_;refine call_function_entry (by decide +kernel) (by decide +kernel) kdk_entry_next (kdk_args_next _) ?_;unfold Builtin.«next»;refine aj (m:=someArgs "next" 1 2 _) (wpAny_of_eq (a:=[Value.ref it]) (by first | rfl | kernel_rfl!) ?_);dsimp only;refine aj (wpAny_specialOf (name:=Str.ofString "__next__") hit.typeIs slot_listiter_next.lookup ?_);refine wpAny_ite_split (fun hab=>absurd hab (by decide)) (fun U=>?_);refine aj (wpAny_callSpecial?_slot (name:=Str.ofString "__next__") hit.typeIs slot_listiter_next
  (wpAny_call_entry slot_listiter_next hit.typeIs entry_listiter_next ?_ (args_listiter_next _)))
 show wpAny _ _ (field (.ref it) 0>>=_) _ _ s;refine aj (wpAny_field ho hd (x:=.ref l) rfl ?_);show wpAny _ _ (if(Value.ref l==Value.none)=true then _ else _) _ _ s;rw[ag (show ¬((Value.ref l==Value.none)=true)from Bool.false_ne_true)];show wpAny _ _ (field (.ref it) 1>>=_) _ _ s;refine aj (wpAny_field ho hd (x:=.int i 0) rfl ?_);show wpAny _ _ (seqItems? (.ref l)>>=_) _ _ s;refine aj (wpAny_seqItems hol hdl ?_);simp only[Int.toNat_natCast,hx];refine aj (wpAny_setField ho hd (by simp) (az ⟨x,rfl,az ⟨_,rfl,hQ _ ?_ (Heap.SameBut.update ..)⟩⟩));exact⟨_,Heap.get?_update_self _ ho (Obj.isFreed_of_fields (Obj.data_mapFields hd _)),(Obj.cls_mapFields ..).trans hc,by
  rw[Obj.data_mapFields hd];simp[rawInt]⟩
end
section
variable{W:Wp}{tb:Tb}{Φ:Fun}{τ N D n:Nat}{c:Cx}
theorem nG:bootBuiltins "next" = some (.builtin "next"):=by decide +kernel
noncomputable def ig(W:Wp)(D:Nat)(f:Addr):Prop:=
 ∀(A:Around) (P:Addr->Prop) (I:Addr) (l:List V) (v:Int) (r:List V) (s:Shared) (Q:Value->Shared->Prop) (E':Value->Shared->Prop),AOk A D->Ok W P s.heap->Hid W P I->eT P s.heap I l->pv l=some (some v,r) ->
  (∀t h' tk,(∀b o,b∉W.T->b≠I->s.heap.get? b=some o->h'.get? b=some o)->W.TI h'->(∃o,h'.get? I=some o)->eT P h' I r->Q (.int v t) { s with heap:=h',toks:=tk })->wpAny W.M A (call (.ref f) [.ref I]) Q E' s
structure i9(W:Wp)(tb:Tb)(D:Nat):Prop where
 fn:Ex3 fun a o fd=>jX (W.mg tb.pvn=some (.ref a)) (W.h0.get? a=some o) (o.data=.func fd) (a∉W.T) (ig W D a)
theorem fg(x:Str)(p:Pos)(rest:List Expr)(env:Env):starEach (.Name x p::rest) env=(false,eval (.Name x p) env)::starEach rest env:=rfl
theorem Ad(G:WF W){x:Str}{px fp cp pos:Pos}{a:Expr}{i:Nat}{e:E}(hx:c.ix x=some i)(hg:c.glob "iter" = true)(hst:∀rest env,starEach (a::rest) env=(false,eval a env)::starEach rest env)(hv:SE W D c a (ev Φ e)):
  SX τ W D c (.Assign [.Name x px] (.Call (.Name "iter" fp) [a] [] cp) pos) (ex Φ N (.mkit i e)):=fun A env ρ P s o Q E' ao fo hc pr ho U h=>aa ho fun w hl ho=>aa ho fun l el ho=>aO ho fun hlt ho=>by
 obtain rfl:=al_0 ho;rw[dF el]at hl;refine byG fun gG kG=>?_;obtain⟨P1,pr1,s1⟩:=Pre.frz (av e) pr;obtain⟨cc,hsl⟩:=Cx.ix_spec (hc▸hx);refine kG ?_;refine fW ?_ rfl;refine eS (bh (ce G pr1 (by rw[hc];exact hg) (G.nb _ (by decide)) (by rw[G.bi _ (by decide)];exact boot_iter) ?_) (by decide));rw[hst];refine iS rfl (fX (dH (hv A env _ P1 s _ _ E' ao hc pr1 hl fun u h1 tk1 K1 r1=>fw (r1.l' fun la vs k pl hla rs=>?_))));refine gZ (s:={ s with heap:=h1,toks:=tk1 }) hla.isList ?_;have pr2:=pr1.step K1;have na:h1.get? h1.objs.size=none:=aR _;have K2:=KX.push G K1.ti { cls:=.type "list_iterator", data:=.fields #[.ref la,.int 0 0] };refine os (s:=s) G pr2 (s1.trans (Stp.kx G pr1 K1)) hsl K2 na ⟨_,eO _ rfl,(fun U U q=>by cases q),(fun U q=>by cases q)⟩ ⟨l,.inr rfl⟩ (fun h3 k3 va hid=>?_) fun P' h3 tk3 pr3 s3=>h P' h3 tk3 pr3 s3;have nP:∀b,P1 b->¬aw env b:=fun b p m=>(pr2.hid b m).np p;exact⟨_,va,hid,la,0,vs,k,⟨_,k3 _ _ (nP _ (pr2.ok.fresh G na)) (eO _ rfl),rfl,rfl⟩,⟨pl,fun q=>aJ hla na q⟩,k3 _ _ (nP _ pl) (K2.keep _ _ (pr1.ok.pt _ pl) hla),
  rs.mono fun b o p e=>⟨⟨p,fun q=>ak (q▸na) e⟩,k3 _ _ (nP b p) (K2.keep _ _ (pr1.ok.pt b p) e)⟩⟩
theorem x8(G:WF W)(C:i9 W tb D){x t:Str}{px fp tp cp pos:Pos}{i j:Nat}(hx:c.ix x=some i)(ht:c.ix t=some j)(hd:(t==("__debug__" : Str))=false)(hd2:(tb.pvn==("__debug__" : Str))=false)(hg:c.glob tb.pvn=true):
  SX τ W D c (.Assign [.Name x px] (.Call (.Name tb.pvn fp) [.Name t tp] [] cp) pos) (ex Φ N (.parse (some i) j)):=fun A env ρ P s o Q E' ao fo hc pr ho U h=>aa ho fun sl hl ho=>aa ho fun l el ho=>aa ho fun q hp ho=>aa ho fun v ev ho=>aO (o:=some _) ho fun hlt ho=>by
 obtain rfl:=al_0 ho;simp only[yu el]at hl;obtain⟨q1,r⟩:=q;obtain rfl:q1=some v:=ev;obtain⟨cc,hsl⟩:=Cx.ix_spec (hc▸hx);obtain⟨ct,hst⟩:=Cx.ix_spec (hc▸ht);refine esi (pr.er j t ct _ hst hl) fun a va hid it=>?_;obtain⟨f,fo,fd,hm,hf,hdat,hT,cal⟩:=C.fn;refine fW ?_ rfl;refine eS (bh (bo G pr (by simp only[hc];exact hg) hm ?_) hd2);simp only[fg];refine iU (o:=fo) (fd:=fd) (fX (dH (bh (bf pr (aZ pr hst) va (fw ?_)) hd)));refine⟨⟨jH pr.ok hf hT,hdat⟩,cal A P a l v r s _ E' ao pr.ok hid it hp fun tk' h1 tk1 k1 ti1 ea it1=>?_⟩;obtain⟨pr2,s2⟩:=pr.mut G hst hl ⟨_,.inr rfl⟩ va k1 ti1 ea (sl:=.itr r) fun va' hid' m=>⟨a,va',hid',it1⟩;exact dc (s:=s) (v:=.int v) G pr2 s2 hsl Rp.i fun h3 tk3 pr3 s3=>h P h3 tk3 pr3 s3
end
end
section
section
variable{W:Wp}{tb:Tb}{Φ:Fun}{τ N D n:Nat}{c:Cx}{ow:List Str}
theorem cZ{x:Str}{i:Nat}(h:c.nx x=some i):c.ix x=some i/\(x==("__debug__" : Str))=false:=
 gdi h fun hd h=>⟨h,mK hd⟩
theorem xR(G:WF W)(ih:IHn W tb Φ D n){v:Expr}{e:E}(ho:uA v=true)(h:trE tb (n+1) c v=some e){x:Str}{px pos:Pos}{i:Nat}(hx:c.ix x=some i):SX τ W D c (.Assign [.Name x px] v pos) (ex Φ N (.own i e)):=by
 rcases Bool.or_eq_true_iff.mp ho with ho | ho
 ·exact Expr.List.elim (motive_1:=fun v=>trE tb (n+1) c v=some e->SX τ W D c (.Assign [.Name x px] v pos) (ex Φ N (.own i e))) v (aB ho) (fun es p h=>mpi (P:=fun e=>SX τ W D c _ (ex Φ N (.own i e))) h fun ys hy=>rZ G hx (fun U U=>rfl) (Aq G ih hy)) h
 ·obtain⟨q,hq⟩:=nN.mp ho
  obtain⟨p,rfl⟩:=EH hq;exact bnd (P:=fun e=>SX τ W D c _ (ex Φ N (.own i e))) h fun a ha h=>mpi h fun b hb=>rZ G hx (fun U U=>rfl) (D6 G (ih.q c _ a ha) (ih.q c _ b hb))
theorem zL(G:WF W)(C:Cfg W tb Φ D)(Pv:i9 W tb D)(hdb:(tb.pvn==("__debug__" : Str))=false){x:Str}{px pos:Pos}{v:Expr}{i:Nat}{y:S}(hx:c.ix x=some i)(h:BU tb ow c x i v=some y):SX τ W D c (.Assign [.Name x px] v pos) (ex Φ N y):=by
 have ih:=cA G C;have asg:∀{y:S},(trE tb 40 c v).map (.asg i)=some y->SX τ W D c (.Assign [.Name x px] v pos) (ex Φ N y):=fun h=>mpi h fun e he=>CP (n:=38) G (ih 39) C hx he;refine eli h (fun h=>bci h (fun ho h=>mpi h fun e he=>xR (n:=39) G (ih 39) (aT ho).2 he hx) asg) fun q hq h=>?_;revert h;refine bnd hq fun r hr hq=>bnd hq fun f hf hq=>bnd hq fun a ha hq=>gds hq fun hg h=>?_;refine bci h (fun e h=>bnd h fun t ht h=>mpi h fun j hj=>?pv) fun h=>bci h (fun e h=>mpi h fun e' he=>?it) asg
 all_goals
  have:=aB e;subst this;obtain⟨p,hp⟩:=aS hf;simp only[f8 hr,hp,aX ha]
 case it=>exact Ad G hx hg ((plain he).star) ((ih 40).e c a _ he)
 all_goals
  obtain⟨hj,hd⟩:=cZ hj;obtain⟨tp,rfl⟩:=aS ht
 case pv=>exact x8 G Pv hx hj hd hdb hg
theorem j7:∀{es:List Stmt}{ys:List S},es.mapM (trS tb ow n c)=some ys->(∀x y,trS tb ow n c x=some y->SX τ W D c x (ex Φ N y))->SXs τ W D c es (exs Φ N ys):=by
 intro es
 induction es with
 |nil=>
  intro ys e h;exact by simp at e;subst e;exact Aa
 |cons x es j7=>
  intro ys e h;simp only[List.mapM_cons,Option.bind_eq_bind,Option.bind_eq_some_iff,Option.pure_def,Option.some.injEq]at e;obtain⟨y,hy,r,hr,rfl⟩:=e;exact wY (h x y hy) (j7 hr h)
structure Sp(τ:Nat)(W:Wp)(tb:Tb)(Φ:Fun)(N D:Nat):Prop where
 calls:∀c x px v pos i k as,c.ix x=some i->vx tb c v=some (k,as)->SX τ W D c (.Assign [.Name x px] v pos) (ex Φ N (.calls i k as))
 spl:∀c x px v pos i y,c.ix x=some i->An tb c i v=some y->SX τ W D c (.Assign [.Name x px] v pos) (ex Φ N y)
 chk:∀c t a b pos y,BE tb c t a b=some y->SX τ W D c (.If t a b pos) (ex Φ N y)
 cuts:∀c t it b pos y,vo tb c t it b=some y->SX τ W D c (.For t it b [] pos) (ex Φ N y)
structure Pl(tb:Tb):Prop where
 gs:tb.gs=[]
 tr:tb.tr=0
 gt:tb.gt=[]
theorem iF{c:Cx}{v:Expr}{q:Nat×List E}{p:Prop}(h:tb.gs=[])(e:vx tb c v=some q):p:=
 bnd (P:=fun U=>p) e fun U U e=>bnd e fun U U e=>gdi e fun U e=>bnd e fun k hk U=>by rw[h]at hk;exact nn hk
theorem lH{c:Cx}{v:Expr}{i:Nat}{y:S}{p:Prop}(h:(tb.tr==2)=false)(e:An tb c i v=some y):p:=eN e fun g U=>by rw[h]at g;cases g
theorem jL{c:Cx}{t it:Expr}{b:List Stmt}{y:S}{p:Prop}(h:(tb.tr==1)=false)(e:vo tb c t it b=some y):p:=eN e fun g U=>by rw[h]at g;cases g
theorem lY{c:Cx}{t:Expr}{a b:List Stmt}{y:S}{p:Prop}(h:tb.gt=[])(e:BE tb c t a b=some y):p:=aa e fun U U e=>aa e fun k hk U=>by rw[h]at hk;exact nn0 hk
theorem CV(h:Pl tb):Sp τ W tb Φ N D:=
 ⟨fun c x px v pos i k as U e=>iF h.gs e,fun c x px v pos i y U e=>lH (by rw[h.tr];rfl) e,fun c t a b pos y e=>lY h.gt e,fun c t it b pos y e=>jL (by rw[h.tr];rfl) e⟩
theorem w9(G:WF W)(C:Cfg W tb Φ D){x:Str}{m:Str}{args:List Expr}{y:S}{px ap cp pos:Pos}(hl:(ap.endLine==cp.line)=true)(h:Ca tb c x m args=some y):SX τ W D c (.Expr (.Call (.Attribute (.Name x px) m ap) args [] cp) pos) (ex Φ N y):=by
 obtain ih:=cA G C 40;refine bnd h fun i hi h=>bci h (fun e h=>gds h fun hm=>?_) fun h=>bnd h fun a ha h=>gdi h fun hm h=>mpi h fun e he=>?app
 all_goals
  have:=aB hm;subst this;obtain⟨hi,hd⟩:=cZ hi
  first | rw[aX ha] | rw[fc e]
 case app=>exact CQ G hi hd hl ((plain he).star) (ih.e c a e he)
 exact Ac G hi hd hl
theorem wj(G:WF W)(C:Cfg W tb Φ D){t v:Expr}{op:Operator}{pos:Pos}{y:S}(h:Cd tb c t op v=some y):SX τ W D c (.AugAssign t op v pos) (ex Φ N y):=by
 obtain ih:=cA G C 40;refine bnd h fun q hq h=>bnd h fun x hx h=>bnd h fun i hi h=>bnd h fun j hj h=>mpi h fun e he=>?_;obtain hn:=(bD hq).1;obtain e1:=(bD hq).2;obtain⟨px,e2⟩:=aS hx;rw[Dh t hn,e1,e2];obtain⟨hi,hd⟩:=cZ hi;exact Ae G hi hd (plain hj) (ih.e c _ j hj) (ih.e c v e he)
theorem mo(G:WF W)(C:Cfg W tb Φ D)(Pv:i9 W tb D)(hdb:(tb.pvn==("__debug__" : Str))=false)(Sy:Sp τ W tb Φ N D)(n:Nat):∀{c:Cx}{st:Stmt}{y:S},trS tb ow n c st=some y->SX τ W D c st (ex Φ N y):=by
 obtain ih:=cA G C 40
 induction n with
 |zero=>exact fun h=>nn h
 |succ n rec=>
 intro c st y h;obtain rec':∀{es:List Stmt}{ys:List S},es.mapM (trS tb ow n c)=some ys->SXs τ W D c es (exs Φ N ys):=fun h=>j7 h fun x y hy=>rec hy
 cases st with
 |Break p=>exact sme h fun A env ρ P s o Q E' ao fo hc pr ho U h=>(by obtain rfl:Out.brk ρ=o:=al_0 ho;exact wpAny_Break (h P s.heap s.toks pr Stp.refl))
 |Assign ts v pos=>
  refine bnd h fun t ht h=>eli h (fun h=>bnd h fun es he h=>bnd h fun is his h=>bnd h fun e hv h=>gds h fun hh=>?unp) fun x hx h=>bnd h fun i hi h=>eli h (fun h=>eli h (fun h=>?asg) fun y' hy h=>sme h ?spl) fun q hq h=>sme h ?call
  all_goals rw[aX ht]
  case unp=>
   obtain⟨k,tp,rfl⟩:=pf he;exact CM G his (plain hv) (mK hh) (ih.e c v e hv)
  all_goals
   obtain⟨px,hp⟩:=aS hx;rw[hp]
  case call=>exact Sy.calls _ _ _ _ _ _ _ _ hi hq
  case spl=>exact Sy.spl _ _ _ _ _ _ _ hi hy
  case asg=>exact zL G C Pv hdb hi h
 |AugAssign t op v pos=>
  refine eli h (fun h=>wj G C h) fun x hx h=>bnd h fun i hi h=>mpi h fun e he=>?_;obtain⟨px,rfl⟩:=aS hx;exact CO G hi (ih.e c v e he)
 |Expr e pos=>
  refine bnd h fun q hq h=>bnd h fun u hu h=>bnd h fun x hx h=>gdi h fun hl h=>?_;obtain⟨px,hp⟩:=aS hx;rw[f8 hq,qg hu,hp];exact w9 G C hl h
 |Return v pos=>
  cases v with
  |none=>exact nn h
  |some v=>exact mpi h fun e he=>wZ G (ih.e c v e he)
 |If t a b pos=>exact eli h (fun h=>bnd h fun t' ht h=>bnd h fun a' ha h=>mpi h fun b' hb=>CN G (ih.b c t t' ht) (rec' ha) (rec' hb)) fun y' hy h=>sme h (Sy.chk _ _ _ _ _ _ hy)
 |While t b o pos=>
  refine gdi h fun ho h=>bnd h fun t' ht h=>mpi h fun b' hb=>?_;rw[fc ho];exact Ab G (ih.b c t t' ht) (rec' hb)
 |For t it b o pos=>
  refine gdi h fun ho h=>?_;rw[fc ho];refine eli h (fun h=>bnd h fun p hp h=>bnd h fun i' hi h=>bnd h fun b' hb h=>gds h fun hen=>?_) fun y' hy h=>sme h (Sy.cuts _ _ _ _ _ _ hy);exact Af G hp (show kH i' t=true from hen) (ih.it c it i' hi) (rec' hb)
 |Raise e cs pos=>exact sme h fun A env ρ P s o Q E' ao fo hc pr ho U h=>nn ho
 |_=>exact nn h
end
end
noncomputable def Wp.at'(W:Wp)(h:Heap):Wp:={ W with h0:=h,fs:=fun U U=>True }
theorem WF.at'{W:Wp}(G:WF W){h:Heap}(k:∀b o,b∉W.T->W.h0.get? b=some o->h.get? b=some o):WF (W.at' h) where
 g:=cB k G.gT G.g
 gT:=G.gT
 b:=cB k G.bT G.b
 bT:=G.bT
 lim:=(by obtain⟨mc,a,b⟩:=G.lim;exact⟨mc,cB k G.limT a,b⟩)
 limT:=G.limT
 bi:=G.bi
 tx:=G.tx
 nb:=G.nb
 ti:=G.ti
theorem Ok.back{W:Wp}{P:Addr->Prop}{h h':Heap}(k:∀b o,b∉W.T->W.h0.get? b=some o->h.get? b=some o)(x:Ok (W.at' h) P h'):Ok W P h':=
 ⟨fun b o n e=>x.kept b o n (k b o n e),x.ti,x.new,x.pt⟩
theorem KX.up{W:Wp}{h h1 h2:Heap}(x:KX W h1 h2):KX (W.at' h) h1 h2:=⟨x.keep,x.ti⟩
theorem Cal.at'{W:Wp}{D:Nat}{f:Addr}{φ:List V->Option V}{h:Heap}(k:∀b o,b∉W.T->W.h0.get? b=some o->h.get? b=some o)(c:Cal W D f φ):Cal (W.at' h) D f φ:=
 fun A P us l v s Q E' ao ok r e hQ=>c A P us l v s Q E' ao (ok.back k) r e fun u h' tk K r'=>hQ u h' tk K.up r'
theorem Cfg.at'{W:Wp}{tb:Tb}{Φ:Fun}{D:Nat}{h:Heap}(k:∀b o,b∉W.T->W.h0.get? b=some o->h.get? b=some o)(c:Cfg W tb Φ D):Cfg (W.at' h) tb Φ D:=
 ⟨c.gc,fun x i e=>(by obtain⟨a,o,fd,h1,h2,h3,h4,h5⟩:=c.fn x i e;exact⟨a,o,fd,h1,k a o h4 h2,h3,h4,h5.at' k⟩)⟩
theorem ig.at'{W:Wp}{D:Nat}{f:Addr}{h:Heap}(k:∀b o,b∉W.T->W.h0.get? b=some o->h.get? b=some o)(c:ig W D f):ig (W.at' h) D f:=
 fun A P I l v r s Q E' ao ok hid it e hQ=>c A P I l v r s Q E' ao (ok.back k) ⟨hid.np,hid.nt,by
  cases q:W.h0.get? I with
  |none=>rfl
  |some o=>have h2:=hid.n0;rw[show(W.at' h).h0=h from rfl,k I o hid.nt q]at h2;cases h2⟩ it e hQ
theorem i9.at'{W:Wp}{tb:Tb}{D:Nat}{h:Heap}(k:∀b o,b∉W.T->W.h0.get? b=some o->h.get? b=some o)(c:i9 W tb D):i9 (W.at' h) tb D:=
 ⟨(by obtain⟨a,o,fd,h1,h2,h3,h4,h5⟩:=c.fn;exact⟨a,o,fd,h1,k a o h4 h2,h3,h4,h5.at' k⟩)⟩
noncomputable def nU(W:Wp)(h:Heap)(cd:Value)(q:Str):Prop:=Ex4 fun c o vs t=>cd=.ref c/\c∉W.T/\h.get? c=some o/\o.data=.fields vs/\vs[1]?=some (.str q t)
theorem nU.rec{W:Wp}{h:Heap}{cd:Value}{q:Str}(x:nU W h cd q){h':Heap}(k:∀b o,b∉W.T->h.get? b=some o->h'.get? b=some o):h'.CodeRec cd q:=
 (by obtain⟨c,o,vs,t,e,n,g,r⟩:=x;exact⟨c,o,vs,t,e,k c o n g,r⟩)
noncomputable def pix(c:Cx)(ps:List Str):List (Option Nat):=c.slots.map fun p=>ps.findIdx? (·==p.1)
noncomputable def ro0(c:Cx)(ps:List Str)(vs:List V):Ro:=(pix c ps).map fun o=>match o with
 |some i=>match vs[i]? with | some v=>.val v | none=>.unb
 |none=>.unb
inductive G6(ps:List Str)(body:List Stmt)(sc:Scope)(fd:FuncData):Prop
 |mk (zz0:fd.scope=sc) (zz1:fd.body=.stmts body) (zz2:fd.closure=[]) (zz3:fd.globals=mainGlobals) (zz4:fd.builtins=builtinsNs) (zz5:∀us:List Value,us.length=ps.length->bindArgs fd ⟨us,[]⟩=pure (ps.zip us)):G6 ps body sc fd
structure eQ(W:Wp)(a:Addr)(ps:List Str)(body:List Stmt)(sc:Scope):Prop where
 obj:Ex2 fun o fd=>jX (W.h0.get? a=some o) (o.data=.func fd) (a∉W.T) (nU W W.h0 fd.code fd.qualname) (G6 ps body sc fd)
 ok:cK sc=true
 nofree:∀p∈sc.names,p.2≠.free
 pn:∀x∈ps,sc.names.lookup x=some .local\/sc.names.lookup x=some .cell
 nd:ps.Nodup
 co:sc.isCoroutine=false
 gen:sc.isGenerator=false
theorem eQ.re{W W':Wp}{a:Addr}{ps:List Str}{body:List Stmt}{sc:Scope}(F:eQ W a ps body sc)(k:∀b o,b∉W.T->W.h0.get? b=some o->b∉W'.T/\W'.h0.get? b=some o):eQ W' a ps body sc:=by
 refine⟨?_,F.ok,F.nofree,F.pn,F.nd,F.co,F.gen⟩;obtain⟨o,fd,ho,hd,hT,⟨c,oc,vs,t,e1,e2,e3,e4⟩,r⟩:=F.obj;obtain q:=k c oc e2 e3;obtain p:=k a o hT ho;exact⟨o,fd,p.2,hd,p.1,⟨c,oc,vs,t,e1,q.1,q.2,e4⟩,r⟩
theorem zJ{kindOf:Str->Option NameKind}{x:Str}(hx:kindOf x=some .local):∀{bs:List (Str×Value)}{m:Str->Option Value}{v:Value},(bs.map (·.1)).Nodup->(x,v)∈bs\/(m x=some v/\x∉bs.map (·.1))->bindL kindOf bs m x=some v:=by
 intro bs
 induction bs with
 |nil=>
  intro m v nd h;rcases h with h | h
  ·cases h
  ·exact h.1
 |cons zx r ih=>
  obtain⟨y,w⟩:=zx;intro m v nd h;simp only[bc,fy]at nd;unfold bindL;refine ih nd.2 ?_;rcases h with h | ⟨h,n⟩
  ·rcases aM.mp h with e | h
   ·cases e
    right;rw[af hx];exact⟨by simp,nd.1⟩
   ·exact .inl h
  ·right
   simp only[bc,aM,not_or]at n;refine⟨?_,n.2⟩
   split
   ·simp only;rw[ag n.1];exact h
   ·exact h
theorem zK{kindOf:Str->Option NameKind}{x:Str}(hx:kindOf x=some .cell):∀{bs:List (Str×Value)}{m:Str->Option Value}{v:Value},(bs.map (·.1)).Nodup->(x,v)∈bs\/(m x=some v/\x∉bs.map (·.1))->bindC kindOf bs m x=some v:=by
 intro bs
 induction bs with
 |nil=>
  intro m v nd h;rcases h with h | h
  ·cases h
  ·exact h.1
 |cons zx r ih=>
  obtain⟨y,w⟩:=zx;intro m v nd h;simp only[bc,fy]at nd;unfold bindC;refine ih nd.2 ?_;rcases h with h | ⟨h,n⟩
  ·rcases aM.mp h with e | h
   ·cases e
    right;rw[ag (by rw[hx];decide)];exact⟨by simp,nd.1⟩
   ·exact .inl h
  ·right
   simp only[bc,aM,not_or]at n;refine⟨?_,n.2⟩
   split
   ·exact h
   ·simp only;rw[ag n.1];exact h
set_option tactic.hygienic true in
theorem rm{W:Wp}(G:WF W){P:Addr->Prop}{s s₁:Shared}{a:Addr}{ps:List Str}{body:List Stmt}{sc:Scope}(F:eQ W a ps body sc)(ok:Ok W P s.heap){fd:FuncData}(hsc:fd.scope=sc)(hg:fd.globals=mainGlobals)(hb:fd.builtins=builtinsNs){us:List Value}{vs:List V}(r:∀(i:Nat) v,vs[i]?=some v->∃u,us[i]?=some u/\Rp P s.heap u v)(hl:us.length=ps.length)(X:InCallC s (callEnvC fd s.heap.objs.size a).locals (bindL (callEnvC fd s.heap.objs.size a).kindOf (ps.zip us) fun U=>none) (callEnvC fd s.heap.objs.size a).cells
    (bindC (callEnvC fd s.heap.objs.size a).kindOf (ps.zip us) fun U=>none) s₁):
  Pre (W.at' s.heap) (aH P fun b=>aw (callEnvC fd s.heap.objs.size a) b) (callEnvC fd s.heap.objs.size a) (ro0 (ac sc) ps vs) s₁.heap/\(∀b,aw (callEnvC fd s.heap.objs.size a) b->s.heap.get? b=none) /\
  ∀x u,(x,u)∈ps.zip us->aA W.T (callEnvC fd s.heap.objs.size a) s₁.heap x u:=by
 subst hsc;obtain hs:=F.ok;unfold cK at hs;simp only[jt,oi,List.all_eq_true]at hs;obtain⟨⟨hkind,hnd⟩,hncd⟩:=hs;obtain hkind:=aB hkind;obtain keep:=X.toInCall.keep;have hko:∀x,(callEnvC fd s.heap.objs.size a).kindOf x=fd.scope.names.lookup x:=fun x=>rfl;obtain hns:=X.toInCall.ns;have mutNone:∀b,aw (callEnvC fd s.heap.objs.size a) b->s.heap.get? b=none:=by
  rintro b (rfl | ⟨x,hx⟩)
  ·exact aR _
  ·exact lB (bP (X.above x b (mem_of_lookup hx)))
 have mutEx:∀b,aw (callEnvC fd s.heap.objs.size a) b->∃o,s₁.heap.get? b=some o:=by
  rintro b (rfl | ⟨x,hx⟩)
  ·obtain⟨o,_,_,ho,_⟩:=hns;exact⟨o,ho⟩
  ·obtain⟨o,ho,_⟩:=X.cell x b hx;exact⟨o,ho⟩
 have newT:∀b,s.heap.get? b=none->b∉W.T:=fun b hb=>ok.pt _ (ok.fresh G hb);have m:∀b o',P b->s.heap.get? b=some o'->aH P (fun b=>aw (callEnvC fd s.heap.objs.size a) b) b/\s₁.heap.get? b=some o':=fun b o' p e=>
  ⟨⟨p,fun hb=>by exact nn (Eq.trans (Eq.symm (mutNone b hb)) e)⟩,keep b o' e⟩
 have slotK:∀y b,(y,b)∈(ac fd.scope).slots->∃k,dD ((y,k)∈fd.scope.names) (aI k=true) (b=(k != .local)):=by
  intro y b h;obtain⟨⟨z,k⟩,hz,e⟩:=eH.mp h;simp only[Prod.mk.injEq]at e;obtain⟨rfl,rfl⟩:=e;obtain⟨hz,hk⟩:=fY.mp hz;exact⟨k,hz,hk,rfl⟩
 have vars:∀x u,(x,u)∈ps.zip us->aA W.T (callEnvC fd s.heap.objs.size a) s₁.heap x u:=by
  intro x u hmem;have hnz:((ps.zip us).map (·.1)).Nodup:=by
   rw[List.map_fst_zip (by lia)];exact F.nd
  have hxp:x∈ps:=(List.of_mem_zip hmem).1;rcases F.pn x hxp with q | q
  ·exact .inl ⟨q,newT _ (mutNone _ (.inl rfl)),_,hns,zJ q hnz (.inl hmem)⟩
  ·obtain⟨c,hc⟩:=bt fd.scope.names (s.heap.objs.size+1) [] x (.inl (mem_of_lookup q))
   obtain⟨c',hc'⟩:=aE hc;refine .inr ⟨.inl q,c',hc',newT _ (mutNone _ (.inr ⟨x,hc'⟩)),?_⟩;have:=X.cell x c' hc';rw[zK (kindOf:=(callEnvC fd s.heap.objs.size a).kindOf) q hnz (.inl hmem)]at this;exact this
 refine⟨⟨⟨fun b o n e=>keep b o e,G.ti _ _ (fun b o e U=>keep b o e) ok.ti,fun b n e=>?_,fun b p=>ok.pt b p.1⟩,⟨hkind,hg,hb,newT _ (mutNone _ (.inl rfl)),⟨_,hns⟩,?_,?_,?_,?_,?_⟩,?_,?_,?_,?_,?_,?_⟩,mutNone,vars⟩
 ·have e0:s.heap.get? b=none:=by
   cases q:s.heap.get? b with
   |none=>rfl
   |some o=>exact nn (Eq.trans (Eq.symm e) (keep b o q))
  refine⟨ok.new b n e0,fun hm=>?_⟩;obtain⟨o,ho⟩:=mutEx b hm;exact nn (Eq.trans (Eq.symm e) ho)
 ·intro x hx
  obtain⟨k,hk,hsk,hb'⟩:=slotK x true hx;have hk':k=.cell:=by
   have:=F.nofree _ hk
   cases k<;>simp[aI]at hsk hb' this ⊢
  subst hk';refine⟨.inl (by rw[hko];exact ar hnd hk),?_⟩;obtain⟨c,hc⟩:=bt fd.scope.names (s.heap.objs.size+1) [] x (.inl hk);obtain⟨c',hc'⟩:=aE hc;exact⟨c',_,hc',X.cell x c' hc',newT _ (mutNone _ (.inr ⟨x,hc'⟩))⟩
 ·intro x hx
  obtain⟨k,hk,hsk,hb'⟩:=slotK x false hx;have hk':k=.local:=by cases k<;>simp[aI]at hsk hb' ⊢
  subst hk';rw[hko];exact ar hnd hk
 ·have:((ac fd.scope).slots.map (·.1))=(fd.scope.names.filter fun p=>aI p.2).map (·.1):=by
   unfold ac gi;simp[dI,Function.comp_def]
  show((ac fd.scope).slots.map (·.1)).Nodup;rw[this];exact hnd.sublist (List.filter_sublist.map _)
 ·intro p hp
  obtain⟨q,hq,rfl⟩:=eH.mp (show p∈(ac fd.scope).slots from hp);have:=hncd q (fY.mp hq).1
  simpa using this
 ·intro x c hx
  exact⟨newT _ (mutNone _ (.inr ⟨x,hx⟩)),_,X.cell x c hx⟩
 ·intro i x cc sl h1 h2
  unfold ro0 pix at h2;have h1':(ac fd.scope).slots[i]?=some (x,cc):=h1;rw[bA,bA,h1']at h2;simp only[Option.map_some,Option.some.injEq]at h2;subst h2
  split
  ·rename_i j hj
   split
   ·rename_i v hv
    obtain⟨hj1,hj2,_⟩:=List.findIdx?_eq_some_iff_getElem.mp hj;obtain hj2:=beq_iff_eq.mp hj2;obtain⟨u,hu,ru⟩:=r _ _ hv;refine⟨u,vars x u ?_,ru.mono m⟩;refine List.mem_iff_getElem?.mpr ⟨j,?_⟩;rw[List.getElem?_zip_eq_some];refine⟨?_,hu⟩;rw[cE hj1,hj2]
   ·trivial
  ·trivial
 ·unfold ro0 pix;rw[aC,aC];rfl
 ·intro b hb'
  exact⟨fun p=>p.2 hb',newT _ (mutNone b hb'),mutNone b hb'⟩
 ·intro x y c hx hy
  exact name_of_addr X.apart (mem_of_lookup hx) (mem_of_lookup hy)
 ·intro x hx
  exact absurd (X.above x _ (mem_of_lookup hx)) (Nat.lt_irrefl _)
 ·intro i j x y ci cj si sj a' hij h1 h2 h3 h4 o1
  unfold ro0 at h3;rw[bA]at h3;obtain⟨q,_,rfl⟩:=bj.mp h3
  split at o1
  ·split at o1
   ·exact bF o1
   ·obtain⟨l,e | e⟩:=o1<;>cases e
  ·obtain⟨l,e | e⟩:=o1<;>cases e
noncomputable def w5:Out->Option V
 |.ret v _=>some v
 |.nxt _=>some .none
 |.brk _=>none
noncomputable def fnV(c:Cx)(ps:List Str)(φ:Ro->Option Out)(vs:List V):Option V:=
 if vs.length=ps.length then(φ (ro0 c ps vs)).bind w5 else none
theorem Az{c:Cx}{ps:List Str}{l:List V}{i:Nat}{sl:Sl}(h:(ro0 c ps l)[i]?=some sl)(o:bk sl):False:=by
 unfold ro0 at h;rw[bA]at h;obtain⟨q,_,rfl⟩:=bj.mp h
 split at o
 ·split at o
  ·exact bF o
  ·obtain⟨l,e | e⟩:=o<;>cases e
 ·obtain⟨l,e | e⟩:=o<;>cases e
theorem sA{sc:Scope}(h:cK sc=true):sc.kind=.function:=aB (aT (aT h).1).1
theorem xO{W:Wp}{a:Addr}{ps:List Str}{body:List Stmt}{sc:Scope}(F:eQ W a ps body sc){us:List Value}{x:Str×Value}(hx:x∈ps.zip us)(n:Nat):sc.names.lookup x.1=some .local\/sc.names.lookup x.1=some .cell/\((cellsFrom n sc.names []).lookup x.1).isSome=true:=by
 rcases F.pn x.1 (List.of_mem_zip hx).1 with q | q
 ·exact .inl q
 ·right
  refine⟨q,?_⟩;obtain⟨c,hc⟩:=bt sc.names n [] x.1 (.inl (mem_of_lookup q));obtain⟨c',hc'⟩:=aE hc;rw[hc'];rfl
theorem AOk.deeper{A:Around}{D:Nat}(x:AOk A (D+1))(env:Env):AOk (A.deeper env) D:=
 ⟨x.hd,by have:=x.depth;show A.depth+1+D<950;lia,by have:=x.units;show A.units+3+16*D+200<9900;lia,(by obtain⟨l,e⟩:=x.fr;exact⟨env::l,by show A.frames.map _=_;rw[e];rfl⟩)⟩
noncomputable def tT(τ:Nat)(W:Wp)(D:Nat)(f:Addr)(φ:List V->Option V):Prop:=
 ∀(A:Around) (P:Addr->Prop) (us:List Value) (l:List V) (v:V) (s:Shared) (Q:Value->Shared->Prop) (E':Value->Shared->Prop),τ<=s.toks->AOk A D->Ok W P s.heap->Rps P s.heap us l->φ l=some v ->
  (∀u h' tk,KX W s.heap h'->Rp P h' u v->Q u { s with heap:=h',toks:=tk })->wpAny W.M A (call (.ref f) us) Q E' s
theorem rG{prog:Program}{w:World}{A:Around}{s:Shared}{R:Result->Shared->Prop}{a:Addr}{o:Obj}{fd:FuncData}{body:List Stmt}{vals:List Value}{binds:List (Str×Value)}{n:Nat}(hn:n<=s.toks)(hroom:A.depth<recursionLimit)(ho:s.heap.get? a=some o)(hdata:o.data=.func fd)(hlim:s.heap.NoLimit)(hcd:s.heap.CodeRec fd.code fd.qualname)(hbody:fd.body=.stmts body)(hbind:bindArgs fd ⟨vals,[]⟩=pure binds)(hclo:fd.closure=[])(hkind:∀x∈binds,fd.scope.names.lookup x.1=some .local\/(fd.scope.names.lookup x.1=some .cell/\((cellsFrom (s.heap.objs.size+1) fd.scope.names []).lookup x.1).isSome=true))(h:∀s₁,n<=s₁.toks->InCallC s (callEnvC fd s.heap.objs.size a).locals (bindL (callEnvC fd s.heap.objs.size a).kindOf binds fun U=>none) (callEnvC fd s.heap.objs.size a).cells
    (bindC (callEnvC fd s.heap.objs.size a).kindOf binds fun U=>none) s₁ ->
   wpAny (model prog w) (A.deeper (callEnvC fd s.heap.objs.size a)) (execs body (callEnvC fd s.heap.objs.size a)) (fun f s'=>R (.ok (.ret (match f with | .ret v=>v | _=>.none))) s')
    (fun e s'=>wpAny (model prog w) (A.deeper (callEnvC fd s.heap.objs.size a)) (leaving (callEnvC fd s.heap.objs.size a) e) (fun U s''=>R (.error e) s'') (fun e' s''=>R (.error e') s'') s') s₁)(hco:fd.scope.isCoroutine=false)(hgen:fd.scope.isGenerator=false)(hk:fd.scope.kind=.function):
  codeAny (model prog w) A (.call (.ref a) ⟨vals,[]⟩) R s:=by
 refine codeAny_call_function hroom ho hdata hco hgen hbody hcd ?_;rw[hbind,hclo];refine az (dL hn (wpAny_newFunctionEnv_cells hk hkind fun env he s' x ht=>?_));subst he;exact⟨hlim.keeps x.toInCall.keep,codeAny_func (h s' ht x)⟩
theorem gU{τ:Nat}{W:Wp}(G:WF W){D:Nat}{a:Addr}{ps:List Str}{body:List Stmt}{sc:Scope}(F:eQ W a ps body sc){A:Around}{P:Addr->Prop}{s:Shared}{us:List Value}{vs:List V}{R:Result->Shared->Prop}(htk:τ<=s.toks)(ao:AOk A (D+1))(ok:Ok W P s.heap)(hul:us.length=ps.length)(r:∀(i:Nat) v,vs[i]?=some v->∃u,us[i]?=some u/\Rp P s.heap u v)(h:∀env h₁ tk₁,τ<=tk₁->ac env.scope=ac sc->env.frame=some env.locals->(∀b,aw env b->s.heap.get? b=none)->(∀b o,s.heap.get? b=some o->h₁.get? b=some o)->Pre (W.at' s.heap) (aH P fun b=>aw env b) env (ro0 (ac sc) ps vs) h₁->(∀x u,(x,u)∈ps.zip us->aA W.T env h₁ x u) ->
   wpAny W.M (A.deeper env) (execs body env) (fun f s'=>R (.ok (.ret (match f with | .ret v=>v | _=>.none))) s') (fun e s'=>wpAny W.M (A.deeper env) (leaving env e) (fun U s''=>R (.error e) s'') (fun e' s''=>R (.error e') s'') s') { s with heap:=h₁,toks:=tk₁ }):
  codeAny W.M A (.call (.ref a) ⟨us,[]⟩) R s:=by
 refine byG fun gG kG=>?_;obtain⟨o,fd,ho,hd,hT,hcode,hsc,hbody,hclo,hg,hb,hbind⟩:=F.obj;refine kG ?_;refine rG (n:=τ) htk (o:=o) (fd:=fd) (body:=body) (binds:=ps.zip us) (by have:=ao.depth;show A.depth<1000;lia) (ok.kept a o hT ho) hd (G.at' ok.kept).lim (hcode.rec ok.kept) hbody (hbind us hul) hclo (fun x hx=>by rw[hsc];exact xO F hx _) (fun s₁ ht1 X=>?_) (by rw[hsc];exact F.co) (by rw[hsc];exact F.gen) (hsc▸sA F.ok);obtain pr:=(rm G F ok hsc hg hb r hul X).1;obtain mn:=(rm G F ok hsc hg hb r hul X).2.1;obtain vars:=(rm G F ok hsc hg hb r hul X).2.2;refine byG fun gG kG=>?_;obtain⟨h₁,tk₁,rfl,keep⟩:=X.done;refine kG ?_;exact h _ h₁ tk₁ ht1 (by show ac fd.scope=_;rw[hsc]) rfl mn keep pr vars
theorem mz{W:Wp}{env:Env}{h:Heap}{sc:Scope}{ps:List Str}{l:List V}(b:Addr):¬aQ W env (ro0 (ac sc) ps l) h b:=by
 rintro⟨i,x,cc,sl,h1,h2,h3,h4⟩;exact Az h2 h3
theorem uV{τ:Nat}{W:Wp}(G:WF W){D:Nat}{a:Addr}{ps:List Str}{body:List Stmt}{sc:Scope}(F:eQ W a ps body sc){φ:Ro->Option Out}(H:∀h,(∀b o,b∉W.T->W.h0.get? b=some o->h.get? b=some o)->SXs τ (W.at' h) D (ac sc) body φ):tT τ W (D+1) a (fnV (ac sc) ps φ):=by
 intro A P us l v s Q E' htk ao ok r e hQ;refine aO e fun hlen e=>aa e fun out hφ e=>?_;refine wpAny_call (gU G F htk ao ok (by rw[r.length,hlen]) (fun i v e=>r.get e) fun env h₁ tk₁ ht1 hc U mn keep pr U=>?_);have nm:∀b o,s.heap.get? b=some o->¬aw env b:=fun b o e m=>by exact nn (Eq.trans (Eq.symm (mn b m)) e)
 have fin:∀(P':Addr->Prop) (ρ':Ro) h' tk u,Pre (W.at' s.heap) P' env ρ' h'->Stp (W.at' s.heap) env (aH P fun b=>aw env b) (ro0 (ac sc) ps l) h₁ P' ρ' h'->Rp P' h' u v->Q u { s with heap:=h',toks:=tk }:=by
  intro P' ρ' h' tk u pr' st r';refine hQ u h' tk ⟨fun b o n e=>st.keep b o n (nm b o e) (mz b) (keep b o e),pr'.ok.ti⟩ (r'.mono fun b o p e=>⟨?_,e⟩);have nT:=pr'.ok.pt b p
  cases q:s.heap.get? b with
  |none=>exact ok.new b nT q
  |some o0=>
   by_cases hp:P b
   ·exact hp
   ·exact absurd p (st.pn b o0 (fun x=>hp x.1) nT (nm b o0 q) (mz b) (keep b o0 q))
 cases out with
 |nxt ρ'=>
  refine H s.heap ok.kept (A.deeper _) env _ _ _ (.nxt ρ') _ _ (ao.deeper _) trivial hc pr hφ ht1 fun P' h' tk pr' st=>?_
  cases e
  exact fin P' ρ' h' tk .none pr' st Rp.n
 |ret w ρ'=>
  refine H s.heap ok.kept (A.deeper _) env _ _ _ (.ret w ρ') _ _ (ao.deeper _) trivial hc pr hφ ht1 fun u P' h' tk pr' st r'=>?_
  cases e
  exact fin P' ρ' h' tk u pr' st r'
 |brk ρ'=>exact nn0 e
theorem yU{W:Wp}(G:WF W){D:Nat}{a:Addr}{ps:List Str}{body:List Stmt}{sc:Scope}(F:eQ W a ps body sc){φ:Ro->Option Out}(H:∀h,(∀b o,b∉W.T->W.h0.get? b=some o->h.get? b=some o)->SXs 0 (W.at' h) D (ac sc) body φ):Cal W (D+1) a (fnV (ac sc) ps φ):=
 fun A P us l v s Q E'=>uV G F H A P us l v s Q E' (cO _)
section
section
variable{prog:Program}{w:World}{A:Around}{E':Value->Shared->Prop}{s:Shared}
theorem oh{it l:Addr}{i:Nat}{items:Array Value}{Q:Value->Shared->Prop}(hh:A.handled=none)(hit:s.heap.IsListIter it l i)(hl:s.heap.IsList l items)(hx:items[i]?=none)(hE:∀h1 h' e,Heap.SameBut it s.heap h1->(∃o,h1.get? it=some o/\∃vs,o.data=.fields vs)->Heap.MadeExcOf h1 h' e (.type "StopIteration") []->E' (.ref e) { s with heap:=h' }):wpAny (model prog w) A (call (.builtin "next") [.ref it]) Q E' s:=by
 refine byG fun gG kG=>?_;obtain⟨o,ho,hc,hd⟩:=id hit;obtain⟨ol,hol,_,nl,hdl⟩:=hl;refine kG ?_;refine call_function_entry (by decide +kernel) (by decide +kernel) kdk_entry_next (kdk_args_next _) ?_;unfold Builtin.«next»;refine aj (m:=someArgs "next" 1 2 _) (wpAny_of_eq (a:=[Value.ref it]) (by first | rfl | kernel_rfl!) ?_);dsimp only;refine aj (wpAny_specialOf (name:=Str.ofString "__next__") hit.typeIs slot_listiter_next.lookup ?_);refine wpAny_ite_split (fun hab=>absurd hab (by decide)) (fun U=>?_);refine aj (wpAny_callSpecial?_slot (name:=Str.ofString "__next__") hit.typeIs slot_listiter_next
  (wpAny_call_entry slot_listiter_next hit.typeIs entry_listiter_next ?_ (args_listiter_next _)))
 show wpAny _ _ (field (.ref it) 0>>=_) _ _ s;refine aj (wpAny_field ho hd (x:=.ref l) rfl ?_);show wpAny _ _ (if(Value.ref l==Value.none)=true then _ else _) _ _ s;rw[ag (show ¬((Value.ref l==Value.none)=true)from Bool.false_ne_true)];show wpAny _ _ (field (.ref it) 1>>=_) _ _ s;refine aj (wpAny_field ho hd (x:=.int i 0) rfl ?_);show wpAny _ _ (seqItems? (.ref l)>>=_) _ _ s;refine aj (wpAny_seqItems hol hdl ?_);simp only[Int.toNat_natCast,hx];refine aj (wpAny_rule (aj (wpAny_setField ho hd (by simp) ?_)));show wpAny _ _ (newExc (.type "StopIteration") []>>=_) _ _ _;refine aj ?_;simp only[newExc,newTuple];refine aj (wpAny_newObj_type ?_ (by size_fits));refine aj (m:=firstArgMember _ _) (wpAny_of_eq (a:=Value.none) (by first | rfl | (simp only[firstArgMember];rfl)) ?_);refine wpAny_newObj_type ?_ (by size_fits);refine aj (m:=handled) (wpAny_handled ?_);obtain h1:A.in1.handled=none:=hh
 first
  |rw[show A.in1.handled=none from hh]
  |rw[hh]
 refine aj (az (wpAny_throw ?_));refine hE _ _ _ (Heap.SameBut.update ..) ⟨_,Heap.get?_update_self _ ho (Obj.isFreed_of_fields (Obj.data_mapFields hd _)),_,Obj.data_mapFields hd _⟩ ⟨fun b o e=>eP _ (eP _ e),?_,?_⟩
 ·exact lB (by rw[Heap.size_push];lia)
 ·refine⟨_,eO _ rfl,?_,eP _ (eO _ rfl)⟩
  exact lB (bS _)
end
end
section
section
variable{W:Wp}{A:Around}{E':Value->Shared->Prop}{s:Shared}{P:Addr->Prop}{env:Env}{ρ:Ro}{D:Nat}
structure Frm(W:Wp)(env:Env)(xs:List Str)(F:Heap->Prop):Prop where
 kx:∀h h',KX W h h'->F h->F h'
 st:∀x u a h h',x∉xs->fA W env x u a h h'->F h->F h'
theorem fA.mut{x:Str}{u:Value}{a:Addr}{h h':Heap}(st:fA W env x u a h h'):aw env a:=by
 rcases st.tgt with⟨_,e⟩ | ⟨_,e⟩
 ·exact .inl e
 ·exact .inr ⟨x,e⟩
theorem kc(G:WF W){F:Heap->Prop}{xs:List Str}(fr:Frm W env xs F){x:Str}{i:Nat}{c:Bool}{u:Value}{w:V}{Q:Unit->Shared->Prop}(hx:(ac env.scope).slots[i]?=some (x,c))(hn:x∉xs)(pr:Pre W P env ρ s.heap)(f:F s.heap)(r:Rp P s.heap u w)(h:∀h' tk,Pre W P env (ρ.set i (.val w)) h'->F h'->Q () { s with heap:=h',toks:=tk }):wpAny W.M A (storeName env x u) Q E' s:=
 bn G pr hx fun a h3 tk3 st=>h h3 tk3 (pr.store hx st ⟨u,st.at',r.mono fun b o p e=>⟨p,(st.same.2 b fun q=>(pr.hid a st.mut).np (q▸p)).trans e⟩⟩ fun o=>bF o) (fr.st _ _ _ _ _ hn st f)
theorem ql(G:WF W){F:Heap->Prop}{xs:List Str}(fr:Frm W env xs F){x:Str}{px pos:Pos}{v:Expr}{i:Nat}{c:Bool}{φ:Ro->Option V}{w:V}{Q:Flow->Shared->Prop}(ao:AOk A D)(hx:(ac env.scope).slots[i]?=some (x,c))(hn:x∉xs)(hv:SE W D (ac env.scope) v φ)(he:φ ρ=some w)(pr:Pre W P env ρ s.heap)(f:F s.heap)(hs:swapsWith v (some (.Name x px)) pos.line env=pure false)(h:∀h' tk,Pre W P env (ρ.set i (.val w)) h'->F h'->Q .next { s with heap:=h',toks:=tk }):wpAny W.M A (exec (.Assign [.Name x px] v pos) env) Q E' s:=by
 refine fW (hv A env ρ P s w _ E' ao rfl pr he fun u h1 tk1 K1 r1=>?_) hs;exact kc (s:={ s with heap:=h1,toks:=tk1 }) G fr hx hn (pr.step K1) (fr.kx _ _ K1 f) r1 fun h3 tk3 pr3 f3=>h h3 tk3 pr3 f3
theorem Ez(G:WF W){F:Heap->Prop}{xs:List Str}(fr:Frm W env xs F){x:Str}{px pos:Pos}{op:Operator}{v:Expr}{i:Nat}{c:Bool}{φ:Ro->Option V}{y z w:V}{Q:Flow->Shared->Prop}(ao:AOk A D)(hx:(ac env.scope).slots[i]?=some (x,c))(hn:x∉xs)(hv:SE W D (ac env.scope) v φ)(hy:ρ[i]?=some (.val y))(he:φ ρ=some z)(hw:kz op y z=some w)(pr:Pre W P env ρ s.heap)(f:F s.heap)(h:∀h' tk,Pre W P env (ρ.set i (.val w)) h'->F h'->Q .next { s with heap:=h',toks:=tk }):wpAny W.M A (exec (.AugAssign (.Name x px) op v pos) env) Q E' s:=by
 refine byG fun gG kG=>?_;obtain⟨u0,va,r0⟩:=pr.er i x c _ hx hy;refine kG ?_;refine wpAny_AugAssign_Name (bf pr (aZ pr hx) va ?_);refine hv A env ρ P s z _ E' ao rfl pr he fun u1 h1 tk1 K1 r1=>?_;refine pU G (pr.step K1).ok (s:={ s with heap:=h1,toks:=tk1 }) hw (r0.kx pr.ok.pt K1) r1 fun u2 h2 tk2 K2 r2=>?_;exact kc (s:={ s with heap:=h2,toks:=tk2 }) G fr hx hn ((pr.step K1).step K2) (fr.kx _ _ K2 (fr.kx _ _ K1 f)) r2 fun h3 tk3 pr3 f3=>h h3 tk3 pr3 f3
noncomputable def tb0:Tb:=⟨[],[], "", [],0,[]⟩
theorem wG(W:Wp)(Φ:Fun)(D:Nat):Cfg W tb0 Φ D:=⟨(fun x v e=>by cases e),(fun x i e=>by cases e)⟩
theorem Pre.hide{h:Heap}{h0:Heap}{f:Around->Env->Prop}(k:∀b o,h0.get? b=some o->W.h0.get? b=some o)(pr:Pre W P env ρ h):Pre { W with h0:=h0,fs:=f } P env ρ h where
 ok:=⟨fun b o n e=>pr.ok.kept b o n (k b o e),pr.ok.ti,pr.ok.new,pr.ok.pt⟩
 en:=pr.en
 er:=fun i x c sl h1 h2=>by
  have r:=pr.er i x c sl h1 h2;have hd:∀b,Hid W P b->Hid { W with h0:=h0,fs:=f } P b:=fun b x=>⟨x.np,x.nt,by
   cases q:h0.get? b with
   |none=>rfl
   |some o=>have:=k b o q;exact nn (Eq.trans (Eq.symm x.n0) this)⟩
  cases sl with
  |unb=>trivial
  |val v=>exact r
  |own l=>obtain⟨a,vs,n,e1,e2,e4,e5⟩:=r;exact⟨a,vs,n,e1,hd a e2,e4,e5⟩
  |itr l=>obtain⟨a,e1,e2,e4⟩:=r;exact⟨a,e1,hd a e2,e4⟩
 len:=pr.len
 hid:=fun b m=>by
  have x:=pr.hid b m;exact⟨x.np,x.nt,by
   cases q:h0.get? b with
   |none=>rfl
   |some o=>have:=k b o q;exact nn (Eq.trans (Eq.symm x.n0) this)⟩
 inj:=pr.inj
 ncl:=pr.ncl
 dist:=pr.dist
end
end
section
noncomputable def pvSc:Scope:={ kind:=.function,names:=[("iterator", .local),("b", .local),("val", .local),("next", .globalImplicit)],isGenerator:=false,isCoroutine:=false,more:=[] }
noncomputable def gO(q:Nat->Pos):List Stmt:=[
 .Assign [.Name "b" (q 0)] (.Call (.Name "next" (q 1)) [.Name "iterator" (q 2)] [] (q 3)) (q 4),
 .Assign [.Name "val" (q 5)] (.BinOp (.Name "b" (q 6)) .BitAnd (.Constant (.int 63) 0 (q 7)) (q 8)) (q 9),
 .While (.BinOp (.Name "b" (q 10)) .BitAnd (.Constant (.int 64) 0 (q 11)) (q 12)) [
  .AugAssign (.Name "val" (q 13)) .LShift (.Constant (.int 6) 0 (q 14)) (q 15),
  .Assign [.Name "b" (q 16)] (.Call (.Name "next" (q 17)) [.Name "iterator" (q 18)] [] (q 19)) (q 20),
  .AugAssign (.Name "val" (q 21)) .BitOr (.BinOp (.Name "b" (q 22)) .BitAnd (.Constant (.int 63) 0 (q 23)) (q 24)) (q 25)] [] (q 26),
 .Return (some (.Name "val" (q 27))) (q 28)]
noncomputable def qJ:Cx:=ac pvSc
theorem sJ(p p' p'':Pos):trE tb0 39 qJ (.BinOp (.Name "b" p) .BitAnd (.Constant (.int 63) 0 p') p'')=some (.bin .BitAnd (.var 1) (.const (.int 63))):=by rfl
theorem sI(p p' p'':Pos):trB tb0 40 qJ (.BinOp (.Name "b" p) .BitAnd (.Constant (.int 64) 0 p') p'')=some (.val (.bin .BitAnd (.var 1) (.const (.int 64)))):=by rfl
theorem Fd(p:Pos):trE tb0 39 qJ (.Constant (.int 6) 0 p)=some (.const (.int 6)):=by rfl
theorem Dt(p:Pos):trE tb0 39 qJ (.Name "val" p)=some (.var 2):=by rfl
section
variable{W:Wp}{A:Around}{E':Value->Shared->Prop}{s:Shared}{P:Addr->Prop}{env:Env}{ρ:Ro}{D:Nat}
structure ju(W:Wp)(P:Addr->Prop)(env:Env)(s0:Heap)(I:Addr)(l:List V)(h:Heap):Prop where
 var:aA W.T env h "iterator" (.ref I)
 it:eT P h I l
 keep:∀b o,b∉W.T->b≠I->¬aw env b->s0.get? b=some o->h.get? b=some o
theorem ju.frm{s0:Heap}{I:Addr}{l:List V}(pt:∀b,P b->b∉W.T)(hm:∀b,aw env b->¬P b)(hI:I∉W.T)(hIm:¬aw env I):Frm W env ["iterator"] (ju W P env s0 I l) where
 kx:=fun h h' K t=>⟨t.var.keep K.keep,t.it.keep pt K.keep hI,fun b o n e m q=>K.keep b o n (t.keep b o n e m q)⟩
 st:=fun x u a h h' hx st t=>by
  have ha:=st.mut;have k:∀b o,b≠a->h.get? b=some o->h'.get? b=some o:=fun b o hb e=>(st.same.2 b hb).trans e;refine⟨st.others _ _ (fun q=>hx (by rw[q];exact .head _)) t.var,?_,fun b o n e m q=>k b o (fun q=>m (q▸ha)) (t.keep b o n e m q)⟩;refine byG fun gG kG=>?_;obtain⟨la,i,vs,n,⟨o,ho,hc,hd⟩,hp,hl,rs⟩:=t.it;refine kG ?_;exact⟨la,i,vs,n,⟨o,k _ _ (fun q=>hIm (q▸ha)) ho,hc,hd⟩,hp,k _ _ (fun q=>hm a ha (q▸hp)) hl,rs.mono fun b o p e=>⟨p,k b o (fun q=>hm a ha (q▸p)) e⟩⟩
theorem pH(G:WF W)(ao:AOk A D){s0:Heap}{I:Addr}{x:V}{l:List V}{px fp tp cp pos:Pos}{Q:Flow->Shared->Prop}(hc:ac env.scope=qJ)(pr:Pre W P env ρ s.heap)(hI:Hid W P I)(hIm:¬aw env I)(tp0:ju W P env s0 I (x::l) s.heap)(hρ:∀sl∈ρ,¬bk sl)(h:∀h' tk,Pre W P env (ρ.set 1 (.val x)) h'->ju W P env s0 I l h'->Q .next { s with heap:=h',toks:=tk }):
  wpAny W.M A (exec (.Assign [.Name "b" px] (.Call (.Name "next" fp) [.Name "iterator" tp] [] cp) pos) env) Q E' s:=by
 refine byG fun gG kG=>?_;obtain⟨la,k,vs,n,hit,pl,hla,rs⟩:=tp0.it;refine kG ?_;refine fW ?_ rfl;obtain hg:(ac env.scope).glob "next" = true:=by rw[hc];rfl
 refine eS (bh (ce G pr hg (G.nb _ (by decide)) (by rw[G.bi _ (by decide)];exact nG) ?_) (by decide));rw[fg];refine iS rfl (fX (dH (bh (bf pr (by decide) tp0.var (fw ?_)) (by decide))));obtain⟨u,hu,ru⟩:=rs.get (i:=0) (x:=x) rfl;rw[List.getElem?_drop]at hu;refine nF hit hla.isList (x:=u) (by simpa using hu) fun h' hit' sb=>?_;refine byG fun gG kG=>?_;obtain⟨o,ho',hc',hd'⟩:=hit;refine kG ?_;have k1:∀b o,b≠I->s.heap.get? b=some o->h'.get? b=some o:=fun b o hb e=>(sb.2 b hb).trans e;obtain ti1:W.TI h':=dM G pr.ok.ti k1 ho' hI.nt (aV hd' (by simp));obtain hM:∀b o,aw env b->s.heap.get? b=some o->h'.get? b=some o:=fun b o m e=>k1 b o (fun q=>hIm (q▸m)) e;obtain pr2:Pre W P env ρ h':=by
  refine pr.stepG hM (fun b o w e=>by obtain⟨i,x,c,sl,h1,h2,h3,h4⟩:=w;exact absurd h3 (hρ sl (dw h2))) (fun b o p e=>⟨p,k1 b o (fun q=>hI.np (q▸p)) e⟩) (fun b hb x=>x) ⟨fun b o n e=>k1 b o (fun q=>ak hI.n0 (q▸e)) (pr.ok.kept b o n e),ti1,fun b n e=>pr.ok.new b n ?_,pr.ok.pt⟩
  cases q:s.heap.get? b with
  |none=>rfl
  |some o2=>
   obtain⟨o3,e3,_⟩:=hit';exact ak e (k1 b o2 (fun q2=>ak e (q2▸e3)) q)
 obtain t2:ju W P env s0 I l h':=by
  refine⟨tp0.var.keepM hM,⟨la,k+1,vs,n,hit',pl,k1 _ _ (fun q=>hI.np (q▸pl)) hla,?_⟩,fun b o n e m q=>k1 b o e (tp0.keep b o n e m q)⟩;have:=(rs.mono fun b o p e=>(⟨p,k1 b o (fun q=>hI.np (q▸p)) e⟩:P b/\h'.get? b=some o)).drop 1;rw[List.drop_drop]at this
  simpa [Nat.add_comm]using this
 obtain hsl:(ac env.scope).slots[1]?=some (("b" : Str),false):=by rw[hc];rfl
 exact kc (s:={ s with heap:=h' }) G (ju.frm pr.ok.pt (fun b m=>(pr.hid b m).np) hI.nt hIm) hsl (by decide) pr2 t2 (ru.mono fun b o p e=>⟨p,k1 b o (fun q=>hI.np (q▸p)) e⟩) h
noncomputable def BP(v:Int)(r:List V)(l:List V)(bb vv:Int):Prop:=(Builtin.bitAnd bb 64=0/\v=vv/\r=l)\/(Builtin.bitAnd bb 64≠0/\qI vv l=some (some v,r))
theorem uz{v b w:Int}{r l:List V}(h:(if Builtin.bitAnd b 64=0 then some (some w,l)else qI w l)=some (some v,r)):BP v r l b w:=
 dite (Builtin.bitAnd b 64=0) (fun z=>.inl (by
  have:=(af z).symm.trans h;simp only[Option.some.injEq,Prod.mk.injEq]at this;exact⟨z,this.1.symm,this.2.symm⟩)) fun z=>.inr ⟨z,(ag z).symm.trans h⟩
theorem vX{vv v:Int}{l r:List V}(h:qI vv l=some (some v,r)):Ex2 fun c l'=>dD (l=.int c::l') (ibits vv+6<=134217728) (BP v r l' c (Builtin.bitOr (vv*64) (Builtin.bitAnd c 63))):=by
 cases l with
 |nil=>exact nomatch al_0 h
 |cons x l=>
  cases x with
  |int c=>exact aO (o:=if Builtin.bitAnd c 64=0 then _ else _) h fun hb h=>⟨c,l,rfl,hb,uz h⟩
  |_=>exact nn0 h
theorem AE{v:Int}{l r:List V}(h:pv l=some (some v,r)):Ex2 fun b l'=>l=.int b::l'/\BP v r l' b (Builtin.bitAnd b 63):=by
 cases l with
 |nil=>exact nomatch al_0 h
 |cons x l=>
  cases x with
  |int c=>exact⟨c,l,rfl,uz h⟩
  |_=>exact nn0 h
inductive G3(W:Wp)(P:Addr->Prop)(env:Env)(s0:Heap)(I:Addr)(s:Shared)(v:Int)(r:List V):Nat->Shared->Prop
 |mk (l:List V) (bb vv:Int) (hx:Heap) (tkx:Nat) (pr:Pre W P env [.unb,.val (.int bb),.val (.int vv)] hx) (t:ju W P env s0 I l hx) (c:BP v r l bb vv):G3 W P env s0 I s v r l.length { s with heap:=hx,toks:=tkx }
theorem AD(G:WF W)(ao:AOk A D){s0:Heap}{I:Addr}{l r:List V}{v:Int}{q:Nat->Pos}{Q:Flow->Shared->Prop}(hc:ac env.scope=qJ)(pr:Pre W P env [.unb,.unb,.unb] s.heap)(hI:Hid W P I)(hIm:¬aw env I)(t0:ju W P env s0 I l s.heap)(hp:pv l=some (some v,r))(h:∀u h' tk ρ',Pre W P env ρ' h'->ju W P env s0 I r h'->Rp P h' u (.int v)->Q (.ret u) { s with heap:=h',toks:=tk }):
  wpAny W.M A (execs (gO q) env) Q E' s:=by
 have frm:∀l,Frm W env ["iterator"] (ju W P env s0 I l):=fun l=>ju.frm pr.ok.pt (fun b m=>(pr.hid b m).np) hI.nt hIm;have ih:=cA (Φ:=fun U U=>none) G (wG W _ D);have h2:(ac env.scope).slots[2]?=some (("val" : Str),false):=by rw[hc];rfl
 obtain⟨b,l,rfl,hp2⟩:=AE hp;refine aF (pH G ao hc pr hI hIm t0 (by simp[bk]) fun ha tka pra ta=>?_);refine aF (ql (s:={ s with heap:=ha,toks:=tka }) G (frm l) ao h2 (by decide) ((ih 39).e _ _ _ (hc▸sJ _ _ _)) (w:=.int (Builtin.bitAnd b 63)) (by rfl) pra ta rfl fun hb tkb prb tb=>?_);refine aF (wpAny_While (codeAny_whileLoop (G3 W P env s0 I s v r) ?_ l.length (.mk l b _ hb tkb prb tb hp2)));intro n s' iv;generalize (notedBy (model W.prog W.w) A env fun e s'=>_)=E1;obtain⟨l,bb,vv,hx,tkx,prx,tx,hcase⟩:=iv;obtain test:∀(b:Bool),decide (Builtin.bitAnd bb 64≠0)=b->evb (fun U U=>none) (.val (.bin .BitAnd (.var 1) (.const (.int 64)))) [.unb,.val (.int bb),.val (.int vv)]=some b:=fun b e=>by
  rw[<-e];show some (Builtin.bitAnd bb 64 != 0)=_;by_cases hz:Builtin.bitAnd bb 64=0<;>simp[hz]
 rcases hcase with⟨hz,rfl,rfl⟩ | ⟨hz,hg⟩
 ·refine(ih 40).b _ _ _ (hc▸sI _ _ _) A env _ P _ false _ E1 ao rfl prx (test _ (by simp[hz])) fun hy tky Ky=>?_
  refine eG (aF (wpAny_Return_some ((ih 39).e _ _ _ (hc▸Dt _) A env _ P _ (.int v) _ E' ao rfl (prx.step Ky) rfl fun u hz tkz Kz rz=>?_)));exact h u hz tkz _ ((prx.step Ky).step Kz) ((frm r).kx _ _ Kz ((frm r).kx _ _ Ky tx)) rz
 ·refine(ih 40).b _ _ _ (hc▸sI _ _ _) A env _ P _ true _ E1 ao rfl prx (test _ (by simp[hz])) fun hy tky Ky=>?_
  obtain⟨c,l,rfl,hbits,hst⟩:=vX hg;refine aF (Ez (s:={ s with heap:=hy,toks:=tky }) G (frm _) ao h2 (by decide) ((ih 39).e _ _ _ (hc▸Fd _)) rfl rfl (w:=.int (vv*64)) ?_ (prx.step Ky) ((frm _).kx _ _ Ky tx) fun hb tkb prb tb=>?_)
  ·obtain hb':(ibits vv:Int)+6<=134217728:=cP.mpr hbits
   obtain e:hG .LShift vv 6=some (vv*64):=by
    show(if(0:Int)<=6/\(ibits vv:Int)+6<=134217728 then some (vv*2^(6:Int).toNat)else none)=_;rw[af ⟨by decide,hb'⟩];exact aq (fun z:Int=>some (vv*z)) (show(2:Int)^(6:Int).toNat=64 from rfl)
   show(bif uM .LShift&&kin (.int vv) (.int 6)then(hG .LShift vv 6).map V.int else none)=_;rw[e];rfl
  ·refine aF (pH (s:={ s with heap:=hb,toks:=tkb }) G ao hc prb hI hIm tb (by simp[bk]) fun hd tkd prd td=>?_)
   refine aF (Ez (s:={ s with heap:=hd,toks:=tkd }) G (frm _) ao h2 (by decide) ((ih 39).e _ _ _ (hc▸sJ _ _ _)) rfl (z:=.int (Builtin.bitAnd c 63)) (by rfl) (w:=.int (Builtin.bitOr (vv*64) (Builtin.bitAnd c 63))) rfl prd td fun he tke pre te=>?_);exact eG ⟨l.length,dr _,.mk l c _ he tke pre te hst⟩
end
end
section
theorem mX{W:Wp}{P:Addr->Prop}{h:Heap}(ok:Ok W P h){I:Addr}(n0:W.h0.get? I=none):∀b o,b∉W.T->W.h0.get? b=some o->(hideAll h [I]).get? b=some o:=
 fun b o n e=>hideAll_get _ (ok.kept b o n e) (fun q=>by simp only[fx.mp q,n0]at e;cases e)
theorem qH{W:Wp}(G:WF W){A:Around}{P:Addr->Prop}{s:Shared}{D:Nat}{a I:Addr}{q:Nat->Pos}{l:List V}{R:Result->Shared->Prop}(F:eQ W a ["iterator"] (gO q) pvSc)(ao:AOk A (D+1))(ok:Ok W P s.heap)(hid:Hid W P I)(it:eT P s.heap I l)(h:∀(env:Env) (P':Addr->Prop) h₁ tk₁,ac env.scope=qJ->env.frame=some env.locals->(∀b,P' b->P b)->(∀b o,s.heap.get? b=some o->h₁.get? b=some o)->(∀b,aw env b->s.heap.get? b=none) ->
   WF (W.at' (hideAll s.heap [I]))->Pre (W.at' (hideAll s.heap [I])) P' env [.unb,.unb,.unb] h₁->Hid (W.at' (hideAll s.heap [I])) P' I->¬aw env I->ju (W.at' (hideAll s.heap [I])) P' env s.heap I l h₁ ->
   wpAny W.M (A.deeper env) (execs (gO q) env) (fun f s'=>R (.ok (.ret (match f with | .ret v=>v | _=>.none))) s')
    (fun e s'=>wpAny W.M (A.deeper env) (leaving env e) (fun U s''=>R (.error e) s'') (fun e' s''=>R (.error e') s'') s') { s with heap:=h₁,toks:=tk₁ }):
  codeAny W.M A (.call (.ref a) ⟨[.ref I],[]⟩) R s:=by
 refine gU G F (us:=[.ref I]) (vs:=[]) (cO _) ao ok rfl (fun i v e=>by simp at e) fun env h₁ tk₁ U hc hf mn keep pr vars=>?_;obtain hI0:∃o,s.heap.get? I=some o:=by
  refine byG fun gG kG=>?_;obtain⟨la,i,vs,n,⟨o,ho,_⟩,_⟩:=it;refine kG ?_;exact⟨o,ho⟩
 obtain hIm:¬aw env I:=fun m=>by
  obtain⟨o,ho⟩:=hI0;exact nn (Eq.trans (Eq.symm (mn I m)) ho)
 obtain m:∀b o,P b->s.heap.get? b=some o->aH P (fun b=>aw env b) b/\h₁.get? b=some o:=fun b o p e=>
  ⟨⟨p,fun hb=>by exact nn (Eq.trans (Eq.symm (mn b hb)) e)⟩,keep b o e⟩
 refine h env (aH P fun b=>aw env b) h₁ tk₁ hc hf (fun b p=>p.1) keep mn (G.at' (mX ok hid.n0)) (Pre.hide (W:=W.at' s.heap) (fun b o e=>of_hideAll _ e) pr) ⟨fun p=>hid.np p.1,hid.nt,hideAll_none _ (.head _)⟩ hIm ⟨vars _ _ (.head _),?_,fun b o U U U e=>keep b o e⟩;refine byG fun gG kG=>?_;obtain⟨la,i,vs,n,⟨o,ho,hc,hd⟩,hp,hl,rs⟩:=it;refine kG ?_;exact⟨la,i,vs,n,⟨o,keep _ _ ho,hc,hd⟩,(m la _ hp hl).1,keep _ _ hl,rs.mono m⟩
theorem Dw{W:Wp}(G:WF W){D:Nat}{a:Addr}{q:Nat->Pos}(F:eQ W a ["iterator"] (gO q) pvSc):ig W (D+1) a:=by
 intro A P I l v r s Q E' ao ok hid it hp hQ;refine wpAny_call (qH G F ao ok hid it fun env P' h₁ tk₁ hc hf sub keep mn G' pr hid' hIm tp=>?_);refine AD (W:=W.at' (hideAll s.heap [I])) G' (ao.deeper env) (s:={ s with heap:=h₁,toks:=tk₁ }) hc pr hid' hIm tp hp fun u h' tk ρ' pr' tp' ru=>?_;obtain⟨t,rfl⟩:∃t,u=Value.int v t:=ru;refine hQ t h' tk (fun b o n e q=>tp'.keep b o n e (fun m=>by exact nn (Eq.trans (Eq.symm (mn b m)) q)) q) pr'.ok.ti ?_ ?_
 ·obtain⟨la,i,vs,n,⟨o,ho,_⟩,_⟩:=tp'.it
  exact⟨o,ho⟩
 ·obtain⟨la,i,vs,n,x,p,y,z⟩:=tp'.it
  exact⟨la,i,vs,n,x,sub _ p,y,z.sub sub⟩
noncomputable def qr(h:Heap)(l:List Env):Prop:=∀e∈l,e.scope.kind≠.module/\Ex2 fun L o=>dD (e.frame=some L) (h.get? L=some o) (∀vs,o.data≠.fields vs)
theorem qr.fun{h base:Heap}:∀{l:List Env},qr h l->(∀e∈l,∀L,e.frame=some L->base.get? L=none)->h.FunFrames base l:=by
 intro l
 induction l with
 |nil=>
  intro _ _;exact trivial
 |cons e l zih=>
  intro x y;obtain⟨a,L,o,b,c,d⟩:=x e (.head _);exact⟨a,⟨L,o,b,y e (.head _) L b,c,d⟩,zih (fun e' he=>x e' (.tail _ he)) fun e' he=>y e' (.tail _ he)⟩
theorem qr.upTo{h h':Heap}{l:List Env}(x:qr h l)(k:h.UpToSlots h'):qr h' l:=fun e he=>by
 refine byG fun gG kG=>?_;obtain⟨a,L,o,b,c,d⟩:=x e he;obtain⟨sl,e'⟩:=k L o c d;refine kG ?_;exact⟨a,L,_,b,e',d⟩
section
variable{M:Model}{A:Around}{s:Shared}{E:Value->Shared->Prop}{base:Heap}{env:Env}{outer:List Env}{L e:Addr}{cls a0:Value}{Q:Unit->Shared->Prop}
theorem qV{h:Heap}{args:List Value}(hfr:A.frames=some (env::outer))(hf:env.frame=some L)(hkb:base.StaysIn h)(hl:h.FunFrames base (env::outer))(hx:Heap.MadeExcOf h s.heap e cls args)(hQ:∀h' t,Heap.HeldW base (env::outer) e cls (.ref t) L h'->s.heap.UpToSlots h'->Q () { s with heap:=h' }):wpAny M A (noteFrame (.ref e) env) Q E s:=by
 obtain⟨t,he,htn,ht⟩:=hx.there;have fresh:base.get? e=none:=by
  cases hq:base.get? e with
  |none=>rfl
  |some o'=>have:=hkb e o' hq;exact nn (Eq.trans (Eq.symm hx.new) this)
 unfold noteFrame;simp only[hf];refine aj (wpAny_field he rfl (x:=.none) rfl ?_);rw[ag (by decide)];refine wpAny_entryW (a0:=.ref t) hfr (hl.of_keeps fun b o hb U=>⟨o,hx.keeps b o hb,rfl⟩) hf he (fun b o hb=>hx.keeps b o (hkb b o hb)) fresh rfl (by show 1<6;decide) rfl fun h' hN=>?_;obtain k1:=hN.1;obtain k2:=hN.2.1;obtain k3:=hN.2.2.1;obtain k4:=hN.2.2.2;exact hQ h' t ⟨k1,fresh,k2,k3⟩ k4
theorem lA{l:List Env}{E':Value->Shared->Prop}(hf:env.frame=some L)(hh:Heap.HeldW base l e cls a0 L s.heap)(hQ:∀h',Heap.HeldW base l e cls a0 L h'->s.heap.UpToSlots h'->E' (.ref e) { s with heap:=h' }):cameBackBy M A env E' (.ref e) s:=by
 refine byG fun gG kG=>?_;obtain⟨hkb,hen,hl,oe,vs,T,oT,ts,he,hcls,hd,h1,hnT,hTe,hT,hdT,h3⟩:=hh;refine kG ?_;obtain hsz3:3<ts.size:=(Array.getElem?_eq_some_iff.mp h3).1;have other:∀b,b≠T->(s.heap.update T (Obj.mapFields (·.setIfInBounds 3 (rawInt L)))).get? b=s.heap.get? b:=fun b hb=>Heap.get?_update_other _ _ (Ne.symm hb);obtain noRecord:∀b o,s.heap.get? b=some o->(∀vs,o.data≠.fields vs)->b≠T:=fun b o hb hnf q=>by
  rw[q,hT]at hb;injection hb with hb;subst hb;exact hnf ts hdT
 refine aj (wpAny_field he hd h1 ?_);rw[ag (show ¬((Value.ref T==Value.none)=true)from Bool.false_ne_true)];refine aj (wpAny_field he hd h1 ?_);rw[af (show(Value.ref T != Value.none)=true from by simp),hf];refine wpAny_setField hT hdT hsz3 (hQ _ ⟨fun b o hbo=>(other b fun q=>by rw[q,hnT]at hbo;cases hbo).trans (hkb b o hbo),hen,hl.of_keeps fun b o hb hnf=>⟨o,(other b (noRecord b o hb hnf)).trans hb,rfl⟩,?_⟩ fun b o hb hn=>⟨o.slots,(other b (noRecord b o hb hn)).trans hb⟩);exact⟨oe,vs,T,_,_,(other e (Ne.symm hTe)).trans he,hcls,hd,h1,hnT,hTe,Heap.get?_update_self _ hT (Obj.isFreed_of_fields (Obj.data_mapFields hdT _)),Obj.data_mapFields hdT _,by simp[hsz3]⟩
theorem pQ(hf:env.frame=some L)(hh:Heap.HeldW base (env::outer) e cls a0 L s.heap)(hQ:∀h',Heap.FlyingW base outer e cls a0 h'->s.heap.UpToSlots h'->Q () { s with heap:=h' }):wpAny M A (leaving env (.ref e)) Q E s:=by
 unfold leaving;refine aj (wpAny_noteFrame_againW hf hh.2.2.2 ?_);refine wpAny_landsW hh fun h' hfl up=>?_;refine byG fun gG kG=>?_;obtain⟨k1,k2,⟨_,_,k3⟩,k4⟩:=hfl;refine kG ?_;exact hQ h' ⟨k1,k2,k3,k4⟩ up
end
noncomputable def gB(W:Wp)(D:Nat)(f:Addr):Prop:=
 ∀(A:Around) (P:Addr->Prop) (I:Addr) (l:List V) (l0:List Env) (s:Shared) (Q:Value->Shared->Prop) (E':Value->Shared->Prop),AOk A D->Ok W P s.heap->Hid W P I->eT P s.heap I l->iO l=true->A.frames=some l0->qr s.heap l0 ->
  (∀e t h' tk base,(∀b o,b≠I->b∉l0.filterMap (·.frame)->s.heap.get? b=some o->base.get? b=some o)->(∃o,base.get? I=some o)->Heap.FlyingW base l0 e (.type "StopIteration") (.ref t) h'->s.heap.UpToSlots h' ->
   E' (.ref e) { s with heap:=h',toks:=tk })->wpAny W.M A (call (.ref f) [.ref I]) Q E' s
theorem zg{l:List V}(h:iO l=true):l=[]\/∃b,l=[.int b]/\(Builtin.bitAnd b 64 != 0&&decide (ibits (Builtin.bitAnd b 63)<=64))=true:=by
 cases l with
 |nil=>exact .inl rfl
 |cons x l=>
  cases x with
  |int b=>
   cases l with
   |nil=>exact .inr ⟨b,rfl,h⟩
   |cons _ _=>cases h
  |_=>cases h
theorem xJ{W:Wp}{A:Around}{E1:Value->Shared->Prop}{s:Shared}{P:Addr->Prop}{env:Env}{ρ:Ro}(G:WF W)(hh:A.handled=none){s0:Heap}{I:Addr}{px fp tp cp pos:Pos}{Q:Flow->Shared->Prop}(hc:ac env.scope=qJ)(pr:Pre W P env ρ s.heap)(t0:ju W P env s0 I [] s.heap)(h:∀h1 h2 e,Heap.SameBut I s.heap h1->(∃o,h1.get? I=some o/\∃vs,o.data=.fields vs)->Heap.MadeExcOf h1 h2 e (.type "StopIteration") []->E1 (.ref e) { s with heap:=h2 }):
  wpAny W.M A (exec (.Assign [.Name "b" px] (.Call (.Name "next" fp) [.Name "iterator" tp] [] cp) pos) env) Q E1 s:=by
 refine byG fun gG kG=>?_;obtain⟨la,i,vs,n,hit,pl,hla,rs⟩:=t0.it;refine kG ?_;refine fW ?_ rfl;obtain hg:(ac env.scope).glob "next" = true:=by rw[hc];rfl
 refine eS (bh (ce G pr hg (G.nb _ (by decide)) (by rw[G.bi _ (by decide)];exact nG) ?_) (by decide));rw[fg];refine iS rfl (fX (dH (bh (bf pr (by decide) t0.var (fw ?_)) (by decide))));obtain hend:vs[i]?=none:=by
  have:=rs.length;rw[List.length_drop]at this;rw[Array.getElem?_eq_none]
  simpa [Nat.sub_eq_zero_iff_le]using this
 exact oh hh hit hla.isList hend fun h1 h2 e sb hIe mk=>h h1 h2 e sb hIe mk
noncomputable def Wp.one(W:Wp)(h:Heap)(I:Addr):Wp:={ W with T:=[],TI:=fun U=>True,h0:=hideAll h [I],fs:=fun U U=>True }
theorem WF.one{W:Wp}(G:WF W){P:Addr->Prop}{h:Heap}(ok:Ok W P h){I:Addr}(n0:W.h0.get? I=none):WF (W.one h I) where
 g:=cB (mX ok n0) G.gT G.g
 gT:=cM
 b:=cB (mX ok n0) G.bT G.b
 bT:=cM
 lim:=(by obtain⟨mc,a,b⟩:=G.lim;exact⟨mc,cB (mX ok n0) G.limT a,b⟩)
 limT:=cM
 bi:=G.bi
 tx:=fun U U U h=>nomatch h
 nb:=G.nb
 ti:=fun U U U U=>trivial
theorem Du{W:Wp}(G:WF W){D:Nat}{a:Addr}{q:Nat->Pos}(F:eQ W a ["iterator"] (gO q) pvSc):gB W (D+1) a:=by
 intro A P I l l0 s Q E' ao ok hid it hend hfr hfo hE;obtain G0:=G.one ok hid.n0;obtain ok0:Ok (W.one s.heap I) P s.heap:=⟨fun b o U e=>of_hideAll _ e,trivial,fun b U e=>ok.fresh G e,fun b U=>cM⟩;obtain F0:eQ (W.one s.heap I) a ["iterator"] (gO q) pvSc:=F.re fun b o n e=>⟨cM,mX ok hid.n0 b o n e⟩;refine wpAny_call (qH G0 F0 ao ok0 ⟨hid.np,cM,hideAll_none _ (.head _)⟩ it fun env P' h₁ tk₁ hc hf sub keep mn G' pr hid' hIm tp=>?_);obtain ao':=ao.deeper env;have hfr':(A.deeper env).frames=some (env::l0):=by show A.frames.map _=_;rw[hfr];rfl
 obtain hI0:∃vs,∃o,s.heap.get? I=some o/\o.data=.fields vs:=by
  obtain⟨la,i,vs,n,⟨o,ho,hc,hd⟩,_⟩:=it;exact⟨_,o,ho,hd⟩
 -- the raise
 have rai:∀(ρ:Ro) (h h1:Heap),Pre ((W.one s.heap I).at' (hideAll s.heap [I])) P' env ρ h->(∀b o,b≠I->s.heap.get? b=some o->h.get? b=some o)->Heap.SameBut I h h1 ->
   s.heap.UpToSlots h1/\h1.FunFrames (hideAll h1 ((env::l0).filterMap (·.frame))) (env::l0)/\∀b o,b≠I->b∉l0.filterMap (·.frame)->s.heap.get? b=some o->(hideAll h1 ((env::l0).filterMap (·.frame))).get? b=some o:=by
  intro ρ h h1 pr k sb;have k1:∀b o,b≠I->s.heap.get? b=some o->h1.get? b=some o:=fun b o hb e=>(sb.2 b hb).trans (k b o hb e);have up0:s.heap.UpToSlots h1:=fun b o e hn=>⟨o.slots,k1 b o (fun q=>by
   obtain⟨vs,o',ho',hd'⟩:=hI0;rw[q,ho']at e;cases e;exact hn _ hd') e⟩
  obtain fo1:qr h1 (env::l0):=by
   intro e' he;rcases aM.mp he with qe | he
   ·rw[qe]
    obtain⟨m,o,es,ep,ho,hd,_⟩:=pr.en.lns;exact⟨by rw[pr.en.kind];decide,env.locals,o,hf,(sb.2 _ fun q=>hIm (q▸.inl rfl)).trans ho,fun vs q=>by rw[hd]at q;cases q⟩
   ·exact hfo.upTo up0 e' he
  refine⟨up0,fo1.fun fun e' he L hL=>hideAll_none _ (List.mem_filterMap.mpr ⟨e',he,hL⟩),fun b o hb hnf e=>hideAll_get _ (k1 b o hb e) fun q=>?_⟩;simp only[List.filterMap_cons,hf]at q;rcases aM.mp q with q | q
  ·exact nn (Eq.trans (Eq.symm (mn b (.inl q))) e)
  ·exact hnf q
 have bI:∀{ρ:Ro}{h h1:Heap},Pre ((W.one s.heap I).at' (hideAll s.heap [I])) P' env ρ h->h1.FunFrames (hideAll h1 ((env::l0).filterMap (·.frame))) (env::l0)->(∃o,h1.get? I=some o/\∃vs,o.data=.fields vs)->∃o,(hideAll h1 ((env::l0).filterMap (·.frame))).get? I=some o:=by
  intro ρ h h1 pr ff hIe;obtain⟨o,ho,vs2,hdd⟩:=hIe;refine⟨o,hideAll_get _ ho fun q=>?_⟩;obtain⟨_,o2,c,d⟩:=ff.mem q;obtain rfl:=al_0 (Eq.trans (Eq.symm ho) c);exact d _ hdd
 rcases zg hend with rfl | ⟨b,rfl,hend⟩
 ·unfold gO
  refine aF (xJ G' (s:={ s with heap:=h₁,toks:=tk₁ }) (by show A.handled=none;exact ao.hd) hc pr tp fun h1 h2 e sb hIe mk=>?_);obtain up0:=(rai _ _ _ pr (fun b o U e=>keep b o e) sb).1;obtain ff:=(rai _ _ _ pr (fun b o U e=>keep b o e) sb).2.1;obtain kb:=(rai _ _ _ pr (fun b o U e=>keep b o e) sb).2.2;refine wpAny_leaves_madeW (h:=h1) (base:=hideAll h1 ((env::l0).filterMap (·.frame))) hfr' hf (fun b o e=>of_hideAll _ e) ff mk fun h' t hfl U U upS=>?_;exact hE e t h' tk₁ _ kb (bI pr ff hIe) hfl (up0.trans ((Heap.UpToSlots.of_keeps mk.keeps).trans upS))
 ·obtain g1:=(aT hend).1
  obtain g2:=(aT hend).2;obtain hz:Builtin.bitAnd b 64≠0:=by simpa using g1
  have hbits:ibits (Builtin.bitAnd b 63)<=64:=by simpa using g2
  have frm:∀l,Frm ((W.one s.heap I).at' (hideAll s.heap [I])) env ["iterator"] (ju ((W.one s.heap I).at' (hideAll s.heap [I])) P' env s.heap I l):=fun l=>ju.frm pr.ok.pt (fun b m=>(pr.hid b m).np) hid'.nt hIm;obtain ih:=cA (Φ:=fun U U=>none) G' (wG _ _ D);have h2:(ac env.scope).slots[2]?=some (("val" : Str),false):=by rw[hc];rfl
  refine aF (pH (s:={ s with heap:=h₁,toks:=tk₁ }) G' ao' hc pr hid' hIm tp (by simp[bk]) fun ha tka pra ta=>?_);refine aF (ql (s:={ s with heap:=ha,toks:=tka }) G' (frm []) ao' h2 (by decide) ((ih 39).e _ _ _ (hc▸sJ _ _ _)) (w:=.int (Builtin.bitAnd b 63)) (by rfl) pra ta rfl fun hb tkb prb tb=>?_);refine aF (wpAny_While (codeAny_whileLoop (fun U s'=>s'={ s with heap:=hb,toks:=tkb }) ?_ 0 rfl));rintro n s' rfl;obtain test:evb (fun U U=>none) (.val (.bin .BitAnd (.var 1) (.const (.int 64)))) [.unb,.val (.int b),.val (.int (Builtin.bitAnd b 63))]=some true:=by
   show some (Builtin.bitAnd b 64 != 0)=_;simp[hz]
  refine(ih 40).b _ _ _ (hc▸sI _ _ _) (A.deeper env) env _ P' { s with heap:=hb,toks:=tkb } true _ _ ao' rfl prb test fun hy tky Ky=>?_;refine aF (Ez (s:={ s with heap:=hy,toks:=tky }) G' (frm _) ao' h2 (by decide) ((ih 39).e _ _ _ (hc▸Fd _)) rfl rfl (w:=.int (Builtin.bitAnd b 63*64)) ?_ (prb.step Ky) ((frm _).kx _ _ Ky tb) fun hw tkw prw tw=>?_)
  ·obtain hb':(ibits (Builtin.bitAnd b 63):Int)+6<=134217728:=by lia
   have e:hG .LShift (Builtin.bitAnd b 63) 6=some (Builtin.bitAnd b 63*64):=by
    show(if(0:Int)<=6/\(ibits (Builtin.bitAnd b 63):Int)+6<=134217728 then some (Builtin.bitAnd b 63*2^(6:Int).toNat)else none)=_;rw[af ⟨by decide,hb'⟩];exact aq (fun z:Int=>some (Builtin.bitAnd b 63*z)) (show(2:Int)^(6:Int).toNat=64 from rfl)
   show(bif uM .LShift&&kin (.int (Builtin.bitAnd b 63)) (.int 6)then(hG .LShift (Builtin.bitAnd b 63) 6).map V.int else none)=_;rw[e];rfl
  ·refine aF (xJ G' (s:={ s with heap:=hw,toks:=tkw }) (by show A.handled=none;exact ao.hd) hc prw tw fun h1 h2 e sb hIe mk=>?_)
   obtain up0:=(rai _ _ _ prw (fun b o hb e=>tw.keep b o cM hb (fun m=>by exact nn (Eq.trans (Eq.symm (mn b m)) e)) e) sb).1;obtain ff:=(rai _ _ _ prw (fun b o hb e=>tw.keep b o cM hb (fun m=>by exact nn (Eq.trans (Eq.symm (mn b m)) e)) e) sb).2.1;obtain kb:=(rai _ _ _ prw (fun b o hb e=>tw.keep b o cM hb (fun m=>by exact nn (Eq.trans (Eq.symm (mn b m)) e)) e) sb).2.2;refine qV (s:={ s with heap:=h2,toks:=tkw }) (h:=h1) (base:=hideAll h1 ((env::l0).filterMap (·.frame))) hfr' hf (fun b o e=>of_hideAll _ e) ff mk fun h3 t hh upS=>?_;refine lA (s:={ s with heap:=h3,toks:=tkw }) hf hh fun h4 hh4 up4=>?_;refine pQ (s:={ s with heap:=h4,toks:=tkw }) hf hh4 fun h5 hfl up5=>?_;exact hE e t h5 tkw _ kb (bI prw ff hIe) hfl (up0.trans ((Heap.UpToSlots.of_keeps mk.keeps).trans ((upS.trans up4).trans up5)))
end
section
section
variable{W:Wp}{P P':Addr->Prop}{env:Env}{ρ:Ro}{h h':Heap}
theorem aA.simM{T:List Addr}{x:Str}{v:Value}(k:∀b o,aw env b->h.get? b=some o->∃o',h'.get? b=some o'/\o'.data=o.data)(r:aA T env h x v):aA T env h' x v:=by
 rcases r with⟨a,b,m,⟨o,es,ep,ho,hd,r⟩,hm⟩ | ⟨a,c,hc,hT,⟨o,ho,hd⟩⟩
 ·obtain⟨o',ho',hd'⟩:=k _ _ (.inl rfl) ho
  exact .inl ⟨a,b,m,⟨o',es,ep,ho',hd'.trans hd,r⟩,hm⟩
 ·obtain⟨o',ho',hd'⟩:=k _ _ (.inr ⟨x,hc⟩) ho
  exact .inr ⟨a,c,hc,hT,⟨o',ho',hd'.trans hd⟩⟩
theorem fZ.simM{T:List Addr}(k:∀b o,aw env b->h.get? b=some o->∃o',h'.get? b=some o'/\o'.data=o.data)(r:fZ T env h):fZ T env h' where
 kind:=r.kind
 glob:=r.glob
 blt:=r.blt
 lT:=r.lT
 lns:=by
  refine byG fun gG kG=>?_;obtain⟨m,o,es,ep,ho,hd,q⟩:=r.lns;obtain⟨o',ho',hd'⟩:=k _ _ (.inl rfl) ho;refine kG ?_;exact⟨m,o',es,ep,ho',hd'.trans hd,q⟩
 cells:=fun x hx=>by
  refine byG fun gG kG=>?_;obtain⟨a,c,v,e1,⟨o,ho,hd⟩,e3⟩:=r.cells x hx;obtain⟨o',ho',hd'⟩:=k _ _ (.inr ⟨x,e1⟩) ho;refine kG ?_;exact⟨a,c,v,e1,⟨o',ho',hd'.trans hd⟩,e3⟩
 locs:=r.locs
 nd:=r.nd
 ncd:=r.ncd
 allc:=fun x c hx=>by
  refine byG fun gG kG=>?_;obtain⟨a,v,o,ho,hd⟩:=r.allc x c hx;obtain⟨o',ho',hd'⟩:=k _ _ (.inr ⟨x,hx⟩) ho;refine kG ?_;exact⟨a,v,o',ho',hd'.trans hd⟩
theorem Pre.sim(pr:Pre W P env ρ h)(kM:∀b o,aw env b->h.get? b=some o->∃o',h'.get? b=some o'/\o'.data=o.data)(k:∀b o,b∉W.T->¬aw env b->h.get? b=some o->h'.get? b=some o)(G:WF W)(ti:W.TI h'):
  Pre W P env ρ h'/\Stp W env P ρ h P ρ h':=by
 have nmP:∀b,P b->¬aw env b:=fun b p m=>(pr.hid b m).np p;have m:∀b o,P b->h.get? b=some o->P b/\h'.get? b=some o:=fun b o p e=>⟨p,k b o (pr.ok.pt b p) (nmP b p) e⟩;have kO:∀b o,aQ W env ρ h b->h.get? b=some o->h'.get? b=some o:=fun b o w e=>by
  obtain⟨hd,nm,_⟩:=cb pr w;exact k b o hd.nt nm e
 have ex:∀b o,h.get? b=some o->∃o',h'.get? b=some o':=fun b o e=>by
  by_cases q:aw env b
  ·obtain⟨o',e',_⟩:=kM b o q e;exact⟨o',e'⟩
  ·by_cases t:b∈W.T
   ·obtain⟨o',e',_⟩:=G.tx h' ti b t;exact⟨o',e'⟩
   ·exact⟨o,k b o t q e⟩
 refine⟨⟨⟨fun b o n e=>k b o n (fun q=>by exact nn (Eq.trans (Eq.symm ((pr.hid b q).n0)) e)) (pr.ok.kept b o n e),ti,fun b n e=>pr.ok.new b n ?_,pr.ok.pt⟩,pr.en.simM kM,fun i x c sl h1 h2=>?_,pr.len,pr.hid,pr.inj,pr.ncl,?_⟩,?_⟩
 ·cases q:h.get? b with
  |none=>rfl
  |some o=>obtain⟨o',e'⟩:=ex b o q;exact nn (Eq.trans (Eq.symm e) e')
 ·have r:=pr.er i x c sl h1 h2
  cases sl with
  |unb=>trivial
  |val v=>obtain⟨u,a,b⟩:=r;exact⟨u,a.simM kM,b.mono m⟩
  |own l=>
   refine byG fun gG kG=>?_;obtain⟨a,vs,n,e1,e2,e4,e5⟩:=r;refine kG ?_;exact⟨a,vs,n,e1.simM kM,e2,kO _ _ ⟨i,x,c,_,h1,h2,⟨l,.inl rfl⟩,e1⟩ e4,e5.mono m⟩
  |itr l=>
   refine byG fun gG kG=>?_;obtain⟨a,e1,e2,la,q,vs,n,⟨o,ho,hc,hd⟩,hp,hl,rs⟩:=r;refine kG ?_;exact⟨a,e1.simM kM,e2,la,q,vs,n,⟨o,kO _ _ ⟨i,x,c,_,h1,h2,⟨l,.inr rfl⟩,e1⟩ ho,hc,hd⟩,(m _ _ hp hl).1,(m _ _ hp hl).2,rs.mono m⟩
 ·intro i j x y ci cj si sj a hij h1 h2 h3 h4 o1 o2 v1 v2
  refine byG fun gG kG=>?_;obtain⟨a1,w1,_⟩:=(pr.er i x ci si h1 h3).var o1;obtain⟨a2,w2,_⟩:=(pr.er j y cj sj h2 h4).var o2;refine kG ?_;have e1:=(w1.simM kM).det v1;have e2:=(w2.simM kM).det v2
  cases e1;cases e2
  exact pr.dist i j x y ci cj si sj _ hij h1 h2 h3 h4 o1 o2 w1 w2
 ·refine⟨fun b o n m w e=>k b o n m e,ex,fun U U p U=>p,fun U U p U U U U=>p,fun b w=>.inl ?_⟩
  refine byG fun gG kG=>?_;obtain⟨i,x,c,sl,h1,h2,h3,h4⟩:=w;obtain⟨a,w,_⟩:=(pr.er i x c sl h1 h2).var h3;refine kG ?_;have:=(w.simM kM).det h4
  cases this
  exact⟨i,x,c,sl,h1,h2,h3,w⟩
end
structure lr(W:Wp)(l0:List Env):Prop where
 fs:∀A env,W.fs A env->A.frames=some (env::l0)/\env.frame=some env.locals
 inT:∀L∈l0.filterMap (·.frame),L∈W.T
 fr:∀h,W.TI h->qr h l0
 ti:∀h h':Heap,(∀b o,h.get? b=some o->(b∈W.T\/cz o)->b∉l0.filterMap (·.frame)->h'.get? b=some o)->h.UpToSlots h'->W.TI h->W.TI h'
theorem vJ:isSubtype (.type "StopIteration") (.type "BaseException")=pure true:=by rw[isSubtype_type];kernel_rfl
theorem xd:isSubtype (.type ((Manifest.find? "StopIteration").elim "type" fun x=>x.metatype)) (.type "tuple")=pure false:=by rw[isSubtype_type];kernel_rfl
theorem wH:bootBuiltins "StopIteration" = some (.type "StopIteration"):=by decide +kernel
section
variable{W:Wp}{tb:Tb}{Φ:Fun}{τ N D n:Nat}{c:Cx}
theorem tG(G:WF W){l0:List Env}(C:lr W l0){P:Addr->Prop}{env:Env}{ρ:Ro}{h h3 base:Heap}{I:Addr}{j:Nat}{t:Str}{ct:Bool}{sl0:Sl}(pr:Pre W P env ρ h)(hst:(ac env.scope).slots[j]?=some (t,ct))(hl:ρ[j]?=some sl0)(io:bk sl0)(va:aA W.T env h t (.ref I))(hI:∃o,h.get? I=some o/\∃vs,o.data=.fields vs/\¬cz o)(kb:∀b o,b≠I->b∉(env::l0).filterMap (·.frame)->h.get? b=some o->base.get? b=some o)(bI:∃o,base.get? I=some o)(hf:env.frame=some env.locals)(st:base.StaysIn h3)(up:h.UpToSlots h3):
  Pre W P env (ρ.set j .unb) h3/\Stp W env P ρ h P (ρ.set j .unb) h3:=by
 refine byG fun gG kG=>?_;obtain⟨oI,hoI,vsI,hdI,hnI⟩:=hI;refine kG ?_;obtain hid:=(cb pr ⟨j,t,ct,_,hst,hl,io,va⟩).1;obtain nmI:=(cb pr ⟨j,t,ct,_,hst,hl,io,va⟩).2.1;refine byG fun gG kG=>?_;obtain⟨m0,oL,es,ep,hoL,hdL,_⟩:=pr.en.lns;obtain⟨sl,hsl⟩:=up _ _ hoL (fun vs q=>by rw[hdL]at q;cases q);refine kG ?_;have nIL:I≠env.locals:=fun q=>nmI (.inl q)
 -- a heap between
 let hm:Heap:=h.update env.locals fun o=>{ o with slots:=sl }
 have hfree:({ oL with slots:=sl }:Obj).isFreed=false:=by
  refine byG fun gG kG=>?_;obtain⟨c,d,dt,s0⟩:=oL;refine kG ?_;have hdL:dt=_:=hdL;subst hdL;rfl
 have hmL:hm.get? env.locals=some { oL with slots:=sl }:=Heap.get?_update_self _ hoL hfree;have hmO:∀b,b≠env.locals->hm.get? b=h.get? b:=fun b hb=>Heap.get?_update_other _ _ (Ne.symm hb);have tim:W.TI hm:=G.ti h hm (fun b o e hx=>by
  by_cases q:b=env.locals
  ·subst q
   rcases hx with hx | ⟨vs,_,_,hv,_⟩
   ·exact absurd hx pr.en.lT
   ·rw[hoL]at e;cases e;rw[hdL]at hv;cases hv
  ·rw[hmO b q];exact e) pr.ok.ti
 obtain⟨prm,sm⟩:=pr.sim (h':=hm) (fun b o m e=>by
  by_cases q:b=env.locals
  ·subst q;obtain rfl:=al_0 (Eq.trans (Eq.symm hoL) e);exact⟨_,hmL,rfl⟩
  ·exact⟨o,(hmO b q).trans e,rfl⟩) (fun b o U nm e=>(hmO b fun q=>nm (.inl q)).trans e) G tim
 have vam:aA W.T env hm t (.ref I):=va.simM (fun b o m e=>by
  by_cases q:b=env.locals
  ·subst q;obtain rfl:=al_0 (Eq.trans (Eq.symm hoL) e);exact⟨_,hmL,rfl⟩
  ·exact⟨o,(hmO b q).trans e,rfl⟩)
 have kx:∀b o,b≠I->b≠env.locals->b∉l0.filterMap (·.frame)->h.get? b=some o->h3.get? b=some o:=fun b o h1 h2 h4 e=>st b o (kb b o h1 (fun q=>by
  simp only[List.filterMap_cons,hf]at q;rcases aM.mp q with q | q
  ·exact h2 q
  ·exact h4 q) e)
 have ti3:W.TI h3:=C.ti h h3 (fun b o e hx hnf=>kx b o (fun q=>by
   subst q;rcases hx with hx | hx
   ·exact hid.nt hx
   ·obtain rfl:=al_0 (Eq.trans (Eq.symm hoI) e);exact hnI hx) (fun q=>by
   subst q;rcases hx with hx | ⟨vs,_,_,hv,_⟩
   ·exact pr.en.lT hx
   ·rw[hoL]at e;cases e;rw[hdL]at hv;cases hv) hnf e) up pr.ok.ti
 obtain⟨pr3,s3⟩:=prm.mut G hst hl io vam (h':=h3) (sl:=.unb) (fun b o n hb e=>by
  by_cases q:b=env.locals
  ·subst q;obtain rfl:=al_0 (Eq.trans (Eq.symm hmL) e);exact hsl
  ·rw[hmO b q]at e
   exact kx b o hb q (fun q=>n (C.inT b q)) e) ti3 (by obtain⟨o,ho⟩:=bI;exact⟨o,st _ _ ho⟩) fun U U U=>trivial
 exact⟨pr3,sm.trans s3⟩
noncomputable abbrev nv(f cut xs y:Str)(q:Nat->Pos)(kd:Nat):Stmt:=.Try [.Expr (.Call (.Name f (q 0)) [.Name cut (q 1)] [] (q 2)) (q 3)] [.ExceptHandler (some (.Name xs (q 4))) none [.AugAssign (.Name y (q 5)) .Add (.Constant (.int 1) kd (q 6)) (q 7)] (q 8)] [] [] (q 9)
theorem rD(G:WF W){l0:List Env}(C:lr W l0)(Pv:i9 W tb D)(Pr:∀a,W.mg tb.pvn=some (.ref a)->gB W D a){A:Around}{env:Env}{ρ:Ro}{P:Addr->Prop}{s:Shared}{Q:Flow->Shared->Prop}{E':Value->Shared->Prop}{cut t y xs:Str}{q:Nat->Pos}{kd:Nat}{i j:Nat}{I:Addr}{cc ct cy:Bool}{l:List V}{m:Int}{sl0:Sl}{c':Nat}(hs:xs = "StopIteration")(ao:AOk A D)(fo:W.fs A env)(pr:Pre W P env ρ s.heap)(hst:(ac env.scope).slots[j]?=some (t,ct))(hl:ρ[j]?=some sl0)(io:bk sl0)(va:aA W.T env s.heap t (.ref I))(hid:Hid W P I)(it:eT P s.heap I l)(hend:iO l=true)(hsc:(ac env.scope).slots[c']?=some (cut,cc))(vc:aA W.T env s.heap cut (.ref I))(hsy:(ac env.scope).slots[i]?=some (y,cy))(hv:ρ[i]?=some (.val (.int m)))(hij:i≠j)(hd:(cut==("__debug__" : Str))=false)(hd2:(tb.pvn==("__debug__" : Str))=false)(hg:(ac env.scope).glob tb.pvn=true)(hgs:(ac env.scope).glob xs=true)(h:∀h' tk,Pre W P env ((ρ.set j .unb).set i (.val (.int (m+1)))) h'->Stp W env P ρ s.heap P ((ρ.set j .unb).set i (.val (.int (m+1)))) h'->Q .next { s with heap:=h',toks:=tk }):
  wpAny W.M A (execs [nv tb.pvn cut xs y q kd] env) Q E' s:=by
 subst hs;obtain⟨hfr,hf⟩:=C.fs A env fo;obtain⟨f,fo',fd,hm,hfo,hdat,hT,cal⟩:=Pv.fn;refine aF (wpAny_Try_except ?_);refine aF (wpAny_Expr (eS (bh (bo G pr hg hm ?_) hd2)) (gS pr.en) rfl);rw[fg];refine iU (o:=fo') (fd:=fd) (fX (dH (bh (bf pr (aZ pr hsc) vc (fw ?_)) hd)));refine⟨⟨jH pr.ok hfo hT,hdat⟩,?_⟩;refine Pr f hm A P I l (env::l0) s _ _ ao pr.ok hid it hend hfr (fun e he=>?_) fun e tt h1 tk1 base kb bI hfl up1=>?_
 ·rcases aM.mp he with rfl | he
  ·obtain⟨m,o,es,ep,ho,hd,_⟩:=pr.en.lns
   exact⟨by rw[pr.en.kind];decide,_,o,hf,ho,fun vs q=>by rw[hd]at q;cases q⟩
  ·exact C.fr _ pr.ok.ti e he
 ·refine wpAny_looks_onW hfr hf hfl fun h2 hheld up2=>?_
  refine wpAny_landsW hheld fun h3 hfl3 up3=>?_;obtain hIf:∃o,s.heap.get? I=some o/\∃vs,o.data=.fields vs/\¬cz o:=by
   obtain⟨la,k,vs,n,⟨o,ho,hc',hd'⟩,_⟩:=it;exact⟨o,ho,_,hd',aV hd' (by simp)⟩
  have fin:∀h5,base.StaysIn h5->s.heap.UpToSlots h5->Pre W P env (ρ.set j .unb) h5/\Stp W env P ρ s.heap P (ρ.set j .unb) h5:=fun h5 st5 up5=>tG G C pr hst hl io va hIf kb bI hf st5 up5;obtain⟨pr3,s3⟩:=fin h3 hfl3.1 ((up1.trans up2).trans up3);refine wpAny_handleBy_builtin (X := "StopIteration") (T := "StopIteration") (b:=true) vJ xd isSubtype_stop ?_;refine bh (ce (s:={ s with heap:=h3,toks:=tk1 }) G pr3 hgs (G.nb _ (by decide)) (by rw[G.bi _ (by decide)];exact wH) ?_) (by decide);refine⟨rfl,?_,?_⟩
  ·obtain⟨ob,hob,hcl⟩:=hfl3.there
   exact⟨ob,hob,hcl⟩
  ·simp only[if_true]
   refine wpAny_setFlight_noneW (base:=base) (l:=env::l0) hfl3.1 hfl3.2.2.1 hfl3.2.2.2.at fun h5 st5 U U up5=>?_;obtain⟨pr5,s5⟩:=fin h5 st5 (((up1.trans up2).trans up3).trans fun b o e hn=>⟨o.slots,up5 b o e hn⟩);refine esv (pr5.er i y cy (.val (.int m)) hsy (by rw[fz (Ne.symm hij)];exact hv)) fun u vu ru=>?_;refine aF (wpAny_AugAssign_Name (bf (s:={ s with heap:=h5,toks:=tk1 }) pr5 (pr5.en.ncd _ (dw hsy)) vu ?_));revert vu;refine ru.i' fun tm vu=>?_;refine wpAny_Constant_int (PyProof.Rows.iadd_int ?_);exact dc (s:=s) (v:=.int (m+1)) G pr5 s5 hsy Rp.i fun h6 tk6 pr6 s6=>eG (eG (h h6 tk6 pr6 s6))
theorem Stp.hid{W:Wp}{env:Env}{P P':Addr->Prop}{ρ ρ':Ro}{h h':Heap}(st:Stp W env P ρ h P' ρ' h'){b:Addr}{o:Obj}(x:Hid W P b)(nm:¬aw env b)(no:¬aQ W env ρ h b)(e:h.get? b=some o):Hid W P' b/\¬aQ W env ρ' h' b/\h'.get? b=some o:=
 ⟨⟨st.pn b o x.np x.nt nm no e,x.nt,x.n0⟩,fun w=>(st.own b w).elim no fun q=>ak q e,st.keep b o x.nt nm no e⟩
theorem Stp.mon{W:Wp}{env:Env}{P P':Addr->Prop}{ρ ρ':Ro}{h h':Heap}(st:Stp W env P ρ h P' ρ' h')(pr:Pre W P env ρ h):∀b o,P b->h.get? b=some o->P' b/\h'.get? b=some o:=fun b o p e=>
 ⟨st.pp b o p e,st.keep b o (pr.ok.pt b p) (fun m=>(pr.hid b m).np p) (fun w=>(cb pr w).1.np p) e⟩
theorem eT.mon{P P':Addr->Prop}{h h':Heap}{I:Addr}{l:List V}(m:∀b o,P b->h.get? b=some o->P' b/\h'.get? b=some o)(hI:∀o,h.get? I=some o->h'.get? I=some o)(it:eT P h I l):eT P' h' I l:=
 (by obtain⟨la,i,vs,n,⟨o,ho,hc,hd⟩,hp,hl,rs⟩:=it;exact⟨la,i,vs,n,⟨o,hI o ho,hc,hd⟩,(m la _ hp hl).1,(m la _ hp hl).2,rs.mono m⟩)
structure om(W:Wp)(env:Env)(P:Addr->Prop)(ρ:Ro)(h:Heap)(a D J I2:Addr)(k:Nat):Prop where
 hD:IsL h D #[.ref a,.ref I2] 0
 hJ:h.IsListIter J D k
 ne:D≠J
 hid:∀b,b=D\/b=J->Hid W P b/\¬aw env b/\¬aQ W env ρ h b
theorem om.stp{W:Wp}{env:Env}{P P':Addr->Prop}{ρ ρ':Ro}{h h':Heap}{a D J I2:Addr}{k:Nat}(F:om W env P ρ h a D J I2 k)(st:Stp W env P ρ h P' ρ' h'):om W env P' ρ' h' a D J I2 k:=by
 refine byG fun gG kG=>?_;obtain⟨oJ,hJ,hJc,hJd⟩:=F.hJ;refine kG ?_;obtain d1:=(F.hid D (.inl rfl)).1;obtain d2:=(F.hid D (.inl rfl)).2.1;obtain d3:=(F.hid D (.inl rfl)).2.2;obtain j1:=(F.hid J (.inr rfl)).1;obtain j2:=(F.hid J (.inr rfl)).2.1;obtain j3:=(F.hid J (.inr rfl)).2.2;obtain e1:=(st.hid d1 d2 d3 F.hD).1;obtain e2:=(st.hid d1 d2 d3 F.hD).2.1;obtain e3:=(st.hid d1 d2 d3 F.hD).2.2;obtain f1:=(st.hid j1 j2 j3 hJ).1;obtain f2:=(st.hid j1 j2 j3 hJ).2.1;obtain f3:=(st.hid j1 j2 j3 hJ).2.2;exact⟨e3,⟨oJ,f3,hJc,hJd⟩,F.ne,fun b q=>q.elim (fun q=>q▸⟨e1,d2,e2⟩) fun q=>q▸⟨f1,j2,f2⟩⟩
theorem om.next{W:Wp}(G:WF W){env:Env}{P P0:Addr->Prop}{ρ ρ0:Ro}{h h0 h5:Heap}{a D J I2:Addr}{k:Nat}(F:om W env P ρ h a D J I2 k)(pr:Pre W P env ρ h)(sk:Stp W env P0 ρ0 h0 P ρ h)(nJ:h0.get? J=none)(hit:h5.IsListIter J D (k+1))(sb:Heap.SameBut J h h5):
  Pre W P env ρ h5/\Stp W env P0 ρ0 h0 P ρ h5/\om W env P ρ h5 a D J I2 (k+1)/\∀b o,b≠J->h.get? b=some o->h5.get? b=some o:=by
 have kp:∀b o,b≠J->h.get? b=some o->h5.get? b=some o:=fun b o hb e=>(sb.2 b hb).trans e;refine byG fun gG kG=>?_;obtain⟨oJ,hJ,hJc,hJd⟩:=F.hJ;refine kG ?_;obtain j1:=(F.hid J (.inr rfl)).1;obtain j2:=(F.hid J (.inr rfl)).2.1;obtain j3:=(F.hid J (.inr rfl)).2.2;obtain d1:=(F.hid D (.inl rfl)).1;obtain d2:=(F.hid D (.inl rfl)).2.1;obtain d3:=(F.hid D (.inl rfl)).2.2;obtain ti5:W.TI h5:=dM G pr.ok.ti kp hJ j1.nt (aV hJd (by simp));obtain⟨oJ',hJ',_⟩:=id hit;obtain pr5:Pre W P env ρ h5:=pr.out (Z:=fun b=>b=J) (fun b o U q e=>kp b o q e) ti5 fun b q=>q▸⟨j1.np,j2,j3,j1.n0,_,hJ'⟩;obtain kM:∀b o,aw env b->h.get? b=some o->h5.get? b=some o:=fun b o m e=>kp b o (fun q=>j2 (q▸m)) e;exact⟨pr5,sk.outX (X:=fun b=>b=J) pr (fun b o q e=>kp b o q e) (fun b q=>q▸nJ) fun b q=>q▸j2,⟨kp _ _ F.ne F.hD,hit,F.ne,fun b q=>(F.hid b q).imp id fun x=>⟨x.1,fun w=>x.2 (cI pr kM w)⟩⟩,kp⟩
inductive wL(W:Wp)(env:Env)(P:Addr->Prop)(ρ:Ro)(s:Shared)(l1 l2:List V)(a D J I2:Addr)(k j i:Nat)(m:Int)(ρe:Ro):Nat->Shared->Prop
 |two (Pk:Addr->Prop) (ρk:Ro) (hk:Heap) (tk:Nat) (pr:Pre W Pk env ρk hk) (st:Stp W env P ρ s.heap Pk ρk hk) (F:om W env Pk ρk hk a D J I2 0) (x:Hid W Pk I2) (nm:¬aw env I2) (no:¬aQ W env ρk hk I2) (it:eT Pk hk I2 l2)
   (hj:ρk[j]?=some (.itr l1)) (hi:ρk[i]?=some (.val (.int m))) (e:(((((ρk.set k .unb).set j .unb).set i (.val (.int (m+1)))).set k (.itr l2)).set k .unb).set i (.val (.int (m+1+1)))=ρe):wL W env P ρ s l1 l2 a D J I2 k j i m ρe 2 { s with heap:=hk,toks:=tk }
 |one (Pk:Addr->Prop) (ρk:Ro) (hk:Heap) (tk:Nat) (pr:Pre W Pk env ρk hk) (st:Stp W env P ρ s.heap Pk ρk hk) (F:om W env Pk ρk hk a D J I2 1) (x:Hid W Pk I2) (nm:¬aw env I2) (no:¬aQ W env ρk hk I2) (it:eT Pk hk I2 l2)
   (hi:ρk[i]?=some (.val (.int (m+1)))) (e:((ρk.set k (.itr l2)).set k .unb).set i (.val (.int (m+1+1)))=ρe):wL W env P ρ s l1 l2 a D J I2 k j i m ρe 1 { s with heap:=hk,toks:=tk }
 |zero (Pk:Addr->Prop) (hk:Heap) (tk:Nat) (pr:Pre W Pk env ρe hk) (st:Stp W env P ρ s.heap Pk ρe hk) (F:om W env Pk ρe hk a D J I2 2):wL W env P ρ s l1 l2 a D J I2 k j i m ρe 0 { s with heap:=hk,toks:=tk }
theorem uc{l:List (Str×Bool)}(nd:(l.map (·.1)).Nodup){i j:Nat}{x y:Str}{c d:Bool}(hij:i≠j)(h1:l[i]?=some (x,c))(h2:l[j]?=some (y,d)):x≠y:=fun q=>by
 subst q;obtain a1:(l.map (·.1))[i]?=some x:=by simp only[bA,h1];rfl
 obtain a2:(l.map (·.1))[j]?=some x:=by simp only[bA,h2];rfl
 exact hij ((List.getElem?_inj (cX.mp a1).1 nd).mp (a1.trans a2.symm))
theorem zw(G:WF W){l0:List Env}(C:lr W l0)(Pv:i9 W tb D)(Pr:∀a,W.mg tb.pvn=some (.ref a)->gB W D a){A:Around}{env:Env}{ρ:Ro}{P:Addr->Prop}{s:Shared}{cut t y xs:Str}{q:Nat->Pos}{kd:Nat}{tp:Pos}{k i j:Nat}{ck cj ci:Bool}{a D' J I2:Addr}{l1 l2:List V}{m:Int}{ρe:Ro}{R:Result->Shared->Prop}{s1:Shared}(hs:xs = "StopIteration")(ao:AOk A D)(fo:W.fs A env)(hsk:(ac env.scope).slots[k]?=some (cut,ck))(hsj:(ac env.scope).slots[j]?=some (t,cj))(hsi:(ac env.scope).slots[i]?=some (y,ci))(he1:iO l1=true)(he2:iO l2=true)(hij:i≠j)(hik:i≠k)(hkj:k≠j)(hd:(cut==("__debug__" : Str))=false)(hd2:(tb.pvn==("__debug__" : Str))=false)(hg:(ac env.scope).glob tb.pvn=true)(hgs:(ac env.scope).glob xs=true)(nJ:s.heap.get? J=none)(n2:s.heap.get? I2=none)(neI:J≠I2)(va0:aA W.T env s1.heap t (.ref a))(iv:wL W env P ρ s l1 l2 a D' J I2 k j i m ρe 2 s1)(hR:∀P' h' tk,Pre W P' env ρe h'->Stp W env P ρ s.heap P' ρe h'->R (.ok .next) { s with heap:=h',toks:=tk }):codeAny W.M A (.forLoop (.Name cut tp) (.ref J) [nv tb.pvn cut xs y q kd] [] env) R s1:=by
 obtain hne:cut≠t:=fun q=>by
  subst q;obtain nd:((ac env.scope).slots.map (·.1)).Nodup:=by cases iv with | two Pk ρk hk tk pr=>exact pr.en.nd
  exact uc nd hkj hsk hsj rfl
 refine codeAny_forLoop_any (fun n s'=>wL W env P ρ s l1 l2 a D' J I2 k j i m ρe n s'/\(n=2->aA W.T env s'.heap t (.ref a))) ?_ 2 ⟨iv,fun U=>va0⟩;intro n s' iv;generalize (notedBy (model W.prog W.w) A env fun e s'=>_)=E1;obtain⟨iv,hva⟩:=iv
 cases iv with
 |two Pk ρk hk tk pr st F x nm no it hj hi e=>
  obtain va:=hva rfl;refine wpAny_pyNext_list_item (s:={ s with heap:=hk,toks:=tk }) F.hJ F.hD.isList (x:=.ref a) rfl fun h5 hit sb=>?_;obtain pr5:=(F.next G pr st nJ hit sb).1;obtain st5:=(F.next G pr st nJ hit sb).2.1;obtain F5:=(F.next G pr st nJ hit sb).2.2.1;obtain kp:=(F.next G pr st nJ hit sb).2.2.2;have kM:∀b o,aw env b->hk.get? b=some o->h5.get? b=some o:=fun b o m e=>kp b o (fun q=>(F.hid J (.inr rfl)).2.1 (q▸m)) e;obtain va5:=va.keepM kM;have mP:∀b o,Pk b->hk.get? b=some o->Pk b/\h5.get? b=some o:=fun b o p e=>⟨p,kp b o (fun q=>(F.hid J (.inr rfl)).1.np (q▸p)) e⟩;have it5:=it.mon mP fun o e=>kp I2 o (Ne.symm neI) e;have no5:¬aQ W env ρk h5 I2:=fun w=>no (cI pr kM w);refine de (W:=W) (s:={ s with heap:=h5,toks:=tk }) hit.choose_spec.1 hit.choose_spec.2.1 (by decide) ?_;refine wpAny_assign_Name (bn G (s:={ s with heap:=h5,toks:=tk }) pr5 hsk fun b h6 tk6 sd=>?_);have pr6:=pr5.store (sl:=.unb) hsk sd trivial fun o=>by obtain⟨l,q | q⟩:=o<;>cases q
  have s56:Stp W env Pk ρk h5 Pk (ρk.set k .unb) h6:=sd.stp pr5 Stp.refl hsk fun o=>by obtain⟨l,q | q⟩:=o<;>cases q
  obtain va6:=sd.others _ _ (Ne.symm hne) va5;obtain⟨o2,ho2⟩:∃o,h5.get? I2=some o:=by obtain⟨la,i,vs,n,⟨o,ho,_⟩,_⟩:=it5;exact⟨o,ho⟩
  obtain x6:=(s56.hid x nm no5 ho2).1;obtain no6:=(s56.hid x nm no5 ho2).2.1;obtain g6:=(s56.hid x nm no5 ho2).2.2;have it6:=it5.mon (s56.mon pr5) fun o e=>(s56.hid x nm no5 e).2.2;have hj6:(ρk.set k .unb)[j]?=some (.itr l1):=by rw[fz hkj];exact hj
  refine esi (pr6.er j t cj _ hsj hj6) fun a' va' hid' ita=>?_;obtain rfl:a=a':=Value.ref.inj (va6.det va');refine rD G C Pv Pr (s:={ s with heap:=h6,toks:=tk6 }) hs ao fo pr6 hsj hj6 ⟨_,.inr rfl⟩ va' hid' ita he1 hsk sd.at' hsi (by rw[fz (Ne.symm hik)];exact hi) hij hd hd2 hg hgs fun h7 tk7 pr7 s67=>?_;obtain x7:=(s67.hid x6 nm no6 g6).1;obtain no7:=(s67.hid x6 nm no6 g6).2.1;obtain g7:=(s67.hid x6 nm no6 g6).2.2;obtain hlt:i<((ρk.set k .unb).set j .unb).length:=by rw[gz,gz];exact(cX.mp hi).1
  exact⟨1,by decide,.one _ _ h7 tk7 pr7 ((st5.trans s56).trans s67) ((F5.stp s56).stp s67) x7 nm no7 (it6.mon (s67.mon pr6) fun o e=>(s67.hid x6 nm no6 e).2.2) (jU hlt) e,fun q=>by cases q⟩
 |one Pk ρk hk tk pr st F x nm no it hi e=>
  refine wpAny_pyNext_list_item (s:={ s with heap:=hk,toks:=tk }) F.hJ F.hD.isList (x:=.ref I2) rfl fun h5 hit sb=>?_;obtain pr5:=(F.next G pr st nJ hit sb).1;obtain st5:=(F.next G pr st nJ hit sb).2.1;obtain F5:=(F.next G pr st nJ hit sb).2.2.1;obtain kp:=(F.next G pr st nJ hit sb).2.2.2;have kM:∀b o,aw env b->hk.get? b=some o->h5.get? b=some o:=fun b o m e=>kp b o (fun q=>(F.hid J (.inr rfl)).2.1 (q▸m)) e;obtain mP:∀b o,Pk b->hk.get? b=some o->Pk b/\h5.get? b=some o:=fun b o p e=>⟨p,kp b o (fun q=>(F.hid J (.inr rfl)).1.np (q▸p)) e⟩;have it5:=it.mon mP fun o e=>kp I2 o (Ne.symm neI) e;obtain no5:¬aQ W env ρk h5 I2:=fun w=>no (cI pr kM w);refine de (W:=W) (s:={ s with heap:=h5,toks:=tk }) hit.choose_spec.1 hit.choose_spec.2.1 (by decide) ?_;refine wpAny_assign_Name (bn G (s:={ s with heap:=h5,toks:=tk }) pr5 hsk fun b h6 tk6 sd=>?_);have hb:=sd.mutE;have kS:∀b' o,b'≠b->h5.get? b'=some o->h6.get? b'=some o:=fun b' o q e=>(sd.same.2 b' q).trans e;obtain mS:∀b' o,Pk b'->h5.get? b'=some o->Pk b'/\h6.get? b'=some o:=fun b' o p e=>⟨p,kS b' o (fun q=>(pr5.hid b hb).np (q▸p)) e⟩;have it6:=it5.mon mS fun o e=>kS I2 o (fun q=>nm (q▸hb)) e;obtain pr6:=pr5.store (sl:=.itr l2) hsk sd ⟨I2,sd.at',x,it6⟩ fun U j' y' cj' sj' b' U hy' hj' oj' vj' q=>no5 ⟨j',y',cj',sj',hy',hj',oj',Value.ref.inj q▸vj'⟩;obtain s06:Stp W env P ρ s.heap Pk (ρk.set k (.itr l2)) h6:=sd.stp pr5 st5 hsk fun U b' q=>.inr (Value.ref.inj q▸n2);obtain F6:om W env Pk (ρk.set k (.itr l2)) h6 a D' J I2 2:=by
   obtain⟨oJ,g1,g2,g3⟩:=F5.hJ;obtain d1:=(F5.hid D' (.inl rfl)).1;obtain d2:=(F5.hid D' (.inl rfl)).2.1;obtain d3:=(F5.hid D' (.inl rfl)).2.2;obtain j1:=(F5.hid J (.inr rfl)).1;obtain j2:=(F5.hid J (.inr rfl)).2.1;obtain j3:=(F5.hid J (.inr rfl)).2.2;refine⟨kS _ _ (fun q=>d2 (q▸hb)) F5.hD,⟨oJ,kS _ _ (fun q=>j2 (q▸hb)) g1,g2,g3⟩,F5.ne,fun b' q=>⟨(F5.hid b' q).1,(F5.hid b' q).2.1,?_⟩⟩;rintro⟨j',y',cj',sj',hy',hj',oj',vj'⟩;by_cases hkk:k=j'
   ·subst hkk
    rw[hsk]at hy';cases hy'
    have:=sd.at'.det vj';obtain rfl:=Value.ref.inj this;obtain o2:Ex2 fun la i=>h5.IsListIter I2 la i:=by obtain⟨la,i,vs,n,z,_⟩:=it5;exact⟨la,i,z⟩
    obtain⟨la,ii,oo,z1,z2,z3⟩:=o2;rcases q with q | q
    ·rw[q,F5.hD]at z1
     cases z1;cases z3
    ·exact neI q.symm
   ·rw[fz hkk]at hj'
    refine(F5.hid b' q).2.2 ⟨j',y',cj',sj',hy',hj',oj',?_⟩;obtain⟨w1,w2,_⟩:=(pr5.er j' y' cj' sj' hy' hj').var oj';obtain ney:y'≠cut:=fun q2=>by
     exact uc pr5.en.nd hkk hsk hy' q2.symm
    have:=(sd.others _ _ ney w2).det vj';exact this▸w2
  obtain hlk:k<ρk.length:=by rw[pr.len];exact(cX.mp hsk).1
  refine rD G C Pv Pr (s:={ s with heap:=h6,toks:=tk6 }) hs ao fo pr6 hsk (jU hlk) ⟨_,.inr rfl⟩ sd.at' x it6 he2 hsk sd.at' hsi (by rw[fz (Ne.symm hik)];exact hi) hik hd hd2 hg hgs fun h7 tk7 pr7 s67=>?_;rw[e]at pr7 s67;exact⟨0,by decide,.zero _ h7 tk7 pr7 (s06.trans s67) (F6.stp s67),fun q=>by cases q⟩
 |zero Pk hk tk pr st F=>
  refine wpAny_pyNext_list_end (s:={ s with heap:=hk,toks:=tk }) ao.hd F.hJ F.hD.isList rfl fun h5 he=>?_;obtain⟨oJ,hJ,hJc,hJd⟩:=F.hJ;obtain j1:=(F.hid J (.inr rfl)).1;obtain j2:=(F.hid J (.inr rfl)).2.1;obtain j3:=(F.hid J (.inr rfl)).2.2;have k2:∀b o,¬b=J->hk.get? b=some o->h5.get? b=some o:=fun b o q e=>he b o q e;obtain kM:∀b o,aw env b->hk.get? b=some o->h5.get? b=some o:=fun b o m e=>k2 b o (fun x=>j2 (x▸m)) e;obtain ti2:W.TI h5:=dM G pr.ok.ti k2 hJ j1.nt (aV hJd (by simp));have st2:=st.outX (X:=fun b=>b=J) pr (fun b o q e=>k2 b o q e) (fun b q=>q▸nJ) fun b q=>q▸j2;refine eG (hR (fun b=>Pk b\/b=J) h5 tk ?_ ⟨st2.keep,st2.ex,fun b o p e=>.inl (st2.pp b o p e),fun b o p n m w e q=>q.elim (st2.pn b o p n m w e) fun x=>ak (x▸nJ) e,st2.own⟩);refine pr.stepG kM (fun b o w e=>k2 b o (fun x=>j3 (x▸w)) e) (fun b o p e=>⟨.inl p,k2 b o (fun x=>j1.np (x▸p)) e⟩) (fun b hb x=>⟨fun q=>q.elim x.np fun q=>hb.elim (fun m=>j2 (q▸m)) fun w=>j3 (q▸w),x.nt,x.n0⟩)
   ⟨fun b o n e=>k2 b o (fun x=>ak j1.n0 (x▸e)) (pr.ok.kept b o n e),ti2,fun b n e=>?_,fun b q=>q.elim (pr.ok.pt b) fun q=>q▸j1.nt⟩
  by_cases q:b=J
  ·exact .inr q
  ·refine .inl (pr.ok.new b n ?_)
   cases e2:hk.get? b with
   |none=>rfl
   |some o=>rw[k2 b o q e2]at e;exact nn0 e.symm
theorem Ar(ρ:Ro){k j i:Nat}{v w:Sl}{x:Sl}(hkj:k≠j)(hki:k≠i)(hji:j≠i):(((((ρ.set k .unb).set j .unb).set i v).set k x).set k .unb).set i w=((ρ.set k .unb).set j .unb).set i w:=by
 rw[List.set_set,List.set_comm _ _ (Ne.symm hki),List.set_set,List.set_comm _ _ (Ne.symm hkj),List.set_set]
noncomputable abbrev mY(h:Heap)(la:Addr):Heap:=h.push { cls:=.type "list_iterator", data:=.fields #[.ref la,.int 0 0] }
noncomputable abbrev o8(h:Heap)(la a:Addr):Heap:=(mY h la).push { cls:=.type "list", data:=.seq #[.ref a,.ref h.objs.size] }
theorem wB(G:WF W){A:Around}{env:Env}{ρ ρ1 ρe:Ro}{P P1:Addr->Prop}{s:Shared}{h1:Heap}{tk:Nat}{a la:Addr}{vs:Array Value}{kk:Nat}{l1 l2:List V}{k j i:Nat}{m:Int}(ao:AOk A D)(pr:Pre W P1 env ρ1 h1)(st:Stp W env P ρ s.heap P1 ρ1 h1)(sn:∀b,h1.get? b=none->s.heap.get? b=none)(pl:P1 la)(hl:IsL h1 la vs kk)(rs:Rps P1 h1 vs.toList l2)(hj:ρ1[j]?=some (.itr l1))(hi:ρ1[i]?=some (.val (.int m)))(e:(((((ρ1.set k .unb).set j .unb).set i (.val (.int (m+1)))).set k (.itr l2)).set k .unb).set i (.val (.int (m+1+1)))=ρe):
  s.heap.get? (o8 h1 la a).objs.size=none/\s.heap.get? h1.objs.size=none/\(o8 h1 la a).objs.size≠h1.objs.size /\
   wL W env P ρ s l1 l2 a (mY h1 la).objs.size (o8 h1 la a).objs.size h1.objs.size k j i m ρe 2 { s with heap:=(o8 h1 la a).push { cls:=.type "list_iterator", data:=.fields #[.ref (mY h1 la).objs.size,.int 0 0] },toks:=tk }:=by
 have z1:(mY h1 la).objs.size=h1.objs.size+1:=Heap.size_push ..;have z2:(o8 h1 la a).objs.size=h1.objs.size+2:=by rw[Heap.size_push,z1]
 have nn:∀k,h1.get? (h1.objs.size+k)=none:=fun k=>lB (i7 _ _);obtain g1:(mY h1 la).get? h1.objs.size=some { cls:=.type "list_iterator", data:=.fields #[.ref la,.int 0 0] }:=eO _ rfl;obtain g2:(o8 h1 la a).get? (mY h1 la).objs.size=some { cls:=.type "list", data:=.seq #[.ref a,.ref h1.objs.size] }:=eO _ rfl;have g3:((o8 h1 la a).push { cls:=.type "list_iterator", data:=.fields #[.ref (mY h1 la).objs.size,.int 0 0] }).get? (o8 h1 la a).objs.size=some { cls:=.type "list_iterator", data:=.fields #[.ref (mY h1 la).objs.size,.int 0 0] }:=eO _ rfl;generalize hh4:(o8 h1 la a).push { cls:=.type "list_iterator", data:=.fields #[.ref (mY h1 la).objs.size,.int 0 0] }=h4 at *;have k4:∀b o,h1.get? b=some o->h4.get? b=some o:=fun b o e=>hh4▸eP _ (eP _ (eP _ e));have g1':h4.get? h1.objs.size=some { cls:=.type "list_iterator", data:=.fields #[.ref la,.int 0 0] }:=hh4▸eP _ (eP _ g1);have g2':h4.get? (mY h1 la).objs.size=some { cls:=.type "list", data:=.seq #[.ref a,.ref h1.objs.size] }:=hh4▸eP _ g2;rw[z1]at g2';rw[z2]at g3;rw[z1,z2];obtain K:=KX.of_all G pr.ok.ti k4;have X:∀b,b=h1.objs.size+1\/b=h1.objs.size+2\/b=h1.objs.size->h1.get? b=none/\∃o,h4.get? b=some o:=by
  rintro b (rfl | rfl | rfl)
  ·exact⟨nn 1,_,g2'⟩
  ·exact⟨nn 2,_,g3⟩
  ·exact⟨nn 0,_,g1'⟩
 obtain⟨pr4,s4⟩:=Pre.less (A:=A) G pr K X;have hd:∀b,b=h1.objs.size+1\/b=h1.objs.size+2\/b=h1.objs.size->Hid W (aH P1 fun b=>b=h1.objs.size+1\/b=h1.objs.size+2\/b=h1.objs.size) b/\¬aw env b/\¬aQ W env ρ1 h4 b:=fun b x=>by
  have n:=(X b x).1;have p:=pr.ok.fresh G n;refine⟨⟨fun q=>q.2 x,pr.ok.pt b p,eW G pr.ok n⟩,fun m=>(pr.hid b m).np p,fun w=>?_⟩;refine byG fun gG kG=>?_;obtain⟨_,_,o,ho,_⟩:=cb pr (cI pr (fun b o U e=>k4 b o e) w);refine kG ?_;exact ak n ho
 have ml:∀b o,P1 b->h1.get? b=some o->aH P1 (fun b=>b=h1.objs.size+1\/b=h1.objs.size+2\/b=h1.objs.size) b/\h4.get? b=some o:=fun b o p e=>⟨⟨p,fun x=>ak (X b x).1 e⟩,k4 b o e⟩;obtain x1:=(hd _ (.inr (.inr rfl))).1;obtain x2:=(hd _ (.inr (.inr rfl))).2.1;obtain x3:=(hd _ (.inr (.inr rfl))).2.2;refine⟨sn _ (nn 2),sn _ (nn 0),by lia,.two _ ρ1 h4 tk pr4 (st.trans s4) ⟨g2',⟨_,g3,rfl,by rw[z1];rfl⟩,by lia,fun b q=>hd b (q.imp id .inl)⟩ x1 x2 x3 ⟨la,0,vs,kk,⟨_,g1',rfl,rfl⟩,(ml la _ pl hl).1,(ml la _ pl hl).2,rs.mono ml⟩ hj hi e⟩
theorem Ag(G:WF W){l0:List Env}(C:lr W l0)(Pv:i9 W tb D)(Pr:∀a,W.mg tb.pvn=some (.ref a)->gB W D a){cut t y xs:Str}{q:Nat->Pos}{kd:Nat}{k i j:Nat}{a:Expr}{e:E}{tp rp ip cp lp pos:Pos}(hs:xs = "StopIteration")(hcu:c.ix cut=some k)(ht:c.ix t=some j)(hy:c.ix y=some i)(hd:(cut==("__debug__" : Str))=false)(hdt:(t==("__debug__" : Str))=false)(hd2:(tb.pvn==("__debug__" : Str))=false)(hg:c.glob tb.pvn=true)(hgs:c.glob xs=true)(hgi:c.glob "iter" = true)(hst:∀rest env,starEach (a::rest) env=(false,eval a env)::starEach rest env)(hv:SE W D c a (ev Φ e)):
  SX τ W D c (.For (.Name cut tp) (.List [.Name t rp,.Call (.Name "iter" ip) [a] [] cp] lp) [nv tb.pvn cut xs y q kd] [] pos) (ex Φ N (.cuts k j i e)):=by
 intro A env ρ P s o Q E' ao fo hc pr ho _ h;refine aa ho fun v hv0 ho=>aa ho fun l2 el2 ho=>aa ho fun sl hlj ho=>aa ho fun l1 el1 ho=>aa ho fun sl hli ho=>aa ho fun m em ho=>aa ho fun m em2 ho=>aO ho fun hcond ho=>?_;obtain rfl:=al_0 ho;obtain he1:=hcond.1;obtain he2:=hcond.2.1;obtain hz:=hcond.2.2.1;obtain hk:=hcond.2.2.2.1;obtain hi:=hcond.2.2.2.2.1;obtain hji:=hcond.2.2.2.2.2.1;obtain hki:=hcond.2.2.2.2.2.2.1;obtain hkj:=hcond.2.2.2.2.2.2.2;rw[dF el2]at hv0;rw[yu el1]at hlj;rw[ke em,dN em2]at hli;obtain⟨P1,pr1,s1⟩:=Pre.frz (av e) pr;generalize frz (av e) ρ=ρ1 at *;subst hc;refine byG fun gG kG=>?_;obtain⟨ck,hsk⟩:=Cx.ix_spec hcu;obtain⟨cj,hsj⟩:=Cx.ix_spec ht;obtain⟨ci,hsi⟩:=Cx.ix_spec hy;refine kG ?_;refine esi (pr1.er j t cj _ hsj hlj) fun a1 va hid it=>?_;refine wpAny_For (wpAny_List_spliced (dH (bh (bf pr1 (aZ pr1 hsj) va (dH ?_)) hdt))) fun U=>rfl;refine eS (bh (ce G pr1 hgi (G.nb _ (by decide)) (by rw[G.bi _ (by decide)];exact boot_iter) ?_) (by decide));rw[hst];refine iS rfl (fX (dH (hv A env _ P1 s _ _ _ ao rfl pr1 hv0 fun u h1 tk1 K1 r1=>fw (r1.l' fun la vs kk pl hla rs=>?_))));refine gZ (s:={ s with heap:=h1,toks:=tk1 }) hla.isList (fw ⟨by show 2<=sizeLine;decide,?_⟩);have pr2:=pr1.step K1;obtain up:∀b,h1.get? b=none->P1 b/\b∉W.T/\W.h0.get? b=none/\s.heap.get? b=none:=fun b hb=>⟨pr2.ok.fresh G hb,pr2.ok.pt b (pr2.ok.fresh G hb),eW G pr2.ok hb,by
  cases q:s.heap.get? b with
  |none=>rfl
  |some o=>exact ak hb (K1.keep b o (pr2.ok.pt b (pr2.ok.fresh G hb)) q)⟩
 obtain vb:aA W.T env h1 t (.ref a1):=va.keep K1.keep;refine wpAny_pyIter_list (s:={ s with heap:=o8 h1 la a1,toks:=tk1 }) (l:=(mY h1 la).objs.size) (items:=#[.ref a1,.ref h1.objs.size]) ⟨_,eO _ rfl,rfl,_,rfl⟩ ?_;refine byG fun gG kG=>?_;obtain⟨nJ,n2,neI,iv⟩:=wB G ao pr2 (s1.trans (Stp.kx G pr1 K1)) (fun b hb=>(up b hb).2.2.2) pl hla rs hlj hli (tk:=tk1) (a:=a1) (ρe:=((ρ1.set k .unb).set j .unb).set i (.val (.int (m+2)))) (k:=k) (by rw[show m+2=m+1+1 from by lia];exact Ar ρ1 hkj hki hji);refine kG ?_;exact zw G C Pv Pr hs ao fo hsk hsj hsi he1 he2 (Ne.symm hji) (Ne.symm hki) hkj hd hd2 hg hgs nJ n2 neI (vb.keep fun b o U e=>eP _ (eP _ (eP _ e))) iv h
end
end
section
noncomputable def frs(l:List Env):List Addr:=l.filterMap (·.frame)
noncomputable def jw(h0:Heap)(l:List Env)(h:Heap):Prop:=∀L∈frs l,∀o,h0.get? L=some o->∃sl,h.get? L=some { o with slots:=sl }
structure Low(W:Wp)(P:Addr->Prop)(h:Heap)(l:List Env):Prop where
 ok:qr h l
 hid:∀L∈frs l,Hid W P L
 dict:∀L∈frs l,Ex3 fun o es n=>h.get? L=some o/\o.data=.dict es n
noncomputable def Wp.atS(W:Wp)(h:Heap)(l:List Env):Wp:=
 { W with T:=frs l++W.T,TI:=fun h'=>W.TI h'/\jw h l h',h0:=h,fs:=fun A env=>A.frames=some (env::l)/\env.frame=some env.locals }
noncomputable def tU(W:Wp)(D:Nat)(f:Addr)(φ:List V->Option V):Prop:=
 ∀(A:Around) (P:Addr->Prop) (us:List Value) (l:List V) (v:V) (l0:List Env) (s:Shared) (Q:Value->Shared->Prop) (E':Value->Shared->Prop),AOk A D->Ok W P s.heap->A.frames=some l0->Low W P s.heap l0->Rps P s.heap us l->φ l=some v ->
  (∀u h' tk,(∀b o,b∉W.T->b∉frs l0->s.heap.get? b=some o->h'.get? b=some o)->jw s.heap l0 h'->W.TI h'->Rp P h' u v->Q u { s with heap:=h',toks:=tk })->wpAny W.M A (call (.ref f) us) Q E' s
section
variable{W:Wp}{P:Addr->Prop}{h:Heap}{l:List Env}{D:Nat}
theorem Low.n0(L:Low W P h l):∀b o,b∉W.T->W.h0.get? b=some o->b∉frs l:=fun b o n e q=>by exact nn (Eq.trans (Eq.symm ((L.hid b q).n0)) e)
theorem kW{b:Addr}(n:b∉(W.atS h l).T):b∉frs l/\b∉W.T:=by
 obtain n:b∉frs l++W.T:=n;rw[List.mem_append]at n;exact⟨fun q=>n (.inl q),fun q=>n (.inr q)⟩
theorem iM{b:Addr}(n1:b∉frs l)(n2:b∉W.T):b∉(W.atS h l).T:=by
 show b∉frs l++W.T;simp only[List.mem_append];exact fun q=>q.elim n1 n2
theorem jw.refl(h:Heap)(l:List Env):jw h l h:=fun L U o e=>⟨o.slots,e⟩
theorem WF.atS(G:WF W)(ok:Ok W P h)(L:Low W P h l):WF (W.atS h l) where
 g:=cB ok.kept G.gT G.g
 gT:=iM (fun q=>by obtain⟨o,_,_,e,_⟩:=G.g;exact L.n0 _ _ G.gT e q) G.gT
 b:=cB ok.kept G.bT G.b
 bT:=iM (fun q=>by obtain⟨o,_,_,e,_⟩:=G.b;exact L.n0 _ _ G.bT e q) G.bT
 lim:=(by obtain⟨mc,a,b⟩:=G.lim;exact⟨mc,cB ok.kept G.limT a,b⟩)
 limT:=iM (fun q=>by obtain⟨mc,⟨o,_,_,e,_⟩,_⟩:=G.lim;exact L.n0 _ _ G.limT e q) G.limT
 bi:=G.bi
 tx:=fun h' t b hb=>by
  rcases List.mem_append.mp (show b∈frs l++W.T from hb)with q | q
  ·obtain⟨o,es,n,ho,hd⟩:=L.dict b q
   obtain⟨sl,e⟩:=t.2 b q o ho;exact⟨_,e,.inr ⟨es,n,hd⟩⟩
  ·exact G.tx h' t.1 b q
 nb:=G.nb
 ti:=fun h1 h2 k t=>⟨G.ti h1 h2 (fun b o e hx=>k b o e (hx.imp (fun q=>List.mem_append_right _ q) id)) t.1,fun b hb o ho=>by
  obtain⟨sl,e⟩:=t.2 b hb o ho;exact⟨sl,k b _ e (.inl (List.mem_append_left _ hb))⟩⟩
theorem Ok.atS(ok:Ok W P h)(L:Low W P h l):Ok (W.atS h l) P h:=
 ⟨fun b o n e=>e,⟨ok.ti,jw.refl h l⟩,fun b n e=>ok.new b (kW n).2 e,fun b p=>iM (fun q=>(L.hid b q).np p) (ok.pt b p)⟩
theorem Ok.unS(ok0:Ok W P h)(L:Low W P h l){P':Addr->Prop}{h':Heap}(ok:Ok (W.atS h l) P' h'):Ok W P' h':=
 ⟨fun b o n e=>ok.kept b o (iM (L.n0 b o n e) n) (ok0.kept b o n e),ok.ti.1,fun b n e=>ok.new b (iM (fun q=>by
  obtain⟨o,es,m,ho,hd⟩:=L.dict b q;obtain⟨sl,e'⟩:=ok.ti.2 b q o ho;simp only[e]at e';cases e') n) e,fun b p=>(kW (ok.pt b p)).2⟩
theorem kZ(L:Low W P h l){h1 h2:Heap}(k:∀b o,b∈frs l->h1.get? b=some o->h2.get? b=some o)(f:jw h l h1):jw h l h2:=fun b hb o ho=>by
 obtain⟨sl,e⟩:=f b hb o ho;exact⟨sl,k b _ hb e⟩
theorem Cal.atS{f:Addr}{φ:List V->Option V}(ok0:Ok W P h)(L:Low W P h l)(c:Cal W D f φ):Cal (W.atS h l) D f φ:=
 fun A P' us x v s Q E' ao ok r e hQ=>c A P' us x v s Q E' ao (ok0.unS L ok) r e fun u h' tk K r'=>
  hQ u h' tk ⟨fun b o n q=>K.keep b o (kW n).2 q,K.ti,kZ L (fun b o hb q=>K.keep b o (L.hid b hb).nt q) ok.ti.2⟩ r'
theorem Cfg.atS{tb:Tb}{Φ:Fun}(ok0:Ok W P h)(L:Low W P h l)(c:Cfg W tb Φ D):Cfg (W.atS h l) tb Φ D:=
 ⟨c.gc,fun x i e=>(by obtain⟨a,o,fd,h1,h2,h3,h4,h5⟩:=c.fn x i e;exact⟨a,o,fd,h1,ok0.kept a o h4 h2,h3,iM (L.n0 a o h4 h2) h4,h5.atS ok0 L⟩)⟩
theorem Hid.unS(ok0:Ok W P h){P':Addr->Prop}{I:Addr}(x:Hid (W.atS h l) P' I):Hid W P' I:=
 ⟨x.np,(kW x.nt).2,by
  cases q:W.h0.get? I with
  |none=>rfl
  |some o=>have:=x.n0;rw[show(W.atS h l).h0=h from rfl,ok0.kept I o (kW x.nt).2 q]at this;cases this⟩
theorem ig.atS{f:Addr}(ok0:Ok W P h)(L:Low W P h l)(c:ig W D f):ig (W.atS h l) D f:=
 fun A P' I x v r s Q E' ao ok hid it e hQ=>c A P' I x v r s Q E' ao (ok0.unS L ok) (hid.unS ok0) it e fun t h' tk k ti ex it'=>
  hQ t h' tk (fun b o n q e=>k b o (kW n).2 q e) ⟨ti,kZ L (fun b o hb q=>k b o (L.hid b hb).nt (fun z=>(kW hid.nt).1 (z▸hb)) q) ok.ti.2⟩ ex it'
theorem i9.atS{tb:Tb}(ok0:Ok W P h)(L:Low W P h l)(c:i9 W tb D):i9 (W.atS h l) tb D:=
 ⟨(by obtain⟨a,o,fd,h1,h2,h3,h4,h5⟩:=c.fn;exact⟨a,o,fd,h1,ok0.kept a o h4 h2,h3,iM (L.n0 a o h4 h2) h4,h5.atS ok0 L⟩)⟩
theorem gB.atS{f:Addr}(ok0:Ok W P h)(L:Low W P h l)(c:gB W D f):gB (W.atS h l) D f:=
 fun A P' I x l0 s Q E' ao ok hid it he hfr hfo hE=>c A P' I x l0 s Q E' ao (ok0.unS L ok) (hid.unS ok0) it he hfr hfo hE
theorem lr.atS(G:WF W)(L:Low W P h l):lr (W.atS h l) l where
 fs:=fun A env x=>x
 inT:=fun b hb=>List.mem_append_left _ hb
 fr:=fun h' t e he=>by
  refine byG fun gG kG=>?_;obtain⟨a,b,o,c,d,f⟩:=L.ok e he;obtain⟨sl,e'⟩:=t.2 b (List.mem_filterMap.mpr ⟨e,he,c⟩) o d;refine kG ?_;exact⟨a,b,_,c,e',f⟩
 ti:=fun h1 h2 k up t=>⟨G.ti h1 h2 (fun b o e hx=>k b o e (hx.imp (fun q=>List.mem_append_right _ q) id) (fun q=>by
   refine byG fun gG kG=>?_;obtain⟨o',es,n,ho,hd⟩:=L.dict b q;obtain⟨sl,e'⟩:=t.2 b q o' ho;refine kG ?_;simp only[e]at e';cases e'
   rcases hx with hx | ⟨vs,_,_,hv,_⟩
   ·exact(L.hid b q).nt hx
   ·simp only[show({ o' with slots:=sl }:Obj).data=o'.data from rfl,hd]at hv;cases hv)) t.1,fun b hb o ho=>by
  refine byG fun gG kG=>?_;obtain⟨sl,e⟩:=t.2 b hb o ho;obtain⟨o',es,n,ho',hd⟩:=L.dict b hb;refine kG ?_;simp only[ho]at ho';cases ho'
  obtain⟨sl2,e2⟩:=up b _ e (fun vs q=>by simp only[show({ o with slots:=sl }:Obj).data=o.data from rfl,hd]at q;cases q);exact⟨sl2,e2⟩⟩
end
theorem Bg{W:Wp}(G:WF W){D:Nat}{a:Addr}{ps:List Str}{body:List Stmt}{sc:Scope}(F:eQ W a ps body sc){φ:Ro->Option Out}(H:∀P h l,Ok W P h->Low W P h l->SXs 0 (W.atS h l) D (ac sc) body φ):tU W (D+1) a (fnV (ac sc) ps φ):=by
 intro A P us l v l0 s Q E' ao ok hfr low r e hQ;refine aO e fun hlen e=>aa e fun out hφ e=>?_;obtain hul:us.length=ps.length:=by rw[r.length,hlen]
 obtain G1:WF (W.atS s.heap l0):=G.atS ok low;obtain ok1:Ok (W.atS s.heap l0) P s.heap:=ok.atS low;obtain F1:eQ (W.atS s.heap l0) a ps body sc:=F.re fun b o n e=>⟨iM (low.n0 b o n e) n,ok.kept b o n e⟩;refine wpAny_call (gU G1 F1 (cO _) ao ok1 hul (fun i v e=>r.get e) fun env h₁ tk₁ U hc hf mn keep pr U=>?_);have pr:Pre (W.atS s.heap l0) (aH P fun b=>aw env b) env (ro0 (ac sc) ps l) h₁:=Pre.hide (W:=(W.atS s.heap l0).at' s.heap) (f:=(W.atS s.heap l0).fs) (fun b o e=>e) pr;have fo:(W.atS s.heap l0).fs (A.deeper env) env:=⟨by show A.frames.map _=_;rw[hfr];rfl,hf⟩;have nm:∀b o,s.heap.get? b=some o->¬aw env b:=fun b o e m=>by exact nn (Eq.trans (Eq.symm (mn b m)) e)
 have fin:∀(P':Addr->Prop) (ρ':Ro) h' tk u,Pre (W.atS s.heap l0) P' env ρ' h'->Stp (W.atS s.heap l0) env (aH P fun b=>aw env b) (ro0 (ac sc) ps l) h₁ P' ρ' h'->Rp P' h' u v->Q u { s with heap:=h',toks:=tk }:=by
  intro P' ρ' h' tk u pr' st r';refine hQ u h' tk (fun b o n1 n2 e=>st.keep b o (iM n2 n1) (nm b o e) (mz b) (keep b o e)) pr'.ok.ti.2 pr'.ok.ti.1 (r'.mono fun b o p e=>⟨?_,e⟩);obtain nT:=pr'.ok.pt b p
  cases q:s.heap.get? b with
  |none=>exact ok.new b (kW nT).2 q
  |some o0=>
   by_cases hp:P b
   ·exact hp
   ·exact absurd p (st.pn b o0 (fun x=>hp x.1) nT (nm b o0 q) (mz b) (keep b o0 q))
 cases out with
 |nxt ρ'=>
  refine H P s.heap l0 ok low (A.deeper _) env _ _ _ (.nxt ρ') _ _ (ao.deeper _) fo hc pr hφ (cO _) fun P' h' tk pr' st=>?_
  cases e
  exact fin P' ρ' h' tk .none pr' st Rp.n
 |ret w ρ'=>
  refine H P s.heap l0 ok low (A.deeper _) env _ _ _ (.ret w ρ') _ _ (ao.deeper _) fo hc pr hφ (cO _) fun u P' h' tk pr' st r'=>?_
  cases e
  exact fin P' ρ' h' tk u pr' st r'
 |brk ρ'=>exact nn0 e
end
section
section
variable{W:Wp}{tb:Tb}{Φ:Fun}{τ N D n:Nat}
structure EJ(W:Wp)(tb:Tb)(Φ:Fun)(D:Nat):Prop where
 fs:∀A env,W.fs A env->A.frames=some [env]/\env.frame=some env.locals
 fn:∀x k,tb.gs.findIdx? (·==x)=some k->Ex3 fun a o fd=>jX (W.mg x=some (.ref a)) (W.h0.get? a=some o) (o.data=.func fd) (a∉W.T) (tU W D a (Φ (1000+k)))
theorem zE(G:WF W)(C:Cfg W tb Φ D)(S:EJ W tb Φ D)(c:Cx)(x:Str)(px:Pos)(v:Expr)(pos:Pos)(i k:Nat)(as:List E)(hx:c.ix x=some i)(hcs:vx tb c v=some (k,as)):SX τ W D c (.Assign [.Name x px] v pos) (ex Φ N (.calls i k as)):=by
 obtain⟨f,args,p,cp,rfl,hg,hd,hk,ha⟩:Ex4 fun f args p cp=>jX (v=.Call (.Name f p) args [] cp) (c.glob f=true) ((f==("__debug__" : Str))=false) (tb.gs.findIdx? (·==f)=some k) (args.mapM (trE tb 40 c)=some as):=
  aa hcs fun q hq e=>aa e fun f hf e=>eN e fun hg e=>aa e fun k' hk e=>by
   obtain⟨as',ha,e⟩:=bj.mp e
   cases e
   obtain⟨p,hp⟩:=aS hf;exact⟨f,q.2.1,p,q.2.2,by rw[f8 hq,hp],(aT hg).1,mK (aT hg).2,hk,ha⟩
 intro A env ρ P s o Q E' ao fo hc pr ho _ h;refine aa ho fun vs hvs ho=>aa ho fun w hw ho=>?_;revert h;refine jB ho fun h=>?_;obtain ih:=cA G C;obtain hfr:=(S.fs A env fo).1;obtain hf:=(S.fs A env fo).2;refine byG fun gG kG=>?_;obtain⟨a,fob,fd,hm,hfo,hdat,hT,cal⟩:=S.fn f k hk;obtain⟨P1,pr1,s1⟩:=Pre.frz (mB as) pr;obtain⟨cc,hsl⟩:=Cx.ix_spec (hc▸hx);refine kG ?_;refine fW (eS (bh (bo G pr1 (by rw[hc];exact hg) hm ?_) hd)) rfl;refine iU (o:=fob) (fd:=fd) (bG ha (ef G (ih 40) ao hc ha pr1 hvs fun us h1 tk1 K1 rs=>?_));refine⟨⟨K1.keep a fob hT (pr1.ok.kept a fob hT hfo),hdat⟩,?_⟩;have pr2:=pr1.step K1;have hfrs:frs [env]=[env.locals]:=by unfold frs;simp[hf]
 obtain low:Low W P1 h1 [env]:=by
  refine byG fun gG kG=>?_;obtain⟨m,o,es,ep,hlo,hd,_⟩:=pr2.en.lns;refine kG ?_;refine⟨fun e he=>?_,fun L hL=>?_,fun L hL=>?_⟩
  ·rw[fx.mp he]
   exact⟨by rw[pr2.en.kind];decide,_,o,hf,hlo,fun vs q=>by rw[hd]at q;cases q⟩
  ·rw[hfrs]at hL;rw[fx.mp hL];exact pr2.hid _ (.inl rfl)
  ·rw[hfrs]at hL;rw[fx.mp hL];exact⟨o,es,ep,hlo,hd⟩
 refine cal A P1 us vs w [env] { s with heap:=h1,toks:=tk1 } _ E' ao pr2.ok hfr low rs hw fun u h2 tk2 k2 f2 ti2 r2=>?_;obtain nl:∀b,b≠env.locals->b∉frs [env]:=fun b hb q=>by rw[hfrs]at q;exact hb (fx.mp q)
 obtain⟨pr3,s3⟩:=pr2.sim (h':=h2) (fun b o m e=>by
  by_cases q:b=env.locals
  ·obtain⟨sl,e2⟩:=f2 b (by rw[hfrs,q];exact .head _) o e
   exact⟨_,e2,rfl⟩
  ·exact⟨o,k2 b o (pr2.hid b m).nt (nl b q) e,rfl⟩) (fun b o n m e=>k2 b o n (nl b fun q=>m (.inl q)) e) G ti2
 exact dc (s:=s) (tk:=tk2) G pr3 ((s1.trans (Stp.kx G pr1 K1)).trans s3) hsl r2 fun h3 tk3 pr4 s4=>h P1 h3 tk3 pr4 s4
end
end
section
theorem AOk.le{A:Around}{D D':Nat}(h:D<=D')(x:AOk A D'):AOk A D:=⟨x.hd,by have:=x.depth;lia,by have:=x.units;lia,x.fr⟩
section
variable{W:Wp}{tb:Tb}{Φ:Fun}{τ N D D' n:Nat}{c:Cx}{ow:List Str}
theorem Cal.up{f:Addr}{φ:List V->Option V}(h:D<=D')(x:Cal W D f φ):Cal W D' f φ:=fun A P us l v s Q E' ao=>x A P us l v s Q E' (ao.le h)
theorem ig.up{f:Addr}(h:D<=D')(x:ig W D f):ig W D' f:=fun A P I l v r s Q E' ao=>x A P I l v r s Q E' (ao.le h)
theorem gB.up{f:Addr}(h:D<=D')(x:gB W D f):gB W D' f:=fun A P I l l0 s Q E' ao=>x A P I l l0 s Q E' (ao.le h)
theorem Cal.sub{f:Addr}{φ ψ:List V->Option V}(x:Cal W D f φ)(k:∀l v,ψ l=some v->φ l=some v):Cal W D f ψ:=fun A P us l v s Q E' ao ok r e=>x A P us l v s Q E' ao ok r (k l v e)
theorem tU.sub{f:Addr}{φ ψ:List V->Option V}(x:tU W D f φ)(k:∀l v,ψ l=some v->φ l=some v):tU W D f ψ:=fun A P us l v l0 s Q E' ao ok a b r e=>x A P us l v l0 s Q E' ao ok a b r (k l v e)
theorem tT.sub{f:Addr}{φ ψ:List V->Option V}(x:tT τ W D f φ)(k:∀l v,ψ l=some v->φ l=some v):tT τ W D f ψ:=fun A P us l v s Q E' ht ao ok r e=>x A P us l v s Q E' ht ao ok r (k l v e)
theorem DO{b:List Stmt}{y:Str}(h:Ch b=some y):Ex4 fun yp kd kp rp=>b=[.AugAssign (.Name y yp) .Add (.Constant (.int 1) kd kp) rp]:=
 bnd h fun s hs h=>bnd h fun q hq h=>bnd h fun k hk h=>eN h fun g h=>by
  obtain g1:=(aT g).1;obtain g2:=(aT g).2;refine byG fun gG kG=>?_;obtain⟨yp,e1⟩:=aS h;obtain⟨kd,kp,e2⟩:=DM hk;obtain⟨hn,e3⟩:=bD hq;refine kG ?_;refine⟨yp,kd,kp,q.2.2.2,?_⟩;rw[aX hs,EF s hn,e3,e1,e2,qY g1,aB g2]
theorem Ba{hs:List ExceptHandler}{q:Str×Str}(h:yP hs=some q):Ex6 fun xp yp kd kp rp hp=>hs=[.ExceptHandler (some (.Name q.1 xp)) none [.AugAssign (.Name q.2 yp) .Add (.Constant (.int 1) kd kp) rp] hp]:=
 bnd h fun x hx h=>by
  obtain⟨t,n,b,p⟩:=x;refine eN h fun g h=>aa h fun t' ht h=>aa h fun x hx' h=>?_;obtain⟨y,hy,rfl⟩:=bj.mp h;obtain⟨yp,kd,kp,rp,e⟩:=DO hy;obtain⟨xp,e2⟩:=aS hx';simp only[aX hx,ht,e2,e,nO.mp g];exact⟨xp,yp,kd,kp,rp,p,rfl⟩
theorem CH{b:List Stmt}{u:Str×Str×Str×Str}(h:BT b=some u):Ex2 fun q kd=>b=[nv u.1 u.2.1 u.2.2.1 u.2.2.2 q kd]:=
 bnd h fun s hs h=>bnd h fun t ht h=>bnd h fun s1 hs1 h=>bnd h fun e he h=>bnd h fun q hq h=>bnd h fun f hf h=>bnd h fun a ha h=>bnd h fun y hy h=>bnd h fun w hw h=>eN h fun g h=>by
  obtain rfl:=al_0 h;obtain g1:=(aT g).1;obtain g2:=(aT g).2;obtain hn:=(bD ht).1;obtain e1:=(bD ht).2;obtain hn2:=(bD he).1;obtain e2:=(bD he).2;refine byG fun gG kG=>?_;obtain⟨fp,e3⟩:=aS hf;obtain⟨ap,e4⟩:=aS hy;obtain⟨xp,yp,kd,kp,rp,hp,e5⟩:=Ba hw;refine kG ?_;refine⟨fun n=>match n with | 0=>fp | 1=>ap | 2=>q.2.2 | 3=>e.2 | 4=>xp | 5=>yp | 6=>kp | 7=>rp | 8=>hp | _=>t.2.2.2.2,kd,?_⟩;rw[aX hs,CI s hn,e1,aX hs1,E9 s1 hn2,e2,f8 hq,e3,aX ha,e4,e5,fc g1,fc g2];rfl
theorem Ei{t it:Expr}{b:List Stmt}{q:CutT}(h:Cq t it b=some q):Ex7 fun tp rp ip cp lp f kd=>dD (t=.Name q.cut tp) (it=.List [.Name q.tape rp,.Call (.Name q.it ip) [q.arg] [] cp] lp) (b=[nv q.f q.cut2 q.exc q.n f kd]):=
 bnd h fun cut hcut h=>bnd h fun l hl h=>bnd h fun l2 hl2 h=>bnd h fun tape htape h=>bnd h fun u hu h=>bnd h fun i hi h=>bnd h fun a ha h=>by
  refine byG fun gG kG=>?_;obtain⟨w,hw,rfl⟩:=bj.mp h;obtain⟨tp,e1⟩:=aS hcut;obtain⟨lp,e2⟩:=Fn hl;obtain⟨rp,e3⟩:=aS htape;obtain⟨ip,e4⟩:=aS hi;obtain⟨f,kd,e5⟩:=CH hw;refine kG ?_;refine⟨tp,rp,ip,u.2.2,lp,f,kd,e1,?_,e5⟩;rw[e2,iZ hl2,e3,f8 hu,e4,aX ha]
theorem BB(G:WF W)(Cf:Cfg W tb Φ D){l0:List Env}(C:lr W l0)(Pv:i9 W tb D)(Pr:∀a,W.mg tb.pvn=some (.ref a)->gB W D a)(hdb:(tb.pvn==("__debug__" : Str))=false)(c:Cx)(t it:Expr)(b:List Stmt)(pos:Pos)(y:S)(h:vo tb c t it b=some y):SX τ W D c (.For t it b [] pos) (ex Φ N y):=
 eN h fun U h=>aa h fun q hq h=>aa h fun k hk h=>aa h fun j hj h=>aa h fun n hn h=>eN h fun g h=>by
  obtain⟨e,he,rfl⟩:=bj.mp h;obtain⟨tp,rp,ip,cp,lp,f,kd,rfl,rfl,rfl⟩:=Ei hq;obtain g1:=(aT g).1;obtain g:=(aT g).2;obtain g2:=(aT g).1;obtain g:=(aT g).2;obtain g3:=(aT g).1;obtain g:=(aT g).2;obtain g4:=(aT g).1;obtain g:=(aT g).2;obtain g5:=(aT g).1;obtain g:=(aT g).2;obtain g6:=(aT g).1;obtain g7:=(aT g).2;obtain hk1:=(cZ hk).1;obtain hk2:=(cZ hk).2;obtain hj1:=(cZ hj).1;obtain hj2:=(cZ hj).2;obtain e1:=aB g1;rw[aB g3]at g4 ⊢;rw[aB g5];rw[e1]at g2 ⊢;exact Ag G C Pv Pr (aB g6) hk1 hj1 (cZ hn).1 hk2 hj2 hdb g4 g7 g2 (plain he).star ((cA G Cf 40).e c _ e he)
end
end
theorem Ek{W:Wp}(G:WF W){P:Addr->Prop}{s:Shared}{h₁:Heap}{fd:FuncData}{f:Addr}{m:Str->Option Value}{X:List Addr}{ρ:Ro}(ok:Ok W P s.heap)(hs:cK fd.scope=true)(hnc:∀p∈fd.scope.names,p.2≠.cell)(hg:fd.globals=mainGlobals)(hb:fd.builtins=builtinsNs)(hcl:∀x c,fd.closure.lookup x=some c->Hid W P c/\∃v,s.heap.IsCell c v)(hfree:∀x,(x,NameKind.free)∈fd.scope.names->∃c,fd.closure.lookup x=some c)(inj:∀x y c,fd.closure.lookup x=some c->fd.closure.lookup y=some c->x=y)(hcX:∀x c,fd.closure.lookup x=some c->c∈X)(hX:∀b∈X,W.h0.get? b=none)(hns:h₁.Ns s.heap.objs.size m)(keep:∀b o,s.heap.get? b=some o->h₁.get? b=some o)(len:ρ.length=(ac fd.scope).slots.length)(noOwn:∀sl∈ρ,¬bk sl)(er:∀(i:Nat) x c v,(ac fd.scope).slots[i]?=some (x,c)->ρ[i]?=some (.val v)->∃u,aA W.T (callEnv fd s.heap.objs.size f) h₁ x u/\Rp P s.heap u v):
  WF (W.at' (hideAll s.heap X))/\Pre (W.at' (hideAll s.heap X)) (aH P fun b=>b=s.heap.objs.size) (callEnv fd s.heap.objs.size f) ρ h₁:=by
 have hs':=hs;unfold cK at hs';simp only[jt,oi,List.all_eq_true]at hs';obtain⟨⟨hkind,hnd⟩,hncd⟩:=hs';obtain hkind:=aB hkind;obtain hk0:∀b o,b∉W.T->W.h0.get? b=some o->(hideAll s.heap X).get? b=some o:=fun b o n e=>hideAll_get _ (ok.kept b o n e) (fun q=>by exact nn (Eq.trans (Eq.symm (hX b q)) e));have nL:s.heap.get? s.heap.objs.size=none:=aR _;obtain pL:P s.heap.objs.size:=ok.top G;obtain hmut:∀b,aw (callEnv fd s.heap.objs.size f) b->b=s.heap.objs.size\/∃x,fd.closure.lookup x=some b:=fun b m=>m;obtain m':∀b o',P b->s.heap.get? b=some o'->aH P (fun b=>b=s.heap.objs.size) b/\h₁.get? b=some o':=fun b o' p e=>
  ⟨⟨p,fun hb=>by rw[hb,nL]at e;cases e⟩,keep b o' e⟩
 obtain hcell:∀x c,fd.closure.lookup x=some c->c∉W.T/\∃v,h₁.IsCell c v:=fun x c h=>by
  refine byG fun gG kG=>?_;obtain⟨a,v,o,ho,hd⟩:=hcl x c h;refine kG ?_;exact⟨a.nt,v,o,keep _ _ ho,hd⟩
 obtain slotK:∀y b,(y,b)∈(ac fd.scope).slots->∃k,dD ((y,k)∈fd.scope.names) (aI k=true) (b=(k != .local)):=by
  intro y b h;refine byG fun gG kG=>?_;obtain⟨⟨z,k⟩,hz,e⟩:=eH.mp h;refine kG ?_;simp only[Prod.mk.injEq]at e;obtain⟨rfl,rfl⟩:=e;obtain⟨hz,hk⟩:=fY.mp hz;exact⟨k,hz,hk,rfl⟩
 refine⟨G.at' hk0,⟨⟨fun b o n e=>keep b o (of_hideAll _ e),G.ti _ _ (fun b o e U=>keep b o e) ok.ti,fun b n e=>?_,fun b p=>ok.pt b p.1⟩,⟨hkind,hg,hb,ok.pt _ pL,⟨_,hns⟩,?_,?_,?_,?_,hcell⟩,?_,len,?_,inj,?_,?_⟩⟩
 ·obtain e0:s.heap.get? b=none:=by
   cases q:s.heap.get? b with
   |none=>rfl
   |some o=>exact nn (Eq.trans (Eq.symm e) (keep b o q))
  refine⟨ok.new b n e0,fun hm=>?_⟩;refine byG fun gG kG=>?_;obtain⟨o,_,_,ho,_⟩:=hns;refine kG ?_;rw[hm,ho]at e;cases e
 ·intro x hx
  refine byG fun gG kG=>?_;obtain⟨k,hk,hsk,hb'⟩:=slotK x true hx;refine kG ?_;have hk':k=.free:=by
   have:=hnc _ hk
   cases k<;>simp[aI]at hsk hb' this ⊢
  subst hk';refine byG fun gG kG=>?_;obtain⟨c,hc⟩:=hfree x hk;obtain⟨a,v,o,ho,hd⟩:=hcl x c hc;refine kG ?_;exact⟨.inr (ar hnd hk),c,v,hc,⟨o,keep _ _ ho,hd⟩,a.nt⟩
 ·intro x hx
  refine byG fun gG kG=>?_;obtain⟨k,hk,hsk,hb'⟩:=slotK x false hx;refine kG ?_;obtain hk':k=.local:=by cases k<;>simp[aI]at hsk hb' ⊢
  subst hk';exact ar hnd hk
 ·have:((ac fd.scope).slots.map (·.1))=(fd.scope.names.filter fun p=>aI p.2).map (·.1):=by
   unfold ac gi;simp[dI,Function.comp_def]
  show((ac fd.scope).slots.map (·.1)).Nodup;rw[this];exact hnd.sublist (List.filter_sublist.map _)
 ·intro p hp
  obtain⟨q,hq,rfl⟩:=eH.mp (show p∈(ac fd.scope).slots from hp);have:=hncd q (fY.mp hq).1
  simpa using this
 ·intro i x c sl h1 h2
  cases sl with
  |unb=>trivial
  |val v=>
   obtain⟨u,va,ru⟩:=er i x c v h1 h2;exact⟨u,va,ru.mono m'⟩
  |own l=>exact absurd ⟨l,.inl rfl⟩ (noOwn _ (dw h2))
  |itr l=>exact absurd ⟨l,.inr rfl⟩ (noOwn _ (dw h2))
 ·intro b hb'
  rcases hmut b hb' with rfl | ⟨x,hx⟩
  ·refine⟨fun p=>p.2 rfl,ok.pt _ pL,?_⟩
   show(hideAll s.heap X).get? s.heap.objs.size=none
   cases q:(hideAll s.heap X).get? s.heap.objs.size with
   |none=>rfl
   |some o=>have:=of_hideAll _ q;exact nn (Eq.trans (Eq.symm nL) this)
  ·exact⟨fun p=>(hcl x b hx).1.np p.1,(hcl x b hx).1.nt,hideAll_none _ (hcX x b hx)⟩
 ·intro x hx
  refine byG fun gG kG=>?_;obtain⟨_,v,o,ho,_⟩:=hcl x _ hx;refine kG ?_;rw[show(callEnv fd s.heap.objs.size f).locals=s.heap.objs.size from rfl,nL]at ho
  cases ho
 ·intro i j x y ci cj si sj a hij h1 h2 h3 h4 o1
  exact absurd o1 (noOwn _ (dw h3))
section
structure lC(W:Wp)(c Pt:Addr)(pos:Pos)(qual:Str):Prop where
 inT:Pt∈W.T
 get:∀h,W.TI h->CodeHd h c Pt/\∃ps,dD (h.get? Pt=some (tabObj ps)) (TriplesOk ps.toList) ((codeAmong pos ps.toList=none\/∃c',dD (codeAmong pos ps.toList=some (.ref c')) (c'∉W.T) (h.CodeRec (.ref c') qual)))
 put:∀h h' ps c',W.TI h->h.get? Pt=some (tabObj ps)->codeAmong pos ps.toList=none->c'∉W.T->(∀b o,b≠Pt->h.get? b=some o->h'.get? b=some o) ->
  h'.get? Pt=some (tabObj (ps++#[rawInt pos.line,rawInt pos.col,.ref c']))->h'.CodeRec (.ref c') qual->W.TI h'
 ng:mainGlobals≠Pt
 bm:Ex2 fun bm o=>W.mg "__builtins__" = some (.ref bm)/\bm≠builtinsNs/\bm≠mainGlobals/\bm∉W.T/\W.h0.get? bm=some o/\o.cls=.type "module"/\o.dict=some builtinsNs/\o.data=.plain
theorem lC.at'{W:Wp}{c Pt:Addr}{pos:Pos}{qual:Str}{h:Heap}(k:∀b o,b∉W.T->W.h0.get? b=some o->h.get? b=some o)(x:lC W c Pt pos qual):lC (W.at' h) c Pt pos qual:=
 ⟨x.inT,x.get,x.put,x.ng,(by obtain⟨bm,o,h1,h2,h3,h4,h5,r⟩:=x.bm;exact⟨bm,o,h1,h2,h3,h4,k bm o h4 h5,r⟩)⟩
structure InF(W:Wp)(h:Heap)(f:Addr)(fd:FuncData):Prop where
 obj:∃o,h.get? f=some o/\o.data=.func fd
 nT:f∉W.T
 code:nU W h fd.code fd.qualname
theorem InF.kx{W:Wp}{h h':Heap}{f:Addr}{fd:FuncData}(k:∀b o,b∉W.T->h.get? b=some o->h'.get? b=some o)(x:InF W h f fd):InF W h' f fd:=
 ⟨(by obtain⟨o,a,b⟩:=x.obj;exact⟨o,k f o x.nT a,b⟩),x.nT,(by obtain⟨c,o,vs,t,e,n,g,r⟩:=x.code;exact⟨c,o,vs,t,e,n,k c o n g,r⟩)⟩
theorem InF.at'{W:Wp}{h h0:Heap}{f:Addr}{fd:FuncData}(x:InF W h f fd):InF (W.at' h0) h f fd:=⟨x.obj,x.nT,x.code⟩
section
variable{W:Wp}{A:Around}{E':Value->Shared->Prop}{s:Shared}{P:Addr->Prop}{env:Env}{ρ:Ro}{D:Nat}
theorem zs(G:WF W){c Pt:Addr}{pos:Pos}{name qual:Str}{params:Arguments}{body:List Stmt}{scope:Scope}{clos:List (Str×Addr)}{Q:Flow->Shared->Prop}(Tb:lC W c Pt pos qual)(hq:qualnameIn env name name=qual)(hcode:env.code=.ref c)(hd0:params.defaults=[])(hk0:params.kw_defaults=[])(ha:annTrees params none env=[])(hcl:closureFor scope env=pure clos)(pr:Pre W P env ρ s.heap)(h:∀f doc pm ctv cv h1 tk1,KX W s.heap h1->s.heap.get? f=none->InF W h1 f (fnX name qual params body scope clos .none .none doc pm none cv ctv)->wpAny W.M A (storeName env name (.ref f)) (fun U s''=>Q .next s'') E' { s with heap:=h1,toks:=tk1 }):
  wpAny W.M A (exec (.FunctionDef name params body [] none [] scope none name pos) env) Q E' s:=by
 refine nestDef_K hd0 hk0 ha ?_;rw[hq];refine byG fun gG kG=>?_;obtain⟨C,ps,hP,ht,hcase⟩:=Tb.get _ pr.ok.ti;refine kG ?_;have hg:=cB pr.ok.kept G.gT G.g;have hge:env.globals=mainGlobals:=pr.en.glob;refine byG fun gG kG=>?_;obtain⟨bm,ob,b1,b2,b3,b4,b5,b6,b7,b8⟩:=Tb.bm;refine kG ?_;have hbm:s.heap.BuiltinsAt W.mg Pt:=⟨bm,ob,b1,b2,b3,fun q=>b4 (q▸Tb.inT),pr.ok.kept _ _ b4 b5,b6,b7,b8⟩;rcases hcase with hn | ⟨c',hf,hT',hrec⟩
 ·refine makeFunction_K hcl hge hg hcode C hP ht hn Tb.ng hbm fun c' ctv doc h' tk hx hge' hlt hrec htb=>?_
  obtain nc:s.heap.get? c'=none:=lB hge';have nf:s.heap.get? h'.objs.size=none:=lB (ai hge' (bP hlt));have cT:c'∉W.T:=pr.ok.pt _ (pr.ok.fresh G nc);have fT:h'.objs.size∉W.T:=pr.ok.pt _ (pr.ok.fresh G nf);have keep:∀b o,b≠Pt->s.heap.get? b=some o->(h'.push (fnMade name qual params body scope clos doc ((W.mg "__name__").getD .none) c' ctv)).get? b=some o:=fun b o hb e=>eP _ (hx b o hb e);refine h _ doc _ ctv (.ref c') _ tk ⟨fun b o n e=>keep b o (fun q=>n (q▸Tb.inT)) e,Tb.put _ _ ps c' pr.ok.ti hP hn cT keep (eP _ htb) (hrec.push _)⟩ nf ⟨⟨_,eO _ rfl,rfl⟩,fT,?_⟩;refine byG fun gG kG=>?_;obtain⟨c2,o,vs,t,e,g,r⟩:=hrec;refine kG ?_
  cases e
  exact⟨c',o,vs,t,rfl,cT,eP _ g,r⟩
 ·refine makeFunction_hit hcl hge hg hcode C hP ht hf hbm fun ctv doc h' tk hk hsz=>?_
  have nf:s.heap.get? h'.objs.size=none:=lB hsz;obtain fT:h'.objs.size∉W.T:=pr.ok.pt _ (pr.ok.fresh G nf);refine h _ doc _ ctv (.ref c') _ tk ((KX.of_all G pr.ok.ti hk).trans (KX.push G (KX.of_all G pr.ok.ti hk).ti _)) nf ⟨⟨_,eO _ rfl,rfl⟩,fT,?_⟩;refine byG fun gG kG=>?_;obtain⟨c2,o,vs,t,e,g,r⟩:=hrec;refine kG ?_
  cases e
  exact⟨c',o,vs,t,rfl,hT',eP _ (hk _ _ g),r⟩
end
structure tP(W:Wp)(env:Env)(xs:List (Str×Value))(f:Addr)(fd:FuncData)(s0:Heap)(h:Heap):Prop where
 vars:∀p∈xs,aA W.T env h p.1 p.2
 fn:InF W h f fd
 keep:∀b o,b∉W.T->b≠env.locals->s0.get? b=some o->h.get? b=some o
theorem tP.frm{W:Wp}{env:Env}{xs:List (Str×Value)}{f:Addr}{fd:FuncData}{s0:Heap}(hx:∀x c,env.cells.lookup x=some c->x∈xs.map (·.1))(hf:f≠env.locals)(hc:∀c,fd.code=.ref c->c≠env.locals):
  Frm W env (xs.map (·.1)) (tP W env xs f fd s0) where
 kx:=fun h h' K t=>⟨fun p hp=>(t.vars p hp).keep K.keep,t.fn.kx K.keep,fun b o n e q=>K.keep b o n (t.keep b o n e q)⟩
 st:=fun x u a h h' hn st t=>by
  obtain ha:a=env.locals:=by
   rcases st.tgt with⟨_,e⟩ | ⟨_,e⟩
   ·exact e
   ·exact absurd (hx x a e) hn
  have k:∀b o,b≠env.locals->h.get? b=some o->h'.get? b=some o:=fun b o hb e=>(st.same.2 b (ha▸hb)).trans e;refine⟨fun p hp=>st.others _ _ (fun q=>hn (q▸lj hp)) (t.vars p hp),?_,fun b o n e q=>k b o e (t.keep b o n e q)⟩;refine byG fun gG kG=>?_;obtain⟨⟨o,g1,g2⟩,nT,c,oc,vs,tt,e1,e2,e3,e4⟩:=t.fn;refine kG ?_;exact⟨⟨o,k _ _ hf g1,g2⟩,nT,c,oc,vs,tt,e1,e2,k _ _ (hc c e1) e3,e4⟩
end
section
noncomputable def aU(n:Nat):List Int->Int
 |[]=>0
 |d::r=>d+2^n*aU n r
theorem ez(n:Nat):∀(a b:List Int),aU n (a++b)=aU n a+2^(n*a.length)*aU n b:=by
 intro a
 induction a with
 |nil=>
  intro b;exact by simp[aU]
 |cons d a ez=>
  intro b;simp only[List.cons_append,aU,ez b,aU,List.length_cons,Nat.mul_succ,fV];simp only[Int.mul_add,Int.add_assoc,<-fE,bL (2^n) (2^(n*a.length))]
noncomputable abbrev db(n:Nat)(l:List Int):Prop:=∀d∈l,0<=d/\d<2^n
theorem dj(n:Nat):∀(l:List Int),db n l->0<=aU n l/\aU n l<2^(n*l.length):=by
 intro r
 induction r with
 |nil=>
  intro _;exact by simp[aU]
 |cons d r dj=>
  intro h;obtain h1:=h d (.head _);obtain h2:=dj fun x hx=>h x (.tail _ hx);obtain p:(0:Int)<2^n:=fU (by decide);rw[aU,List.length_cons,Nat.mul_succ,Nat.add_comm,fV];obtain h3:aU n r+1<=2^(n*r.length):=h2.2;obtain h4:2^n*(aU n r+1)<=2^n*2^(n*r.length):=cC h3 (ay p);obtain h5:0<=2^n*aU n r:=bJ (ay p) h2.1;rw[Int.mul_add,Int.mul_one]at h4;omega
theorem dO{x:Int}{m:Nat}(h0:0<=x)(h:x<2^m):Builtin.Int.intBits x<=m:=by
 rw[intBits_le_iff];obtain e:(x.natAbs:Int)=x:=Int.natAbs_of_nonneg h0;have:(x.natAbs:Int)<((2^m:Nat):Int):=by rw[e];simpa using h
 exact_mod_cast this
noncomputable def bH(n:Nat):Nat->Int->List Int
 |0,_=>[]
 |k+1,a=>a%2^n::bH n k (a/2^n)
theorem br(n:Nat):∀(k:Nat) (a:Int),(bH n k a).length=k:=by
 intro k
 induction k with
 |zero=>
  intro _;exact rfl
 |succ k br=>
  intro a;exact by simp only[bH,List.length_cons,br]
theorem eB(n:Nat):∀(k:Nat) (a:Int),db n (bH n k a):=by
 intro k
 induction k with
 |zero=>
  intro _;exact fun d h=>by cases h
 |succ k eB=>
  intro a;exact fun d h=>by
   obtain p:(0:Int)<2^n:=fU (by decide);rcases aM.mp h with rfl | h
   ·exact⟨eF _ (bW p),eE _ p⟩
   ·exact eB _ d h
theorem gX(n:Nat):∀(k j:Nat) (a:Int),bH n (k+j) a=bH n k a++bH n j (a/2^(n*k)):=by
 intro k
 induction k with
 |zero=>
  intro j a;exact by simp[bH]
 |succ k gX=>
  intro j a;rw[Nat.succ_add,bH,gX j,bH,List.cons_append,Int.ediv_ediv_of_nonneg (ay (fU (by decide))),<-fV,Nat.mul_succ,Nat.add_comm n]
theorem oO(a b c:Int)(hb:0<b)(hc:0<c):a%(b*c)=a%b+b*(a/b%c):=by
 obtain h1:=i6 a b;obtain h2:=i6 (a/b) c;obtain h3:=eF a (bW hb);obtain h4:=eE a hb;obtain h5:=eF (a/b) (bW hc);obtain h6:=eE (a/b) hc;obtain e:a=(a%b+b*(a/b%c))+(b*c)*(a/b/c):=by
  have:b*(a/b)=b*(a/b%c)+b*c*(a/b/c):=by
   rw[fE,<-Int.mul_add,h2]
  lia
 obtain h7:0<=b*(a/b%c):=bJ (ay hb) h5;obtain h8:b*(a/b%c+1)<=b*c:=cC h6 (ay hb);rw[Int.mul_add,Int.mul_one]at h8
 conv=>lhs;rw[e]
 rw[Int.add_mul_emod_self_left,Int.emod_eq_of_lt (by lia) (by lia)]
theorem nu(n:Nat):∀(k:Nat) (a:Int),bH n k (a%2^(n*k))=bH n k a:=by
 intro k
 induction k with
 |zero=>
  intro _;exact rfl
 |succ k nu=>
  intro a;obtain p:(0:Int)<2^n:=fU (by decide);obtain e:(2:Int)^(n*(k+1))=2^n*2^(n*k):=by simp only[Nat.mul_succ,Nat.add_comm,fV]
  simp only[bH,bH,e];obtain q:(0:Int)<2^(n*k):=fU (by decide);simp only[oO a _ _ p q,Int.add_mul_emod_self_left,Int.emod_emod_of_dvd _ (Int.dvd_refl _),Int.add_mul_ediv_left _ _ (bW p),Int.ediv_eq_zero_of_lt (eF _ (bW p)) (eE _ p),fv,nu]
theorem iA(n:Nat):∀(k:Nat) (a:Int),aU n (bH n k a)=a%2^(n*k):=by
 intro k
 induction k with
 |zero=>
  intro a;exact by simp[bH,aU,Int.emod_one]
 |succ k iA=>
  intro a;obtain p:(0:Int)<2^n:=fU (by decide);obtain e:(2:Int)^(n*(k+1))=2^n*2^(n*k):=by rw[Nat.mul_succ,Nat.add_comm,fV]
  rw[bH,aU,iA,e,oO a _ _ p (fU (by decide))]
theorem kK(n:Nat):∀(l:List Int),db n l->bH n l.length (aU n l)=l:=by
 intro r
 induction r with
 |nil=>
  intro _;exact rfl
 |cons d r kK=>
  intro h;obtain h1:=h d (.head _);obtain p:(0:Int)<2^n:=fU (by decide);simp only[List.length_cons,bH,aU];obtain e1:(d+2^n*aU n r)%2^n=d:=by simp only[Int.add_mul_emod_self_left,Int.emod_eq_of_lt h1.1 h1.2]
  obtain e2:(d+2^n*aU n r)/2^n=aU n r:=by
   simp only[Int.add_mul_ediv_left _ _ (bW p),Int.ediv_eq_zero_of_lt h1.1 h1.2,fv]
  simp only[e1,e2,kK fun x hx=>h x (.tail _ hx)]
structure InC(W:Wp)(P:Addr->Prop)(h:Heap)(f:Addr)(fd:FuncData)(cs:List (Str×Addr×Value)):Prop where
 at':∀p∈cs,Hid W P p.2.1/\h.IsCell p.2.1 (some p.2.2)
 fn:InF W h f fd
structure EO(fd:FuncData)(body:List Stmt)(cs:List (Str×Addr×Value)):Prop where
 body:fd.body=.stmts body
 sc:cK fd.scope=true
 nc:∀x∈fd.scope.names,x.2≠.cell
 co:fd.scope.isCoroutine=false
 gen:fd.scope.isGenerator=false
 kind:fd.scope.kind=.function
 g:fd.globals=mainGlobals
 b:fd.builtins=builtinsNs
 lk:∀p∈cs,fd.closure.lookup p.1=some p.2.1/\fd.scope.names.lookup p.1=some .free
 cl:∀x c,fd.closure.lookup x=some c->∃p∈cs,p.1=x/\p.2.1=c
 fr:∀x,(x,NameKind.free)∈fd.scope.names->∃c,fd.closure.lookup x=some c
 inj:∀x y c,fd.closure.lookup x=some c->fd.closure.lookup y=some c->x=y
noncomputable abbrev cW(cs:List (Str×Addr×Value)):List (Str×Value):=cs.map fun p=>(p.1,p.2.2)
structure zX(W W1:Wp)(P:Addr->Prop)(s:Shared)(f:Addr)(fd:FuncData)(cs:List (Str×Addr×Value))(X:List Addr)(env:Env)(ρ:Ro)(h₁:Heap):Prop where
 G1:WF W1
 pr:Pre W1 (aH P fun b=>b=s.heap.objs.size) env ρ h₁
 sc:ac env.scope=ac fd.scope
 loc:env.locals=s.heap.objs.size
 vars:∀p∈cW cs,aA W1.T env h₁ p.1 p.2
 fn:InF W1 h₁ f fd
 keep:∀b o,s.heap.get? b=some o->h₁.get? b=some o
 T:W1.T=W.T
 TI:W1.TI=W.TI
 hid:∀b,¬P b->b∉W.T->b∈X->Hid W1 (aH P fun b=>b=s.heap.objs.size) b
 cl:∀x c,env.cells.lookup x=some c->∃p∈cs,p.1=x/\p.2.1=c
 lk:∀p∈cs,env.cells.lookup p.1=some p.2.1/\env.kindOf p.1=some .free
 hf:f≠env.locals
 hc:∀c,fd.code=.ref c->c≠env.locals
theorem oW{W:Wp}(G:WF W){A:Around}{P:Addr->Prop}{s:Shared}{k:Nat}{f:Addr}{fd:FuncData}{body:List Stmt}{us:List Value}{binds:List (Str×Value)}{cs:List (Str×Addr×Value)}{X:List Addr}{ρ:Ro}{Q E':Value->Shared->Prop}(t:EO fd body cs)(ao:AOk A (k+1))(ok:Ok W P s.heap)(I:InC W P s.heap f fd cs)(hbind:BindsTo s fd ⟨us,[]⟩ binds)(hloc:∀x∈binds,fd.scope.names.lookup x.1=some .local)(hX:∀b∈X,W.h0.get? b=none)(hcX:∀p∈cs,p.2.1∈X)(len:ρ.length=(ac fd.scope).slots.length)(noOwn:∀sl∈ρ,¬bk sl)(er:∀(i:Nat) x c v,(ac fd.scope).slots[i]?=some (x,c)->ρ[i]?=some (.val v)->∃u,(fd.scope.names.lookup x=some .local/\binds.reverse.lookup x=some u\/(x,u)∈cW cs)/\Rp P s.heap u v)(h:∀(W1:Wp) (env:Env) (h₁:Heap) (tk:Nat) (E'':Value->Shared->Prop),zX W W1 P s f fd cs X env ρ h₁->wpAny W1.M (A.deeper env) (execs body env) (fun f s'=>Q (match f with | .ret v=>v | _=>.none) s') E'' { s with heap:=h₁,toks:=tk }):
  wpAny W.M A (call (.ref f) us) Q E' s:=by
 obtain⟨⟨o,ho,hod⟩,fT,hcode⟩:=I.fn;have nL:s.heap.get? s.heap.objs.size=none:=aR _;refine wpAny_call (codeAny_call_def (o:=o) (fd:=fd) (body:=body) (binds:=binds) (by have:=ao.depth;show A.depth<1000;omega) ho hod
  (by obtain⟨mc,a,b⟩:=G.lim;exact⟨mc,cB ok.kept G.limT a,b⟩) (hcode.rec fun b o U e=>e) t.body hbind t.nc hloc (fun h₁ hns keep=>?_) t.co t.gen t.kind)
 have capv:∀p∈cW cs,aA W.T (callEnv fd s.heap.objs.size f) h₁ p.1 p.2:=fun p hp=>by
  obtain⟨p',hp',rfl⟩:=eH.mp hp;obtain a:=(t.lk p' hp').1;obtain b:=(t.lk p' hp').2;obtain⟨hd,o,ho,hd'⟩:=I.at' p' hp';exact .inr ⟨.inr b,_,a,hd.nt,o,keep _ _ ho,hd'⟩
 obtain⟨G1,pr⟩:=Ek (W:=W) G (s:=s) (h₁:=h₁) (fd:=fd) (f:=f) (X:=X) (ρ:=ρ) ok t.sc t.nc t.g t.b
  (fun x c e=>(by obtain⟨p,hp,_,e⟩:=t.cl x c e;exact e▸⟨(I.at' p hp).1,_,(I.at' p hp).2⟩)) t.fr t.inj (fun x c e=>(by obtain⟨p,hp,_,e⟩:=t.cl x c e;exact e▸hcX p hp)) hX hns keep len noOwn
  (fun i x c v h1 h2=>(by obtain⟨u,hu,r⟩:=er i x c v h1 h2;exact⟨u,hu.elim (fun q=>.inl ⟨q.1,ok.pt _ (ok.top G),_,hns,q.2⟩) fun q=>capv _ q,r⟩))
 refine h (W.at' (hideAll s.heap X)) (callEnv fd s.heap.objs.size f) h₁ _ _ ⟨G1,pr,rfl,rfl,capv,(I.fn.kx fun b o U e=>keep b o e).at',keep,rfl,rfl,fun b n1 n2 n3=>⟨fun q=>n1 q.1,n2,hideAll_none _ n3⟩,t.cl,fun p hp=>⟨(t.lk p hp).1,(t.lk p hp).2⟩,aJ ho nL,fun c e=>?_⟩;obtain⟨c',oc,vs,tt,e1,_,e3,_⟩:=hcode;rw[e1]at e;cases e;exact aJ e3 nL
theorem A1{T:List Addr}{env:Env}{h:Heap}{x:Str}{u:Value}{c:Addr}(v:aA T env h x u)(hk:env.kindOf x=some .free)(hc:env.cells.lookup x=some c):h.IsCell c (some u):=by
 rcases v with⟨k,_⟩ | ⟨_,c',h1,_,h2⟩
 ·rw[hk]at k;cases k
 ·obtain rfl:=al_0 (Eq.trans (Eq.symm hc) h1);exact h2
theorem zX.back{W W1:Wp}{P:Addr->Prop}{s:Shared}{f:Addr}{fd:FuncData}{cs:List (Str×Addr×Value)}{X:List Addr}{env:Env}{ρ ρ':Ro}{h₁ h:Heap}(c:zX W W1 P s f fd cs X env ρ h₁)(pr:Pre W1 (aH P fun b=>b=s.heap.objs.size) env ρ' h)(vars:∀p∈cW cs,aA W1.T env h p.1 p.2)(fn:InF W1 h f fd):InC W1 (aH P fun b=>b=s.heap.objs.size) h f fd cs:=
 ⟨fun p hp=>⟨pr.hid _ (.inr ⟨_,(c.lk p hp).1⟩),A1 (vars _ (lj (f:=fun p=>(p.1,p.2.2)) hp)) (c.lk p hp).2 (c.lk p hp).1⟩,fn⟩
theorem vp{L R:Nat}(hLR:L<R)(hne:¬L+1=R):L<(L+R)/2/\(L+R)/2<R:=by
 obtain h1:=Nat.div_mul_le_self (L+R) 2;obtain h2:=Nat.lt_div_mul_add (a:=L+R) (b:=2) (by decide);generalize (L+R)/2=M at *;exact⟨by lia,by lia⟩
theorem vr{L R K:Nat}(hk:R-L<=K+K):R-(L+R)/2<=K/\(L+R)/2-L<=K:=by
 obtain h:R<=K+K+L:=Nat.sub_le_iff_le_add.mp hk;obtain h1:=Nat.div_mul_le_self (L+R) 2;obtain h2:=Nat.lt_div_mul_add (a:=L+R) (b:=2) (by decide);generalize (L+R)/2=M at *;exact⟨Nat.sub_le_iff_le_add.mpr (by lia),Nat.sub_le_iff_le_add.mpr (by lia)⟩
theorem qP{m k:Nat}(h:m<2^k):ibits (m:Int)<=k:=dO (cF _) (by exact_mod_cast h)
theorem yQ{n L R len k:Nat}(hLR:L<R)(hne:¬L+1=R)(hR:R<=len)(hk:R-L<=2^k)(hsz:n*len<=100000000)(hlen:len<=1000000):
  Ex2 fun j M=>k=j+1/\(L+R)/2=M/\L<M/\M<R/\R-M<=2^j/\M-L<=2^j/\((M:Int)-L)=((M-L:Nat):Int)/\ibits ((M:Int)-L)+ibits (n:Int)<=134217728/\n*(R-M)+(M-L)*n<=n*len:=by
 obtain m1:=(vp hLR hne).1;obtain m2:=(vp hLR hne).2
 cases k with
 |zero=>exact absurd (Nat.le_antisymm (Nat.sub_le_iff_le_add'.mp hk) hLR) (fun e=>hne e.symm)
 |succ j=>
  simp only[Nat.pow_succ,Nat.mul_two]at hk;obtain l1:=(vr hk).1;obtain l2:=(vr hk).2;generalize (L+R)/2=M at *;obtain hs:=Int.natCast_sub (bP m1);obtain hM:M-L<2^20:=iV (ai (Nat.sub_le _ _) (ai (bP m2) (ai hR hlen))) (by decide);obtain hn:n<2^27:=iV (ai (Nat.le_mul_of_pos_right n (i8 (iV (cO _) hLR) hR)) hsz) (by decide);refine⟨j,M,rfl,rfl,m1,m2,l1,l2,hs.symm,hs▸ai (Nat.add_le_add (qP hM) (qP hn)) (by decide),?_⟩;simp only[Nat.mul_comm (M-L) n,<-Nat.mul_add];exact Nat.mul_le_mul_left n (by simp only[Nat.sub_add_sub_cancel (bP m2) (bP m1)];exact ai (Nat.sub_le _ _) hR)
theorem DE(L R:Nat):((L:Int)+R).fdiv (2^1)=((L+R)/2:Nat):=by
 rw[lg _ (by decide)];lia
theorem ye{L R M:Nat}{Φ:Fun}{a b:E}{ρ:Ro}(ha:pk a ρ (ev Φ a ρ)=some (.int L))(hb:pk b ρ (ev Φ b ρ)=some (.int R))(hM:(L+R)/2=M):ev Φ (.bin .RShift (.bin .Add a b) (.const (.int 1))) ρ=some (.int M):=by
 obtain e:hG .RShift ((L:Int)+R) 1=some (M:Int):=by
  show(if(0:Int)<=1 then some (((L:Int)+R).fdiv (2^1))else none)=_;rw[af (by decide),DE,hM]
 show Option.bind (Option.bind (pk a ρ (ev Φ a ρ)) fun x=>Option.bind (pk b ρ (ev Φ b ρ)) fun y=>bR .Add x y) _=_;rw[ha,hb];exact aq (Option.map V.int) e
theorem qC{L M n:Nat}{Φ:Fun}{a b c:E}{ρ:Ro}(ha:pk a ρ (ev Φ a ρ)=some (.int M))(hb:pk b ρ (ev Φ b ρ)=some (.int L))(hc:pk c ρ (ev Φ c ρ)=some (.int n))(hs:((M:Int)-L)=((M-L:Nat):Int))(hb':ibits ((M:Int)-L)+ibits (n:Int)<=134217728):
  ev Φ (.bin .Mult (.bin .Sub a b) c) ρ=some (.int (((M-L)*n:Nat):Int)):=by
 obtain e:hG .Mult ((M:Int)-L) n=some (((M-L)*n:Nat):Int):=(af hb').trans (by simp only[hs,<-Int.natCast_mul]);show Option.bind (Option.bind (pk a ρ (ev Φ a ρ)) fun x=>Option.bind (pk b ρ (ev Φ b ρ)) fun y=>bR .Sub x y) (fun x=>Option.bind (pk c ρ (ev Φ c ρ)) fun y=>bR .Mult x y)=_;simp only[ha,hb,hc];exact aq (Option.map V.int) e
theorem uG{L R:Nat}{Φ:Fun}{a b:E}{ρ:Ro}(ha:pk a ρ (ev Φ a ρ)=some (.int L))(hb:pk b ρ (ev Φ b ρ)=some (.int R))(hp:pk (.bin .Add a (.const (.int 1))) ρ=id):evb Φ (.cmp .Eq (.bin .Add a (.const (.int 1))) b) ρ=some (decide (L+1=R)):=by
 show Option.bind (Option.bind (pk a ρ (ev Φ a ρ)) fun x=>Option.bind (some (.int 1)) fun y=>bR .Add x y) (fun x=>Option.bind (pk b ρ (ev Φ b ρ)) fun y=>lz .Eq x y)=_;rw[ha,hb];refine aq some ?_;by_cases h:L+1=R
 ·rw[dp h,beq_iff_eq];lia
 ·rw[cY h,bK];lia
section
variable{α:Type}{p:α->Prop}{a b c d x:α}
@[elab_as_elim] theorem DG(h1:p a)(h2:p b)(h:x∈[a,b]):p x:=(aM.mp h).elim (fun e=>e▸h1) fun h=>fx.mp h▸h2
@[elab_as_elim] theorem mO(h1:p a)(h2:p b)(h3:p c)(h:x∈[a,b,c]):p x:=(aM.mp h).elim (fun e=>e▸h1) fun h=>DG h2 h3 h
@[elab_as_elim] theorem Gu(h1:p a)(h2:p b)(h3:p c)(h4:p d)(h:x∈[a,b,c,d]):p x:=(aM.mp h).elim (fun e=>e▸h1) fun h=>mO h2 h3 h4 h
end
theorem oD{k1 k2 k3 x:Str}{c1 c2 c3 c:Addr}{p:Str×Addr->Prop}(h1:p (k1,c1))(h2:p (k2,c2))(h3:p (k3,c3))(h:[(k1,c1),(k2,c2),(k3,c3)].lookup x=some c):p (x,c):=mO (p:=p) h1 h2 h3 (mem_of_lookup h)
theorem Fv{k1 k2 k3 x y:Str}{c1 c2 c3 c:Addr}(d1:c3≠c2)(d2:c3≠c1)(d3:c2≠c1)(hx:[(k1,c1),(k2,c2),(k3,c3)].lookup x=some c)(hy:[(k1,c1),(k2,c2),(k3,c3)].lookup y=some c):x=y:=
 oD (p:=fun q=>∀y,[(k1,c1),(k2,c2),(k3,c3)].lookup y=some q.2->q.1=y)
  (fun U h=>oD (p:=fun q=>q.2=c1->k1=q.1) (fun U=>rfl) (fun e=>absurd e d3) (fun e=>absurd e d2) h rfl)
  (fun U h=>oD (p:=fun q=>q.2=c2->k2=q.1) (fun e=>absurd e.symm d3) (fun U=>rfl) (fun e=>absurd e d1) h rfl)
  (fun U h=>oD (p:=fun q=>q.2=c3->k3=q.1) (fun e=>absurd e.symm d2) (fun e=>absurd e.symm d1) (fun U=>rfl) h rfl) hx y hy
end
noncomputable def Cp(q:Nat->Pos):Arguments:={ posonlyargs:=[],args:=[{ arg := "L", annotation:=none,pos:=q 0 },{ arg := "R", annotation:=none,pos:=q 1 }],vararg:=none,kwonlyargs:=[],kw_defaults:=[],kwarg:=none,defaults:=[] }
noncomputable def vf(q:Nat->Pos):List Stmt:=[
 .If (.Compare (.BinOp (.Name "L" (q 2)) .Add (.Constant (.int 1) 0 (q 3)) (q 4)) [.Eq] [.Name "R" (q 5)] (q 6)) [
  .Return (some (.Subscript (.Name "digits" (q 7)) (.Name "L" (q 8)) (q 9))) (q 10)] [] (q 11),
 .Assign [.Name "mid" (q 12)] (.BinOp (.BinOp (.Name "L" (q 13)) .Add (.Name "R" (q 14)) (q 15)) .RShift (.Constant (.int 1) 0 (q 16)) (q 17)) (q 18),
 .Assign [.Name "shift" (q 19)] (.BinOp (.BinOp (.Name "mid" (q 20)) .Sub (.Name "L" (q 21)) (q 22)) .Mult (.Name "n" (q 23)) (q 24)) (q 25),
 .Return (some (.BinOp (.BinOp (.Call (.Name "inner" (q 26)) [.Name "mid" (q 27),.Name "R" (q 28)] [] (q 29)) .LShift (.Name "shift" (q 30)) (q 31)) .Add
  (.Call (.Name "inner" (q 32)) [.Name "L" (q 33),.Name "mid" (q 34)] [] (q 35)) (q 36))) (q 37)]
noncomputable def iD:Scope:={ kind:=.function,names:=[("L", .local),("R", .local),("mid", .local),("shift", .local),("digits", .free),("inner", .free),("n", .free)],isGenerator:=false,isCoroutine:=false,more:=[] }
noncomputable def e7:Cx:=ac iD
theorem BA(p1 p2 p3 p4 p5:Pos):trB tb0 40 e7 (.Compare (.BinOp (.Name "L" p1) .Add (.Constant (.int 1) 0 p2) p3) [.Eq] [.Name "R" p4] p5)=some (.cmp .Eq (.bin .Add (.var 0) (.const (.int 1))) (.var 1)):=by rfl
theorem Ef(p1 p2 p3:Pos):trE tb0 39 e7 (.Subscript (.Name "digits" p1) (.Name "L" p2) p3)=some (.sub (.var 4) (.var 0)):=by rfl
theorem Eg(p1 p2 p3 p4 p5:Pos):trE tb0 39 e7 (.BinOp (.BinOp (.Name "L" p1) .Add (.Name "R" p2) p3) .RShift (.Constant (.int 1) 0 p4) p5)=some (.bin .RShift (.bin .Add (.var 0) (.var 1)) (.const (.int 1))):=by rfl
theorem zu(p1 p2 p3 p4 p5:Pos):trE tb0 39 e7 (.BinOp (.BinOp (.Name "mid" p1) .Sub (.Name "L" p2) p3) .Mult (.Name "n" p4) p5)=some (.bin .Mult (.bin .Sub (.var 2) (.var 0)) (.var 6)):=by rfl
theorem GE(p1:Pos):trE tb0 39 e7 (.Name "shift" p1)=some (.var 3):=by rfl
noncomputable def seg(l:List Int)(L R:Nat):List Int:=(l.drop L).take (R-L)
theorem At{l:List Int}{L:Nat}{x:Int}(h:l[L]?=some x):seg l L (L+1)=[x]:=by
 unfold seg;obtain h1:=(cX.mp h).1;obtain h2:=(cX.mp h).2;simp only[nI,List.drop_eq_getElem_cons h1,h2];rfl
theorem vR{l:List Int}{L M R:Nat}(h1:L<=M)(h2:M<=R)(h3:R<=l.length):seg l L R=seg l L M++seg l M R:=by
 unfold seg;rw[show R-L=(M-L)+(R-M) by rw[Nat.add_comm,Nat.sub_add_sub_cancel h2 h1],List.take_add,List.drop_drop,Nat.add_sub_of_le h1]
theorem mr{l:List Int}{L R:Nat}(h2:L<=R)(h3:R<=l.length):(seg l L R).length=R-L:=by
 unfold seg;simp only[List.length_take,List.length_drop,Nat.min_eq_left (Nat.sub_le_sub_right h3 L)]
theorem sy{n:Nat}{l:List Int}(h:db n l)(L R:Nat):db n (seg l L R):=fun d hd=>h d (List.mem_of_mem_drop (List.mem_of_mem_take hd))
noncomputable abbrev l8(q:Nat->Pos)(qual:Str)(cd cin cn:Addr)(doc pm cv ctv:Value):FuncData:=
 fnX "inner" qual (Cp q) (vf q) iD [("n", cn),("inner", cin),("digits", cd)] .none .none doc pm none cv ctv
noncomputable abbrev jF(cd cin cn f:Addr)(ud:Value)(n:Nat)(tn:Tok):List (Str×Addr×Value):=[("n", cn,.int n tn),("inner", cin,.ref f),("digits", cd,ud)]
theorem yE{q:Nat->Pos}{qual:Str}{cd cin cn f:Addr}{doc pm cv ctv ud:Value}{n:Nat}{tn:Tok}(d1:cd≠cin)(d2:cd≠cn)(d3:cin≠cn):EO (l8 q qual cd cin cn doc pm cv ctv) (vf q) (jF cd cin cn f ud n tn):=by
 refine⟨rfl,by rfl,show ∀x∈iD.names,x.2≠.cell by decide,rfl,rfl,rfl,rfl,rfl,fun p hp=>?_,fun x c h=>?_,fun x h=>?_,fun x y c hx hy=>?_⟩
 ·exact mO ⟨rfl,rfl⟩ ⟨rfl,rfl⟩ ⟨rfl,rfl⟩ hp
 ·exact oD (p:=fun q=>∃p∈jF cd cin cn f ud n tn,p.1=q.1/\p.2.1=q.2) ⟨_,.head _,rfl,rfl⟩ ⟨_,.tail _ (.head _),rfl,rfl⟩ ⟨_,.tail _ (.tail _ (.head _)),rfl,rfl⟩ h
 ·have:x = "digits"\/x = "inner"\/x = "n":=by simpa [iD]using h
  rcases this with rfl | rfl | rfl<;>exact⟨_,rfl⟩
 ·exact Fv d1 d2 d3 hx hy
noncomputable abbrev yF(L R:Nat)(a b:Sl)(ds:List Int)(n:Nat):Ro:=[.val (.int L),.val (.int R),a,b,.val (.lst (ds.map .int)),.unb,.val (.int n)]
theorem wn{W:Wp}(G:WF W){A:Around}{P:Addr->Prop}{s:Shared}{k:Nat}{q:Nat->Pos}{qual:Str}{cd cin cn f:Addr}{doc pm cv ctv ud:Value}{n:Nat}{tn:Tok}{ds:List Int}{L R:Nat}{tL tR:Tok}{Q E':Value->Shared->Prop}(d1:cd≠cin)(d2:cd≠cn)(d3:cin≠cn)(ao:AOk A (k+1))(ok:Ok W P s.heap)(I:InC W P s.heap f (l8 q qual cd cin cn doc pm cv ctv) (jF cd cin cn f ud n tn))(r:Rp P s.heap ud (.lst (ds.map .int)))(h:∀(W1:Wp) (env:Env) (h₁:Heap) (tk:Nat) (E'':Value->Shared->Prop),zX W W1 P s f (l8 q qual cd cin cn doc pm cv ctv) (jF cd cin cn f ud n tn) [cd,cin,cn] env (yF L R .unb .unb ds n) h₁ ->
   wpAny W1.M (A.deeper env) (execs (vf q) env) (fun f s'=>Q (match f with | .ret v=>v | _=>.none) s') E'' { s with heap:=h₁,toks:=tk }):
  wpAny W.M A (call (.ref f) [.int L tL,.int R tR]) Q E' s:=by
 refine oW G (yE d1 d2 d3) ao ok I (binds:=[("L", .int L tL),("R", .int R tR)]) (.of_eq rfl) (fun x hx=>?_) (fun b hb=>?_) (fun p hp=>?_) (by rfl) (by simp[bk]) (fun i x c v h1 h2=>?_) h
 ·exact DG rfl rfl hx
 ·exact mO (I.at' _ (.tail _ (.tail _ (.head _)))).1.n0 (I.at' _ (.tail _ (.head _))).1.n0 (I.at' _ (.head _)).1.n0 hb
 ·exact mO (by simp) (by simp) (by simp) hp
 ·obtain h1:e7.slots[i]?=some (x,c):=h1
  rw[show e7.slots=[(("L" : Str),false),(("R" : Str),false),(("mid" : Str),false),(("shift" : Str),false),(("digits" : Str),true),(("inner" : Str),true),(("n" : Str),true)] by rfl]at h1;rcases i with _ | i
  ·cases h1;cases h2;exact⟨_,.inl ⟨rfl,rfl⟩,Rp.i⟩
  rcases i with _ | i
  ·cases h1;cases h2;exact⟨_,.inl ⟨rfl,rfl⟩,Rp.i⟩
  rcases i with _ | _ | i
  iterate 2 exact nomatch h2
  rcases i with _ | i
  ·cases h1;cases h2;exact⟨_,.inr (.tail _ (.tail _ (.head _))),r⟩
  rcases i with _ | i
  ·exact nomatch h2
  rcases i with _ | i
  ·cases h1;cases h2;exact⟨_,.inr (.head _),Rp.i⟩
  exact nn0 h1
theorem DQ{q:Nat->Pos}{qual:Str}{cd cin cn f:Addr}{doc pm cv ctv ud:Value}{n:Nat}{tn:Tok}{ds:List Int}(hdi:db n ds)(hsz:n*ds.length<=100000000)(hlen:ds.length<=1000000)(d1:cd≠cin)(d2:cd≠cn)(d3:cin≠cn):
  ∀(k:Nat){W:Wp} (G:WF W) (A:Around) (P:Addr->Prop) (s:Shared) (L R:Nat) (tL tR:Tok) (Q:Value->Shared->Prop) (E':Value->Shared->Prop),AOk A (k+1)->Ok W P s.heap->InC W P s.heap f (l8 q qual cd cin cn doc pm cv ctv) (jF cd cin cn f ud n tn)->Rp P s.heap ud (.lst (ds.map .int)) ->
   L<R->R<=ds.length->R-L<=2^k->(∀h' tk t,KX W s.heap h'->Q (.int (aU n (seg ds L R)) t) { s with heap:=h',toks:=tk })->wpAny W.M A (call (.ref f) [.int L tL,.int R tR]) Q E' s:=by
 obtain ent:=fun{W:Wp} (G:WF W){A:Around}{P:Addr->Prop}{s:Shared}{k L R:Nat}{tL tR:Tok} {Q E':Value->Shared->Prop}=>wn (W:=W) G (A:=A) (P:=P) (s:=s) (k:=k) (q:=q) (qual:=qual) (cd:=cd) (cin:=cin) (cn:=cn) (f:=f) (doc:=doc) (pm:=pm) (cv:=cv) (ctv:=ctv) (ud:=ud) (n:=n) (tn:=tn) (ds:=ds) (L:=L) (R:=R) (tL:=tL) (tR:=tR) (Q:=Q) (E':=E') d1 d2 d3;have hsc:ac (l8 q qual cd cin cn doc pm cv ctv).scope=e7:=rfl;have hvd:(("digits" : Str),ud)∈cW (jF cd cin cn f ud n tn):=.tail _ (.tail _ (.head _));have hvi:(("inner" : Str),Value.ref f)∈cW (jF cd cin cn f ud n tn):=.tail _ (.head _);have hnm:(cW (jF cd cin cn f ud n tn)).map (·.1)=(["n", "inner", "digits"]:List Str):=rfl;generalize l8 q qual cd cin cn doc pm cv ctv=fd at *;generalize jF cd cin cn f ud n tn=cs at *;intro k
 induction k using Nat.strongRecOn with
 |ind k ihk=>
  intro W G A P s L R tL tR Q E' ao ok I r hLR hR hk hQ;refine ent G ao ok I r fun W1 env h₁ tk₁ E1 c=>?_;obtain ao1:=ao.deeper env;obtain ih:=cA (Φ:=fun U U=>none) c.G1 (wG W1 _ k);have hcx:ac env.scope=e7:=c.sc.trans hsc;have frm:Frm W1 env ["n", "inner", "digits"] (tP W1 env (cW cs) f fd s.heap):=hnm▸tP.frm (fun x c' h=>by
   refine byG fun gG kG=>?_;obtain⟨p,hp,e,_⟩:=c.cl x c' h;refine kG ?_;exact e▸lj (f:=(·.1)) (lj (f:=fun p:Str×Addr×Value=>(p.1,p.2.2)) hp)) c.hf c.hc
  have lo:tP W1 env (cW cs) f fd s.heap h₁:=⟨c.vars,c.fn,fun b o U U e=>c.keep b o e⟩;have done:∀h2 tk2 t ρ' v,Pre W1 (aH P fun b=>b=s.heap.objs.size) env ρ' h2->tP W1 env (cW cs) f fd s.heap h2->v=aU n (seg ds L R)->Q (.int v t) { s with heap:=h2,toks:=tk2 }:=by
   rintro h2 tk2 t ρ' v pr2 lo2 rfl;exact hQ h2 tk2 t ⟨fun b o nb e=>lo2.keep b o (c.T▸nb) (c.loc▸aJ e (aR _)) e,c.TI▸pr2.ok.ti⟩
  obtain pr:=c.pr;refine aF (wpAny_If ((ih 40).b _ _ _ (BA _ _ _ _ _) _ _ _ _ _ (decide (L+1=R)) _ _ ao1 hcx pr (uG rfl rfl rfl) fun h2 tk2 K2=>?_));obtain pr2:=pr.step K2;obtain lo2:=frm.kx _ _ K2 lo;by_cases hb:L+1=R
  ·rw[dp hb]
   have hLl:L<ds.length:=i8 hLR hR;refine aF (wpAny_Return_some ((ih 39).e _ _ _ (Ef _ _ _) _ _ _ _ _ (.int ds[L]) _ _ ao1 hcx pr2 ?_ fun u h3 tk3 K3 r3=>r3.i' fun t=>?_))
   ·exact pz (by rw[bA,cE hLl];rfl) (by rw[aC];exact ai hlen (by decide))
   ·refine done h3 tk3 t _ _ (pr2.step K3) (frm.kx _ _ K3 lo2) ?_
    rw[<-hb,At (cE hLl)];simp[aU]
  ·rw[cY hb]
   refine eG ?_;refine byG fun gG kG=>?_;obtain⟨j,M,rfl,hMd,m1,m2,j1,j2,hsub,hsh,hb2⟩:=yQ hLR hb hR hk hsz hlen;refine kG ?_;have hsl2:(ac env.scope).slots[2]?=some (("mid" : Str),false):=by rw[hcx];rfl
   have hsl3:(ac env.scope).slots[3]?=some (("shift" : Str),false):=by rw[hcx];rfl
   refine aF (ql (s:={ s with heap:=h2,toks:=tk2 }) c.G1 frm ao1 hsl2 (by decide) ((ih 39).e _ _ _ (hcx▸Eg _ _ _ _ _)) (w:=.int M) (ye rfl rfl hMd) pr2 lo2 rfl fun h3 tk3 pr3 lo3=>?_);refine aF (ql (s:={ s with heap:=h3,toks:=tk3 }) c.G1 frm ao1 hsl3 (by decide) ((ih 39).e _ _ _ (hcx▸zu _ _ _ _ _)) (w:=.int (((M-L)*n:Nat):Int)) (qC rfl rfl rfl hsub hsh) pr3 lo3 rfl fun h4 tk4 pr4 lo4=>?_);have pr4:Pre W1 (aH P fun b=>b=s.heap.objs.size) env (yF L R (.val (.int M)) (.val (.int (((M-L)*n:Nat):Int))) ds n) h4:=pr4;generalize hρ:yF L R (.val (.int M)) (.val (.int (((M-L)*n:Nat):Int))) ds n=ρ4 at pr4;have inn:∀{h tk},tP W1 env (cW cs) f fd s.heap h->Pre W1 (aH P fun b=>b=s.heap.objs.size) env ρ4 h ->
     ∀{es:List Expr}{ys:List E}{a b:Nat}{fp cp:Pos}{Q:Value->Shared->Prop} {E':Value->Shared->Prop},es.mapM (trE tb0 39 e7)=some ys->evs (fun U U=>none) ys ρ4=some [.int a,.int b] ->
     a<b->b<=ds.length->b-a<=2^j->(∀h' tk' t,KX W1 h h'->Q (.int (aU n (seg ds a b)) t) { s with heap:=h',toks:=tk' }) ->
     wpAny W1.M (A.deeper env) (eval (.Call (.Name "inner" fp) es [] cp) env) Q E' { s with heap:=h,toks:=tk }:=by
    intro h tk lo pr es ys a b fp cp Q E' ha hv hab hbl hbk hQ;refine eS (bh (bf (s:={ s with heap:=h,toks:=tk }) pr (by decide) (lo.vars _ hvi) ?_) (by decide));refine byG fun gG kG=>?_;obtain⟨⟨o',ho',hod'⟩,_,_⟩:=lo.fn;refine kG ?_;refine iU (o:=o') (fd:=fd) (bG ha (ef c.G1 (ih 39) ao1 hcx ha pr hv fun us h1 tk1 K1 rs=>rs.c' fun u1 r1 a1 rs=>rs.c' fun u2 r2 a2 rs=>rs.n' (a1.i' fun t1=>a2.i' fun t2=>?_)));obtain lo1:=frm.kx _ _ K1 lo;obtain pr1:=pr.step K1;refine⟨⟨K1.keep _ _ lo.fn.nT ho',hod'⟩,ihk j (dr j) c.G1 _ _ { s with heap:=h1,toks:=tk1 } a b t1 t2 Q E' ao1 pr1.ok (c.back pr1 lo1.vars lo1.fn) ?_ hab hbl hbk fun h' tk' t K=>hQ h' tk' t (K1.trans K)⟩;refine esv (pr1.er 4 ("digits" : Str) true _ (by rw[hcx];rfl) (by rw[<-hρ];rfl)) fun u v r=>?_;have e:ud=u:=(lo1.vars _ hvd).det v;exact e.symm▸r
   refine aF (wpAny_Return_some (wpAny_BinOp (wpAny_BinOp (inn lo4 pr4 (es:=[.Name "mid" (q 27),.Name "R" (q 28)]) (ys:=[.var 2,.var 1]) (a:=M) (b:=R) (by rfl) (by rw[<-hρ];rfl) m2 hR j1 fun h5 tk5 t5 K5=>?_))));obtain pr5:=pr4.step K5;obtain lo5:=frm.kx _ _ K5 lo4;refine(ih 39).e _ _ _ (GE _) _ _ _ _ { s with heap:=h5,toks:=tk5 } (.int (((M-L)*n:Nat):Int)) _ _ ao1 hcx pr5 (by rw[<-hρ];rfl) fun u6 h6 tk6 K6 r6=>r6.i' fun t6=>?_;obtain pr6:=pr5.step K6;obtain lo6:=frm.kx _ _ K6 lo5;obtain bv:=dj n _ (sy hdi M R);rw[mr (bP m2) hR]at bv;have hb1:ibits (aU n (seg ds M R))<=n*(R-M):=dO bv.1 bv.2;refine qf (s:={ s with heap:=h6,toks:=tk6 }) (v:=aU n (seg ds M R)*2^((M-L)*n)) c.G1 pr6.ok ?_ fun u7 h7 tk7 K7 r7=>r7.i' fun t7=>?_
   ·refine(af ⟨cF _,?_⟩).trans (by rw[Int.toNat_natCast])
    exact cP.mpr (ai (fF hb1 _) (ai hb2 (ai hsz (by decide))))
   obtain pr7:=pr6.step K7;obtain lo7:=frm.kx _ _ K7 lo6;refine inn lo7 pr7 (es:=[.Name "L" (q 33),.Name "mid" (q 34)]) (ys:=[.var 0,.var 2]) (a:=L) (b:=M) (by rfl) (by rw[<-hρ];rfl) m1 (ai (bP m2) hR) j2 fun h8 tk8 t8 K8=>?_;obtain pr8:=pr7.step K8;obtain lo8:=frm.kx _ _ K8 lo7;refine qf (s:={ s with heap:=h8,toks:=tk8 }) (v:=aU n (seg ds M R)*2^((M-L)*n)+aU n (seg ds L M)) c.G1 pr8.ok rfl fun u9 h9 tk9 K9 r9=>r9.i' fun t9=>done h9 tk9 t9 _ _ (pr8.step K9) (frm.kx _ _ K9 lo8) ?_;rw[vR (bP m1) (bP m2) hR,ez,mr (bP m1) (ai (bP m2) hR),Int.add_comm,bL,Nat.mul_comm]
noncomputable def vi(q:Nat->Pos):List Stmt:=[
 .FunctionDef "inner" (Cp q) (vf q) [] none [] iD none "inner" (q 38),
 .Return (some (.IfExp (.Name "digits" (q 39)) (.Call (.Name "inner" (q 40)) [.Constant (.int 0) 0 (q 41),.Call (.Name "len" (q 42)) [.Name "digits" (q 43)] [] (q 44)] [] (q 45)) (.Constant (.int 0) 0 (q 46)) (q 47))) (q 48)]
noncomputable def zt:Scope:={ kind:=.function,names:=[("digits", .cell),("n", .cell),("inner", .cell),("len", .globalImplicit)],isGenerator:=false,isCoroutine:=false,more:=[] }
noncomputable def vg:Cx:=ac zt
noncomputable def d2iV(args:List V):Option V:=(two args).bind fun p=>(eC p.1).bind fun l=>(fD p.2).bind fun n=>(cJ l).bind fun ds=>
 if 1<=n/\db n.toNat ds/\n.toNat*ds.length<=100000000/\ds.length<=1000000 then some (.int (aU n.toNat ds))else none
noncomputable def qt(W:Wp)(a c:Addr)(qn:Str):Prop:=Ex2 fun o fd=>gx (W.h0.get? a=some o) (o.data=.func fd) (fd.code=.ref c) (fd.qualname=qn)
theorem zv(p1 p2 p3 p4:Pos):[Expr.Constant (.int 0) 0 p1,.Call (.Name "len" p2) [.Name "digits" p3] [] p4].mapM (trE tb0 39 vg)=some [.const (.int 0),.bi .len [.var 0]]:=by rfl
theorem Eh(p1:Pos):trB tb0 40 vg (.Name "digits" p1)=some (.val (.var 0)):=by rfl
theorem Bz(p1:Pos):trE tb0 39 vg (.Constant (.int 0) 0 p1)=some (.const (.int 0)):=by rfl
theorem InF.sto{W:Wp}{P:Addr->Prop}{env:Env}{ρ:Ro}{h h':Heap}{f:Addr}{fd:FuncData}{x:Str}{u:Value}{b:Addr}(pr:Pre W P env ρ h)(st:fA W env x u b h h')(i:InF W h f fd):InF W h' f fd:=by
 refine byG fun gG kG=>?_;obtain⟨⟨o',h1',h2'⟩,nT,cc,oc,vs,tt,e1,e2,e3,e4⟩:=i;refine kG ?_;obtain no:∀{y:Addr}{o:Obj},h.get? y=some o->(∀es n,o.data≠.dict es n)->(∀v,o.data≠.cell v)->y≠b:=fun{y o} ho n1 n2 q=>by
  subst q;rcases st.mutE with h | ⟨x,h⟩
  ·obtain⟨m,o2,es,ep,e5,e6,_⟩:=pr.en.lns
   rw[h,e5]at ho;cases ho;exact n1 _ _ e6
  ·obtain⟨_,v,o2,e5,e6⟩:=pr.en.allc x _ h
   obtain rfl:=al_0 (Eq.trans (Eq.symm e5) ho);exact n2 _ e6
 exact⟨⟨o',(st.same.2 _ (no h1' (fun U U q=>by rw[h2']at q;cases q) fun U q=>by rw[h2']at q;cases q)).trans h1',h2'⟩,nT,cc,oc,vs,tt,e1,e2,(st.same.2 _ (no e3 (fun U U q=>by rw[e4.1]at q;cases q) fun U q=>by rw[e4.1]at q;cases q)).trans e3,e4⟩
structure EK(W W1:Wp)(P:Addr->Prop)(A:Around)(s:Shared)(c Pt:Addr)(pos:Pos)(qn:Str)(sc:Scope)(env:Env)(ρ:Ro)(h₁:Heap):Prop where
 G1:WF W1
 pr:Pre W1 (aH P fun b=>aw env b) env ρ h₁
 cx:ac env.scope=ac sc
 cells:env.cells=cellsFrom (s.heap.objs.size+1) sc.names []
 kn:∀x,env.kindOf x=sc.names.lookup x
 qual:qualnameIn env "inner" "inner" = ((qn ++ ".<locals>.") ++ "inner")
 code:env.code=.ref c
 tab:lC W1 c Pt pos ((qn ++ ".<locals>.") ++ "inner")
 mn:∀b,aw env b->s.heap.get? b=none
 keep:∀b o,s.heap.get? b=some o->h₁.get? b=some o
 fs:W1.fs (A.deeper env) env
 T:W1.T=W.T
 TI:W1.TI=W.TI
theorem oB{W:Wp}(G:WF W){A:Around}{P:Addr->Prop}{s:Shared}{a c Pt:Addr}{pos:Pos}{qn:Str}{ps:List Str}{body:List Stmt}{sc:Scope}{us:List Value}{l:List V}{D:Nat}{Q E':Value->Shared->Prop}(F:eQ W a ps body sc)(Fc:qt W a c qn)(Tb:lC W c Pt pos ((qn ++ ".<locals>.") ++ "inner"))(hi:sc.names.lookup ("inner" : Str)=some .cell)(ao:AOk A (D+1))(ok:Ok W P s.heap)(r:Rps P s.heap us l)(hl:l.length=ps.length)(h:∀(W1:Wp) (env:Env) (h₁:Heap) (tk:Nat) (E'':Value->Shared->Prop),EK W W1 P A s c Pt pos qn sc env (ro0 (ac sc) ps l) h₁->wpAny W1.M (A.deeper env) (execs body env) (fun f s'=>Q (match f with | .ret v=>v | _=>.none) s') E'' { s with heap:=h₁,toks:=tk }):
  wpAny W.M A (call (.ref a) us) Q E' s:=by
 obtain⟨o,fd,ho,hd,hT,hcode,hsc,hbody,hclo,hg,hb,hbind⟩:=F.obj;obtain⟨o',fd',h1,h2,hcd,hqn⟩:=Fc;obtain rfl:=al_0 (Eq.trans (Eq.symm ho) h1);rw[hd]at h2;cases h2
 have hus:us.length=ps.length:=r.length.trans hl;have hk:fd.scope.kind=.function:=by
  obtain hs:=F.ok;unfold cK at hs;rw[hsc];exact aB (aT (aT hs).1).1
 have G1:WF (W.at' s.heap):=G.at' ok.kept;refine wpAny_call (codeAny_call_cells (o:=o) (fd:=fd) (body:=body) (binds:=ps.zip us) (by have:=ao.depth;show A.depth<1000;omega) (ok.kept a o hT ho) hd G1.lim (hcode.rec ok.kept) hbody (hbind us hus) hclo (fun x hx=>?_) (fun s₁ X=>?_) (by rw[hsc];exact F.co) (by rw[hsc];exact F.gen) hk)
 ·rw[hsc]
  refine(F.pn x.1 (List.of_mem_zip hx).1).imp id fun q=>⟨q,?_⟩;obtain⟨c,hc⟩:=bt sc.names (s.heap.objs.size+1) [] x.1 (.inl (mem_of_lookup q));obtain⟨c',hc'⟩:=aE hc;rw[hc'];rfl
 ·obtain pr:=(rm G F ok hsc hg hb (fun i v e=>r.get e) hus X).1
  obtain mn:=(rm G F ok hsc hg hb (fun i v e=>r.get e) hus X).2.1;obtain⟨h₁,tk₁,rfl,keep⟩:=X.done;have hkn:∀x,(callEnvC fd s.heap.objs.size a).kindOf x=sc.names.lookup x:=fun x=>by show fd.scope.names.lookup x=_;rw[hsc]
  refine h (W.at' s.heap) (callEnvC fd s.heap.objs.size a) h₁ tk₁ _ ⟨G1,pr,by show ac fd.scope=_;rw[hsc],by show cellsFrom _ fd.scope.names []=_;rw[hsc],hkn,?_,hcd,Tb.at' ok.kept,mn,keep,trivial,rfl,rfl⟩;unfold qualnameIn;rw[hkn,hi];show(if(some NameKind.cell==some NameKind.globalExplicit)=true then _ else(fd.qualname ++ ".<locals>.") ++ "inner")=_;rw[hqn];rfl
theorem Eo{T:List Addr}{env:Env}{h:Heap}{x:Str}{u:Value}{c:Addr}(v:aA T env h x u)(hk:env.kindOf x=some .cell)(hc:env.cells.lookup x=some c):h.IsCell c (some u):=by
 rcases v with⟨k,_⟩ | ⟨_,c',h1,_,h2⟩
 ·rw[hk]at k;cases k
 ·obtain rfl:=al_0 (Eq.trans (Eq.symm hc) h1);exact h2
theorem EK.inC{W W1:Wp}{P P':Addr->Prop}{A:Around}{s:Shared}{c Pt:Addr}{pos:Pos}{qn:Str}{sc:Scope}{env:Env}{ρ ρ':Ro}{h₁ h:Heap}{f:Addr}{fd:FuncData}(o:EK W W1 P A s c Pt pos qn sc env ρ h₁){cs:List (Str×Addr×Value)}(pr:Pre W1 P' env ρ' h)(fn:InF W1 h f fd)(v:∀p∈cs,aA W1.T env h p.1 p.2.2/\sc.names.lookup p.1=some .cell/\(cellsFrom (s.heap.objs.size+1) sc.names []).lookup p.1=some p.2.1):InC W1 P' h f fd cs:=
 ⟨fun p hp=>(by obtain⟨a,b,d⟩:=v p hp;exact⟨pr.hid _ (.inr ⟨p.1,by rw[o.cells];exact d⟩),Eo a ((o.kn p.1).trans b) (by rw[o.cells];exact d)⟩),fn⟩
theorem rS{ds:List Int}(h:ds.length<=1000000):k6 (.lst (ds.map V.int))=some (decide (ds≠[])):=by
 refine(af (by rw[aC];exact ai h (by decide))).trans ?_
 cases ds<;>simp
theorem By{W:Wp}(G:WF W){a c Pt:Addr}{q:Nat->Pos}{qn:Str}(F:eQ W a ["digits", "n"] (vi q) zt)(Fc:qt W a c qn)(Tb:lC W c Pt (q 38) ((qn ++ ".<locals>.") ++ "inner")):Cal W 22 a d2iV:=by
 intro A P us l v s Q E' ao ok r e hQ;refine aa e fun p hp e=>aa e fun dl hdl e=>aa e fun nn hnn e=>aa e fun ds hds e=>aO e fun hc e=>?_;obtain rfl:=al_0 e;simp only[iZ hp,dF hdl,dN hnn,cw hds]at r;obtain⟨hn1,hdi,hsz,hlen⟩:=hc;obtain⟨n,rfl⟩:∃m:Nat,nn=m:=⟨nn.toNat,(Int.toNat_of_nonneg (aY (by decide) hn1)).symm⟩;simp only[Int.toNat_natCast]at hdi hsz hQ;refine oB G F Fc Tb rfl (D:=21) ao ok r rfl fun W1 env h₁ tk₁ E1 o=>?_;obtain ao1:=ao.deeper env;have hcx:ac env.scope=vg:=o.cx;have pr:Pre W1 (aH P fun b=>aw env b) env [.val (.lst (ds.map .int)),.val (.int n),.unb] h₁:=o.pr;have hs2:(ac env.scope).slots[2]?=some (("inner" : Str),true):=by simp only[hcx];rfl
 refine aF (zs (s:={ s with heap:=h₁,toks:=tk₁ }) o.G1 o.tab o.qual o.code rfl rfl rfl (fJ (scope:=iD) (cl:=[(("n" : Str),s.heap.objs.size+2),(("inner" : Str),s.heap.objs.size+3),(("digits" : Str),s.heap.objs.size+1)]) (by simp only[o.cells];rfl)) pr fun f doc pm ctv cv h2 tk2 K2 nf hfn=>?_);obtain pr2:=pr.step K2;refine bn (s:={ s with heap:=h2,toks:=tk2 }) o.G1 pr2 hs2 fun b h3 tk3 st=>?_;have pr3:Pre W1 (aH P fun b=>aw env b) env [.val (.lst (ds.map .int)),.val (.int n),.unb] h3:=pr2.store hs2 st (sl:=.unb) trivial (fun o=>by obtain⟨l,e | e⟩:=o<;>cases e);have hff:InF W1 h3 f (l8 q ((qn ++ ".<locals>.") ++ "inner") (s.heap.objs.size+1) (s.heap.objs.size+3) (s.heap.objs.size+2) doc pm cv ctv):=hfn.sto pr2 st;clear hfn;obtain ent:=fun{P':Addr->Prop} {s':Shared}{ud:Value}{tn t1 t2:Tok} {Q':Value->Shared->Prop} (A':Around)=>DQ (q:=q) (qual:=(qn ++ ".<locals>.") ++ "inner") (cd:=s.heap.objs.size+1) (cin:=s.heap.objs.size+3) (cn:=s.heap.objs.size+2) (f:=f) (doc:=doc) (pm:=pm) (cv:=cv) (ctv:=ctv) (ud:=ud) (tn:=tn) hdi hsz hlen (Nat.ne_of_lt (Nat.lt_succ_of_lt (dr _))) (Nat.ne_of_lt (dr _)) (Nat.ne_of_gt (dr _)) 20 o.G1 A' P' s' 0 ds.length t1 t2 Q' E1;generalize l8 q ((qn ++ ".<locals>.") ++ "inner") (s.heap.objs.size+1) (s.heap.objs.size+3) (s.heap.objs.size+2) doc pm cv ctv=fdi at *;have fin:∀h' tk' u ρ',Pre W1 (aH P fun b=>aw env b) env ρ' h'->KX W1 h3 h'->Rp (aH P fun b=>aw env b) h' u (.int (aU n ds))->Q u { s with heap:=h',toks:=tk' }:=fun h' tk' u ρ' pr' K r'=>
  hQ u h' tk' ⟨fun x ob n e=>K.keep x ob (o.T▸n) ((st.same.2 x fun q=>ak (o.mn x (q▸st.mutE)) e).trans (K2.keep x ob (o.T▸n) (o.keep x ob e))),o.TI▸pr'.ok.ti⟩ (r'.sub fun b p=>p.1)
 obtain ih:=cA (Φ:=fun U U=>none) o.G1 (wG _ _ 21);refine aF (wpAny_Return_some (wpAny_IfExp ((ih 40).b _ _ (.val (.var 0)) (hcx▸Eh _) _ _ _ _ { s with heap:=h3,toks:=tk3 } (decide (ds≠[])) _ _ ao1 rfl pr3 (rS hlen) fun h4 tk4 K4=>?_)));obtain pr4:=pr3.step K4;by_cases hne:ds=[]
 ·simp only[cY (not_not_intro hne)]
  refine(ih 39).e _ _ _ (hcx▸Bz _) _ _ _ _ { s with heap:=h4,toks:=tk4 } (.int 0) _ _ ao1 rfl pr4 (by rfl) fun u h5 tk5 K5 r5=>fin h5 tk5 u _ (pr4.step K5) (K4.trans K5) ?_;simp only[hne];exact r5
 ·simp only[dp hne]
  refine eS (bh (bf (s:={ s with heap:=h4,toks:=tk4 }) pr4 (by decide) (st.at'.keep K4.keep) ?_) (by decide));obtain⟨o',ho',hod'⟩:=hff.obj;refine iU (o:=o') (fd:=fdi) (bG (hcx▸zv _ _ _ _) (ef (vs:=[.int 0,.int (ds.length:Nat)]) o.G1 (ih 39) ao1 rfl (hcx▸zv _ _ _ _) pr4 ?_ fun us h5 tk5 K5 rs=>rs.c' fun u1 r1 a1 rs=>rs.c' fun u2 r2 a2 rs=>rs.n' (a1.i' fun t1=>a2.i' fun t2=>?_)))
  ·have e:biV .len [.lst (ds.map V.int)]=some (.int (ds.length:Nat)):=(af (by simp only[aC];exact ai hlen (by decide))).trans (by simp only[aC])
   exact aq (fun o=>Option.map (fun vs=>V.int 0::vs) (o.bind fun v=>(some []).map fun vs=>v::vs)) e
  obtain hff5:=(hff.kx K4.keep).kx K5.keep;obtain pr5:=pr4.step K5;refine⟨⟨K5.keep _ _ hff.nT (K4.keep _ _ hff.nT ho'),hod'⟩,?_⟩;refine esv (pr5.er 0 _ true _ (by simp only[hcx];rfl) (by rfl)) fun ud vd rd=>esv (pr5.er 1 _ true _ (by simp only[hcx];rfl) (by rfl)) fun un vn rn=>?_;revert vn;refine rn.i' fun tn vn=>?_;refine ent (s':={ s with heap:=h5,toks:=tk5 }) (tn:=tn) _ ao1 pr5.ok (o.inC pr5 hff5 fun p hp=>?_) rd (List.length_pos_iff.mpr hne) (bS _) (ai hlen (by decide)) fun h6 tk6 t6 K6=>?_
  ·exact mO ⟨vn,rfl,rfl⟩ ⟨(st.at'.keep K4.keep).keep K5.keep,rfl,rfl⟩ ⟨vd,rfl,rfl⟩ hp
  refine fin h6 tk6 _ _ (pr5.step K6) ((K4.trans K5).trans K6) ?_;have:seg ds 0 ds.length=ds:=by unfold seg;simp
  simp only[this];exact Rp.i
theorem o6(x s:Nat):x&&&(x/2^s*2^s)=x/2^s*2^s:=by
 apply Nat.eq_of_testBit_eq;intro i;rw[Nat.testBit_and,Nat.testBit_mul_two_pow,Nat.testBit_div_two_pow];by_cases h:s<=i
 ·rw[show i-s+s=i by lia];simp[h]
 ·simp[h]
theorem qQ(a b s:Nat)(h:b<2^s):(a*2^s)&&&b=0:=by
 apply Nat.eq_of_testBit_eq;intro i;rw[Nat.testBit_and,Nat.testBit_mul_two_pow,Nat.zero_testBit];by_cases h2:s<=i
 ·have:b.testBit i=false:=Nat.testBit_lt_two_pow (i8 h (i0 (by decide) h2))
  simp[this]
 ·simp[h2]
theorem rL{x:Int}(h:Nat)(hx:0<=x):Builtin.bitAnd x (2^h-1)=x%2^h:=by
 obtain⟨n,rfl⟩:=lh hx;obtain p:(0:Int)<2^h:=fU (by decide);rw[bitAnd_pp hx (by lia),Int.toNat_natCast];obtain e:((2:Int)^h-1).toNat=2^h-1:=by
  exact(aq (fun z:Int=>(z-1).toNat) (Int.natCast_pow 2 h).symm).trans (Int.toNat_sub (2^h) 1)
 rw[e,Nat.and_two_pow_sub_one_eq_mod];simp
theorem xV{a b:Int}(s:Nat)(ha:0<=a)(hb:0<=b)(hl:b<2^s):Builtin.bitOr (a*2^s) b=a*2^s+b:=by
 obtain⟨n,rfl⟩:=lh ha;obtain⟨m,rfl⟩:=lh hb;obtain e:((n:Int)*2^s)=((n*2^s:Nat):Int):=by simp
 obtain hm:m<2^s:=by
  have:(m:Int)<((2^s:Nat):Int):=by simpa using hl
  exact_mod_cast this
 rw[bitOr_and,e,bitAnd_pp (cF _) hb,Int.toNat_natCast,Int.toNat_natCast,qQ n m s hm];lia
theorem vD{x:Int}(s:Nat)(hx:0<=x):Builtin.bitXor x (x/2^s*2^s)=x%2^s:=by
 obtain⟨n,rfl⟩:=lh hx;obtain e:((n:Int)/2^s*2^s)=((n/2^s*2^s:Nat):Int):=by simp
 rw[bitXor_and,e,bitAnd_pp hx (cF _),Int.toNat_natCast,Int.toNat_natCast,o6];obtain h1:=Nat.div_add_mod n (2^s);obtain h2:((n%2^s:Nat):Int)=(n:Int)%2^s:=by simp
 rw[<-h2];obtain h3:2^s*(n/2^s)=n/2^s*2^s:=Nat.mul_comm _ _;lia
noncomputable def Cj(q:Nat->Pos):Arguments:={ posonlyargs:=[],args:=[{ arg := "x", annotation:=none,pos:=q 0 },{ arg := "L", annotation:=none,pos:=q 1 },{ arg := "R", annotation:=none,pos:=q 2 }],vararg:=none,kwonlyargs:=[],kw_defaults:=[],kwarg:=none,defaults:=[] }
noncomputable def uO(q:Nat->Pos):List Stmt:=[
 .If (.Compare (.BinOp (.Name "L" (q 3)) .Add (.Constant (.int 1) 0 (q 4)) (q 5)) [.Eq] [.Name "R" (q 6)] (q 7)) [
  .Assign [.Subscript (.Name "a_digits" (q 8)) (.Name "L" (q 9)) (q 10)] (.Name "x" (q 11)) (q 12),
  .Return none (q 13)] [] (q 14),
 .Assign [.Name "mid" (q 15)] (.BinOp (.BinOp (.Name "L" (q 16)) .Add (.Name "R" (q 17)) (q 18)) .RShift (.Constant (.int 1) 0 (q 19)) (q 20)) (q 21),
 .Assign [.Name "shift" (q 22)] (.BinOp (.BinOp (.Name "mid" (q 23)) .Sub (.Name "L" (q 24)) (q 25)) .Mult (.Name "n" (q 26)) (q 27)) (q 28),
 .Assign [.Name "upper" (q 29)] (.BinOp (.Name "x" (q 30)) .RShift (.Name "shift" (q 31)) (q 32)) (q 33),
 .Assign [.Name "lower" (q 34)] (.BinOp (.Name "x" (q 35)) .BitXor (.BinOp (.Name "upper" (q 36)) .LShift (.Name "shift" (q 37)) (q 38)) (q 39)) (q 40),
 .Expr (.Call (.Name "inner" (q 41)) [.Name "lower" (q 42),.Name "L" (q 43),.Name "mid" (q 44)] [] (q 45)) (q 46),
 .Expr (.Call (.Name "inner" (q 47)) [.Name "upper" (q 48),.Name "mid" (q 49),.Name "R" (q 50)] [] (q 51)) (q 52)]
noncomputable def ir:Scope:={ kind:=.function,names:=[("x", .local),("L", .local),("R", .local),("mid", .local),("shift", .local),("upper", .local),("lower", .local),("a_digits", .free),("inner", .free),("n", .free)],isGenerator:=false,isCoroutine:=false,more:=[] }
noncomputable def cL:Cx:=ac ir
theorem B9(p1 p2 p3 p4 p5:Pos):trB tb0 40 cL (.Compare (.BinOp (.Name "L" p1) .Add (.Constant (.int 1) 0 p2) p3) [.Eq] [.Name "R" p4] p5)=some (.cmp .Eq (.bin .Add (.var 1) (.const (.int 1))) (.var 2)):=by rfl
theorem DU(p1 p2 p3 p4 p5:Pos):trE tb0 39 cL (.BinOp (.BinOp (.Name "L" p1) .Add (.Name "R" p2) p3) .RShift (.Constant (.int 1) 0 p4) p5)=some (.bin .RShift (.bin .Add (.var 1) (.var 2)) (.const (.int 1))):=by rfl
theorem yL(p1 p2 p3 p4 p5:Pos):trE tb0 39 cL (.BinOp (.BinOp (.Name "mid" p1) .Sub (.Name "L" p2) p3) .Mult (.Name "n" p4) p5)=some (.bin .Mult (.bin .Sub (.var 3) (.var 1)) (.var 9)):=by rfl
theorem yK(p1 p2 p3:Pos):trE tb0 39 cL (.BinOp (.Name "x" p1) .RShift (.Name "shift" p2) p3)=some (.bin .RShift (.var 0) (.var 4)):=by rfl
theorem yM(p1 p2 p3 p4 p5:Pos):trE tb0 39 cL (.BinOp (.Name "x" p1) .BitXor (.BinOp (.Name "upper" p2) .LShift (.Name "shift" p3) p4) p5)=some (.bin .BitXor (.var 0) (.bin .LShift (.var 5) (.var 4))):=by rfl
theorem Gy(p1:Pos):trE tb0 39 cL (.Name "x" p1)=some (.var 0):=by rfl
theorem GA(p1:Pos):trE tb0 39 cL (.Name "L" p1)=some (.var 1):=by rfl
noncomputable abbrev kY(q:Nat->Pos)(qual:Str)(ca cin cn:Addr)(doc pm cv ctv:Value):FuncData:=
 fnX "inner" qual (Cj q) (uO q) ir [("n", cn),("inner", cin),("a_digits", ca)] .none .none doc pm none cv ctv
noncomputable abbrev gy(ca cin cn f d:Addr)(n:Nat)(tn:Tok):List (Str×Addr×Value):=[("n", cn,.int n tn),("inner", cin,.ref f),("a_digits", ca,.ref d)]
noncomputable def upd(l:List Int)(L:Nat)(m:List Int):List Int:=l.take L++m++l.drop (L+m.length)
theorem A3(l:List Int){L:Nat}(x:Int)(h:L<l.length):upd l L [x]=l.set L x:=by
 unfold upd;rw[List.set_eq_take_append_cons_drop,af h];simp
theorem rQ(l m:List Int){L:Nat}(h:L+m.length<=l.length):(upd l L m).length=l.length:=by
 unfold upd;simp only[aG,aG,List.length_take,List.length_drop,Nat.min_eq_left (ai (i7 _ _) h)];exact Nat.add_sub_cancel' h
theorem A2(l a b:List Int){L:Nat}(h:L+a.length+b.length<=l.length):upd (upd l L a) (L+a.length) b=upd l L (a++b):=by
 unfold upd;obtain e1:(l.take L++a).length=L+a.length:=by simp only[aG,List.length_take];lia
 rw[<-e1,List.take_left,<-List.drop_drop,List.drop_left,List.drop_drop,e1,aG];simp only[bX,Nat.add_assoc]
structure lE(W:Wp)(env:Env)(xs:List (Str×Value))(f:Addr)(fd:FuncData)(s0:Heap)(d:Addr)(l:List Int)(h:Heap):Prop where
 vars:∀p∈xs,aA W.T env h p.1 p.2
 fn:InF W h f fd
 keep:∀b o,b∉W.T->b≠env.locals->b≠d->s0.get? b=some o->h.get? b=some o
 ls:Ex2 fun vs m=>IsL h d vs m/\IntsAre vs.toList l
theorem lE.frm{W:Wp}{env:Env}{xs:List (Str×Value)}{f:Addr}{fd:FuncData}{s0:Heap}{d:Addr}{l:List Int}(hx:∀x c,env.cells.lookup x=some c->x∈xs.map (·.1))(hf:f≠env.locals)(hc:∀c,fd.code=.ref c->c≠env.locals)(hdl:d≠env.locals)(hdT:d∉W.T):
  Frm W env (xs.map (·.1)) (lE W env xs f fd s0 d l) where
 kx:=fun h h' K t=>⟨fun p hp=>(t.vars p hp).keep K.keep,t.fn.kx K.keep,fun b o n e e2 q=>K.keep b o n (t.keep b o n e e2 q),(by obtain⟨vs,m,a,b⟩:=t.ls;exact⟨vs,m,K.keep _ _ hdT a,b⟩)⟩
 st:=fun x u a h h' hn st t=>by
  obtain ha:a=env.locals:=st.tgt.elim (·.2) fun q=>absurd (hx x a q.2) hn;have k:∀b o,b≠env.locals->h.get? b=some o->h'.get? b=some o:=fun b o hb e=>(st.same.2 b (ha▸hb)).trans e;refine⟨fun p hp=>st.others _ _ (fun q=>hn (q▸lj hp)) (t.vars p hp),?_,fun b o n e e2 q=>k b o e (t.keep b o n e e2 q),(by obtain⟨vs,m,a,b⟩:=t.ls;exact⟨vs,m,k _ _ hdl a,b⟩)⟩;refine byG fun gG kG=>?_;obtain⟨⟨o,g1,g2⟩,nT,c,oc,vs,tt,e1,e2,e3,e4⟩:=t.fn;refine kG ?_;exact⟨⟨o,k _ _ hf g1,g2⟩,nT,c,oc,vs,tt,e1,e2,k _ _ (hc c e1) e3,e4⟩
theorem Pre.apart{W:Wp}{P:Addr->Prop}{env:Env}{ρ:Ro}{h h':Heap}{d:Addr}(pr:Pre W P env ρ h)(hd:Hid W P d)(hm:¬aw env d)(hρ:∀sl∈ρ,¬bk sl)(k:∀b o,b∉W.T->b≠d->h.get? b=some o->h'.get? b=some o)(ti:W.TI h')(ex:∃o,h'.get? d=some o):Pre W P env ρ h':=by
 refine pr.stepG (fun b o m e=>k b o (pr.hid b m).nt (fun q=>hm (q▸m)) e) (fun b o w e=>?_) (fun b o p e=>⟨p,k b o (pr.ok.pt b p) (fun q=>hd.np (q▸p)) e⟩) (fun b hb x=>x) ⟨fun b o n e=>?_,ti,fun b n e=>?_,pr.ok.pt⟩
 ·obtain⟨i,x,c,sl,h1,h2,h3,h4⟩:=w
  exact absurd h3 (hρ sl (dw h2))
 ·exact k b o n (fun q=>ak hd.n0 (q▸e)) (pr.ok.kept b o n e)
 ·refine pr.ok.new b n ?_
  cases q:h.get? b with
  |none=>rfl
  |some o2=>
   obtain⟨o3,e3⟩:=ex;exact ak e (k b o2 n (fun q2=>ak e (q2▸e3)) q)
theorem qZ{x:Int}{t:Tok}{us:List Value}{l:List Int}(r:IntsAre us l):∀j,IntsAre (us.set j (.int x t)) (l.set j x):=by
 induction r with
 |nil=>exact fun j=>.nil
 |cons _ _ r ih=>
  intro j
  cases j with
  |zero=>exact .cons _ _ r
  |succ j=>exact .cons _ _ (ih j)
theorem yB{us:List Value}{l:List Int}(h:IntsAre us l):us.length=l.length:=by
 induction h with
 |nil=>rfl
 |cons _ _ _ ih=>simp[ih]
theorem lE.fn'{W:Wp}{env:Env}{xs:List (Str×Value)}{f:Addr}{fd:FuncData}{s0:Heap}{d:Addr}{l:List Int}{h h':Heap}(lo:lE W env xs f fd s0 d l h)(k:∀b o,b≠d->b∉W.T->h.get? b=some o->h'.get? b=some o):InF W h' f fd:=by
 refine byG fun gG kG=>?_;obtain⟨⟨o,g1,g2⟩,nT,c,oc,vs,tt,e1,e2,e3,e4⟩:=lo.fn;obtain⟨vs',m,hL,_⟩:=lo.ls;refine kG ?_;refine⟨⟨o,k _ _ (fun q=>?_) nT g1,g2⟩,nT,c,oc,vs,tt,e1,e2,k _ _ (fun q=>?_) e2 e3,e4⟩
 ·rw[q,hL]at g1;cases g1;cases g2
 ·rw[q,hL]at e3;cases e3;cases e4.1
theorem yG{q:Nat->Pos}{qual:Str}{ca cin cn f d:Addr}{doc pm cv ctv:Value}{n:Nat}{tn:Tok}(d1:ca≠cin)(d2:ca≠cn)(d3:cin≠cn):EO (kY q qual ca cin cn doc pm cv ctv) (uO q) (gy ca cin cn f d n tn):=by
 refine⟨rfl,by rfl,show ∀x∈ir.names,x.2≠.cell by decide,rfl,rfl,rfl,rfl,rfl,fun p hp=>?_,fun x c h=>?_,fun x h=>?_,fun x y c hx hy=>?_⟩
 ·exact mO ⟨rfl,rfl⟩ ⟨rfl,rfl⟩ ⟨rfl,rfl⟩ hp
 ·exact oD (p:=fun q=>∃p∈gy ca cin cn f d n tn,p.1=q.1/\p.2.1=q.2) ⟨_,.head _,rfl,rfl⟩ ⟨_,.tail _ (.head _),rfl,rfl⟩ ⟨_,.tail _ (.tail _ (.head _)),rfl,rfl⟩ h
 ·have:x = "a_digits"\/x = "inner"\/x = "n":=by simpa [ir]using h
  rcases this with rfl | rfl | rfl<;>exact⟨_,rfl⟩
 ·exact Fv d1 d2 d3 hx hy
noncomputable abbrev oF(x:Int)(L R:Nat)(a b c e:Sl)(n:Nat):Ro:=[.val (.int x),.val (.int L),.val (.int R),a,b,c,e,.unb,.unb,.val (.int n)]
theorem wo{W:Wp}(G:WF W){A:Around}{P:Addr->Prop}{s:Shared}{k:Nat}{q:Nat->Pos}{qual:Str}{ca cin cn f d:Addr}{doc pm cv ctv:Value}{n:Nat}{tn:Tok}{x:Int}{L R:Nat}{tx tL tR:Tok}{Q E':Value->Shared->Prop}(d1:ca≠cin)(d2:ca≠cn)(d3:cin≠cn)(ao:AOk A (k+1))(ok:Ok W P s.heap)(I:InC W P s.heap f (kY q qual ca cin cn doc pm cv ctv) (gy ca cin cn f d n tn))(hd:Hid W P d)(h:∀(W1:Wp) (env:Env) (h₁:Heap) (tk:Nat) (E'':Value->Shared->Prop),zX W W1 P s f (kY q qual ca cin cn doc pm cv ctv) (gy ca cin cn f d n tn) [ca,cin,cn,d] env (oF x L R .unb .unb .unb .unb n) h₁ ->
   wpAny W1.M (A.deeper env) (execs (uO q) env) (fun f s'=>Q (match f with | .ret v=>v | _=>.none) s') E'' { s with heap:=h₁,toks:=tk }):
  wpAny W.M A (call (.ref f) [.int x tx,.int L tL,.int R tR]) Q E' s:=by
 refine oW G (yG d1 d2 d3) ao ok I (binds:=[("x", .int x tx),("L", .int L tL),("R", .int R tR)]) (.of_eq rfl) (fun x hx=>?_) (fun b hb=>?_) (fun p hp=>?_) (by rfl) (by simp[bk]) (fun i y c v h1 h2=>?_) h
 ·exact mO rfl rfl rfl hx
 ·exact Gu (I.at' _ (.tail _ (.tail _ (.head _)))).1.n0 (I.at' _ (.tail _ (.head _))).1.n0 (I.at' _ (.head _)).1.n0 hd.n0 hb
 ·exact mO (by simp) (by simp) (by simp) hp
 ·obtain h1:cL.slots[i]?=some (y,c):=h1
  rw[show cL.slots=[(("x" : Str),false),(("L" : Str),false),(("R" : Str),false),(("mid" : Str),false),(("shift" : Str),false),(("upper" : Str),false),(("lower" : Str),false),(("a_digits" : Str),true),(("inner" : Str),true),(("n" : Str),true)] by rfl]at h1;rcases i with _ | i
  ·cases h1;cases h2;exact⟨_,.inl ⟨rfl,rfl⟩,Rp.i⟩
  rcases i with _ | i
  ·cases h1;cases h2;exact⟨_,.inl ⟨rfl,rfl⟩,Rp.i⟩
  rcases i with _ | i
  ·cases h1;cases h2;exact⟨_,.inl ⟨rfl,rfl⟩,Rp.i⟩
  rcases i with _ | _ | _ | _ | _ | _ | i
  iterate 6 exact nomatch h2
  rcases i with _ | i
  ·cases h1;cases h2;exact⟨_,.inr (.head _),Rp.i⟩
  exact nn0 h1
theorem il{x:Int}{n L M R:Nat}(m1:L<M)(m2:M<R)(hx0:0<=x)(hx1:x<2^(n*(R-L))):
  0<=x/2^((M-L)*n)/\x/2^((M-L)*n)<2^(n*(R-M))/\0<=x%2^((M-L)*n)/\x%2^((M-L)*n)<2^(n*(M-L)):=by
 obtain hpos:(0:Int)<2^((M-L)*n):=fU (by decide);obtain hxs:x<2^(n*(R-M))*2^((M-L)*n):=by
  rw[<-fV,Nat.mul_comm (M-L) n,<-Nat.mul_add,Nat.sub_add_sub_cancel (bP m2) (bP m1)];exact hx1
 exact⟨Int.ediv_nonneg hx0 (ay hpos),jT hpos hxs,eF _ (bW hpos),by rw[Nat.mul_comm n];exact eE _ hpos⟩
theorem wP{x:Int}{m:Nat}{Φ:Fun}{a b:E}{ρ:Ro}(ha:pk a ρ (ev Φ a ρ)=some (.int x))(hb:pk b ρ (ev Φ b ρ)=some (.int (m:Nat))):ev Φ (.bin .RShift a b) ρ=some (.int (x/2^m)):=by
 obtain e:hG .RShift x (m:Int)=some (x/2^m):=by
  show(if(0:Int)<=(m:Int)then some (x.fdiv (2^(m:Int).toNat))else none)=_;rw[af (cF m),Int.toNat_natCast,lg _ (ay (fU (by decide)))]
 show Option.bind (pk a ρ (ev Φ a ρ)) (fun x=>Option.bind (pk b ρ (ev Φ b ρ)) fun y=>bR .RShift x y)=_;rw[ha,hb];exact aq (Option.map V.int) e
theorem yk{x:Int}{m:Nat}{Φ:Fun}{a b c:E}{ρ:Ro}(ha:pk a ρ (ev Φ a ρ)=some (.int x))(hb:pk b ρ (ev Φ b ρ)=some (.int (x/2^m)))(hc:pk c ρ (ev Φ c ρ)=some (.int (m:Nat)))(hx:0<=x)(hs:ibits (x/2^m)+m<=134217728):
  ev Φ (.bin .BitXor a (.bin .LShift b c)) ρ=some (.int (x%2^m)):=by
 obtain e:hG .LShift (x/2^m) (m:Int)=some (x/2^m*2^m):=by
  show(if(0:Int)<=(m:Int)/\(ibits (x/2^m):Int)+(m:Int)<=134217728 then some (x/2^m*2^(m:Int).toNat)else none)=_;rw[af ⟨cF m,cP.mpr hs⟩,Int.toNat_natCast]
 show Option.bind (pk a ρ (ev Φ a ρ)) (fun x=>Option.bind (Option.bind (pk b ρ (ev Φ b ρ)) fun x=>Option.bind (pk c ρ (ev Φ c ρ)) fun y=>bR .LShift x y) fun y=>bR .BitXor x y)=_;rw[ha,hb,hc];refine(aq (fun o=>Option.bind (Option.map V.int o) fun y=>bR .BitXor (.int x) y) e).trans ?_;exact aq (fun z=>some (V.int z)) (vD m hx)
theorem DR{q:Nat->Pos}{qual:Str}{ca cin cn f d:Addr}{doc pm cv ctv:Value}{n:Nat}{tn:Tok}(hn1:1<=n)(d1:ca≠cin)(d2:ca≠cn)(d3:cin≠cn)(d4:d≠ca)(d5:d≠cin)(d6:d≠cn):
  ∀(k:Nat){W:Wp} (G:WF W) (A:Around) (P:Addr->Prop) (s:Shared) (x:Int) (L R:Nat) (tx tL tR:Tok) (l:List Int) (Q:Value->Shared->Prop) (E':Value->Shared->Prop),AOk A (k+1)->Ok W P s.heap->InC W P s.heap f (kY q qual ca cin cn doc pm cv ctv) (gy ca cin cn f d n tn)->Hid W P d->(Ex2 fun vs m=>IsL s.heap d vs m/\IntsAre vs.toList l) ->
   n*l.length<=100000000->l.length<=1000000->L<R->R<=l.length->R-L<=2^k->0<=x->x<2^(n*(R-L)) ->
   (∀h' tk,(∀b o,b∉W.T->b≠d->s.heap.get? b=some o->h'.get? b=some o)->W.TI h'->(Ex2 fun vs m=>IsL h' d vs m/\IntsAre vs.toList (upd l L (bH n (R-L) x)))->Q .none { s with heap:=h',toks:=tk })->wpAny W.M A (call (.ref f) [.int x tx,.int L tL,.int R tR]) Q E' s:=by
 obtain ent:=fun{W:Wp} (G:WF W){A:Around}{P:Addr->Prop}{s:Shared}{k:Nat}{x:Int}{L R:Nat}{tx tL tR:Tok} {Q E':Value->Shared->Prop}=>wo (W:=W) G (A:=A) (P:=P) (s:=s) (k:=k) (q:=q) (qual:=qual) (ca:=ca) (cin:=cin) (cn:=cn) (f:=f) (d:=d) (doc:=doc) (pm:=pm) (cv:=cv) (ctv:=ctv) (n:=n) (tn:=tn) (x:=x) (L:=L) (R:=R) (tx:=tx) (tL:=tL) (tR:=tR) (Q:=Q) (E':=E') d1 d2 d3;have hsc:ac (kY q qual ca cin cn doc pm cv ctv).scope=cL:=rfl;have hva:(("a_digits" : Str),Value.ref d)∈cW (gy ca cin cn f d n tn):=.tail _ (.tail _ (.head _));have hvi:(("inner" : Str),Value.ref f)∈cW (gy ca cin cn f d n tn):=.tail _ (.head _);have hnm:(cW (gy ca cin cn f d n tn)).map (·.1)=(["n", "inner", "a_digits"]:List Str):=rfl;have hdc:∀p∈gy ca cin cn f d n tn,d≠p.2.1:=by
  exact fun p hp=>mO d6 d5 d4 hp
 have hdX:d∈[ca,cin,cn,d]:=by simp
 generalize kY q qual ca cin cn doc pm cv ctv=fd at *;generalize gy ca cin cn f d n tn=cs at *;generalize [ca,cin,cn,d]=X at *;intro k
 induction k using Nat.strongRecOn with
 |ind k ihk=>
  intro W G A P s x L R tx tL tR l Q E' ao ok I hd hls hsz hlen hLR hR hk hx0 hx1 hQ;refine ent G ao ok I hd fun W1 env h₁ tk₁ E1 c=>?_;obtain ao1:=ao.deeper env;obtain ih:=cA (Φ:=fun U U=>none) c.G1 (wG W1 _ k);have hcx:ac env.scope=cL:=c.sc.trans hsc;refine byG fun gG kG=>?_;obtain⟨vs0,m0,hL0,hI0⟩:=hls;refine kG ?_;have hdl:d≠env.locals:=c.loc▸aJ hL0 (aR _);obtain hdd:=c.hid d hd.np hd.nt hdX;have hdM:¬aw env d:=fun m=>m.elim hdl fun⟨x,h⟩=>(by obtain⟨p,hp,_,e⟩:=c.cl x d h;exact hdc p hp e.symm);have frm:∀l,Frm W1 env ["n", "inner", "a_digits"] (lE W1 env (cW cs) f fd s.heap d l):=fun l=>hnm▸lE.frm (fun x c' h=>by
   refine byG fun gG kG=>?_;obtain⟨p,hp,e,_⟩:=c.cl x c' h;refine kG ?_;exact e▸lj (f:=(·.1)) (lj (f:=fun p:Str×Addr×Value=>(p.1,p.2.2)) hp)) c.hf c.hc hdl hdd.nt
  have lo:lE W1 env (cW cs) f fd s.heap d l h₁:=⟨c.vars,c.fn,fun b o U U U e=>c.keep b o e,vs0,m0,c.keep _ _ hL0,hI0⟩;have done:∀h2 tk2 ρ' l',Pre W1 (aH P fun b=>b=s.heap.objs.size) env ρ' h2->lE W1 env (cW cs) f fd s.heap d l' h2->l'=upd l L (bH n (R-L) x)->Q .none { s with heap:=h2,toks:=tk2 }:=by
   rintro h2 tk2 ρ' l' pr2 lo2 rfl;exact hQ h2 tk2 (fun b o nb hb e=>lo2.keep b o (c.T▸nb) (c.loc▸aJ e (aR _)) hb e) (c.TI▸pr2.ok.ti) lo2.ls
  have apart:∀{ρ h h'} {l l':List Int},Pre W1 (aH P fun b=>b=s.heap.objs.size) env ρ h->(∀sl∈ρ,¬bk sl)->lE W1 env (cW cs) f fd s.heap d l h->(∀b o,b∉W1.T->b≠d->h.get? b=some o->h'.get? b=some o)->W1.TI h'->(Ex2 fun vs m=>IsL h' d vs m/\IntsAre vs.toList l') ->
    Pre W1 (aH P fun b=>b=s.heap.objs.size) env ρ h'/\lE W1 env (cW cs) f fd s.heap d l' h':=fun pr hρ lo k ti ls=>
   ⟨pr.apart hdd hdM hρ k ti ((by obtain⟨_,_,a,_⟩:=ls;exact⟨_,a⟩)),fun p hp=>(lo.vars p hp).keepM fun b o mm e=>k b o (pr.hid b mm).nt (fun q=>hdM (q▸mm)) e,lo.fn' fun b o hb n e=>k b o n hb e,fun b o n1 n2 n3 e=>k b o n1 n3 (lo.keep b o n1 n2 n3 e),ls⟩
  obtain pr:=c.pr;refine aF (wpAny_If ((ih 40).b _ _ _ (B9 _ _ _ _ _) _ _ _ _ _ (decide (L+1=R)) _ _ ao1 hcx pr (uG rfl rfl rfl) fun h2 tk2 K2=>?_));obtain pr2:=pr.step K2;obtain lo2:=(frm l).kx _ _ K2 lo;by_cases hb:L+1=R
  ·rw[dp hb]
   have hLl:L<l.length:=i8 hLR hR;have hRL:R-L=1:=by rw[<-hb,nI]
   refine aF (wpAny_Assign_Subscript ((ih 39).e _ _ _ (Gy _) _ _ _ _ _ (.int x) _ _ ao1 hcx pr2 (by rfl) fun u3 h3 tk3 K3 r3=>r3.i' fun t3=>?_) rfl);obtain pr3:=pr2.step K3;refine bh (bf (s:={ s with heap:=h3,toks:=tk3 }) pr3 (by decide) (((frm l).kx _ _ K3 lo2).vars _ hva) ?_) (by decide);refine(ih 39).e _ _ _ (GA _) _ _ _ _ { s with heap:=h3,toks:=tk3 } (.int L) _ _ ao1 hcx pr3 (by rfl) fun u4 h4 tk4 K4 r4=>r4.i' fun t4=>?_;obtain pr4:=pr3.step K4;obtain lo4:=(frm l).kx _ _ K4 ((frm l).kx _ _ K3 lo2);refine byG fun gG kG=>?_;obtain⟨vs,m,hL4,hI4⟩:=lo4.ls;refine kG ?_;have hvl:vs.size=l.length:=by rw[<-Array.length_toList];exact yB hI4
   refine gJ (s:={ s with heap:=h4,toks:=tk4 }) hL4 (cF _) (Int.ofNat_lt.mpr (hvl▸hLl)) (eI (Int.ofNat_lt.mpr (i8 hLl hlen)) (by decide)) (aF (wpAny_Return_none ?_));have sb:Heap.SameBut d h4 (h4.update d (Obj.mapSeq (·.setIfInBounds ((L:Int).toNat) (.int x t3)))):=Heap.SameBut.update ..;obtain⟨pr5,lo5⟩:=apart (l':=upd l L (bH n (R-L) x)) pr4 (by simp[bk]) lo4 (fun b o U hb e=>(sb.2 b hb).trans e) (dM c.G1 pr4.ok.ti (fun b o hb e=>(sb.2 b hb).trans e) hL4 hdd.nt (by rintro⟨vs,q,t,e,_⟩;cases e)) ⟨_,_,IsL.update hL4 (·.setIfInBounds ((L:Int).toNat) (.int x t3)),by
    rw[hRL,bH,bH,A3 l _ hLl,Int.toNat_natCast,Array.toList_setIfInBounds,Int.emod_eq_of_lt hx0 (by rw[hRL,Nat.mul_one]at hx1;exact hx1)];exact qZ hI4 L⟩
   exact done _ tk4 _ _ pr5 lo5 rfl
  ·rw[cY hb]
   refine eG ?_;refine byG fun gG kG=>?_;obtain⟨j,M,rfl,hMd,m1,m2,j1,j2,hsub,hsh,hb2⟩:=yQ hLR hb hR hk hsz hlen;refine kG ?_;obtain hu0:=(il m1 m2 hx0 hx1).1;obtain hu1:=(il m1 m2 hx0 hx1).2.1;obtain hl0:=(il m1 m2 hx0 hx1).2.2.1;obtain hl1:=(il m1 m2 hx0 hx1).2.2.2;have hsl:∀(i:Nat) (y:Str),cL.slots[i]?=some (y,false)->(ac env.scope).slots[i]?=some (y,false):=fun i y h=>by rw[hcx];exact h
   obtain hML:=ai (bP m2) hR;refine aF (ql (s:={ s with heap:=h2,toks:=tk2 }) c.G1 (frm l) ao1 (hsl 3 "mid" rfl) (by decide) ((ih 39).e _ _ _ (hcx▸DU _ _ _ _ _)) (w:=.int M) (ye rfl rfl hMd) pr2 lo2 rfl fun h3 tk3 pr3 lo3=>?_);refine aF (ql (s:={ s with heap:=h3,toks:=tk3 }) c.G1 (frm l) ao1 (hsl 4 "shift" rfl) (by decide) ((ih 39).e _ _ _ (hcx▸yL _ _ _ _ _)) (w:=.int (((M-L)*n:Nat):Int)) (qC rfl rfl rfl hsub hsh) pr3 lo3 rfl fun h4 tk4 pr4 lo4=>?_);refine aF (ql (s:={ s with heap:=h4,toks:=tk4 }) c.G1 (frm l) ao1 (hsl 5 "upper" rfl) (by decide) ((ih 39).e _ _ _ (hcx▸yK _ _ _)) (w:=.int (x/2^((M-L)*n))) (wP rfl rfl) pr4 lo4 rfl fun h5 tk5 pr5 lo5=>?_);have hbT:ibits (x/2^((M-L)*n))+(M-L)*n<=134217728:=ai (fF (dO hu0 hu1) _) (ai hb2 (ai hsz (by decide)));refine aF (ql (s:={ s with heap:=h5,toks:=tk5 }) c.G1 (frm l) ao1 (hsl 6 "lower" rfl) (by decide) ((ih 39).e _ _ _ (hcx▸yM _ _ _ _ _)) (w:=.int (x%2^((M-L)*n))) (yk rfl rfl rfl hx0 hbT) pr5 lo5 rfl fun h6 tk6 pr6 lo6=>?_);have pr6:Pre W1 (aH P fun b=>b=s.heap.objs.size) env (oF x L R (.val (.int M)) (.val (.int (((M-L)*n:Nat):Int))) (.val (.int (x/2^((M-L)*n)))) (.val (.int (x%2^((M-L)*n)))) n) h6:=pr6;have hρ:∀sl∈oF x L R (.val (.int M)) (.val (.int (((M-L)*n:Nat):Int))) (.val (.int (x/2^((M-L)*n)))) (.val (.int (x%2^((M-L)*n)))) n,¬bk sl:=by simp[bk]
   have a1:evs (fun U U=>none) [.var 6,.var 1,.var 3] (oF x L R (.val (.int M)) (.val (.int (((M-L)*n:Nat):Int))) (.val (.int (x/2^((M-L)*n)))) (.val (.int (x%2^((M-L)*n)))) n)=some [.int (x%2^((M-L)*n)),.int L,.int M]:=rfl;have a2:evs (fun U U=>none) [.var 5,.var 3,.var 2] (oF x L R (.val (.int M)) (.val (.int (((M-L)*n:Nat):Int))) (.val (.int (x/2^((M-L)*n)))) (.val (.int (x%2^((M-L)*n)))) n)=some [.int (x/2^((M-L)*n)),.int M,.int R]:=rfl;generalize oF x L R (.val (.int M)) (.val (.int (((M-L)*n:Nat):Int))) (.val (.int (x/2^((M-L)*n)))) (.val (.int (x%2^((M-L)*n)))) n=ρ6 at *;have inn:∀{h tk l},l.length<=1000000->n*l.length<=100000000->lE W1 env (cW cs) f fd s.heap d l h->Pre W1 (aH P fun b=>b=s.heap.objs.size) env ρ6 h ->
     ∀{es:List Expr}{ys:List E}{y:Int}{a b:Nat}{fp cp ep:Pos}{Q:Flow->Shared->Prop} {E':Value->Shared->Prop},es.mapM (trE tb0 39 cL)=some ys->evs (fun U U=>none) ys ρ6=some [.int y,.int a,.int b] ->
     a<b->b<=l.length->b-a<=2^j->0<=y->y<2^(n*(b-a))->(∀h' tk',lE W1 env (cW cs) f fd s.heap d (upd l a (bH n (b-a) y)) h'->Pre W1 (aH P fun b=>b=s.heap.objs.size) env ρ6 h'->Q .next { s with heap:=h',toks:=tk' }) ->
     wpAny W1.M (A.deeper env) (exec (.Expr (.Call (.Name "inner" fp) es [] cp) ep) env) Q E' { s with heap:=h,toks:=tk }:=by
    intro h tk l hll hls lo pr es ys y a b fp cp ep Q E' hes hv hab hbl hbk hy0 hy1 hQ;refine wpAny_Expr (eS (bh (bf (s:={ s with heap:=h,toks:=tk }) pr (by decide) (lo.vars _ hvi) ?_) (by decide))) (gS pr.en) rfl;obtain⟨o',ho',hod'⟩:=lo.fn.obj;refine iU (o:=o') (fd:=fd) (bG hes (ef c.G1 (ih 39) ao1 hcx hes pr hv fun us h1 tk1 K1 rs=>rs.c' fun u0 r0 a0 rs=>rs.c' fun u1 r1 a1 rs=>rs.c' fun u2 r2 a2 rs=>rs.n' (a0.i' fun t0=>a1.i' fun t1=>a2.i' fun t2=>?_)));obtain lo1:=(frm l).kx _ _ K1 lo;obtain pr1:=pr.step K1;refine⟨⟨K1.keep _ _ lo.fn.nT ho',hod'⟩,ihk j (dr j) c.G1 _ _ { s with heap:=h1,toks:=tk1 } y a b t0 t1 t2 l _ E' ao1 pr1.ok (c.back pr1 lo1.vars lo1.fn) hdd lo1.ls hls hll hab hbl hbk hy0 hy1 fun h' tk' k' ti' ls'=>?_⟩;obtain pr2:=(apart pr1 hρ lo1 k' ti' ls').1;obtain lo2:=(apart pr1 hρ lo1 k' ti' ls').2;exact hQ h' tk' lo2 pr2
   refine aF (inn hlen hsz lo6 pr6 (by rfl) a1 m1 hML j2 hl0 hl1 fun h7 tk7 lo7 pr7=>?_);have hul:(upd l L (bH n (M-L) (x%2^((M-L)*n)))).length=l.length:=rQ _ _ (by rw[br,Nat.add_sub_of_le (bP m1)];exact hML);refine aF (inn (hul.symm▸hlen) (hul.symm▸hsz) lo7 pr7 (by rfl) a2 m2 (hul.symm▸hR) j1 hu0 hu1 fun h8 tk8 lo8 pr8=>eG (done h8 tk8 _ _ pr8 lo8 ?_));have e1:bH n (M-L) (x%2^((M-L)*n))=bH n (M-L) x:=by rw[Nat.mul_comm (M-L) n];exact nu n (M-L) x
   have e2:R-L=(M-L)+(R-M):=by rw[Nat.add_comm,Nat.sub_add_sub_cancel (bP m2) (bP m1)]
   have e3:M=L+(bH n (M-L) x).length:=by rw[br,Nat.add_sub_of_le (bP m1)]
   rw[e1,e2,gX,Nat.mul_comm n (M-L)]
   conv=>lhs;arg 2;rw[e3]
   exact A2 l _ _ (by rw[br,br,Nat.add_sub_of_le (bP m1),Nat.add_sub_of_le (bP m2)];exact hR)
section
section
variable{W:Wp}{tb:Tb}{Φ:Fun}{N D n:Nat}{c:Cx}
theorem AK{x y:V}{l:List V}(h:bR .Mult x y=some (.lst l)):Ex2 fun m n=>x=.lst m/\y=.int n/\l=(List.replicate n.toNat m).flatten/\m.length*n.toNat<=szLine/\-2^63<=n/\n<2^63:=by
 cases x with
 |lst l1=>
  cases y with
  |int n=>exact aO h fun hz h=>⟨l1,n,rfl,rfl,(AR (al_0 h)).symm,hz⟩
  |_=>exact nn0 h
 |str a=>
  cases y with
  |int b=>exact aO h fun U h=>nomatch al_0 h
  |_=>exact nn0 h
 |int a=>
  cases y with
  |int b=>
   obtain⟨_,_,e⟩:=bj.mp h
   cases e
  |_=>exact nn0 h
 |_=>exact nn0 h
theorem D5(G:WF W){l r:Expr}{pos:Pos}{a b:E}(ha:SQ W D c l (fun ρ=>pk a ρ (ev Φ a ρ)))(hb:SQ W D c r (fun ρ=>pk b ρ (ev Φ b ρ))):SF W D c (.BinOp l .Mult r pos) (ev Φ (.bin .Mult a b)):=fun A env ρ P s v Q E' ao hc pr hv h=>aa hv fun x hx hv=>aa hv fun y hy hv=>by
 refine byG fun gG kG=>?_;obtain⟨m,n,rfl,rfl,rfl,hz⟩:=AK hv;refine kG ?_;refine wpAny_BinOp (ha A env ρ P s _ _ E' ao hc pr hx fun u h1 tk1 K1 r1=>hb A env ρ P _ _ _ E' ao hc (pr.step K1) hy fun w h2 tk2 K2 r2=>?_);obtain r1:=r1.kx G K1.ti pr.ok.pt K2;refine r1.l' fun a vs k hl r=>r2.i' fun u=>?_;exact jE (s:={ s with heap:=h2,toks:=tk2 }) hl hz.2.1 hz.2.2 (by rw[<-Array.length_toList,r.length];exact ai hz.1 (by decide)) (h h2 _ _ 0 _ _ (K1.trans K2) (KX.push G K2.ti _) (aR _) (eO _ rfl) (uy r _))
end
noncomputable def uP(q:Nat->Pos):List Stmt:=[
 .Assign [.Name "a_digits" (q 53)] (.BinOp (.List [.Constant (.int 0) 0 (q 54)] (q 55)) .Mult (.BinOp (.BinOp (.BinOp (.Call (.Attribute (.Name "a" (q 56)) "bit_length" (q 57)) [] [] (q 58)) .Add (.Name "n" (q 59)) (q 60)) .Sub (.Constant (.int 1) 0 (q 61)) (q 62)) .FloorDiv (.Name "n" (q 63)) (q 64)) (q 65)) (q 66),
 .FunctionDef "inner" (Cj q) (uO q) [] none [] ir none "inner" (q 67),
 .If (.Name "a" (q 68)) [.Expr (.Call (.Name "inner" (q 69)) [.Name "a" (q 70),.Constant (.int 0) 0 (q 71),.Call (.Name "len" (q 72)) [.Name "a_digits" (q 73)] [] (q 74)] [] (q 75)) (q 76)] [] (q 77),
 .Return (some (.Name "a_digits" (q 78))) (q 79)]
noncomputable def yJ:Scope:={ kind:=.function,names:=[("a", .local),("n", .cell),("a_digits", .cell),("inner", .cell),("len", .globalImplicit)],isGenerator:=false,isCoroutine:=false,more:=[] }
noncomputable def fP:Cx:=ac yJ
theorem yN(p1 p2 p3 p4 p5:Pos):[Expr.Name "a" p1,.Constant (.int 0) 0 p2,.Call (.Name "len" p3) [.Name "a_digits" p4] [] p5].mapM (trE tb0 39 fP)=some [.var 0,.const (.int 0),.bi .len [.var 2]]:=by rfl
theorem Gz(p:Pos):trB tb0 40 fP (.Name "a" p)=some (.val (.var 0)):=by rfl
theorem Fx(p:Pos):trE tb0 39 fP (.Name "a_digits" p)=some (.var 2):=by rfl
noncomputable def i2cnt:E:=.bin .FloorDiv (.bin .Sub (.bin .Add (.meth .bitLength (.var 0) []) (.var 1)) (.const (.int 1))) (.var 1)
theorem DV(q:Nat->Pos)(hq:(q 57).endLine=(q 58).line):trE tb0 39 fP (.BinOp (.BinOp (.BinOp (.Call (.Attribute (.Name "a" (q 56)) "bit_length" (q 57)) [] [] (q 58)) .Add (.Name "n" (q 59)) (q 60)) .Sub (.Constant (.int 1) 0 (q 61)) (q 62)) .FloorDiv (.Name "n" (q 63)) (q 64))=some i2cnt:=by
 obtain e:trE tb0 36 fP (.Call (.Attribute (.Name "a" (q 56)) "bit_length" (q 57)) [] [] (q 58))=some (.meth .bitLength (.var 0) []):=by
  show gd ((q 57).endLine==(q 58).line&&_) _=_;rw[hq,fu];rfl
 obtain tb':∀(n:Nat) (l:Expr) (op:Operator) (r:Expr) (p:Pos) (a b:E),trE tb0 n fP l=some a->trE tb0 n fP r=some b->trE tb0 (n+1) fP (.BinOp l op r p)=some (.bin op a b):=by
  intro n l op r p a b h1 h2;show(trE tb0 n fP l).bind _=_;rw[h1];rw[h2];rfl
 exact tb' 38 _ _ _ _ _ _ (tb' 37 _ _ _ _ _ _ (tb' 36 _ _ _ _ _ _ e (by rfl)) (by rfl)) (by rfl)
noncomputable def ndig(a:Int)(n:Nat):Nat:=(ibits a+n-1)/n
noncomputable def i2dV(args:List V):Option V:=(two args).bind fun p=>(fD p.1).bind fun a=>(fD p.2).bind fun n=>
 if 0<=a/\1<=n/\ibits a+n.toNat<=100000000/\ndig a n.toNat<=1000000 then some (.lst ((bH n.toNat (ndig a n.toNat) a).map .int))else none
theorem jC(a:Int){n:Nat}(h:1<=n):ibits a<=n*ndig a n/\n*ndig a n<=ibits a+n-1:=by
 unfold ndig;obtain h1:=Nat.div_add_mod (ibits a+n-1) n;obtain h2:=Nat.mod_lt (ibits a+n-1) h;refine⟨Nat.le_of_add_le_add_right (b:=n) ?_,Nat.mul_div_le _ _⟩;rw[<-Nat.sub_add_cancel (ai h (Nat.le_add_left n (ibits a)))];exact ai (fF (Nat.le_of_eq h1.symm) 1) (Nat.add_le_add_left h2 _)
theorem fh{a:Int}(h:0<=a):a<2^ibits a:=by
 have:=(intBits_le_iff (m:=ibits a) (x:=a)).mp (bS _);obtain e:(a.natAbs:Int)=a:=Int.natAbs_of_nonneg h;obtain h2:(a.natAbs:Int)<((2^ibits a:Nat):Int):=by exact_mod_cast this
 rw[e]at h2
 simpa using h2
theorem vL{a b:Int}(ha:a.natAbs<2^60)(hb:b.natAbs<2^60):Builtin.divisionGoesByPylong a b=false:=by
 unfold Builtin.divisionGoesByPylong;obtain h:∀n:Int,n.natAbs<2^60->(if n==0 then 0 else n.natAbs.log2/30+1)<=2:=by
  intro n hn
  split
  ·lia
  ·rename_i hz
   obtain hz:n≠0:=by simpa using hz
   have:n.natAbs.log2<60:=(Nat.log2_lt (by lia)).mpr hn;lia
 have:=h b hb;simp only[Bool.and_eq_false_iff,decide_eq_false_iff_not];left;lia
end
theorem xH(k:Nat)(x:V):(List.replicate k [x]).flatten=List.replicate k x:=by
 induction k with
 |zero=>rfl
 |succ k ih=>simp only[List.replicate_succ,List.flatten_cons,ih];rfl
theorem Fw{a:Int}{n:Nat}(hn:1<=n)(hsz:ibits a+n<=100000000)(hlen:ndig a n<=1000000)(Φ:Fun):
  ev Φ (.bin .Mult (.list [.const (.int 0)]) i2cnt) [.val (.int a),.val (.int n),.unb,.unb]=some (.lst (List.replicate (ndig a n) (.int 0))):=by
 obtain h0:(ibits a:Int)+n-1=((ibits a+n-1:Nat):Int):=by omega
 obtain h1:Builtin.divisionGoesByPylong ((ibits a:Int)+n-1) n=false:=vL (by omega) (by omega);obtain h3:¬((n:Int)=0\/Builtin.divisionGoesByPylong ((ibits a:Int)+n-1) n=true):=by
  rw[h1];simp;omega
 obtain h4:hG .FloorDiv ((ibits a:Int)+n-1) n=some ((ndig a n:Nat):Int):=(ag h3).trans (by
  rw[lg _ (cF n),h0];rfl)
 obtain h5:bR .Mult (.lst [.int 0]) (.int (ndig a n:Nat))=some (.lst (List.replicate (ndig a n) (.int 0))):=by
  refine(af ⟨?_,?_,?_⟩).trans (by rw[Int.toNat_natCast,xH])
  ·rw[Int.toNat_natCast]
   exact ai (Nat.le_of_eq (Nat.one_mul _)) (ai hlen (by decide))
  ·exact aY (by decide) (cF _)
  ·exact gA (cP.mpr hlen) (by decide)
 show Option.bind (Option.map V.int (hG .FloorDiv ((ibits a:Int)+n-1) n)) (fun y=>bR .Mult (.lst [.int 0]) y)=_;rw[h4];exact h5
theorem B8{W:Wp}(G:WF W){a c Pt:Addr}{q:Nat->Pos}{qn:Str}(hq:(q 57).endLine=(q 58).line)(F:eQ W a ["a", "n"] (uP q) yJ)(Fc:qt W a c qn)(Tb:lC W c Pt (q 67) ((qn ++ ".<locals>.") ++ "inner")):Cal W 22 a i2dV:=by
 intro A P us l v s Q E' ao ok r e hQ;refine aa e fun p hp e=>aa e fun x hx e=>aa e fun nn hnn e=>aO e fun hc e=>?_;obtain rfl:=al_0 e;rw[iZ hp,dN hx,dN hnn]at r;obtain⟨hx0,hn1,hsz,hlen⟩:=hc;obtain⟨n,rfl⟩:∃m:Nat,nn=m:=⟨nn.toNat,(Int.toNat_of_nonneg (aY (by decide) hn1)).symm⟩;rw[Int.toNat_natCast]at hsz hlen hQ;have hn1:1<=n:=cP.mp hn1;refine oB G F Fc Tb rfl (D:=21) ao ok r rfl fun W1 env h₁ tk₁ E1 o=>?_;obtain ao1:=ao.deeper env;have hcx:ac env.scope=fP:=o.cx;have pr:Pre W1 (aH P fun b=>aw env b) env [.val (.int x),.val (.int n),.unb,.unb] h₁:=o.pr;obtain ih:=cA (Φ:=fun U U=>none) o.G1 (wG _ _ 21);have hs2:(ac env.scope).slots[2]?=some (("a_digits" : Str),true):=by rw[hcx];rfl
 have hs3:(ac env.scope).slots[3]?=some (("inner" : Str),true):=by rw[hcx];rfl
 generalize hρ0:([.val (.int x),.val (.int n),.unb,.unb]:Ro)=ρ0 at pr;have fin:∀(P':Addr->Prop) (ρ':Ro) h' tk (w:V) u,Pre W1 P' env ρ' h'->Stp W1 env (aH P fun b=>aw env b) ρ0 h₁ P' ρ' h'->Rp P' h' u w->w=.lst ((bH n (ndig x n) x).map .int)->Q u { s with heap:=h',toks:=tk }:=by
  intro P' ρ' h' tk w u pr' st r' hw;subst hw;have nm:∀b ob,s.heap.get? b=some ob->¬aw env b:=fun b ob e m=>ak (o.mn b m) e;have noOwn:∀b,¬aQ W1 env ρ0 h₁ b:=by
   rintro b ⟨i,y,cc,sl,h1,h2,h3,h4⟩;rw[<-hρ0]at h2;have:=dw h2;simp only[aM,cM,or_false]at this;rcases this with rfl | rfl | rfl | rfl<;>(obtain⟨l,e | e⟩:=h3<;>cases e)
  refine hQ u h' tk ⟨fun b ob n e=>st.keep b ob (o.T▸n) (nm b ob e) (noOwn b) (o.keep b ob e),o.TI▸pr'.ok.ti⟩ (r'.mono fun b ob p e=>⟨?_,e⟩);obtain nT:=pr'.ok.pt b p
  cases q:s.heap.get? b with
  |none=>exact ok.new b (o.T▸nT) q
  |some o0=>
   by_cases hp:P b
   ·exact hp
   ·exact absurd p (st.pn b o0 (fun x=>hp x.1) nT (nm b o0 q) (noOwn b) (o.keep b o0 q))
 have sf:SF W1 21 fP (.BinOp (.List [.Constant (.int 0) 0 (q 54)] (q 55)) .Mult (.BinOp (.BinOp (.BinOp (.Call (.Attribute (.Name "a" (q 56)) "bit_length" (q 57)) [] [] (q 58)) .Add (.Name "n" (q 59)) (q 60)) .Sub (.Constant (.int 1) 0 (q 61)) (q 62)) .FloorDiv (.Name "n" (q 63)) (q 64)) (q 65)) (ev (fun U U=>none) (.bin .Mult (.list [.const (.int 0)]) i2cnt)):=
  D5 o.G1 ((ih 39).q _ _ (.list [.const (.int 0)]) (by rfl)) ((ih 39).q _ _ i2cnt (DV q hq))
 obtain sx0:=rZ (τ:=0) (Φ:=fun U U=>none) (N:=0) (x := "a_digits") (px:=q 53) (pos:=q 66) (i:=2) o.G1 (c:=fP) (by rfl) (fun U U=>rfl) sf;refine aF (sx0 _ env _ _ { s with heap:=h₁,toks:=tk₁ } (.nxt [.val (.int x),.val (.int n),.own (List.replicate (ndig x n) (.int 0)),.unb]) _ _ ao1 o.fs hcx pr ?_ (cO _) fun P2 h2 tk2 pr2 st2=>?_)
 ·rw[<-hρ0]
  show Option.bind (ev (fun U U=>none) (.bin .Mult (.list [.const (.int 0)]) i2cnt) [.val (.int x),.val (.int n),.unb,.unb]) _=_;rw[Fw hn1 hsz hlen];rfl
 have lst:∀(P5:Addr->Prop) h5 tk5 lf E2,Pre W1 P5 env [.val (.int x),.val (.int n),.own lf,.unb] h5->Stp W1 env (aH P fun b=>aw env b) ρ0 h₁ P5 [.val (.int x),.val (.int n),.own lf,.unb] h5 ->
   lf=(bH n (ndig x n) x).map .int->wpAny W1.M (A.deeper env) (execs [.Return (some (.Name "a_digits" (q 78))) (q 79)] env) (fun f s'=>Q (match f with | .ret v=>v | _=>.none) s') E2 { s with heap:=h5,toks:=tk5 }:=by
  intro P5 h5 tk5 lf E2 pr5 st5 hlf;refine aF (wZ (τ:=0) (Φ:=fun U U=>none) (N:=0) (c:=fP) (pos:=q 79) o.G1 ((ih 39).e _ _ (.var 2) (Fx _)) _ env _ _ { s with heap:=h5,toks:=tk5 } (.ret (.lst lf) [.val (.int x),.val (.int n),.val (.lst lf),.unb]) _ _ ao1 o.fs hcx pr5 (by rfl) (cO _) fun u P6 h6 tk6 pr6 st6 r6=>?_);exact fin P6 _ h6 tk6 _ u pr6 (st5.trans st6) r6 (by rw[hlf])
 refine aF (zs (s:={ s with heap:=h2,toks:=tk2 }) o.G1 o.tab o.qual o.code rfl rfl rfl (fJ (scope:=ir) (cl:=[(("n" : Str),s.heap.objs.size+1),(("inner" : Str),s.heap.objs.size+3),(("a_digits" : Str),s.heap.objs.size+2)]) (by rw[o.cells];rfl)) pr2 fun f doc pm ctv cv h3 tk3 K3 nf hfn=>?_);obtain pr3:=pr2.step K3;refine bn (s:={ s with heap:=h3,toks:=tk3 }) o.G1 pr3 hs3 fun b h4 tk4 sto=>?_;have noo:¬bk .unb:=fun o=>by obtain⟨l,e | e⟩:=o<;>cases e
 have pr4:Pre W1 P2 env [.val (.int x),.val (.int n),.own (List.replicate (ndig x n) (.int 0)),.unb] h4:=pr3.store hs3 sto (sl:=.unb) trivial (fun o=>absurd o noo);have st4:Stp W1 env (aH P fun b=>aw env b) ρ0 h₁ P2 [.val (.int x),.val (.int n),.own (List.replicate (ndig x n) (.int 0)),.unb] h4:=sto.stp (sl:=.unb) pr3 (st2.trans (Stp.kx o.G1 pr2 K3)) hs3 (fun o=>absurd o noo);have hff:InF W1 h4 f (kY q ((qn ++ ".<locals>.") ++ "inner") (s.heap.objs.size+2) (s.heap.objs.size+3) (s.heap.objs.size+1) doc pm cv ctv):=hfn.sto pr3 sto;clear hfn sx0 sf;obtain ent:=fun{d:Addr}{tn:Tok}=>DR (q:=q) (qual:=(qn ++ ".<locals>.") ++ "inner") (ca:=s.heap.objs.size+2) (cin:=s.heap.objs.size+3) (cn:=s.heap.objs.size+1) (f:=f) (d:=d) (doc:=doc) (pm:=pm) (cv:=cv) (ctv:=ctv) (n:=n) (tn:=tn) hn1 (Nat.ne_of_lt (dr _)) (Nat.ne_of_gt (dr _)) (Nat.ne_of_gt (Nat.lt_succ_of_lt (dr _)));generalize kY q ((qn ++ ".<locals>.") ++ "inner") (s.heap.objs.size+2) (s.heap.objs.size+3) (s.heap.objs.size+1) doc pm cv ctv=fdi at *;refine aF (wpAny_If ((ih 40).b _ _ (.val (.var 0)) (hcx▸Gz _) _ _ _ _ { s with heap:=h4,toks:=tk4 } (x != 0) _ _ ao1 rfl pr4 rfl fun h5 tk5 K5=>?_));obtain pr5:=pr4.step K5;obtain st5:=st4.trans (Stp.kx o.G1 pr4 K5);by_cases hz:x=0
 ·rw[show(x != 0)=false by rw[hz];rfl]
  have hnd:ndig x n=0:=by
   rw[hz];show(0+n-1)/n=0;exact Nat.div_eq_of_lt (by omega)
  refine eG (lst P2 h5 tk5 _ _ pr5 st5 ?_);rw[hnd];rfl
 ·rw[show(x != 0)=true from bne_iff_ne.mpr hz]
  refine aF (wpAny_Expr (eS (bh (bf (s:={ s with heap:=h5,toks:=tk5 }) pr5 (by decide) (sto.at'.keep K5.keep) ?_) (by decide))) (gS pr5.en) rfl);obtain⟨o',ho',hod'⟩:=hff.obj;refine iU (o:=o') (fd:=fdi) (bG (hcx▸yN _ _ _ _ _) (ef (vs:=[.int x,.int 0,.int (ndig x n:Nat)]) o.G1 (ih 39) ao1 rfl (hcx▸yN _ _ _ _ _) pr5 ?_ fun us h6 tk6 K6 rs=>rs.c' fun u0 r0 a0 rs=>rs.c' fun u1 r1 a1 rs=>rs.c' fun u2 r2 a2 rs=>rs.n' (a0.i' fun t0=>a1.i' fun t1=>a2.i' fun t2=>?_)))
  ·have e:biV .len [.lst (List.replicate (ndig x n) (V.int 0))]=some (.int (ndig x n:Nat)):=(af (by rw[ld];exact ai hlen (by decide))).trans (by rw[ld])
   exact aq (fun o=>Option.map (fun vs=>V.int x::vs) (Option.map (fun vs=>V.int 0::vs) (o.bind fun v=>(some []).map fun vs=>v::vs))) e
  obtain hff6:=(hff.kx K5.keep).kx K6.keep;obtain pr6:=pr5.step K6;obtain st6:=st5.trans (Stp.kx o.G1 pr5 K6);refine⟨⟨K6.keep _ _ hff.nT (K5.keep _ _ hff.nT ho'),hod'⟩,?_⟩;refine eso (pr6.er 2 _ _ _ hs2 (by rfl)) fun d vs m vd hdd hdL hdr=>esv (pr6.er 1 _ true _ (by rw[hcx];rfl) (by rfl)) fun un vn rn=>?_;revert vn;refine rn.i' fun tn vn=>?_;have hdr:IntsAre vs.toList (List.replicate (ndig x n) (0:Int)):=by
   rw[show(List.replicate (ndig x n) (V.int 0))=(List.replicate (ndig x n) (0:Int)).map V.int by simp]at hdr;exact hdr.map_ints
  obtain⟨hm1,hm2⟩:=jC x hn1;have hnd1:0<ndig x n:=by
   rcases Nat.eq_zero_or_pos (ndig x n)with h | h
   ·obtain h2:=fh hx0
    rw[h,Nat.mul_zero,Nat.le_zero]at hm1;rw[hm1]at h2;exact absurd (Int.le_antisymm (Int.lt_add_one_iff.mp h2) hx0) hz
   ·exact h
  have ic:InC W1 P2 h6 f fdi (gy (s.heap.objs.size+2) (s.heap.objs.size+3) (s.heap.objs.size+1) f d n tn):=o.inC pr6 hff6 fun p hp=>mO ⟨vn,rfl,rfl⟩ ⟨(sto.at'.keep K5.keep).keep K6.keep,rfl,rfl⟩ ⟨vd,rfl,rfl⟩ hp;have hne:∀p∈gy (s.heap.objs.size+2) (s.heap.objs.size+3) (s.heap.objs.size+1) f d n tn,d≠p.2.1:=fun p hp q=>by
   obtain⟨_,ob,h1,h2⟩:=ic.at' p hp;rw[<-q,hdL]at h1;cases h1;cases h2
  refine ent (tn:=tn) (d:=d) (hne _ (.tail _ (.tail _ (.head _)))) (hne _ (.tail _ (.head _))) (hne _ (.head _)) 20 o.G1 _ P2 { s with heap:=h6,toks:=tk6 } x 0 (ndig x n) t0 t1 t2 (List.replicate (ndig x n) 0) _ _ ao1 pr6.ok ic hdd ⟨vs,m,hdL,hdr⟩
   (by rw[ld];exact ai hm2 (ai (Nat.sub_le _ _) hsz)) (by rw[ld];exact hlen) hnd1 (by rw[ld];exact bS _) (ai hlen (by decide)) hx0 ?_ fun h7 tk7 k7 ti7 ls7=>?_
  ·rw[Nat.sub_zero]
   exact eI (fh hx0) (by
    have:2^ibits x<=2^(n*ndig x n):=i0 (by decide) hm1
    exact_mod_cast this)
  ·obtain⟨vs7,m7,hL7,hI7⟩:=ls7
   have hup:upd (List.replicate (ndig x n) 0) 0 (bH n (ndig x n-0) x)=bH n (ndig x n) x:=by
    unfold upd;rw[Nat.sub_zero,List.take_zero,List.nil_append,Nat.zero_add,br,List.drop_eq_nil_of_le (by rw[ld];exact bS _),bQ]
   rw[hup]at hI7;obtain⟨pr7,st7⟩:=pr6.mut o.G1 hs2 (by rfl) ⟨_,.inl rfl⟩ vd k7 ti7 ⟨_,hL7⟩ (sl:=.own ((bH n (ndig x n) x).map .int)) fun va' hid' U=>⟨d,vs7,m7,va',hid',hL7,Rps.of_ints hI7⟩;exact eG (lst P2 h7 tk7 _ _ pr7 (st6.trans st7) rfl)
section
set_option autoImplicit false
noncomputable def nZ:Array Nat:=#[14,9,4,1,2,16,10,16,13,0,7,7,16,13,16,10,15,18,5,16,10,15,13,11,16,13,5,5,0,16,10,1,15,2,0,1]
noncomputable def vW:Array Nat:=#[14,4,0,1,1,6,1,16,46,1]
section
open PySem.Sre
noncomputable def Hit(m:M)(a b:Nat):Prop:=m.outcome.isSome=true/\(match m.outcome with | some .matched=>true | _=>false)=true/\m.start=a/\m.handed=b
noncomputable def BQ(m:M):Prop:=m.outcome.isSome=true/\(match m.outcome with | some .failed=>true | _=>false)=true
theorem gK:∀(n:Nat) (m:M),m.outcome.isSome=true->M.runFor n m=m
 |0,m,h=>rfl
 |n+1,m,h=>af h
theorem cH:∀(a b:Nat) (m:M),M.runFor (a+b) m=M.runFor b (M.runFor a m):=by
 intro a
 induction a with
 |zero=>
  intro b m;exact aq (M.runFor · m) (Nat.zero_add b)
 |succ a cH=>
  intro b m;exact(aq (M.runFor · m) (Nat.succ_add a b)).trans<|(Bool.eq_false_or_eq_true m.outcome.isSome).elim
    (fun h=>(af h).trans ((gK b m h).symm.trans (aq (M.runFor b) (af h).symm)))
    (fun h=>have h':¬m.outcome.isSome=true:=fun e=>Bool.noConfusion (e.symm.trans h)
     (ag h').trans ((cH b _).trans (aq (M.runFor b) (ag h').symm)))
noncomputable def AY(m:M)(w:Nat):Bool:=m.outcome.isNone&&(m.answer.isNone&&(Nat.blt m.pc m.code.size&&m.word 0==w))
theorem oE{m:M}{w:Nat}(h:AY m w=true):M.step m=M.exec m/\m.word 0=w/\¬m.outcome.isSome=true:=by
 unfold AY at h;rw[jt,jt,jt,nO,nO]at h;obtain h3:m.pc<m.code.size:=Nat.le_of_ble_eq_true h.2.2.1;refine⟨?_,aB h.2.2.2,by rw[h.1];decide⟩;unfold M.step;rw[h.1,h.2.1,af h3];rfl
noncomputable def lw(m:M)(b:Bool):M:=bif b then{ m with seen:=m.seen.add 16,pc:=m.pc+itemWidth m.code m.pc,pos:=m.pos+1 }else M.say { m with seen:=m.seen.add 16 } false
noncomputable def atS(m:M)(b:Bool):M:=bif b then{ m with seen:=(m.seen.add 6).add 44,pc:=m.pc+2 }else M.say { m with seen:=(m.seen.add 6).add 44 } false
theorem Ga{α:Sort _}{p:Prop}[Decidable p]{b:Bool}(h:decide p=b)(x y:α):(if p then x else y)=(bif b then x else y):=h▸(decide_p p x y)
 where decide_p (p:Prop) [Decidable p] (x y:α):(if p then x else y)=(bif decide p then x else y):=by by_cases h:p<;>simp[h]
theorem lit{m:M}{b:Bool}(h:AY m 16=true)(hb:(!decide (m.lim<=m.pos)&&(m.text.getD m.pos 0==m.word 1))=b):M.step m=lw m b:=by
 obtain⟨e,hw,-⟩:=oE h;have hc:m.code.getD m.pc 0=16:=hw;rw[e];unfold M.exec;rw[hw];have ha:accepts m.code m.pc (m.text.getD m.pos 0) (m.seen.add 16)=.ok (m.text.getD m.pos 0==m.word 1,m.seen.add 16):=by
  unfold accepts;rw[hc];rfl
 show(if m.lim<=m.pos then _ else _)=_
 cases b with
 |false=>
  by_cases q:m.lim<=m.pos
  ·exact af q
  ·rw[cY q,Bool.not_false,Bool.true_and]at hb
   rw[ag q];show(match accepts m.code m.pc (m.text.getD m.pos 0) (m.seen.add 16)with | .error why=>_ | .ok (false,seen)=>_ | .ok (true,seen)=>_)=_;rw[ha,hb];rfl
 |true=>
  rw[jt,Bool.not_eq_true',decide_eq_false_iff_not]at hb;rw[ag hb.1];rw[ha,hb.2];rfl
theorem atl{m:M}{b:Bool}(h:(AY m 6&&m.word 1==1)=true)(hb:(m.pos==0||m.text.getD (m.pos-1) 0==10)=b):M.step m=atS m b:=by
 rw[jt]at h;obtain⟨e,hw,-⟩:=oE h.1;obtain h1:m.word 1=1:=aB h.2;rw[e];unfold M.exec;rw[hw];show(match M.isAt { m with seen:=m.seen.add 6 } (m.word 1)with | .error why=>_ | .ok yes=>if yes=true then{ m with seen:=(m.seen.add 6).add (43+m.word 1),pc:=m.pc+2 }else M.say { m with seen:=(m.seen.add 6).add (43+m.word 1) } false)=_;rw[h1];show(if(m.pos==0||m.text.getD (m.pos-1) 0==10)=true then{ m with seen:=(m.seen.add 6).add 44,pc:=m.pc+2 }else M.say { m with seen:=(m.seen.add 6).add 44 } false)=_;rw[hb]
 cases b with
 |false=>exact ag Bool.false_ne_true
 |true=>exact af rfl
theorem pG{m m':M}(a n:Nat)(e:M.step (M.runFor a m)=m')(h:(M.runFor a m).outcome.isSome=false):M.runFor (a+(1+n)) m=M.runFor n m':=by
 rw[cH,Nat.add_comm 1 n];exact(ag (by rw[h];exact Bool.false_ne_true)).trans (by rw[e])
noncomputable def at2(text:Array Nat)(lim s:Nat)(seen:Sre.Seen):M:=
 { code:=nZ,text,lim,start:=s,lastStart:=lim,pc:=10,pos:=s,handed:=s,marks:=#[],frames:=[{ wait:=.nextStart,pc:=10,pos:=s,outermost:=true }],weight:=1,seen }
noncomputable def lt(text:Array Nat)(lim s c:Nat):Bool:=!decide (lim<=s)&&(text.getD s 0==c)
section
variable{text:Array Nat}{lim s:Nat}{seen:Sre.Seen}
noncomputable def p1(text:Array Nat)(lim s:Nat)(seen:Sre.Seen)(b:Bool):M:=lw (M.runFor 1 (at2 text lim s seen)) b
theorem xQ{b:Bool}(h:lt text lim s 13=b)(n:Nat):M.runFor (1+(1+n)) (at2 text lim s seen)=M.runFor n (p1 text lim s seen b):=
 pG 1 n (lit (by kernel_rfl) (Eq.trans (by kernel_rfl) h)) (by kernel_rfl)
theorem FV(h13:lt text lim s 13=false)(h:lt text lim s 10=true):Hit (M.runFor 9 (at2 text lim s seen)) s (s+1):=by
 obtain e1:=xQ (seen:=seen) h13 7;obtain e2:M.runFor (1+(1+5)) (p1 text lim s seen false)=M.runFor 5 (lw (M.runFor 1 (p1 text lim s seen false)) true):=pG 1 5 (lit (by kernel_rfl) (Eq.trans (by kernel_rfl) h)) (by kernel_rfl);rw[show M.runFor 9 (at2 text lim s seen)=_ from e1.trans e2];exact⟨by kernel_rfl,by kernel_rfl,by kernel_rfl,by kernel_rfl⟩
theorem BF(h13:lt text lim s 13=true)(h:lt text lim (s+1) 10=true):Hit (M.runFor 8 (at2 text lim s seen)) s (s+2):=by
 obtain e1:=xQ (seen:=seen) h13 6;obtain e2:M.runFor (0+(1+5)) (p1 text lim s seen true)=M.runFor 5 (lw (p1 text lim s seen true) true):=pG 0 5 (lit (by kernel_rfl) (Eq.trans (by kernel_rfl) h)) (by kernel_rfl);rw[show M.runFor 8 (at2 text lim s seen)=_ from e1.trans e2];exact⟨by kernel_rfl,by kernel_rfl,by kernel_rfl,by kernel_rfl⟩
noncomputable def p2(text:Array Nat)(lim s:Nat)(seen:Sre.Seen):M:=lw (M.runFor 1 (lw (p1 text lim s seen true) false)) false
noncomputable def p3(text:Array Nat)(lim s:Nat)(seen:Sre.Seen):M:=lw (M.runFor 1 (p2 text lim s seen)) true
theorem Ct(h13:lt text lim s 13=true)(h:lt text lim (s+1) 10=false)(h10:lt text lim s 10=false):Hit (M.runFor 15 (at2 text lim s seen)) s (s+1):=by
 obtain e1:=xQ (seen:=seen) h13 13;obtain e2:M.runFor (0+(1+12)) (p1 text lim s seen true)=M.runFor 12 (lw (p1 text lim s seen true) false):=pG 0 12 (lit (by kernel_rfl) (Eq.trans (by kernel_rfl) h)) (by kernel_rfl);obtain e3:M.runFor (1+(1+10)) (lw (p1 text lim s seen true) false)=M.runFor 10 (p2 text lim s seen):=pG 1 10 (lit (by kernel_rfl) (Eq.trans (by kernel_rfl) h10)) (by kernel_rfl);obtain e4:M.runFor (1+(1+8)) (p2 text lim s seen)=M.runFor 8 (p3 text lim s seen):=pG 1 8 (lit (by kernel_rfl) (Eq.trans (by kernel_rfl) h13)) (by kernel_rfl);obtain e5:M.runFor (1+(1+6)) (p3 text lim s seen)=M.runFor 6 (lw (M.runFor 1 (p3 text lim s seen)) false):=pG 1 6 (lit (by kernel_rfl) (Eq.trans (by kernel_rfl) h)) (by kernel_rfl);rw[show M.runFor 15 (at2 text lim s seen)=_ from e1.trans (e2.trans (e3.trans (e4.trans e5)))];exact⟨by kernel_rfl,by kernel_rfl,by kernel_rfl,by kernel_rfl⟩
noncomputable def at1(text:Array Nat)(lim s:Nat)(o:Bool)(seen:Sre.Seen):M:=
 { code:=vW,text,lim,start:=s,lastStart:=lim,pc:=5,pos:=s,handed:=s,outermost:=o,marks:=#[],frames:=[{ wait:=.nextStart,pc:=5,pos:=s,outermost:=o }],weight:=1,seen }
variable{o:Bool}
theorem zH{b:Bool}(h:(s==0||text.getD (s-1) 0==10)=b)(n:Nat):M.runFor (0+(1+n)) (at1 text lim s o seen)=M.runFor n (atS (at1 text lim s o seen) b):=
 pG 0 n (atl (by kernel_rfl) (Eq.trans (by kernel_rfl) h)) (by kernel_rfl)
theorem zG{b:Bool}(h:lt text lim s 46=b)(n:Nat):M.runFor (0+(1+n)) (atS (at1 text lim s o seen) true)=M.runFor n (lw (atS (at1 text lim s o seen) true) b):=
 pG 0 n (lit (by kernel_rfl) (Eq.trans (by kernel_rfl) h)) (by kernel_rfl)
theorem Er(h:(s==0||text.getD (s-1) 0==10)=true)(h':lt text lim s 46=true):Hit (M.runFor 5 (at1 text lim s o seen)) s (s+1):=by
 rw[show M.runFor 5 (at1 text lim s o seen)=_ from(zH h 4).trans (zG h' 3)]
 cases o <;>
 exact⟨by kernel_rfl,by kernel_rfl,by kernel_rfl,by kernel_rfl⟩
noncomputable def BL(text:Array Nat)(lim s:Nat)(o:Bool)(seen:Sre.Seen):M:=M.say { at1 text lim s o seen with frames:=[],weight:=0 } false
theorem FW:M.runFor 1 (atS (at1 text lim s o seen) false)=if s<lim then at1 text lim (s+1) false ((seen.add 6).add 44)else BL text lim s o ((seen.add 6).add 44):=by kernel_rfl
theorem Ep:M.runFor 1 (lw (atS (at1 text lim s o seen) true) false)=if s<lim then at1 text lim (s+1) false (((seen.add 6).add 44).add 16)else BL text lim s o (((seen.add 6).add 44).add 16):=by kernel_rfl
theorem Es:BQ (M.runFor 1 (BL text lim s o seen)):=⟨by kernel_rfl,by kernel_rfl⟩
theorem vB(h:((s==0||text.getD (s-1) 0==10)&&lt text lim s 46)=false):Ex2 fun d seen'=>d<=3/\M.runFor d (at1 text lim s o seen)=if s<lim then at1 text lim (s+1) false seen' else BL text lim s o seen':=by
 cases h1:s==0||text.getD (s-1) 0==10 with
 |false=>exact⟨2,_,by decide,(zH h1 1).trans FW⟩
 |true=>
  rw[h1,Bool.true_and]at h;exact⟨3,_,by decide,(zH h1 2).trans ((zG h 1).trans Ep)⟩
end
end
end
section
noncomputable def crGo:Bool->List Nat->List Nat
 |_,[]=>[]
 |b,c::r=>if c=13 then 13::10::crGo true r else if c=10 then(if b then crGo false r else 13::10::crGo false r)else c::crGo false r
noncomputable def bp:Bool->List Nat->List Nat
 |_,[]=>[]
 |b,c::r=>if b&&c==46 then 46::46::bp false r else c::bp (c==10) r
noncomputable def fH(l:List Nat):List Nat:=bp true (crGo false l)
theorem AW{p:Prop}[Decidable p]{a b:List Nat}{n:Nat}(h1:a.length<=n)(h2:b.length<=n):(if p then a else b).length<=n:=by
 by_cases h:p
 ·rw[af h];exact h1
 ·rw[ag h];exact h2
theorem jN:∀(b:Bool) (l:List Nat),(crGo b l).length<=2*l.length:=by
 intro zi0 r;revert zi0
 induction r with
 |nil=>
  intro _;exact bS _
 |cons c r jN=>
  intro b;obtain h1:(crGo true r).length+2<=2*(r.length+1):=fF (jN true) 2;obtain h2:(crGo false r).length+2<=2*(r.length+1):=fF (jN false) 2;unfold crGo;exact AW h1 (AW (AW (Nat.le_of_add_right_le h2) h2) (Nat.le_of_succ_le h2))
theorem iB:∀(b:Bool) (l:List Nat),(bp b l).length<=2*l.length:=by
 intro zi0 r;revert zi0
 induction r with
 |nil=>
  intro _;exact bS _
 |cons c r iB=>
  intro b;obtain h1:(bp false r).length+2<=2*(r.length+1):=fF (iB false) 2;obtain h2:(bp (c==10) r).length+2<=2*(r.length+1):=fF (iB (c==10)) 2;unfold bp;exact AW h1 (Nat.le_of_succ_le h2)
section
open PySem.Sre
noncomputable def nS(code:Array Nat)(text:Array Nat)(repl:List Nat)(out:Nat->List Nat):Prop:=
 ∀s,s<=text.size->∃N,N<=2^60/\((Ex2 fun a b=>jX (s<=a) (a<b) (b<=text.size) (Hit (M.runFor N (forSearch code text 0 s text.size false)) a b) (out s=(text.extract s a).toList++repl++out b)) \/
  (BQ (M.runFor N (forSearch code text 0 s text.size false))/\out s=(text.extract s text.size).toList))
noncomputable def kX(c:Nat):Bool:=c==10||c==13
theorem DP(c:Nat)(seen:Sre.Seen):∃seen',inSet nZ c 36 5 true seen=.ok (kX c,seen'):=by
 obtain e:inSet nZ c 36 5 true seen=if(c==10)=true then .ok (true,seen.add 16)else if(c==13)=true then .ok (true,(seen.add 16).add 16)else .ok (false,((seen.add 16).add 16).add 0):=by kernel_rfl
 rw[e];unfold kX
 cases c==10
 ·cases c==13
  ·exact⟨_,rfl⟩
  ·exact⟨_,rfl⟩
 ·exact⟨_,rfl⟩
section
variable{text:Array Nat}{pre r:List Nat}{c:Nat}
theorem qj(h:text.toList=pre++c::r):text.getD pre.length 0=c:=by
 rw[Array.getD_eq_getD_getElem?,<-lm,h,List.getElem?_append_right (bS _),Nat.sub_self];rfl
theorem ei(h:text.toList=pre++r):text.size=pre.length+r.length:=by
 rw[<-Array.length_toList,h,aG]
theorem Ao(h:text.toList=pre++r):pre.length<=text.size:=ei h▸i7 _ _
theorem gj(h:text.toList=pre++c::r):pre.length<text.size:=ei h▸Nat.lt_add_of_pos_right (Nat.succ_pos _)
theorem gI(h:text.toList=pre++[]):text.size=pre.length:=ei h
theorem gF(h:text.toList=pre++c::r):text.toList=(pre++[c])++r:=h.trans (bX pre [c] r).symm
theorem nj(h:text.toList=pre++r):text.toList.drop pre.length=r:=by rw[h,List.drop_left]
theorem cG:(pre++[c]).length=pre.length+1:=aG
theorem lP{x:List Nat}(h:text.toList=(pre++x)++r):(text.extract pre.length (pre++x).length).toList=x:=by
 rw[Array.toList_extract,List.extract_eq_take_drop,h,bX,List.drop_left,aG,nI,List.take_left]
theorem pO(h:text.toList=pre++c::r)(d:Nat):lt text text.size pre.length d=(c==d):=by
 unfold lt;rw[qj h,cY (Nat.not_le.mpr (gj h))];rfl
theorem yg{s:Nat}(h:text.size<=s)(d:Nat):lt text text.size s d=false:=by
 unfold lt;rw[dp h];rfl
end
inductive Adm(text:Array Nat)(pre r:List Nat)(a:Except String (Option Nat×Sre.Seen)):Prop
 |hit (x:List Nat) (c:Nat) (r':List Nat) (seen:Sre.Seen) (h:text.toList=(pre++x)++c::r') (hc:kX c=true) (e:crGo false r=x++crGo false (c::r')) (ha:a=.ok (some (pre++x).length,seen))
 |miss (seen:Sre.Seen) (e:crGo false r=r) (ha:a=.ok (none,seen))
theorem rE{c:Nat}(r:List Nat)(h:kX c=false):crGo false (c::r)=c::crGo false r:=by
 unfold kX at h;rw[Bool.or_eq_false_iff,bK,bK]at h;exact(ag h.2).trans (ag h.1)
theorem EG{m:M}(hc:m.code=nZ)(hl:m.lim=m.text.size):∀(r pre:List Nat) (fuel:Nat) (seen:Sre.Seen),m.text.toList=pre++r->r.length<fuel->Adm m.text pre r (M.admitted m fuel pre.length seen):=by
 intro zi0 zi1 fuel;revert zi0 zi1
 induction fuel with
 |zero=>
  intro _ _ _ _ h;exact absurd h (Nat.not_lt_zero _)
 |succ fuel EG=>
  intro zv0 pre seen h hf
  match zv0 with
  |[]=>
   exact .miss seen rfl (af (Nat.le_of_eq (hl.trans (gI h))))
  |c::r=>
   obtain⟨seen',e⟩:=DP c seen;obtain e2:M.admitted m (fuel+1) pre.length seen=match inSet nZ c 36 5 true seen with | .ok (true,seen)=>.ok (some pre.length,seen) | .ok (false,seen)=>M.admitted m fuel (pre.length+1) seen | .error why=>.error why:=by
    refine(ag (Nat.not_le.mpr (hl▸gj h))).trans ?_;rw[hc,qj h];rfl
   rw[e2,e]
   cases hb:kX c with
   |true=>exact .hit [] c r seen' (h.trans (aq (·++c::r) (bQ pre).symm)) hb rfl (by rw[bQ])
   |false=>
    obtain ih:=EG r (pre++[c]) seen' (gF h) (Nat.lt_of_succ_lt_succ hf);rw[cG]at ih;rcases ih with⟨x,d,r',seen2,h2,hd,ec,ea⟩ | ⟨seen2,ec,ea⟩
    ·rw[bX pre [c] x]at h2 ea
     exact .hit (c::x) d r' seen2 h2 hd ((rE r hb).trans (aq (c::·) ec)) ea
    ·exact .miss seen2 ((rE r hb).trans (aq (c::·) ec)) ea
theorem BK{text:Array Nat}{pre r:List Nat}{c:Nat}(seen:Sre.Seen)(h:text.toList=pre++c::r)(hc:kX c=true):
  Ex2 fun N b=>jX (N<=20) (pre.length<b) (b<=text.size) (Hit (M.runFor N (at2 text text.size pre.length seen)) pre.length b) (crGo false (c::r)=13::10::crGo false (text.toList.drop b)):=by
 obtain e13:=pO h 13;obtain e10:=pO h 10;obtain h':=gF h;obtain hd:=nj h';rw[cG]at hd;obtain hb:pre.length+1<=text.size:=gj h;unfold kX at hc;rw[Bool.or_eq_true,beq_iff_eq,beq_iff_eq]at hc;rcases hc with rfl | rfl
 ·exact⟨9,_,by decide,dr _,hb,FV e13 e10,by rw[hd];rfl⟩
 ·cases r with
  |nil=>exact⟨15,_,by decide,dr _,hb,Ct e13 (yg (by rw[ei h];exact bS _) 10) e10,by rw[hd];rfl⟩
  |cons d r=>
   obtain e2:=pO h' 10;rw[cG]at e2;by_cases q:d=10
   ·subst q
    obtain h2:=gF h';obtain hd2:=nj h2;rw[cG,cG]at hd2;exact⟨8,_,by decide,Nat.lt_succ_of_lt (dr _),by have:=Ao h2;rw[cG,cG]at this;exact this,BF e13 e2,by rw[hd2];rfl⟩
   ·rw[bK.mpr q]at e2
    refine⟨15,_,by decide,dr _,hb,Ct e13 e2 e10,?_⟩;rw[hd];refine(af rfl).trans (aq (fun l=>13::10::l) ?_);unfold crGo;rw[ag q,ag q]
noncomputable def m2(text:Array Nat)(lim s:Nat):M:={ code:=nZ,text,lim,start:=s,lastStart:=lim,pc:=10,pos:=s,handed:=s,marks:=#[],seen:=({}:Sre.Seen).add 14 }
theorem fs2(text:Array Nat)(s lim:Nat):forSearch nZ text 0 s lim false=if(decide (s>lim)||decide (lim-s<1))=true then M.say { m2 text lim s with lastStart:=0 } false
  else match M.admitted (m2 text lim s) (lim+1-s) s (({}:Sre.Seen).add 14)with
   |.ok (some t,seen)=>at2 text lim t seen
   |.ok (none,seen)=>M.say { m2 text lim s with seen } false
   |.error why=>M.stick (m2 text lim s) why:=by kernel_rfl
noncomputable def m1(text:Array Nat)(lim s:Nat):M:={ code:=vW,text,lim,start:=s,pc:=5,pos:=s,handed:=s,marks:=#[],seen:=({}:Sre.Seen).add 14 }
theorem fs1(text:Array Nat)(s lim:Nat):forSearch vW text 0 s lim false=if(decide (s>lim)||decide (lim-s<1))=true then M.say (m1 text lim s) false else at1 text lim s true (({}:Sre.Seen).add 14):=by kernel_rfl
theorem qB(text:Array Nat){s:Nat}(hs:s<=text.size):Ex2 fun(pre r:List Nat)=>dD (text.toList=pre++r) (pre.length=s) (text.toList.drop s=r):=
 ⟨text.toList.take s,text.toList.drop s,(List.take_append_drop ..).symm,List.length_take_of_le (Array.length_toList▸hs),rfl⟩
theorem qN{s n:Nat}(h:n=s):(decide (s>n)||decide (n-s<1))=true:=by rw[h,Nat.sub_self,Bool.or_eq_true];exact .inr rfl
theorem qM{s n:Nat}(h:s<n):¬(decide (s>n)||decide (n-s<1))=true:=by
 rw[Bool.or_eq_true,oi,oi];exact fun q=>q.elim (Nat.lt_asymm h) (fun q=>Nat.not_lt.mpr (Nat.sub_pos_of_lt h) q)
theorem xt(text:Array Nat)(hz:text.size<=1048576):nS nZ text [13,10] (fun s=>crGo false (text.toList.drop s)):=by
 intro s hs;obtain⟨pre,r,h,rfl,hr⟩:=qB text hs;dsimp only;rw[fs2,hr];obtain whole:r=(text.extract pre.length text.size).toList:=by
  have:=lP (pre:=pre) (x:=r) (r:=[]) (h.trans (bQ _).symm);rw[aG,<-ei h]at this;exact this.symm
 cases r with
 |nil=>
  rw[af (qN (gI h))];exact⟨1,by decide,.inr ⟨⟨rfl,rfl⟩,whole⟩⟩
 |cons c r=>
  rw[ag (qM (gj h))];obtain ha:Adm text pre (c::r) (M.admitted (m2 text text.size pre.length) (text.size+1-pre.length) pre.length (({}:Sre.Seen).add 14)):=EG (m:=m2 text text.size pre.length) rfl rfl (c::r) pre (text.size+1-pre.length) (({}:Sre.Seen).add 14) h (by
   rw[ei h,Nat.add_assoc,nI];exact dr _)
  rcases ha with⟨x,d,r',seen,h2,hd,ec,ea⟩ | ⟨seen,ec,ea⟩
  ·rw[ea]
   obtain⟨N,b,h1,h3,h4,hit,e⟩:=BK seen h2 hd;refine⟨N,ai h1 (by decide),.inl ⟨_,b,?_,h3,h4,hit,?_⟩⟩
   ·rw[aG];exact i7 _ _
   ·rw[ec,e,lP h2,bX];rfl
  ·rw[ea]
   exact⟨1,by decide,.inr ⟨⟨rfl,rfl⟩,ec.trans whole⟩⟩
noncomputable def bol(text:Array Nat)(s:Nat):Bool:=s==0||text.getD (s-1) 0==10
inductive Run(text:Array Nat)(pre r:List Nat)(m:M):Prop
 |hit (N:Nat) (hN:N<=3*r.length+8) (x r':List Nat) (h:text.toList=(pre++x)++46::r') (e:bp (bol text pre.length) r=x++46::46::bp false r') (hh:Hit (M.runFor N m) (pre++x).length ((pre++x).length+1))
 |miss (N:Nat) (hN:N<=3*r.length+8) (e:bp (bol text pre.length) r=r) (hh:BQ (M.runFor N m))
theorem Di{text:Array Nat}:∀(r pre:List Nat) (o:Bool) (seen:Sre.Seen),text.toList=pre++r->Run text pre r (at1 text text.size pre.length o seen):=by
 intro r
 induction r with
 |nil=>
  intro pre o seen h;obtain⟨d,seen',hd,e⟩:=vB (text:=text) (lim:=text.size) (s:=pre.length) (o:=o) (seen:=seen) (by rw[yg (Nat.le_of_eq (gI h)),Bool.and_false]);rw[ag (Nat.not_lt.mpr (Nat.le_of_eq (gI h)))]at e;refine .miss (d+1) (ai (fF hd 1) (by decide)) rfl ?_;rw[cH,e];exact Es
 |cons c r Di=>
  intro pre o seen h;obtain e46:=pO h 46
  cases hb:bol text pre.length&&c==46 with
  |true=>
   obtain hb':=(jt _ _).mp hb;obtain rfl:c=46:=aB hb'.2;obtain hh:=Er (o:=o) (seen:=seen) hb'.1 e46;exact .hit 5 (Nat.le_add_left_of_le (by decide)) [] r (h.trans (aq (·++46::r) (bQ pre).symm)) (af hb) (by rw[bQ];exact hh)
  |false=>
   have hb':((pre.length==0||text.getD (pre.length-1) 0==10)&&lt text text.size pre.length 46)=false:=by rw[e46];exact hb
   obtain⟨d,seen',hd,e⟩:=vB (o:=o) (seen:=seen) hb';rw[af (gj h)]at e;obtain ih:=Di (pre++[c]) false seen' (gF h);have eb:bol text (pre++[c]).length=(c==10):=by
    rw[cG];show(_||text.getD pre.length 0==10)=_;rw[qj h];rfl
   have ed:bp (bol text pre.length) (c::r)=c::bp (c==10) r:=ag (by rw[hb];exact Bool.false_ne_true);have hn:∀{N},N<=3*r.length+8->d+N<=3*(r.length+1)+8:=fun hN=>ai (Nat.add_le_add hd hN) (Nat.le_of_eq (by rw[Nat.mul_succ];lia));rcases ih with⟨N,hN,x,r',h2,e2,hh⟩ | ⟨N,hN,e2,hh⟩
   ·rw[eb]at e2
    rw[cG]at hh;rw[bX pre [c] x]at h2 hh;exact .hit (d+N) (hn hN) (c::x) r' h2 (ed.trans (aq (c::·) e2)) (by rw[cH,e];exact hh)
   ·rw[eb]at e2
    rw[cG]at hh;exact .miss (d+N) (hn hN) (ed.trans (aq (c::·) e2)) (by rw[cH,e];exact hh)
theorem xu(text:Array Nat)(hz:text.size<=1048576):nS vW text [46,46] (fun s=>bp (bol text s) (text.toList.drop s)):=by
 intro s hs;obtain⟨pre,r,h,rfl,hr⟩:=qB text hs;dsimp only;rw[fs1,hr];obtain whole:r=(text.extract pre.length text.size).toList:=by
  have:=lP (pre:=pre) (x:=r) (r:=[]) (h.trans (bQ _).symm);rw[aG,<-ei h]at this;exact this.symm
 cases r with
 |nil=>
  rw[af (qN (gI h))];exact⟨1,by decide,.inr ⟨⟨rfl,rfl⟩,whole⟩⟩
 |cons c r=>
  rw[ag (qM (gj h))];obtain hn:∀{N},N<=3*(c::r).length+8->N<=2^60:=fun hN=>by
   have:=ei h;have:2^60=1152921504606846976:=by decide
   lia
  rcases Di (c::r) pre true (({}:Sre.Seen).add 14) h with⟨N,hN,x,r',h2,e2,hh⟩ | ⟨N,hN,e2,hh⟩
  ·refine⟨N,hn hN,.inl ⟨_,_,?_,dr _,gj h2,hh,?_⟩⟩
   ·rw[aG];exact i7 _ _
   ·obtain h3:=gF h2
    obtain hd:=nj h3;rw[cG]at hd;obtain eb:bol text ((pre++x).length+1)=false:=by
     show(_||text.getD (pre++x).length 0==10)=_;rw[qj h2];rfl
    rw[e2,lP h2,hd,eb,bX];rfl
  ·exact⟨N,hn hN,.inr ⟨hh,e2.trans whole⟩⟩
end
end
section
section
open PySem.Sre PySem.Builtin.Re
variable{M':Model}{A:Around}{E:Value->Shared->Prop}{s:Shared}
theorem qD{N k:Nat}{m:M}(h:(M.runFor N m).outcome.isSome=true)(hk:N<=k):M.runFor k m=M.runFor N m:=by
 obtain⟨d,rfl⟩:∃d,k=N+d:=⟨k-N,by lia⟩;rw[cH,gK _ _ h]
theorem jK:∀(turns N:Nat) (m:M){Q:M->Shared->Prop},(M.runFor N m).outcome.isSome=true->N<=turns->0<turns->Q (M.runFor N m) s->wpAny M' A (reDrive turns m) Q E s:=by
 intro turns
 induction turns with
 |zero=>
  intro N m Q h hN h0 hQ;exact by lia
 |succ turns jK=>
  intro N m Q h hN h0 hQ;unfold reDrive;show wpAny M' A (if(M.runFor 4 m).outcome.isSome=true then pure (M.runFor 4 m)else do rule "sre.turn"; reDrive turns (M.runFor 4 m)) Q E s;by_cases h4:N<=4
  ·rw[qD h h4,af h]
   exact az hQ
  ·obtain e:M.runFor N m=M.runFor (N-4) (M.runFor 4 m):=by rw[<-cH];congr 1;lia
   split
   ·rename_i h5
    have:M.runFor N m=M.runFor 4 m:=by rw[e,gK _ _ h5]
    rw[<-this];exact az hQ
   ·refine aj (wpAny_rule ?_)
    exact jK (N-4) _ (e▸h) (by lia) (by lia) (e▸hQ)
theorem gL(f:Nat->PUnit->Sem (ForInStep PUnit))(hf:∀i u,(∃n,f i u=(do rule n;pure (.yield ⟨⟩)))\/f i u=pure (.yield ⟨⟩)):∀(l:List Nat){Q:PUnit->Shared->Prop},Q ⟨⟩ s->wpAny M' A (forIn l ⟨⟩ f) Q E s:=by
 intro l
 induction l with
 |nil=>
  intro Q h;exact by rw[List.forIn_nil];exact az h
 |cons i l gL=>
  intro Q h;rw[List.forIn_cons];rcases hf i ⟨⟩with⟨n,e⟩ | e
  ·rw[e]
   exact aj (aj (wpAny_rule (az (gL h))))
  ·rw[e]
   exact aj (az (gL h))
theorem sB{m:M}{N a b:Nat}{Q:Option M->Shared->Prop}(h:Hit (M.runFor N m) a b)(hN:N<=2^60)(hQ:∀m',m'.start=a->m'.handed=b->Q (some m') s):wpAny M' A (reRunToEnd m) Q E s:=by
 unfold reRunToEnd;obtain h1:=h.1;obtain h2:=h.2.1;obtain h3:=h.2.2.1;obtain h4:=h.2.2.2;refine aj (jK (2^64) N m h1 (ai hN (i0 (by decide) (by decide))) (Nat.pow_pos (by decide)) ?_);refine aj (gL _ (fun i u=>?_) _ ?_)
 ·split
  ·exact .inl ⟨_,rfl⟩
  ·exact .inr rfl
 ·generalize M.runFor N m=m' at *
  cases ho:m'.outcome with
  |none=>rw[ho]at h1;cases h1
  |some o=>
   cases o with
   |matched=>exact az (hQ m' h3 h4)
   |failed=>rw[ho]at h2;cases h2
   |stuck w=>rw[ho]at h2;cases h2
theorem qE{m:M}{N:Nat}{Q:Option M->Shared->Prop}(h:BQ (M.runFor N m))(hN:N<=2^60)(hQ:Q none s):wpAny M' A (reRunToEnd m) Q E s:=by
 unfold reRunToEnd;obtain⟨h1,h2⟩:=h;refine aj (jK (2^64) N m h1 (ai hN (i0 (by decide) (by decide))) (Nat.pow_pos (by decide)) ?_);refine aj (gL _ (fun i u=>?_) _ ?_)
 ·split
  ·exact .inl ⟨_,rfl⟩
  ·exact .inr rfl
 ·generalize M.runFor N m=m' at *
  cases ho:m'.outcome with
  |none=>rw[ho]at h1;cases h1
  |some o=>
   cases o with
   |matched=>rw[ho]at h2;cases h2
   |failed=>exact az hQ
   |stuck w=>rw[ho]at h2;cases h2
end
end
section
section
open PySem.Sre PySem.Builtin.Re
variable{prog:Program}{w:World}{A:Around}{E:Value->Shared->Prop}{s:Shared}
noncomputable def ij(h:Heap)(p:Addr)(code:Array Nat):Prop:=
 Ex6 fun o vs wt ow words k=>h.get? p=some o/\o.cls=.type "re.Pattern"/\o.dict=none/\o.data=.fields vs/\reRawNat (vs.getD 2 .none)=0/\vs.getD 5 .none=.ref wt/\reRawNat (vs.getD 6 .none)=0 /\
  h.get? wt=some ow/\ow.data=.seq words k/\ow.cls=.type "tuple"/\(words.map reRawOf).map (·.toNat)=code
theorem ij.keep{h h':Heap}{p:Addr}{code:Array Nat}(x:ij h p code)(k:∀b o,h.get? b=some o->o.cls≠.type "list"->h'.get? b=some o):ij h' p code:=by
 obtain⟨o,vs,wt,ow,words,n,a1,a2,a3,a4,a5,a6,a7,a8,a9,a10,a11⟩:=x;exact⟨o,vs,wt,ow,words,n,k _ _ a1 (by rw[a2];simp),a2,a3,a4,a5,a6,a7,k _ _ a8 (by rw[a10];simp),a9,a10,a11⟩
theorem rV{x:Str}{t:Tok}{Q:Array Nat×Nat->Shared->Prop}(h:Q (x.cps,0) s):wpAny (model prog w) A (reTextOf (.str x t)) Q E s:=by
 unfold reTextOf;exact aj (m:=asStr? (.str x t)) (wpAny_of_eq (a:=some x) rfl (az h))
theorem oq{p:Addr}{code:Array Nat}{x:Str}{t:Tok}{Q:ReTarget->Shared->Prop}(hp:ij s.heap p code)(h:Q { pattern:=.ref p,string:=.str x t,code,text:=x.cps,kind:=0,groups:=0,pos:=0,lim:=x.cps.size } s):wpAny (model prog w) A (reWholeTarget (.ref p) (.str x t)) Q E s:=by
 obtain⟨o,vs,wt,ow,words,n,a1,a2,a3,a4,a5,a6,a7,a8,a9,a10,a11⟩:=hp;unfold reWholeTarget;refine aj (wpAny_fieldsOf a1 a4 ?_);refine aj (rV ?_);rw[a7,a5,a6];simp only[show((0:Nat)==0)=true from rfl,show((0:Nat)==1)=false from rfl,Bool.and_false,Bool.false_and,jV,if_false];refine aj ?_;unfold reNoCollectionInside;simp only[show((0:Nat)==1)=false from rfl,jV,if_false];refine az ?_;unfold reRawItems;refine aj (aj (wpAny_seqItems a8 a9 (az ?_)));simp only[Option.getD_some,a11];exact az h
theorem og:entryFor table "re.Pattern.sub.loop" = some Builtin.«re.Pattern.sub.loop»:=by first | exact entryFor_of_fast (by kernel_rfl) | exact entryFor_of_tree (by kernel_rfl)
theorem wr:entryFor table "re.Pattern.sub" = some Builtin.«re.Pattern.sub»:=by first | exact entryFor_of_fast (by kernel_rfl) | exact entryFor_of_tree (by kernel_rfl)
theorem jA:Slot "re.Pattern" "sub" "re.Pattern.sub":=
 .of (owner := "re.Pattern") (n := "sub") (by rw[typeLookup_type,builtinLookup_eq_fast];kernel_rfl) (by decide +kernel) (by decide +kernel) (by decide +kernel)
  (by first | exact .inl (by decide +kernel) | exact .inr (by decide +kernel)) (by rw[isSubtype_type];kernel_rfl)
theorem qw:typeOf (.builtin "re.Pattern.sub")=pure (.type "method_descriptor"):=by kernel_rfl
theorem oz:PlainAttrs "re.Pattern":=
 ⟨⟨"object.__getattribute__", by rw[typeLookup_type,builtinLookup_eq_fast];kernel_rfl,by decide +kernel⟩,by rw[typeLookup_type,builtinLookup_eq_fast];kernel_rfl⟩
theorem zN(a b c:Value):argsOk "re.Pattern.sub" ⟨[a,b,c],[]⟩:=by
 unfold argsOk
 first
  |kernel_rfl
  |(split<;>kernel_rfl)
end
end
section
section
open PySem.Sre PySem.Builtin.Re
variable{prog:Program}{w:World}{A:Around}{E:Value->Shared->Prop}{s:Shared}
noncomputable def od(ys:List Str):List Nat:=(ys.map fun y=>y.cps.toList).flatten
theorem ka{y:Str}{t:Tok}{us:List Value}{ys:List Str}(r:StrsAre us ys):StrsAre (us++[.str y t]) (ys++[y]):=by
 induction r with
 |nil=>exact .cons _ _ .nil
 |cons _ _ _ ih=>exact .cons _ _ ih
theorem jh(sep:Str):∀(l:List Str) (acc:Array Nat),(l.foldl (fun acc p=>acc++sep.cps++p.cps) acc).toList=acc.toList++(l.map fun y=>sep.cps.toList++y.cps.toList).flatten:=by
 intro l
 induction l with
 |nil=>
  intro acc;exact by simp
 |cons y l jh=>
  intro acc;simp only[List.foldl_cons,jh];simp[bX]
theorem sS{sep:Str}(hs:sep.cps=#[])(ys:List Str):(Txt.join sep ys).cps.toList=od ys:=by
 show(Builtin.Str.glued sep ys).cps.toList=_;unfold Builtin.Str.glued od
 cases ys with
 |nil=>rfl
 |cons y ys=>
  simp only[List.headD_cons,List.drop_succ_cons,List.drop_zero];rw[jh,hs];simp
theorem yX(ys:List Str):(ys.map (·.length)).sum=(od ys).length:=by
 unfold od
 induction ys with
 |nil=>rfl
 |cons y ys ih=>simp only[bc,List.sum_cons,ih,bc,List.flatten_cons,aG];rfl
theorem pI{l:Addr}{vs:Array Value}{n:Nat}{v:Value}{Q:Unit->Shared->Prop}(hl:IsL s.heap l vs n)(hz:vs.size<=4194304)(h:∀h' n',IsL h' l (vs.push v) n'->Heap.SameBut l s.heap h'->Q () { s with heap:=h' }):wpAny (model prog w) A (updateSeq l (·.push v)) Q E s:=
 wpAny_updateSeq hl rfl (h _ _ (IsL.update hl _) (Heap.SameBut.update ..)) (by simp only[sizeLine];lia) (by show(vs.push v).size<=sizeLine+1;rw[Array.size_push];simp only[sizeLine];lia)
theorem ifp{α:Type}{c:Prop}[Decidable c]{m1 m2:Sem α}{Q:α->Shared->Prop}(hc:c)(k:wpAny (model prog w) A m1 Q E s):wpAny (model prog w) A (if c then m1 else m2) Q E s:=by rw[af hc];exact k
theorem ifq{α:Type}{c:Prop}[Decidable c]{m1 m2:Sem α}{Q:α->Shared->Prop}(hc:¬c)(k:wpAny (model prog w) A m2 Q E s):wpAny (model prog w) A (if c then m1 else m2) Q E s:=by rw[ag hc];exact k
theorem mq{cps:Array Nat}{a b:Nat}{Q:Value->Shared->Prop}(hz:(cps.extract a b).size<=1048576)(h:Q (.str ⟨cps.extract a b⟩ s.toks) { s with toks:=s.toks+1 }):wpAny (model prog w) A (reSlice cps 0 a b) Q E s:=by
 unfold reSlice;exact ifp rfl (wpAny_mkStr h (ai hz (by decide)))
theorem Cm{x:Str}{a b:Nat}(hx:x.cps.size<=1048576):(x.cps.extract a b).size<=1048576:=by rw[Array.size_extract];exact ai (Nat.sub_le _ _) (ai (Nat.min_le_right _ _) hx)
theorem vS{code:Array Nat}{x rp:Str}{out:Nat->List Nat}(H:nS code x.cps rp.cps.toList out){st:Nat}(hst:st<=x.cps.size){Q:Option M->Shared->Prop}(h1:∀m':M,st<=m'.start->m'.start<m'.handed->m'.handed<=x.cps.size->out st=(x.cps.extract st m'.start).toList++rp.cps.toList++out m'.handed->Q (some m') s)(h2:out st=(x.cps.extract st x.cps.size).toList->Q none s):wpAny (model prog w) A (reRunToEnd (forSearch code x.cps 0 st x.cps.size false)) Q E s:=by
 obtain⟨N,hN,hh⟩:=H st hst;rcases hh with⟨a,b,g1,g2,g3,hit,hout⟩ | ⟨miss,hout⟩
 ·exact sB hit hN fun m' e1 e2=>by subst e1 e2;exact h1 m' g1 g2 g3 hout
 ·exact qE miss hN (h2 hout)
theorem AS{code:Array Nat}{x rp:Str}{out:Nat->List Nat}(H:nS code x.cps rp.cps.toList out)(hx:x.cps.size<=1048576){p l:Addr}{tx tr:Tok}:
  ∀(k st:Nat) (c:Int) (tc td ts:Tok) (vs:Array Value) (n:Nat) (ys:List Str) (s:Shared) (R:Result->Shared->Prop) (A:Around),x.cps.size-st<=k->st<=x.cps.size->ij s.heap p code->IsL s.heap l vs n->StrsAre vs.toList ys->vs.size<=2*st->od ys++out st=out 0->(out 0).length<=16777216 ->
   (∀h' tk t (y:Str),(∀b o,b≠l->s.heap.get? b=some o->h'.get? b=some o)->y.cps.toList=out 0->R (.ok (.ret (.str y t))) { s with heap:=h',toks:=tk }) ->
   codeAny (model prog w) A (.builtin "re.Pattern.sub.loop" ⟨[.ref p,.str x tx,.str rp tr,.int 0 0,.int 0 0,.int c tc,.int st td,.int st ts,.bool false,.ref l,.bool false],[]⟩) R s:=by
 intro k
 induction k using Nat.strongRecOn with
 |ind k ih=>
  intro st c tc td ts vs n ys s R A hk hst hp hl hy hsz ho hol hR;obtain keepP:∀h':Heap,(∀b o,b≠l->s.heap.get? b=some o->h'.get? b=some o)->ij h' p code:=fun h' kk=>hp.keep fun b o e hc=>kk b o (fun q=>by rw[q,hl]at e;cases e;exact hc rfl) e;refine codeAny_builtin og ?_;unfold Builtin.«re.Pattern.sub.loop»;refine aj (oq hp (ifp rfl (aj (aj (m:=asStr? (.str rp tr)) (wpAny_of_eq (a:=some rp) rfl (ifq (by exact Bool.noConfusion) (az ?_)))))));refine aj (ifq (show ¬((0:Int)!=0&&decide (c≥0))=true by simp) (vS H hst (fun m' h1 h2 h3 hout=>?_) fun hout=>?_))
  ·have rest:∀(h1':Heap) (tk1:Nat) (vs1:Array Value) (n1:Nat) (ys1:List Str),(∀b o,b≠l->s.heap.get? b=some o->h1'.get? b=some o)->IsL h1' l vs1 n1->StrsAre vs1.toList ys1->vs1.size<=2*st+1->od ys1++rp.cps.toList++out m'.handed=out 0 ->
     wpAny (model prog w) (A.under (.builtin "re.Pattern.sub.loop" ⟨[.ref p,.str x tx,.str rp tr,.int 0 0,.int 0 0,.int c tc,.int st td,.int st ts,.bool false,.ref l,.bool false],[]⟩)) (do
      updateSeq l (·.push (.str rp tr))
      again (.builtin "re.Pattern.sub.loop" ⟨[.ref p,.str x tx,.str rp tr,rawInt 0,rawInt 0,rawInt (c+1),rawInt m'.handed,rawInt m'.handed,.bool (m'.handed==m'.start),.ref l,.bool false],[]⟩))
      (fun fin s'=>match fin with | .done f=>R (.ok f) s' | .again c'=>c'.quiet=true/\codeAny (model prog w) A c' R s') (fun e s'=>R (.error e) s') { s with heap:=h1',toks:=tk1 }:=by
    intro h1' tk1 vs1 n1 ys1 kk hl1 hy1 hs1 ho1;refine aj (pI (s:={ s with heap:=h1',toks:=tk1 }) hl1 (by lia) fun h2' n2 hl2 sb2=>?_);unfold again
    refine az ⟨Code.quiet_builtin _ (by decide +kernel),?_⟩;obtain hba:(m'.handed==m'.start)=false:=bK.mpr (Nat.ne_of_gt h2);rw[hba];obtain kk2:∀y o,y≠l->s.heap.get? y=some o->h2'.get? y=some o:=fun y o hb e=>(sb2.2 y hb).trans (kk y o hb e);refine ih (x.cps.size-m'.handed) (by lia) m'.handed (c+1) 0 0 0 (vs1.push (.str rp tr)) n2 (ys1++[rp]) { s with heap:=h2',toks:=tk1 } R A (bS _) h3 (keepP h2' kk2) hl2 (by rw[Array.toList_push];exact ka hy1) (by rw[Array.size_push];lia) ?_ hol fun h' tk t y k' hy'=>hR h' tk t y (fun z o hz e=>k' z o hz (kk2 z o hz e)) hy';unfold od at ho1 ⊢;rw[hU,List.flatten_append,bc,List.map_nil,List.flatten_cons,List.flatten_nil,bQ];exact ho1
   obtain hn0:(Value.str rp tr != Value.none)=true:=by simp
   by_cases hlt:st<m'.start
   ·refine ifp hlt (aj (mq (Cm hx) ?_))
    refine aj (pI (s:={ s with toks:=s.toks+1 }) hl (by lia) fun h1' n1 hl1 sb1=>?_);refine ifp rfl (aj (az (ifp hn0 ?_)));refine rest h1' _ (vs.push _) n1 (ys++[⟨x.cps.extract st m'.start⟩]) (fun y o hb e=>(sb1.2 y hb).trans e) hl1 (by rw[Array.toList_push];exact ka hy) (by rw[Array.size_push];lia) ?_;rw[<-ho,hout];unfold od;rw[hU,List.flatten_append,bc,List.map_nil,List.flatten_cons,List.flatten_nil,bQ];simp only[bX]
   ·refine ifq hlt (ifp rfl (aj (az (ifp hn0 ?_))))
    refine rest s.heap s.toks vs n ys (fun U U U e=>e) hl hy (by lia) ?_;have:st=m'.start:=by lia
    rw[<-ho,hout,this];simp
  ·have fin:∀(h1':Heap) (tk1:Nat) (vs1:Array Value) (n1:Nat) (ys1:List Str),(∀b o,b≠l->s.heap.get? b=some o->h1'.get? b=some o)->IsL h1' l vs1 n1->StrsAre vs1.toList ys1->od ys1=out 0 ->
     wpAny (model prog w) (A.under (.builtin "re.Pattern.sub.loop" ⟨[.ref p,.str x tx,.str rp tr,.int 0 0,.int 0 0,.int c tc,.int st td,.int st ts,.bool false,.ref l,.bool false],[]⟩)) (do
      let joiner <-reSlice x.cps 0 0 0
      let __do_lift <-seqItems? (.ref l)
      if((__do_lift).getD #[]).isEmpty=true then do
       let __do_lift <-pure joiner
       ret __do_lift
      else do
       let __do_lift <-call (.builtin (if((0:Nat)==0)=true then "str.join" else "bytes.join")) [joiner,.ref l]
       ret __do_lift)
      (fun fin s'=>match fin with | .done f=>R (.ok f) s' | .again c'=>c'.quiet=true/\codeAny (model prog w) A c' R s') (fun e s'=>R (.error e) s') { s with heap:=h1',toks:=tk1 }:=by
    intro h1' tk1 vs1 n1 ys1 kk hl1 hy1 ho1;refine aj (mq (by simp) ?_);refine aj (wpAny_seqItems (s:={ s with heap:=h1',toks:=tk1+1 }) hl1 rfl ?_);simp only[Option.getD_some];obtain he:(⟨x.cps.extract 0 0⟩:Str).cps=#[]:=by simp
    split
    ·rename_i hv
     obtain hv:vs1=#[]:=by simpa using hv
     subst hv
     cases hy1
     refine aj (az ?_);unfold ret;refine az ?_;exact hR h1' _ _ _ kk (by rw[<-ho1,he];rfl)
    ·rw[af (show((0:Nat)==0)=true from rfl)]
     refine aj (PyProof.Rows.join_list (s:={ s with heap:=h1',toks:=tk1+1 }) hl1.isList hy1 ?_ fun t' k'=>?_)
     ·rw[yX,ho1]
      have:(⟨x.cps.extract 0 0⟩:Str).length=0:=by show(⟨x.cps.extract 0 0⟩:Str).cps.size=0;rw[he];rfl
      rw[this];lia
     ·unfold ret
      exact az (hR h1' _ _ _ kk (by rw[sS he,ho1]))
   by_cases hlt:st<x.cps.size
   ·refine ifp hlt (aj (mq (Cm hx) ?_))
    refine aj (pI (s:={ s with toks:=s.toks+1 }) hl (by lia) fun h1' n1 hl1 sb1=>?_);refine fin h1' _ (vs.push _) n1 (ys++[⟨x.cps.extract st x.cps.size⟩]) (fun y o hb e=>(sb1.2 y hb).trans e) hl1 (by rw[Array.toList_push];exact ka hy) ?_;rw[<-ho,hout];unfold od;rw[hU,List.flatten_append,bc,List.map_nil,List.flatten_cons,List.flatten_nil,bQ]
   ·refine ifq hlt ?_
    refine fin s.heap s.toks vs n ys (fun U U U e=>e) hl hy ?_;have:st=x.cps.size:=by lia
    rw[<-ho,hout,this];simp
end
end
section
section
open PySem.Builtin.Re
variable{prog:Program}{w:World}{A:Around}{E:Value->Shared->Prop}{s:Shared}
theorem nV:typeLookup (.type "str") "__call__" = pure none:=by rw[typeLookup_type,builtinLookup_eq_fast];kernel_rfl
theorem xb{code:Array Nat}{x rp:Str}{out:Nat->List Nat}(H:nS code x.cps rp.cps.toList out)(hx:x.cps.size<=1048576)(hol:(out 0).length<=16777216)(h92:rp.cps.contains 92=false){p:Addr}{tx tr:Tok}{Q:Value->Shared->Prop}(hp:ij s.heap p code)(hQ:∀h' tk t (y:Str),(∀b o,s.heap.get? b=some o->h'.get? b=some o)->y.cps.toList=out 0->Q (.str y t) { s with heap:=h',toks:=tk }):wpAny (model prog w) A (call (.builtin "re.Pattern.sub") [.ref p,.str rp tr,.str x tx]) Q E s:=by
 obtain hT:s.TypeIs (.ref p) "re.Pattern":=by
  obtain⟨o,vs,wt,ow,words,n,a1,a2,_⟩:=hp;exact⟨o,a1,a2⟩
 refine wpAny_call (codeAny_call_builtin jA.plain wr (jA.check _ _ _ _ _ _ _ _ hT (zN _ _ _) ?_));unfold Builtin.«re.Pattern.sub» reSubstitute;dsimp only;refine aj (wpAny_of_eq (a:=[some (.str rp tr),some (.str x tx),none]) (by first | rfl | kernel_rfl) ?_);dsimp only;refine aj (az ?_);refine aj (wpAny_specialOf_val (T := "str") (r:=none) rfl nV ?_);simp only[Option.isSome_none,jV,if_false];refine aj (m:=asStr? (.str rp tr)) (wpAny_of_eq (a:=some rp) rfl ?_);dsimp only;rw[h92];refine aj (az ?_);simp only[Bool.not_false,if_true];refine aj (az ?_);dsimp only;refine aj (wpAny_holding (oq hp ?_));rw[ag (by decide)];refine aj (wpAny_newList ?_ (by show 0<=sizeLine;exact cO _));unfold again
 refine az ⟨Code.quiet_builtin _ (by decide +kernel),?_⟩;obtain keep:∀b o,s.heap.get? b=some o->(s.heap.push { cls:=.type "list", data:=.seq ([]:List Value).toArray }).get? b=some o:=fun b o e=>eP _ e;refine AS H hx (x.cps.size) 0 0 0 0 0 #[] 0 [] { s with heap:=s.heap.push { cls:=.type "list", data:=.seq ([]:List Value).toArray } } _ A (by lia) (cO _) (hp.keep fun b o e U=>keep b o e) (eO _ rfl) .nil (by simp) (by rfl) hol fun h' tk t y k' hy=>?_;exact hQ h' tk t y (fun b o e=>k' b o (fun q=>by rw[q,aR]at e;cases e) (keep b o e)) hy
end
noncomputable def xI(q:Nat->Pos):List Stmt:=[.Return (some (.Call (.Attribute (.Name "_twin_re_1" (q 0)) "sub" (q 1)) [.Constant (.str "..") 0 (q 2),.Call (.Attribute (.Name "_twin_re_2" (q 3)) "sub" (q 4)) [.Name "CRLF" (q 5),.Name "data" (q 6)] [] (q 7)] [] (q 8))) (q 9)]
noncomputable def Dq:Scope:={ kind:=.function,names:=[("data", .local),("_twin_re_1", .globalImplicit),("_twin_re_2", .globalImplicit),("CRLF", .globalImplicit)],isGenerator:=false,isCoroutine:=false,more:=[] }
noncomputable def F8:Cx:=ac Dq
noncomputable def qdF(x:V):Option V:=(lc x).bind fun l=>if l.length<=500000 then some (.str (fH l))else none
noncomputable def qdV(l:List V):Option V:=(one l).bind qdF
structure zU(W:Wp):Prop where
 p1:∃p,W.mg "_twin_re_1" = some (.ref p)/\∀h:Heap,(∀b o,b∉W.T->W.h0.get? b=some o->h.get? b=some o)->ij h p vW
 p2:∃p,W.mg "_twin_re_2" = some (.ref p)/\∀h:Heap,(∀b o,b∉W.T->W.h0.get? b=some o->h.get? b=some o)->ij h p nZ
 cr:Ex2 fun x t=>W.mg "CRLF" = some (.str x t)/\x.cps=#[13,10]
theorem zU.at'{W:Wp}{h:Heap}(k:∀b o,b∉W.T->W.h0.get? b=some o->h.get? b=some o)(x:zU W):zU (W.at' h):=
 ⟨(by obtain⟨p,a,b⟩:=x.p1;exact⟨p,a,fun h' k'=>b h' fun y o n e=>k' y o n (k y o n e)⟩),(by obtain⟨p,a,b⟩:=x.p2;exact⟨p,a,fun h' k'=>b h' fun y o n e=>k' y o n (k y o n e)⟩),x.cr⟩
theorem qK{h:Heap}{p:Addr}{code:Array Nat}{s:Shared}(hp:ij s.heap p code):s.TypeIs (.ref p) "re.Pattern"/\∀a,Value.ref p=.ref a->∃ob,s.heap.get? a=some ob/\ob.dict=none:=by
 refine byG fun gG kG=>?_;obtain⟨o,vs,wt,ow,words,n,a1,a2,a3,_⟩:=hp;refine kG ?_;exact⟨⟨o,a1,a2⟩,fun a e=>by cases e;exact⟨o,a1,a3⟩⟩
theorem F7{W:Wp}(G:WF W)(X:zU W){D:Nat}{q:Nat->Pos}(l1:((q 1).endLine==(q 8).line)=true)(l2:((q 4).endLine==(q 7).line)=true):SE W D F8 (.Call (.Attribute (.Name "_twin_re_1" (q 0)) "sub" (q 1)) [.Constant (.str "..") 0 (q 2),.Call (.Attribute (.Name "_twin_re_2" (q 3)) "sub" (q 4)) [.Name "CRLF" (q 5),.Name "data" (q 6)] [] (q 7)] [] (q 8))
  (fun ρ:Ro=>(ρ[0]?).bind fun sl=>(slV sl).bind qdF):=by
 intro A env ρ P s v Q E' ao hc pr hv h;refine aa hv fun sl hl hv=>aa hv fun x hx hv=>aa hv fun l hl' hv=>aO hv fun hz hv=>?_;rw[ke hx,j9 hl']at hl;obtain rfl:=al_0 hv;obtain hsl:(ac env.scope).slots[0]?=some (("data" : Str),false):=by rw[hc];rfl
 obtain⟨u,va,ru⟩:=pr.er 0 _ _ _ hsl hl;refine byG fun gG kG=>?_;obtain⟨x,tx,rfl,hx⟩:Ex2 fun x t=>u=.str x t/\x.cps.toList=_:=ru;obtain⟨p1,g1,P1⟩:=X.p1;obtain⟨p2,g2,P2⟩:=X.p2;obtain⟨cr,tcr,g3,hcr⟩:=X.cr;refine kG ?_;have hxs:x.cps.size=l.length:=by rw[<-hx,Array.length_toList]
 have gl:∀y:Str,F8.glob y=true->(ac env.scope).glob y=true:=fun y hy=>by rw[hc];exact hy
 refine wpAny_Call_method (jn rfl _ env) rfl l1 oz jA qw ?_;refine bh (bo G pr (gl _ (by rfl)) g1 ?_) (by decide);obtain t1:=qK (h:=s.heap) (P1 s.heap pr.ok.kept);refine⟨t1.1,t1.2,iS rfl (fX (dH ?_))⟩;refine wpAny_Constant_str (k:=0) (pos:=q 2) ?_;have pr1:Pre W P env ρ ({ s with toks:=s.toks+1 }:Shared).heap:=pr;refine dH (wpAny_Call_method (jn rfl _ env) rfl l2 oz jA qw ?_);refine bh (bo G pr1 (gl _ (by rfl)) g2 ?_) (by decide);obtain t2:=qK (s:={ s with toks:=s.toks+1 }) (h:=s.heap) (P2 s.heap pr.ok.kept);refine⟨t2.1,t2.2,iS rfl (fX (dH ?_))⟩;refine bh (bo G pr1 (gl _ (by rfl)) g3 ?_) (by decide);refine dH (bh (bf pr1 (by decide) va ?_) (by decide));refine fw ?_;obtain hsz2:x.cps.size<=1048576:=by lia
 have q2:(crGo false (x.cps.toList.drop 0)).length<=2*l.length:=by
  have:=jN false (x.cps.toList.drop 0);rw[List.drop_zero,hx]at this;rw[List.drop_zero,hx];exact this
 refine xb (s:={ s with toks:=s.toks+1 }) (rp:=cr) (x:=x) (out:=fun s=>crGo false (x.cps.toList.drop s)) (by rw[hcr];exact xt x.cps hsz2) hsz2 (by show(crGo false (x.cps.toList.drop 0)).length<=_;lia) (by rw[hcr];decide +kernel) (P2 s.heap pr.ok.kept) fun h1 tk1 t3 y k1 hy=>?_;refine fw ?_;obtain hys:y.cps.size<=1048576:=by
  rw[<-Array.length_toList,hy];show(crGo false (x.cps.toList.drop 0)).length<=_;lia
 obtain hb0:bol y.cps 0=true:=rfl;have q3:(bp (bol y.cps 0) (y.cps.toList.drop 0)).length<=4*l.length:=by
  have:=iB (bol y.cps 0) (y.cps.toList.drop 0);rw[List.drop_zero]at this ⊢;rw[hy]at this ⊢;show(bp _ (crGo false (x.cps.toList.drop 0))).length<=_;have a:(bp (bol y.cps 0) (crGo false (x.cps.toList.drop 0))).length<=2*(crGo false (x.cps.toList.drop 0)).length:=this;lia
 obtain K1:KX W s.heap h1:=KX.of_all G pr.ok.ti k1;refine xb (s:={ s with heap:=h1,toks:=tk1 }) (rp:=PySem.Str.ofString "..") (x:=y) (out:=fun s=>bp (bol y.cps s) (y.cps.toList.drop s)) (by exact xu y.cps hys) hys (by show(bp (bol y.cps 0) (y.cps.toList.drop 0)).length<=_;lia) (by decide +kernel) ((P1 s.heap pr.ok.kept).keep fun b o e U=>k1 b o e) fun h2 tk2 t4 z k2 hz'=>?_;refine h _ h2 tk2 (K1.trans (KX.of_all G K1.ti k2)) ?_;refine Ex2.mk z t4 ⟨rfl,?_⟩;rw[hz'];show bp (bol y.cps 0) (y.cps.toList.drop 0)=fH l;rw[List.drop_zero,hy,hb0];show bp true (crGo false (x.cps.toList.drop 0))=fH l;rw[List.drop_zero,hx];rfl
theorem Dp{W:Wp}(G:WF W)(X:zU W){a:Addr}{q:Nat->Pos}(l1:((q 1).endLine==(q 8).line)=true)(l2:((q 4).endLine==(q 7).line)=true)(F:eQ W a ["data"] (xI q) Dq):Cal W 3 a qdV:=by
 have:=yU G (D:=2) F (φ:=fun ρ=>((ρ[0]?).bind fun sl=>(slV sl).bind qdF).map fun v=>Out.ret v ρ) fun h k=>by
  intro A env ρ P s o Q E' ao fo hc pr ho _ hQ;refine byG fun gG kG=>?_;obtain⟨v,hv,rfl⟩:=bj.mp ho;refine kG ?_;refine aF (wpAny_Return_some (F7 (W:=W.at' h) (G.at' k) (X.at' k) l1 l2 A env ρ P s v _ E' ao hc pr hv fun u h1 tk1 K1 r1=>?_));exact hQ u P h1 tk1 (pr.step K1) (Stp.kx (G.at' k) pr K1) r1
 refine this.sub fun l v e=>aa e fun x hx e=>?_;rw[aX hx];exact(aq (fun o=>(Option.map (fun v=>Out.ret v [.val x]) o).bind w5) e:_)
end
section
theorem ma:2<=szLine:=by decide
noncomputable abbrev jv(i:Int):Sl:=.val (.int i)
noncomputable def Ret(Φ:Fun)(N:Nat)(ss:List S)(ρ:Ro)(v:V):Prop:=∃ρ',exs Φ N ss ρ=some (.ret v ρ')
section
variable{Φ:Fun}{N:Nat}{ρ ρ':Ro}{r:List S}{v x y:V}{e a b:E}{c:B}{s t:List S}{l m:List V}{is:List Nat}{i:Nat}{op:Operator}{u:UnaryOp}{co:CmpOp}{o:Bool}
theorem bd{α β:Type}{o:Option α}{x:α}{f:α->Option β}(h:o=some x):o.bind f=f x:=h▸rfl
theorem ae{x:S}(h:ex Φ N x ρ=some (.nxt ρ')):exs Φ N (x::r) ρ=exs Φ N r ρ':=bd h
theorem pZ{x:S}(h:ex Φ N x ρ=some (.ret v ρ')):exs Φ N (x::r) ρ=some (.ret v ρ'):=bd h
theorem sT(h:evb Φ c (frz (gk c) ρ)=some false):ex Φ N (.ite c s t) ρ=exs Φ N t (frz (gk c) ρ):=bd h
theorem xq(h:i<ρ.length):nY i v ρ=some (ρ.set i (.val v)):=af h
theorem kE(hx:ρ[i]?=some (.val x))(he:ev Φ e (frz (av e) ρ)=some y)(hv:kz op x y=some v)(hi:i<(frz (av e) ρ).length):ex Φ N (.aug i op e) ρ=some (.nxt ((frz (av e) ρ).set i (.val v))):=
 (bd hx).trans ((bd he).trans ((bd hv).trans (aq _ (xq hi))))
theorem bO(he:ev Φ e (frz (av e) ρ)=some v)(hi:i<(frz (av e) ρ).length):ex Φ N (.asg i e) ρ=some (.nxt ((frz (av e) ρ).set i (.val v))):=
 (bd he).trans (aq _ (xq hi))
theorem tq(he:ev Φ e (frz (av e) ρ)=some (.lst l))(hi:i<ρ.length):ex Φ N (.own i e) ρ=some (.nxt ((frz (av e) ρ).set i (.own l))):=(bd he).trans (af hi)
theorem kF(he:ev Φ e (frz (av e) ρ)=some v)(hl:(frz (av e) ρ)[i]?=some (.own l))(hi:l.length<szLine):ex Φ N (.app i e) ρ=some (.nxt ((frz (av e) ρ).set i (.own (l++[v])))):=
 (bd he).trans ((bd hl).trans (af hi))
theorem to(he:ev Φ e (frz (av e) ρ)=some (.tup l))(hb:fC (.many is) (.tup l) (frz (av e) ρ)=some ρ'):ex Φ N (.unp is e) ρ=some (.nxt ρ'):=
 (bd he).trans (aq (Option.map Out.nxt) hb)
theorem dG{p:Pat}{it:It}{b:List S}{items:List V}(hi:eu Φ it (frz (sF it) ρ)=some items):ex Φ N (.forr p it b) ρ=fj p (fun ρ=>exs Φ N b ρ) items (frz (sF it) ρ):=bd hi
theorem Ret.nxt{z:S}(h:ex Φ N z ρ=some (.nxt ρ'))(k:Ret Φ N r ρ' v):Ret Φ N (z::r) ρ v:=k.imp fun U e=>(ae h).trans e
theorem Ret.asg(hf:frz (av e) ρ=ρ)(he:ev Φ e ρ=some x)(hs:nY i x ρ=some ρ')(k:Ret Φ N r ρ' v):Ret Φ N (.asg i e::r) ρ v:=
 .nxt (by show Option.bind (ev Φ e (frz (av e) ρ)) (fun v=>(nY i v (frz (av e) ρ)).map Out.nxt)=_;rw[hf,he];exact aq (Option.map Out.nxt) hs) k
theorem Ret.unp(hf:frz (av e) ρ=ρ)(he:ev Φ e ρ=some (.tup l))(hs:fC (.many is) (.tup l) ρ=some ρ')(k:Ret Φ N r ρ' v):Ret Φ N (.unp is e::r) ρ v:=
 .nxt (by show Option.bind (ev Φ e (frz (av e) ρ)) (fun v=>(rJ v).bind fun l=>(fC (.many is) (.tup l) (frz (av e) ρ)).map Out.nxt)=_;rw[hf,he];exact aq (Option.map Out.nxt) hs) k
theorem Ret.ret(hf:frz (av e) ρ=ρ)(he:ev Φ e ρ=some v):Ret Φ N (.ret e::r) ρ v:=
 ⟨ρ,pZ (by show Option.map (fun v=>Out.ret v (frz (av e) ρ)) (ev Φ e (frz (av e) ρ))=_;rw[hf,he];rfl)⟩
theorem eL{ro:Option Out}(hf:frz (gk c) ρ=ρ)(hc:evb Φ c ρ=some o)(k:(bif o then exs Φ N s ρ else exs Φ N t ρ)=ro):ex Φ N (.ite c s t) ρ=ro:=
 by show Option.bind (evb Φ c (frz (gk c) ρ)) (fun o=>bif o then exs Φ N s (frz (gk c) ρ)else exs Φ N t (frz (gk c) ρ))=_;rw[hf,hc];exact k
theorem Ret.itT(hf:frz (gk c) ρ=ρ)(hc:evb Φ c ρ=some true)(k:Ret Φ N s ρ v):Ret Φ N (.ite c s t::r) ρ v:=k.imp fun U e=>pZ (eL hf hc e)
theorem Ret.itF(hf:frz (gk c) ρ=ρ)(hc:evb Φ c ρ=some false)(k:Ret Φ N t ρ v):Ret Φ N (.ite c s t::r) ρ v:=k.imp fun U e=>pZ (eL hf hc e)
theorem Ret.itN(hf:frz (gk c) ρ=ρ)(hc:evb Φ c ρ=some o)(hn:(bif o then exs Φ N s ρ else exs Φ N t ρ)=some (.nxt ρ'))(k:Ret Φ N r ρ' v):Ret Φ N (.ite c s t::r) ρ v:=.nxt (eL hf hc hn) k
theorem Ret.itNT(hf:frz (gk c) ρ=ρ)(hc:evb Φ c ρ=some true)(hn:exs Φ N s ρ=some (.nxt ρ'))(k:Ret Φ N r ρ' v):Ret Φ N (.ite c s t::r) ρ v:=.nxt (eL hf hc hn) k
noncomputable def evp(Φ:Fun)(e:E)(ρ:Ro):Option V:=pk e ρ (ev Φ e ρ)
theorem aP(ha:evp Φ a ρ=some x)(hb:evp Φ b ρ=some y)(h:bR op x y=some v):ev Φ (.bin op a b) ρ=some v:=(bd ha).trans ((bd hb).trans h)
theorem lx(ha:ev Φ a ρ=some x)(h:unV u x=some v):ev Φ (.un u a) ρ=some v:=(bd ha).trans h
theorem l5(ha:evp Φ a ρ=some x)(hb:ev Φ b ρ=some y)(h:mi x y=some v):ev Φ (.sub a b) ρ=some v:=(bd ha).trans ((bd hb).trans h)
theorem cQ{f:Nat}{es:List E}(ha:evs Φ es ρ=some l)(h:Φ f l=some v):ev Φ (.call f es) ρ=some v:=(bd ha).trans h
theorem zm{f:Bi}{es:List E}(ha:q7 Φ es ρ=some l)(h:biV f l=some v):ev Φ (.bi f es) ρ=some v:=(bd ha).trans h
theorem tC{f:Mt}{es:List E}(ho:evp Φ a ρ=some x)(ha:q7 Φ es ρ=some l)(h:mtV f x l=some v):ev Φ (.meth f a es) ρ=some v:=(bd ho).trans ((bd ha).trans h)
theorem ni(hc:evb Φ c ρ=some o)(h:(bif o then ev Φ a ρ else ev Φ b ρ)=some v):ev Φ (.ife c a b) ρ=some v:=(bd hc).trans h
theorem aL(ha:evp Φ a ρ=some x)(hb:evp Φ b ρ=some y)(h:bR op x y=some v):evp Φ (.bin op a b) ρ=some v:=(rfl:evp Φ (.bin op a b) ρ=ev Φ (.bin op a b) ρ).trans (aP ha hb h)
theorem fO(ha:evp Φ a ρ=some x)(hb:ev Φ b ρ=some y)(h:mi x y=some v):evp Φ (.sub a b) ρ=some v:=(rfl:evp Φ (.sub a b) ρ=ev Φ (.sub a b) ρ).trans (l5 ha hb h)
theorem bZ{f:Nat}{es:List E}(ha:evs Φ es ρ=some l)(h:Φ f l=some v):evp Φ (.call f es) ρ=some v:=(rfl:evp Φ (.call f es) ρ=ev Φ (.call f es) ρ).trans (cQ ha h)
theorem xP{f:Bi}{es:List E}(ha:q7 Φ es ρ=some l)(h:biV f l=some v):evp Φ (.bi f es) ρ=some v:=(rfl:evp Φ (.bi f es) ρ=ev Φ (.bi f es) ρ).trans (zm ha h)
theorem oQ{es:List E}(h:evs Φ es ρ=some l)(hl:l.length<=szLine):ev Φ (.tuple es) ρ=some (.tup l):=(bd h).trans (af hl)
theorem nh{es:List E}(h:evs Φ es ρ=some l)(hl:l.length<=szLine):ev Φ (.list es) ρ=some (.lst l):=(bd h).trans (af hl)
theorem am{es:List E}(h:ev Φ e ρ=some x)(k:evs Φ es ρ=some l):evs Φ (e::es) ρ=some (x::l):=(bd h).trans (aq _ k)
theorem f7{es:List E}(h:evp Φ e ρ=some x)(k:q7 Φ es ρ=some l):q7 Φ (e::es) ρ=some (x::l):=(bd h).trans (aq _ k)
theorem jj{ks:List (Option Nat)}{p:Pat}{it:It}{ifs:List B}{items:List V}(hi:eu Φ it ρ=some items)(hf:fmM items (me p (fun ρ=>rt Φ ifs ρ) (capt ks ρ) fun ρ=>(ev Φ e ρ).map fun v=>[v])=some l)(hl:l.length<=szLine):ev Φ (.comp1 ks p it ifs e) ρ=some (.lst l):=(bd hi).trans ((bd hf).trans (af hl))
theorem kT{p:Pat}{ifs:List B}(hb:fC p x ρ=some ρ')(ht:rt Φ ifs ρ'=some true)(he:ev Φ e ρ'=some v):me p (fun ρ=>rt Φ ifs ρ) ρ (fun ρ=>(ev Φ e ρ).map fun v=>[v]) x=some [v]:=(bd hb).trans ((bd ht).trans (aq (Option.map _) he))
theorem uN{es:List E}(h:evs Φ es ρ=some l)(hr:pE l=some m):eu Φ (.range es) ρ=some m:=(bd h).trans hr
theorem aN{i:Nat}(h:ρ[i]?=some (.val x)):evp Φ (.var i) ρ=some x:=bd h
theorem Fi{i:Nat}(h:ρ[i]?=some (.own l)):evp Φ (.var i) ρ=some (.lst l):=bd h
theorem dA{i:Nat}(h:ρ[i]?=some (.val x)):ev Φ (.var i) ρ=some x:=bd h
theorem bC(ha:evp Φ a ρ=some x)(hb:evp Φ b ρ=some y)(h:lz co x y=some o):evb Φ (.cmp co a b) ρ=some o:=(bd ha).trans ((bd hb).trans h)
end
section
variable{x y:Int}{h:Nat}
theorem aW(n:Nat):(0:Int)<2^n:=fU (by decide)
theorem aK{a:Int}{m:Nat}(h0:0<=a)(h:a<2^m):ibits a<=m:=dO h0 h
theorem wI(hb:ibits x+h<=134217728):(ibits x:Int)+h<=134217728:=cP.mpr hb
theorem kg(hb:ibits x+h<=134217728):bR .LShift (.int x) (.int h)=some (.int (x*2^h)):=aq (Option.map V.int) (af ⟨cF h,wI hb⟩)
theorem kf:bR .RShift (.int x) (.int h)=some (.int (x/2^h)):=
 by show Option.map V.int (if(0:Int)<=(h:Int)then some (x.fdiv (2^(h:Int).toNat))else none)=_;rw[af (cF h),Int.toNat_natCast,lg x (ay (aW h))];rfl
theorem tN(hx:0<=x):bR .BitAnd (.int x) (.int (2^h-1))=some (.int (x%2^h)):=aq (fun z=>some (V.int z)) (rL h hx)
theorem C5(hx:0<=x)(hy:0<=y)(hl:y<2^h):bR .BitOr (.int (x*2^h)) (.int y)=some (.int (x*2^h+y)):=aq (fun z=>some (V.int z)) (xV h hx hy hl)
theorem dE(hb:ibits x+ibits y<=134217728):bR .Mult (.int x) (.int y)=some (.int (x*y)):=aq (Option.map V.int) (af hb)
theorem DD(h:y≠0):bR .Mod (.int x) (.int y)=some (.int (x.fmod y)):=aq (Option.map V.int) (ag h)
theorem AN{n k:Nat}(h:0<k):bR .Mod (.int n) (.int k)=some (.int (n%k:Nat)):=
 (DD (fun e=>Nat.ne_of_gt h (Int.ofNat.inj e))).trans (aq (fun z=>some (V.int z)) (Int.fmod_eq_emod_of_nonneg _ (cF k)))
theorem uB{Φ:Fun}{ρ:Ro}{i:Nat}(hi:ρ[i]?=some (jv h))(hh:h<=1000000):ev Φ (.bin .Sub (.bin .LShift (.const (.int 1)) (.var i)) (.const (.int 1))) ρ=some (.int (2^h-1)):=by
 obtain e:evp Φ (.var i) ρ=some (.int h):=by show Option.bind (ρ[i]?) slP=_;rw[hi];rfl
 obtain sh:bR .LShift (.int 1) (.int h)=some (.int (1*2^h)):=kg (ai (Nat.add_le_add (show ibits 1<=1 by decide) hh) (by decide));obtain e1:ev Φ (.bin .LShift (.const (.int 1)) (.var i)) ρ=some (.int (1*2^h)):=aP rfl e sh;obtain e2:bR .Sub (.int (1*2^h)) (.int 1)=some (.int (2^h-1)):=aq (fun z=>some (V.int (z-1))) (bU _);exact aP e1 rfl e2
end
theorem dh{a b q r:Int}(h:q*b+r=a)(h0:0<=r)(h1:r<b):a/b=q/\a%b=r:=by
 obtain hb:0<b:=gA h0 h1;subst h;constructor
 ·rw[Int.add_comm,Int.add_mul_ediv_right _ _ (bW hb),Int.ediv_eq_zero_of_lt h0 h1,fv]
 ·rw[Int.add_comm,Int.add_mul_emod_self_right,Int.emod_eq_of_lt h0 h1]
noncomputable def fM:List S:=[
 .ite (.cmp .LtE (.bin .Sub (.meth .bitLength (.var 0) []) (.var 2)) (.const (.int 4000))) [.ret (.bi .divmod [(.var 0),(.var 1)])] [],
 .asg 3 (.bin .BitAnd (.var 2) (.const (.int 1))),
 .ite (.val (.var 3)) [.aug 0 .LShift (.const (.int 1)),.aug 1 .LShift (.const (.int 1)),.aug 2 .Add (.const (.int 1))] [],
 .asg 4 (.bin .RShift (.var 2) (.const (.int 1))),
 .asg 5 (.bin .Sub (.bin .LShift (.const (.int 1)) (.var 4)) (.const (.int 1))),
 .unp [6,7] (.tuple [(.bin .RShift (.var 1) (.var 4)),(.bin .BitAnd (.var 1) (.var 5))]),
 .unp [8,9] (.call 1 [(.bin .RShift (.var 0) (.var 2)),(.bin .BitAnd (.bin .RShift (.var 0) (.var 4)) (.var 5)),(.var 1),(.var 6),(.var 7),(.var 4)]),
 .unp [10,9] (.call 1 [(.var 9),(.bin .BitAnd (.var 0) (.var 5)),(.var 1),(.var 6),(.var 7),(.var 4)]),
 .ite (.val (.var 3)) [.aug 9 .RShift (.const (.int 1))] [],
 .ret (.tuple [(.bin .BitOr (.bin .LShift (.var 8) (.var 4)) (.var 10)),(.var 9)])]
noncomputable def fL:List S:=[
 .ite (.cmp .Eq (.bin .RShift (.var 0) (.var 5)) (.var 3)) [.unp [6,7] (.tuple [(.bin .Sub (.bin .LShift (.const (.int 1)) (.var 5)) (.const (.int 1))),(.bin .Add (.bin .Sub (.var 0) (.bin .LShift (.var 3) (.var 5))) (.var 3))])] [.unp [6,7] (.call 0 [(.var 0),(.var 3),(.var 5)])],
 .asg 7 (.bin .Sub (.bin .BitOr (.bin .LShift (.var 7) (.var 5)) (.var 1)) (.bin .Mult (.var 6) (.var 4))),
 .whil (.cmp .Lt (.var 7) (.const (.int 0))) [.aug 6 .Sub (.const (.int 1)),.aug 7 .Add (.var 2)],
 .ret (.tuple [(.var 6),(.var 7)])]
structure D2(K:Nat)(a b n:Int):Prop where
 a0:0<=a
 n1:1<=n
 nK:n<=4000*2^K
 nL:n<=1000000
 bl:2^(n.toNat-1)<=b
 bu:b<2^n.toNat
 ab:a<2^n.toNat*b
noncomputable def zr(K:Nat)(a b n:Int):Option V:=open Classical in if D2 K a b n then some (.tup [.int (a/b),.int (a%b)])else none
noncomputable def ES:List Int->Option (Int×Int×Int)
 |[a,b,n]=>some (a,b,n)
 |_=>none
noncomputable def six:List Int->Option (Int×Int×Int×Int×Int×Int)
 |[a,b,c,d,e,f]=>some (a,b,c,d,e,f)
 |_=>none
noncomputable def Fu(l:List V):Option (Int×Int×Int):=(cJ l).bind ES
noncomputable def Ft(l:List V):Option (Int×Int×Int×Int×Int×Int):=(cJ l).bind six
noncomputable def l7(K:Nat)(l:List V):Option V:=(Fu l).bind fun q=>zr K q.1 q.2.1 q.2.2
structure D3(K:Nat)(a12 a3 b b1 b2 n:Int):Prop where
 a0:0<=a12
 n1:1<=n
 nK:n<=4000*2^K
 nL:n<=1000000
 b1l:2^(n.toNat-1)<=b1
 b1u:b1<2^n.toNat
 b20:0<=b2
 b2u:b2<2^n.toNat
 hb:b=b1*2^n.toNat+b2
 ab:a12<b
 a30:0<=a3
 a3u:a3<2^n.toNat
noncomputable def zq(K:Nat)(a12 a3 b b1 b2 n:Int):Option V:=open Classical in if D3 K a12 a3 b b1 b2 n then some (.tup [.int ((a12*2^n.toNat+a3)/b),.int ((a12*2^n.toNat+a3)%b)])else none
noncomputable def rC(K:Nat)(l:List V):Option V:=(Ft l).bind fun q=>zq K q.1 q.2.1 q.2.2.1 q.2.2.2.1 q.2.2.2.2.1 q.2.2.2.2.2
theorem ve{K:Nat}{a b n:Int}(h:D2 K a b n):l7 K [.int a,.int b,.int n]=some (.tup [.int (a/b),.int (a%b)]):=af h
theorem v9{K:Nat}{a12 a3 b b1 b2 n:Int}(h:D3 K a12 a3 b b1 b2 n):rC K [.int a12,.int a3,.int b,.int b1,.int b2,.int n]=some (.tup [.int ((a12*2^n.toNat+a3)/b),.int ((a12*2^n.toNat+a3)%b)]):=af h
end
section
theorem Cw{α:Type}{b:Bool}{x y:α}(h:b=true):(bif b then x else y)=x:=h▸rfl
theorem oY{α:Type}{b:Bool}{x y:α}(h:b=false):(bif b then x else y)=y:=h▸rfl
section
variable{Φ:Fun}{s0 s1 s3 s4 s5:Sl}
theorem Gs{b A:Int}(hb:0<b):∀(k:Nat) (q r:Int),q*b+r=A->r<b->0<=r+k*b ->
  qU (fun ρ=>evb Φ (.cmp .Lt (.var 7) (.const (.int 0))) ρ) (fun ρ=>exs Φ 8 [.aug 6 .Sub (.const (.int 1)),.aug 7 .Add (.var 2)] ρ) (k+1) [s0,s1,jv b,s3,s4,s5,jv q,jv r]=some (.nxt [s0,s1,jv b,s3,s4,s5,jv (A/b),jv (A%b)]):=by
 have stop:∀(k:Nat) (q r:Int),q*b+r=A->r<b->0<=r ->
   qU (fun ρ=>evb Φ (.cmp .Lt (.var 7) (.const (.int 0))) ρ) (fun ρ=>exs Φ 8 [.aug 6 .Sub (.const (.int 1)),.aug 7 .Add (.var 2)] ρ) (k+1) [s0,s1,jv b,s3,s4,s5,jv q,jv r]=some (.nxt [s0,s1,jv b,s3,s4,s5,jv (A/b),jv (A%b)]):=fun k q r h1 h2 h0=>by
  obtain e1:=(dh h1 h0 h2).1;obtain e2:=(dh h1 h0 h2).2;simp only[e1,e2];exact oY (cY (Int.not_lt.mpr h0))
 intro k
 induction k with
 |zero=>exact fun q r h1 h2 h3=>stop 0 q r h1 h2 (by simp only[Int.natCast_zero,Int.zero_mul,Int.add_zero]at h3;exact h3)
 |succ k ih=>
  intro q r h1 h2 h3;by_cases h0:r<0
  ·exact(Cw (dp h0)).trans (ih (q-1) (r+b) (by simp only[Int.sub_mul,bU,<-h1];lia) (by lia) (by simp only[Int.natCast_succ,Int.add_mul,bU]at h3;lia))
  ·exact stop (k+1) q r h1 h2 (Int.not_lt.mp h0)
theorem oR{a12 a3 b b1 b2 q r:Int}{m:Nat}(hm1:1<=m)(hm:m<=1000000)(q0:0<=q)(qu:q<2^m)(hqr:q*b1+r=a12)(r0:0<=r)(ru:r<2^(2*m+2))(hlt:r*2^m+a3-q*b2<b)(hb:b=b1*2^m+b2)(b1l:2^(m-1)<=b1)(b20:0<=b2)(b2u:b2<2^m)(a30:0<=a3)(a3u:a3<2^m):
  Ret Φ 8 fL.tail [jv a12,jv a3,jv b,s3,jv b2,jv m,jv q,jv r] (.tup [.int ((a12*2^m+a3)/b),.int ((a12*2^m+a3)%b)]):=by
 obtain h3:(2:Int)^m=2*2^(m-1):=by
  conv=>lhs;rw[<-Nat.sub_add_cancel hm1]
  rw[Int.pow_succ,bL]
 obtain pP:=aW m;obtain i1:ibits r+m<=134217728:=by have:=aK r0 ru;lia
 obtain i2:ibits q+ibits b2<=134217728:=by
  obtain a:=aK q0 qu;obtain b:=aK b20 b2u;lia
 obtain eor:=C5 r0 a30 a3u;obtain esh:=kg i1;obtain hA:q*b+(r*2^m+a3-q*b2)=a12*2^m+a3:=by
  rw[hb,<-hqr,Int.mul_add,Int.add_mul,fE];lia
 generalize hP:(2:Int)^m=P at *;generalize (2:Int)^(m-1)=H at *;obtain hlow:0<=(r*P+a3-q*b2)+(7:Nat)*b:=by
  obtain h1:q*b2<=P*P:=Int.mul_le_mul (ay qu) (ay b2u) b20 (ay pP);obtain h2:H*P<=b1*P:=eD b1l (ay pP);obtain h4:P*P=2*(H*P):=(aq (·*P) h3).trans (fE ..);obtain h5:0<=r*P:=bJ r0 (ay pP);lia
 obtain hbp:0<b:=by
  have:0<H:=by lia
  have:0<b1*P:=Int.mul_pos (by lia) pP;lia
 exact Ret.asg rfl (aP (aL (aL rfl rfl esh) rfl eor) (aL rfl rfl (dE i2)) rfl) rfl (.nxt (Gs hbp 7 q _ hA hlt hlow) (.ret rfl rfl))
theorem wy(K:Nat)(h0:∀l v,l7 K l=some v->Φ 0 l=some v){a12 a3 b b1 b2 n:Int}(h:D3 K a12 a3 b b1 b2 n):
  Ret Φ 8 fL [jv a12,jv a3,jv b,jv b1,jv b2,jv n,.unb,.unb] (.tup [.int ((a12*2^n.toNat+a3)/b),.int ((a12*2^n.toNat+a3)%b)]):=by
 obtain⟨m,rfl⟩:=lh (aY (by decide) h.n1);show Ret Φ 8 fL [jv a12,jv a3,jv b,jv b1,jv b2,jv (m:Int),.unb,.unb] (.tup [.int ((a12*2^m+a3)/b),.int ((a12*2^m+a3)%b)]);obtain hm1:1<=m:=cP.mp h.n1;obtain hm:m<=1000000:=cP.mp h.nL;obtain b1l:2^(m-1)<=b1:=h.b1l;obtain b1u:b1<2^m:=h.b1u;obtain b2u:b2<2^m:=h.b2u;obtain hb:b=b1*2^m+b2:=h.hb;obtain ab:=h.ab;obtain a3u:a3<2^m:=h.a3u;obtain b10:0<b1:=eI (aW _) b1l;obtain pm:=aW m;obtain hpow:(2:Int)^(2*m+2)=2^m*2^m*4:=by rw[fV,Nat.two_mul,fV];rfl
 obtain hpm1:(2:Int)^m<=2^m*2^m:=by
  have:(2:Int)^m*1<=2^m*2^m:=cC pm (ay pm)
  rwa [Int.mul_one]at this
 obtain c:evb Φ (.cmp .Eq (.bin .RShift (.var 0) (.var 5)) (.var 3)) [jv a12,jv a3,jv b,jv b1,jv b2,jv (m:Int),.unb,.unb]=some (a12/2^m==b1):=bC (aL rfl rfl kf) rfl rfl;obtain hdm:=i6 a12 (2^m);obtain hm0:=eF a12 (bW pm);obtain hm2:=eE a12 pm;obtain b20:=h.b20;obtain a30:=h.a30;by_cases hc:a12/2^m=b1
 ·rw[beq_iff_eq.mpr hc]at c
  obtain hge:b1*2^m<=a12:=by rw[bL,<-hc];lia
  refine Ret.itN rfl c ((ae (to (oQ (am (uB rfl hm) (am (aP (aL rfl (aL rfl rfl (kg ?_)) rfl) rfl rfl) rfl)) (by exact ma)) rfl)).trans rfl) (oR hm1 hm ?_ ?_ ?_ ?_ ?_ ?_ hb b1l b20 b2u a30 a3u)
  ·have:=aK (ay b10) b1u;lia
  ·lia
  ·lia
  ·rw[Int.sub_mul,bU,bL];lia
  ·lia
  ·lia
  ·obtain e:(a12-b1*2^m+b1)*2^m+a3-(2^m-1)*b2=(a12*2^m+a3)-(2^m-1)*b:=by
    rw[hb];simp only[Int.sub_mul,Int.add_mul,Int.mul_add,Int.mul_sub,bU];obtain x1:b1*2^m*2^m=2^m*(b1*2^m):=bL _ _;lia
   rw[e,Int.sub_mul,bU];obtain h1:(a12+1)*2^m<=b*2^m:=eD ab (ay pm);rw[Int.add_mul,bU,bL b]at h1;lia
 ·rw[bK.mpr hc]at c
  obtain hlt:a12<2^m*b1:=by
   obtain h1:a12<(b1+1)*2^m:=by rw[Int.add_mul,bU];lia
   obtain h2:a12/2^m<b1+1:=jT pm h1;obtain h1:2^m*(a12/2^m+1)<=2^m*b1:=cC (by lia) (ay pm);rw[Int.mul_add,Int.mul_one]at h1;lia
  obtain q0:0<=a12/b1:=Int.ediv_nonneg h.a0 (ay b10);obtain q1:a12/b1<2^m:=jT b10 hlt;obtain r0:=eF a12 (bW b10);obtain r1:=eE a12 b10;refine Ret.itN rfl c ((ae (to (cQ (am rfl (am rfl (am rfl rfl))) (h0 _ _ (ve ⟨h.a0,h.n1,h.nK,h.nL,b1l,b1u,hlt⟩))) rfl)).trans rfl) (oR hm1 hm q0 q1 ?_ r0 ?_ ?_ hb b1l b20 b2u a30 a3u)
  ·have:=i6 a12 b1
   rw[bL];lia
  ·lia
  ·obtain h1:(a12%b1+1)*2^m<=b1*2^m:=eD r1 (ay pm)
   rw[Int.add_mul,bU]at h1;obtain h2:0<=a12/b1*b2:=bJ q0 b20;lia
end
end
section
theorem rg{b:Int}{n:Nat}(h:2^n<=b):n+1<=ibits b:=by
 obtain pb:0<=b:=aY (ay (aW n)) h;refine Nat.lt_of_not_le fun h1=>absurd (eI (fh pb) ?_) (Int.not_lt.mpr h);have:2^ibits b<=2^n:=i0 (by decide) h1
 exact_mod_cast this
theorem kA{a:Int}(h:0<a):ibits a=a.natAbs.log2+1:=
 have q:¬(a==0)=true:=fun e=>bW h (aB e)
 ag q
theorem w6{a b:Int}(ha:0<=a)(hb:0<b)(h:ibits a<=ibits b+4000):Builtin.divisionGoesByPylong a b=false:=by
 unfold Builtin.divisionGoesByPylong;obtain e1:=kA hb;obtain hb0:¬(b==0)=true:=fun e=>bW hb (aB e);rw[Bool.and_eq_false_iff];right;refine cY (p:=(if(a==0)=true then 0 else a.natAbs.log2/30+1)>(if(b==0)=true then 0 else b.natAbs.log2/30+1)+150) ?_;rw[ag hb0];rcases Int.lt_or_eq_of_le ha with h0 | h0
 ·obtain e2:=kA h0
  obtain ha0:¬(a==0)=true:=fun e=>bW h0 (aB e);rw[ag ha0];lia
 ·subst h0
  exact Nat.not_lt.mpr (cO _)
theorem wx{a b:Int}(ha:0<=a)(hb:0<b)(h:ibits a<=ibits b+4000):biV .divmod [.int a,.int b]=some (.tup [.int (a/b),.int (a%b)]):=by
 obtain e:biV .divmod [.int a,.int b]=some (.tup [.int (a.fdiv b),.int (a.fmod b)]):=ag (by rw[w6 ha hb h];exact fun q=>q.elim (bW hb) Bool.noConfusion);rw[e,lg _ (ay hb),Int.fmod_eq_emod_of_nonneg _ (ay hb)]
noncomputable def wM:List S:=fM.drop 3
section
variable{Φ:Fun}{s6 s7 s8 s9 s10:Sl}
theorem Bx{a b P:Int}(hb:0<b):(a/P/b*P+(a/P%b*P+a%P)/b)*b+(a/P%b*P+a%P)%b=a:=by
 obtain hA:=i6 a P;obtain hq1:=i6 (a/P) b;obtain hq2:=i6 (a/P%b*P+a%P) b;generalize a%P=lo at *;generalize a/P=hi at *;generalize hi/b=X at *;generalize hi%b=R at *;generalize (R*P+lo)/b=Y at *;rw[Int.add_mul,Int.add_assoc,bL Y b,Int.add_comm (b*Y),hq2,<-Int.add_assoc,<-hA,<-hq1,bL X P,fE,bL X b,bL R P,<-Int.mul_add,Int.add_comm (b*X) R];exact Int.add_comm _ _
theorem oS(K:Nat)(hΦ:∀l v,rC K l=some v->Φ 1 l=some v){a b p:Int}{h:Nat}(ha:0<=a)(hh:1<=h)(hK:(h:Int)<=4000*2^K)(hL:h<=1000000)(hbl:2^(2*h-1)<=b)(hbu:b<2^(2*h))(hab:a<2^(2*h)*b){r:Int}(hp:p=0/\r=a%b\/p=1/\r=a%b/2):
  Ret Φ 8 wM [jv a,jv b,jv (2*h:Nat),jv p,.unb,.unb,.unb,.unb,.unb,.unb,.unb] (.tup [.int (a/b),.int r]):=by
 obtain ph:=aW h;obtain hb:0<b:=eI (aW _) hbl;have hsq:(2:Int)^(2*h)=2^h*2^h:=by rw[Nat.two_mul,fV]
 obtain hsq1:(2:Int)^(2*h-1)=2^(h-1)*2^h:=by rw[<-fV];congr 1;lia
 have b1l:2^(h-1)<=b/2^h:=by rw[Int.le_ediv_iff_mul_le ph,<-hsq1];exact hbl
 obtain b1u:b/2^h<2^h:=jT ph (by rw[<-hsq];exact hbu);obtain b20:=eF b (bW ph);obtain b2u:=eE b ph;obtain hbb:b=b/2^h*2^h+b%2^h:=((Int.add_comm _ _).trans ((aq (_+·) (bL _ _)).trans (i6 b (2^h)))).symm;obtain hA1:a/2^(2*h)*2^h+a/2^h%2^h=a/2^h:=by
  rw[hsq,<-Int.ediv_ediv_of_nonneg (ay ph),bL,Int.add_comm];exact i6 (a/2^h) (2^h)
 obtain ah:0<=a/2^h:=Int.ediv_nonneg ha (ay ph);obtain h1:(1:Int)<=h:=cP.mpr hh;obtain hL':(h:Int)<=1000000:=cP.mpr hL;obtain c1:=hΦ _ _ (v9 (n:=h) ⟨Int.ediv_nonneg ha (ay (aW _)),h1,hK,hL',b1l,b1u,b20,b2u,hbb,jT (aW _) (by rw[bL];exact hab),eF (a/2^h) (bW ph),eE _ ph⟩);obtain r10:=eF (a/2^h) (bW hb);obtain r1u:=eE (a/2^h) hb;obtain lo0:=eF a (bW ph);obtain lou:=eE a ph;obtain c2:=hΦ _ _ (v9 (n:=h) ⟨r10,h1,hK,hL',b1l,b1u,b20,b2u,hbb,r1u,lo0,lou⟩);obtain e2h:((h:Int)).toNat=h:=rfl;rw[e2h]at c1 c2;rw[hA1]at c1;obtain q20:0<=(a/2^h%b*2^h+a%2^h)/b:=Int.ediv_nonneg (Int.add_nonneg (bJ r10 (ay ph)) lo0) (ay hb);obtain q2u:(a/2^h%b*2^h+a%2^h)/b<2^h:=jT hb (by
  obtain h1:(a/2^h%b+1)*2^h<=b*2^h:=eD r1u (ay ph);rw[Int.add_mul,bU,bL b]at h1;exact eI (Int.add_lt_add_left lou _) h1)
 obtain q10:0<=a/2^h/b:=Int.ediv_nonneg ah (ay hb);obtain q1u:a/2^h/b<2^h:=jT hb (jT ph (by rw[hsq]at hab;rw[fE,bL b,<-fE];exact hab));obtain⟨u1,u2⟩:=dh (Bx (a:=a) (P:=2^h) hb) (eF _ (bW hb)) (eE _ hb);rw[u2]at hp;rw[u1];obtain hor:=C5 q10 q20 q2u;obtain i2:ibits (a/2^h/b)+h<=134217728:=ai (Nat.add_le_add (ai (aK q10 q1u) hL) hL) (by decide);obtain sh1:bR .RShift (.int (2*h:Nat)) (.int 1)=some (.int h):=(kf (h:=1)).trans (aq (fun z=>some (V.int z)) (by show((2*h:Nat):Int)/2=h;lia));refine Ret.asg rfl (aP rfl rfl sh1) rfl (.asg rfl (uB rfl hL) rfl (.unp rfl (oQ (am (aP rfl rfl kf) (am (aP rfl rfl (tN (ay hb))) rfl)) (by exact ma)) rfl
  (.unp rfl (cQ (am (aP rfl rfl kf) (am (aP (aL rfl rfl kf) rfl (tN ah)) rfl)) c1) rfl (.unp rfl (cQ (am rfl (am (aP rfl rfl (tN ha)) rfl)) c2) rfl ?_))))
 generalize a/2^h/b=X at *;generalize (a/2^h%b*2^h+a%2^h)/b=Y at *;generalize (a/2^h%b*2^h+a%2^h)%b=R at *;have last:∀ρ6,Ret Φ 8 [.ret (.tuple [(.bin .BitOr (.bin .LShift (.var 8) (.var 4)) (.var 10)),(.var 9)])] [jv a,jv b,jv (2*h:Nat),jv p,jv h,jv (2^h-1),jv (b/2^h),jv (b%2^h),jv X,jv ρ6,jv Y] (.tup [.int (X*2^h+Y),.int ρ6]):=
  fun ρ6=>.ret rfl (oQ (am (aP (aL rfl rfl (kg i2)) rfl hor) rfl) (by exact ma))
 obtain l6:kz .RShift (.int R) (.int 1)=some (.int (R/2)):=kf (h:=1);rcases hp with⟨hp,hr⟩ | ⟨hp,hr⟩<;>subst hp<;>rw[hr]
 ·exact .itN rfl (show evb Φ (.val (.var 3)) _=some false from rfl) rfl (last R)
 ·exact .itNT rfl (show evb Φ (.val (.var 3)) _=some true from rfl) ((ae (kE rfl rfl l6 (by exact bg rfl))).trans rfl) (last _)
theorem BN(n:Nat):Builtin.bitAnd (n:Int) 1=(n%2:Nat):=
 (rL (x:=(n:Int)) 1 (cF _)).trans (by show(n:Int)%2=_;lia)
theorem dbl{x:Int}(h:ibits x+1<=134217728):bR .LShift (.int x) (.int 1)=some (.int (x*2)):=(kg (x:=x) (h:=1) h).trans (aq (fun z:Int=>some (V.int (x*z))) (show(2:Int)^1=2 from rfl))
theorem FT{x:Int}(h:ibits x+1<=134217728):kz .LShift (.int x) (.int 1)=some (.int (x*2)):=by unfold kz;exact(Cw rfl).trans (dbl h)
theorem oU{K:Nat}{a b n:Int}(h:D2 K a b n)(hs:(ibits a:Int)-n<=4000):Ret Φ 8 fM [jv a,jv b,jv n,.unb,.unb,.unb,.unb,.unb,.unb,.unb,.unb] (.tup [.int (a/b),.int (a%b)]):=by
 obtain hc:evb Φ (.cmp .LtE (.bin .Sub (.meth .bitLength (.var 0) []) (.var 2)) (.const (.int 4000))) [jv a,jv b,jv n,.unb,.unb,.unb,.unb,.unb,.unb,.unb,.unb]=some true:=aq some (dp hs);have:=rg h.bl;have:=h.n1;exact .itT rfl hc (.ret rfl (zm rfl (wx h.a0 (eI (aW _) h.bl) (by lia))))
theorem wA(K:Nat)(hΦ:∀l v,rC K l=some v->Φ 1 l=some v){a b n:Int}(h:D2 (K+1) a b n):
  Ret Φ 8 fM [jv a,jv b,jv n,.unb,.unb,.unb,.unb,.unb,.unb,.unb,.unb] (.tup [.int (a/b),.int (a%b)]):=by
 obtain⟨m,rfl⟩:=lh (aY (by decide) h.n1);obtain hm1:1<=m:=cP.mp h.n1;obtain hm:m<=1000000:=cP.mp h.nL;obtain ha:=h.a0;obtain hbl:2^(m-1)<=b:=h.bl;obtain hbu:b<2^m:=h.bu;obtain hab:a<2^m*b:=h.ab;obtain hb:0<b:=eI (aW _) hbl;obtain hibb:ibits b<=m:=aK (ay hb) hbu;obtain hc:evb Φ (.cmp .LtE (.bin .Sub (.meth .bitLength (.var 0) []) (.var 2)) (.const (.int 4000))) [jv a,jv b,jv (m:Int),.unb,.unb,.unb,.unb,.unb,.unb,.unb,.unb]=some (decide ((ibits a:Int)-m<=4000)):=rfl;by_cases hs:(ibits a:Int)-m<=4000
 ·exact oU h hs
 ·rw[cY hs]at hc
  obtain hiba:ibits a<=2*m:=aK ha (by
   obtain h1:(2:Int)^m*b<=2^m*2^m:=cC (ay hbu) (ay (aW m));rw[Nat.two_mul,fV];exact eI hab h1)
  obtain hK:=h.nK;rw[Int.pow_succ]at hK;obtain ea:ev Φ (.bin .BitAnd (.var 2) (.const (.int 1))) [jv a,jv b,jv (m:Int),.unb,.unb,.unb,.unb,.unb,.unb,.unb,.unb]=some (.int (m%2:Nat)):=aq (fun z=>some (V.int z)) (BN m);refine .itN rfl hc rfl (.asg rfl ea rfl ?_);rcases Nat.mod_two_eq_zero_or_one m with hpar | hpar
  ·obtain⟨h,rfl⟩:∃h,m=2*h:=⟨m/2,by lia⟩
   rw[hpar];exact .itN rfl (show _=some false from rfl) rfl (oS K hΦ ha (by lia) (by lia) (by lia) hbl hbu hab (.inl ⟨rfl,rfl⟩))
  ·obtain⟨h,hh⟩:∃h,m+1=2*h:=⟨(m+1)/2,by lia⟩
   rw[hpar];obtain l1:kz .LShift (.int a) (.int 1)=some (.int (a*2)):=FT (by lia);obtain l2:kz .LShift (.int b) (.int 1)=some (.int (b*2)):=FT (by lia);obtain l3:kz .Add (.int (m:Int)) (.int 1)=some (.int (2*h:Nat)):=aq (fun z=>some (V.int z)) (by lia);obtain hp1:(2:Int)^(2*h)=2^m*2:=by rw[<-hh,Int.pow_succ]
   obtain hp2:(2:Int)^(2*h-1)=2^(m-1)*2:=by rw[<-hh,Nat.add_sub_cancel,<-Int.pow_succ,Nat.succ_eq_add_one,Nat.sub_add_cancel hm1]
   obtain h2p:(0:Int)<2:=by decide
   rw[<-Int.mul_ediv_mul_of_pos_left a b h2p];obtain f1:ex Φ 8 (.aug 0 .LShift (.const (.int 1))) [jv a,jv b,jv (m:Int),jv 1,.unb,.unb,.unb,.unb,.unb,.unb,.unb]=some (.nxt [jv (a*2),jv b,jv (m:Int),jv 1,.unb,.unb,.unb,.unb,.unb,.unb,.unb]):=kE rfl rfl l1 (by exact bg rfl);obtain f2:ex Φ 8 (.aug 1 .LShift (.const (.int 1))) [jv (a*2),jv b,jv (m:Int),jv 1,.unb,.unb,.unb,.unb,.unb,.unb,.unb]=some (.nxt [jv (a*2),jv (b*2),jv (m:Int),jv 1,.unb,.unb,.unb,.unb,.unb,.unb,.unb]):=kE rfl rfl l2 (by exact bg rfl);obtain f3:ex Φ 8 (.aug 2 .Add (.const (.int 1))) [jv (a*2),jv (b*2),jv (m:Int),jv 1,.unb,.unb,.unb,.unb,.unb,.unb,.unb]=some (.nxt [jv (a*2),jv (b*2),jv (2*h:Nat),jv 1,.unb,.unb,.unb,.unb,.unb,.unb,.unb]):=kE rfl rfl l3 (by exact bg rfl);refine .itNT rfl (show evb Φ (.val (.var 3)) _=some true from rfl) ((ae f1).trans ((ae f2).trans (ae f3)))
    (oS K hΦ (bJ ha (by decide)) (by lia) (by lia) (by lia) (by rw[hp2];exact eD hbl (by decide)) (by rw[hp1];exact Int.mul_lt_mul_of_pos_right hbu h2p) ?_ (.inr ⟨rfl,?_⟩))
   ·rw[hp1]
    obtain h1:0<=(2:Int)^m*b:=bJ (ay (aW m)) (ay hb);obtain h2:(2:Int)^m*2*(b*2)=4*(2^m*b):=by
     rw[fE,<-fE 2 b 2,bL 2 b,fE b 2 2,<-fE,bL];rfl
    lia
   ·rw[bL a 2,bL b 2,Int.mul_emod_mul_of_pos _ _ h2p,Int.mul_ediv_cancel_left _ (bW h2p)]
end
end
section
noncomputable def g9:List S:=[
 .asg 2 (.meth .bitLength (.var 1) []),
 .asg 3 (.call 2 [(.var 0),(.var 2)]),
 .asg 4 (.const (.int 0)),
 .own 5 (.list []),
 .forr (.one 6) (.rev (.var 3)) [.unp [7,4] (.call 0 [(.bin .Add (.bin .LShift (.var 4) (.var 2)) (.var 6)),(.var 1),(.var 2)]),.app 5 (.var 7)],
 .revs 5,
 .asg 8 (.call 3 [(.var 5),(.var 2)]),
 .ret (.tuple [(.var 8),(.var 4)])]
noncomputable def DN(l:List V):Option (Int×Int):=(cJ l).bind two
noncomputable def dmV(l:List V):Option V:=(DN l).bind fun q=>if 0<=q.1/\0<q.2/\ibits q.1<=900000/\ibits q.2<=64000 then some (.tup [.int (q.1/q.2),.int (q.1%q.2)])else none
theorem AH{a:Int}{n:Nat}(hn:1<=n):ndig a n<=ibits a:=by
 unfold ndig;rcases Nat.eq_zero_or_pos (ibits a)with h | h
 ·rw[h,Nat.div_eq_of_lt (by omega)];exact bS _
 ·rw[Nat.div_le_iff_le_mul_add_pred (by omega)]
  rw[Nat.mul_comm n,Nat.add_sub_assoc hn];exact fF (Nat.le_mul_of_pos_right _ hn) _
section
variable{Φ:Fun}
noncomputable def ly(n:Nat)(b:Int):List Int->Int->List Int×Int
 |[],r=>([],r)
 |d::ds,r=>let q:=ly n b ds ((r*2^n+d)%b);((r*2^n+d)/b::q.1,q.2)
theorem Bv(h0:∀l v,l7 4 l=some v->Φ 0 l=some v){b r d:Int}{n:Nat}{s0 s3 s6 s7 s8:Sl}{qs:List Int}(hn1:1<=n)(hn:n<=64000)(hbl:2^(n-1)<=b)(hbu:b<2^n)(r0:0<=r)(ru:r<b)(d0:0<=d)(du:d<2^n)(hq:qs.length<=900000):
  exs Φ 8 [.unp [7,4] (.call 0 [(.bin .Add (.bin .LShift (.var 4) (.var 2)) (.var 6)),(.var 1),(.var 2)]),.app 5 (.var 7)] [s0,jv b,jv n,s3,jv r,.own (qs.map .int),jv d,s7,s8] =
   some (.nxt [s0,jv b,jv n,s3,jv ((r*2^n+d)%b),.own ((qs++[(r*2^n+d)/b]).map .int),jv d,jv ((r*2^n+d)/b),s8]):=by
 obtain hb:0<b:=gA r0 ru;obtain pn:=aW n;obtain hx0:0<=r*2^n+d:=Int.add_nonneg (bJ r0 (ay pn)) d0;obtain hxu:r*2^n+d<2^n*b:=by
  obtain h5:(r+1)*2^n<=b*2^n:=eD ru (ay pn);rw[Int.add_mul,bU,bL b]at h5;exact eI (Int.add_lt_add_left du _) h5
 obtain hn':(n:Int)<=64000:=cP.mpr hn;obtain c0:=h0 _ _ (ve ⟨hx0,cP.mpr hn1,(by rw[show(4000:Int)*2^4=64000 from rfl];exact hn'),aY hn' (by decide),hbl,hbu,hxu⟩);obtain i1:ibits r+n<=134217728:=ai (Nat.add_le_add (ai (aK r0 (Int.lt_trans ru hbu)) hn) hn) (by decide);obtain ea:evs Φ [(.bin .Add (.bin .LShift (.var 4) (.var 2)) (.var 6)),(.var 1),(.var 2)] [s0,jv b,jv n,s3,jv r,.own (qs.map .int),jv d,s7,s8]=some [.int (r*2^n+d),.int b,.int n]:=am (aP (aL rfl rfl (kg i1)) rfl rfl) rfl;obtain f1:ex Φ 8 (.unp [7,4] (.call 0 [(.bin .Add (.bin .LShift (.var 4) (.var 2)) (.var 6)),(.var 1),(.var 2)])) [s0,jv b,jv n,s3,jv r,.own (qs.map .int),jv d,s7,s8]=some (.nxt [s0,jv b,jv n,s3,jv ((r*2^n+d)%b),.own (qs.map .int),jv d,jv ((r*2^n+d)/b),s8]):=to (cQ ea c0) rfl;rw[ae f1,ae (kF (v:=.int ((r*2^n+d)/b)) (l:=qs.map .int) rfl rfl (by rw[aC];exact iV hq (by decide))),hU];rfl
theorem v8(h0:∀l v,l7 4 l=some v->Φ 0 l=some v){b:Int}{n:Nat}{s0 s3 s8:Sl}(hn1:1<=n)(hn:n<=64000)(hbl:2^(n-1)<=b)(hbu:b<2^n)(hb:0<b):∀(ds:List Int) (r:Int) (qs:List Int) (s6 s7:Sl),0<=r->r<b->db n ds->qs.length+ds.length<=900000 ->
  Ex2 fun s6' s7'=>fj (.one 6) (fun ρ=>exs Φ 8 [.unp [7,4] (.call 0 [(.bin .Add (.bin .LShift (.var 4) (.var 2)) (.var 6)),(.var 1),(.var 2)]),.app 5 (.var 7)] ρ) (ds.map V.int) [s0,jv b,jv n,s3,jv r,.own (qs.map .int),s6,s7,s8] =
   some (.nxt [s0,jv b,jv n,s3,jv (ly n b ds r).2,.own ((qs++(ly n b ds r).1).map .int),s6',s7',s8])
 |[],r,qs,s6,s7,_,_,_,_=>⟨s6,s7,by simp only[show(ly n b [] r).1=[]from rfl,bQ];rfl⟩
 |d::ds,r,qs,s6,s7,r0,ru,hd,hl=>by
  simp only[List.length_cons]at hl;obtain st:=Bv (Φ:=Φ) h0 (s0:=s0) (s3:=s3) (s6:=s6) (s7:=s7) (s8:=s8) (d:=d) (qs:=qs) hn1 hn hbl hbu r0 ru (hd d (.head _)).1 (hd d (.head _)).2 (by lia);obtain⟨s6',s7',ih⟩:=v8 h0 (s0:=s0) (s3:=s3) (s8:=s8) hn1 hn hbl hbu hb ds ((r*2^n+d)%b) (qs++[(r*2^n+d)/b]) (jv d) (jv ((r*2^n+d)/b)) (eF _ (bW hb)) (eE _ hb) (fun z hz=>hd z (.tail _ hz)) (by simp only[aG,List.length_singleton];lia);refine⟨s6',s7',?_⟩;simp only[bX]at ih;exact(bd st).trans ih
theorem nk(n:Nat)(b:Int):∀(ds:List Int) (r:Int),(ly n b ds r).1.length=ds.length:=by
 intro ds
 induction ds with
 |nil=>
  intro r;exact rfl
 |cons d ds nk=>
  intro r;exact aq (·+1) (nk _)
theorem nq{n:Nat}{b:Int}(hb:0<b):∀(ds:List Int) (r:Int),0<=r->r<b->db n ds->db n (ly n b ds r).1:=by
 intro ds
 induction ds with
 |nil=>
  intro r _ _ _;exact fun z hz=>by cases hz
 |cons d ds nq=>
  intro r r0 ru hd;exact fun z hz=>by
   obtain pn:=aW n;rcases aM.mp hz with rfl | hz
   ·obtain h5:(r+1)*2^n<=b*2^n:=eD ru (ay pn)
    simp only[Int.add_mul,bU,bL b]at h5;exact⟨Int.ediv_nonneg (Int.add_nonneg (bJ r0 (ay pn)) (hd d (.head _)).1) (ay hb),jT hb (eI (Int.add_lt_add_left (hd d (.head _)).2 _) h5)⟩
   ·exact nq _ (eF _ (bW hb)) (eE _ hb) (fun z hz=>hd z (.tail _ hz)) z hz
noncomputable def hv(n:Nat):List Int->Int->Int
 |[],r=>r
 |d::ds,r=>hv n ds (r*2^n+d)
theorem lO(n:Nat):∀(ds es:List Int),hv n ds.reverse (aU n es)=aU n (ds++es):=by
 intro ds
 induction ds with
 |nil=>
  intro es;exact rfl
 |cons d ds lO=>
  intro es;simp only[List.reverse_cons,List.cons_append,aU,<-lO es];have:∀(l:List Int) (r:Int),hv n (l++[d]) r=hv n l r*2^n+d:=by
   intro l
   induction l with
   |nil=>exact fun r=>rfl
   |cons x l ih=>exact fun r=>ih _
  simp only[this,bL,Int.add_comm]
theorem rB{n:Nat}{b:Int}(hb:0<b):∀(ds:List Int) (Q r:Int),0<=r->r<b->hv n (ly n b ds r).1 Q*b+(ly n b ds r).2=hv n ds (Q*b+r)/\0<=(ly n b ds r).2/\(ly n b ds r).2<b
 |[],Q,r,r0,ru=>⟨rfl,r0,ru⟩
 |d::ds,Q,r,r0,ru=>by
  obtain⟨h1,h2⟩:=rB (n:=n) hb ds (Q*2^n+(r*2^n+d)/b) ((r*2^n+d)%b) (eF _ (bW hb)) (eE _ hb);refine⟨h1.trans (aq (hv n ds) ?_),h2⟩;have:=i6 (r*2^n+d) b;simp only[Int.add_mul,Int.add_mul,bL (_/b) b,Int.add_assoc,Int.add_comm (b*_),this,fE,fE,bL (2^n) b,Int.add_assoc]
theorem Ee{n:Nat}{ds:List Int}(h1:1<=n)(hd:db n ds)(h2:n*ds.length<=100000000)(h3:ds.length<=1000000):d2iV [.lst (ds.map .int),.int n]=some (.int (aU n ds)):=by
 show Option.bind (cJ (ds.map V.int)) _=_;simp only[dS];exact af ⟨cP.mpr h1,hd,h2,h3⟩
theorem Bw(h0:∀l v,l7 4 l=some v->Φ 0 l=some v)(h2:∀l v,i2dV l=some v->Φ 2 l=some v)(h3:∀l v,d2iV l=some v->Φ 3 l=some v){a b:Int}(ha:0<=a)(hb:0<b)(hia:ibits a<=900000)(hib:ibits b<=64000):
  Ret Φ 8 g9 [jv a,jv b,.unb,.unb,.unb,.unb,.unb,.unb,.unb] (.tup [.int (a/b),.int (a%b)]):=by
 obtain e1:ev Φ (.meth .bitLength (.var 1) []) [jv a,jv b,.unb,.unb,.unb,.unb,.unb,.unb,.unb]=some (.int (ibits b)):=rfl;have hn1:1<=ibits b:=kA hb▸Nat.le_add_left ..;obtain hbu:b<2^ibits b:=fh (ay hb);obtain hbl:2^(ibits b-1)<=b:=Int.not_lt.mp fun h=>absurd (aK (ay hb) h) (by lia);generalize ibits b=n at *;obtain hm1:=(jC a hn1).1;obtain hm2:=(jC a hn1).2;have hkl:ndig a n<=900000:=ai (AH hn1) hia;obtain hdl:=br n (ndig a n) a;obtain hdd:=eB n (ndig a n) a;obtain hda:aU n (bH n (ndig a n) a)=a:=by
  rw[iA,Int.emod_eq_of_lt ha];refine eI (fh ha) ?_;have:2^ibits a<=2^(n*ndig a n):=i0 (by decide) hm1
  exact_mod_cast this
 obtain c2:Φ 2 [.int a,.int n]=some (.lst ((bH n (ndig a n) a).map .int)):=h2 _ _ (af ⟨ha,cP.mpr hn1,by show ibits a+n<=_;lia,by show ndig a n<=_;lia⟩);generalize bH n (ndig a n) a=ds at *;rw[<-hdl]at hkl;obtain hdr:db n ds.reverse:=fun z hz=>hdd z (List.mem_reverse.mp hz);obtain hit:eu Φ (.rev (.var 3)) (frz (sF (.rev (.var 3))) [jv a,jv b,jv n,.val (.lst (ds.map .int)),jv 0,.own [],.unb,.unb,.unb])=some (ds.reverse.map V.int):=
  (af (by rw[aC];exact ai hkl (by decide))).trans (by rw[List.map_reverse])
 obtain⟨s6,s7,lp⟩:=v8 (Φ:=Φ) h0 (s0:=jv a) (s3:=.val (.lst (ds.map .int))) (s8:=.unb) hn1 hib hbl hbu hb ds.reverse 0 [] .unb .unb (ft _) hb hdr (by rw[ll];exact ai (Nat.le_of_eq (Nat.zero_add _)) hkl);obtain hv0:=rB (n:=n) hb ds.reverse 0 0 (ft _) hb;rw[Int.zero_mul,Int.add_zero,show(0:Int)=aU n []from rfl,lO,bQ,hda]at hv0;obtain hql:=(nk n b ds.reverse 0).trans ll;obtain hqd:=nq (n:=n) hb ds.reverse 0 (ft _) hb hdr;rw[show(0:Int)=aU n []from rfl]at hql hqd lp;rw[List.nil_append]at lp;generalize (ly n b ds.reverse (aU n [])).1=qs at *;generalize (ly n b ds.reverse (aU n [])).2=r at *;obtain h4:=hv0.1;obtain h5:=hv0.2.1;obtain h6:=hv0.2.2;obtain hq2:=lO n qs.reverse [];rw[List.reverse_reverse,bQ]at hq2;rw[hq2]at h4;obtain u1:=(dh h4 h5 h6).1;obtain u2:=(dh h4 h5 h6).2;rw[u1,u2];obtain c3:Φ 3 [.lst (qs.reverse.map .int),.int n]=some (.int (aU n qs.reverse)):=h3 _ _ (Ee (by lia) (fun z hz=>hqd z (List.mem_reverse.mp hz)) (by rw[ll,hql,hdl];lia) (by rw[ll,hql];lia));refine .asg rfl e1 rfl (.asg rfl (cQ rfl c2) rfl (.asg rfl rfl rfl (.nxt (tq rfl (by exact bg rfl)) (.nxt ((dG hit).trans lp) (.nxt (ρ':=[jv a,jv b,jv n,.val (.lst (ds.map .int)),jv r,.own (qs.reverse.map .int),s6,s7,.unb]) ?_ (.nxt (bO (cQ rfl c3) (by exact bg rfl)) (.ret rfl rfl)))))));rw[List.map_reverse];exact af (by rw[aC,hql];exact iV hkl (by decide))
end
end
noncomputable def g8:List S:=[
 .ite (.cmp .Eq (.var 1) (.const (.int 0))) [.raise] [.ite (.cmp .Lt (.var 1) (.const (.int 0))) [.unp [2,3] (.call 5 [(.un .USub (.var 0)),(.un .USub (.var 1))]),.ret (.tuple [(.var 2),(.un .USub (.var 3))])] [.ite (.cmp .Lt (.var 0) (.const (.int 0))) [.unp [2,3] (.call 5 [(.un .Invert (.var 0)),(.var 1)]),.ret (.tuple [(.un .Invert (.var 2)),(.bin .Add (.var 1) (.un .Invert (.var 3)))])] [.ret (.call 4 [(.var 0),(.var 1)])]]]]
structure IDM(lv:Nat)(a b:Int):Prop where
 b0:b≠0
 ia:ibits a<=800000
 ib:ibits b<=60000
 l2:2<=lv\/0<b
 l1:1<=lv\/0<=a
noncomputable def DS(lv:Nat)(a b:Int):Option V:=open Classical in if IDM lv a b then some (.tup [.int (a.fdiv b),.int (a.fmod b)])else none
noncomputable def jG(lv:Nat)(l:List V):Option V:=(DN l).bind fun q=>DS lv q.1 q.2
theorem mW{lv:Nat}{a b:Int}(h:IDM lv a b):jG lv [.int a,.int b]=some (.tup [.int (a.fdiv b),.int (a.fmod b)]):=af h
theorem gV{a b q r:Int}(h:q*b+r=a)(hb:0<b)(h0:0<=r)(h1:r<b):a.fdiv b=q/\a.fmod b=r:=by
 rw[lg _ (ay hb),Int.fmod_eq_emod_of_nonneg _ (ay hb)];exact dh h h0 h1
theorem rH(a:Int):ibits (-a)=ibits a:=by show Builtin.Int.intBits _=Builtin.Int.intBits _;simp[Builtin.Int.intBits]
theorem yH(lv:Nat){Φ:Fun}(h4:∀l v,dmV l=some v->Φ 4 l=some v)(h5:0<lv->∀l v,jG (lv-1) l=some v->Φ 5 l=some v){a b:Int}(h:IDM lv a b):
  Ret Φ 8 g8 [jv a,jv b,.unb,.unb] (.tup [.int (a.fdiv b),.int (a.fmod b)]):=by
 obtain hia:=h.ia;obtain hib:=h.ib;obtain c0:evb Φ (.cmp .Eq (.var 1) (.const (.int 0))) [jv a,jv b,.unb,.unb]=some false:=aq some (bK.mpr h.b0);obtain c1:evb Φ (.cmp .Lt (.var 1) (.const (.int 0))) [jv a,jv b,.unb,.unb]=some (decide (b<0)):=rfl;obtain c2:evb Φ (.cmp .Lt (.var 0) (.const (.int 0))) [jv a,jv b,.unb,.unb]=some (decide (a<0)):=rfl;refine .itF rfl c0 ?_;by_cases hb:b<0
 ·simp only[dp hb]at c1
  obtain hlv:2<=lv:=h.l2.resolve_right (by lia);obtain c5:=h5 (by lia) _ _ (mW (a:=-a) (b:=-b) ⟨by lia,(rH a).symm▸hia,(rH b).symm▸hib,.inr (by lia),.inl (by lia)⟩);obtain e1:(-a).fdiv (-b)=a.fdiv b:=Int.neg_fdiv_neg ..;obtain e2:-((-a).fmod (-b))=a.fmod b:=by simp only[Int.fmod_def,Int.fmod_def,e1,Int.neg_mul];lia
  simp only[<-e2,<-e1];exact .itT rfl c1 (.unp rfl (cQ (am (lx rfl rfl) (am (lx rfl rfl) rfl)) c5) rfl (.ret rfl (oQ (am rfl (am (lx rfl rfl) rfl)) (by exact ma))))
 ·obtain hbp:0<b:=by have:=h.b0;lia
  obtain hp:(0:Int)<=b:=ay hbp;simp only[cY hb]at c1;refine .itF rfl c1 ?_;by_cases ha:a<0
  ·simp only[dp ha]at c2
   obtain hlv:1<=lv:=h.l1.resolve_right (by lia);obtain c5:=h5 (by lia) _ _ (mW (a:=-a-1) (b:=b) ⟨h.b0,ai (intBits_le_of_natAbs (by lia) (bS _)) hia,hib,.inr hbp,.inr (by lia)⟩);simp only[lg _ hp,Int.fmod_eq_emod_of_nonneg _ hp]at c5;obtain hdm:=i6 (-a-1) b;obtain m0:=eF (-a-1) (bW hbp);obtain m1:=eE (-a-1) hbp;generalize (-a-1)/b=q at *;generalize (-a-1)%b=r at *;obtain⟨u1,u2⟩:=gV (a:=a) (b:=b) (q:=-q-1) (r:=b+(-r-1)) (by
    simp only[Int.sub_mul,Int.neg_mul,bU,bL q b];lia) hbp (by lia) (by lia)
   simp only[u1,u2];exact .itT rfl c2 (.unp rfl (cQ (am (lx rfl rfl) rfl) c5) rfl (.ret rfl (oQ (am (lx rfl rfl) (am (aP rfl rfl rfl) rfl)) (by exact ma))))
  ·simp only[cY ha]at c2
   obtain c4:Φ 4 [.int a,.int b]=some (.tup [.int (a/b),.int (a%b)]):=h4 _ _ (af ⟨Int.not_lt.mp ha,hbp,ai hia (by decide),ai hib (by decide)⟩);simp only[lg _ hp,Int.fmod_eq_emod_of_nonneg _ hp];exact .itF rfl c2 (.ret rfl (cQ rfl c4))
section
structure p7(W:Wp)(tb:Tb)(ad:Nat->Addr):Prop where
 gc:∀x v,tb.gc.lookup x=some v->∃u,W.mg x=some u/\∀P h,Rp P h u v
 fn:∀x i,tb.gf.findIdx? (·==x)=some i->Ex2 fun o fd=>gx (W.mg x=some (.ref (ad i))) (W.h0.get? (ad i)=some o) (o.data=.func fd) (ad i∉W.T)
 pvn:(tb.pvn==("__debug__" : Str))=false
theorem p7.cfg{W:Wp}{tb:Tb}{ad:Nat->Addr}(B:p7 W tb ad){Φ:Fun}{D:Nat}(h:∀i,i<tb.gf.length->Cal W D (ad i) (Φ i)):Cfg W tb Φ D:=
 ⟨B.gc,fun x i e=>(by obtain⟨o,fd,a,b,c,d⟩:=B.fn x i e;exact⟨ad i,o,fd,a,b,c,d,h i (List.findIdx?_eq_some_iff_getElem.mp e).1⟩)⟩
theorem Cal.none'{W:Wp}{D:Nat}{a:Addr}:Cal W D a fun U=>none:=fun A P us l v s Q E' ao ok r e=>nn e
structure Ev(W:Wp)(tb:Tb)(a:Addr)(px:List (Option Nat))(k:Nat)(y:List S):Prop where
 ex:Ex4 fun ps body sc ow=>gx (eQ W a ps body sc) (ps.length=k) (pix (ac sc) ps=px) (body.mapM (trS tb ow 30 (ac sc))=some y)
noncomputable def fb(px:List (Option Nat))(vs:List V):Ro:=px.map fun o=>match o with
 |some i=>match vs[i]? with | some v=>.val v | none=>.unb
 |none=>.unb
noncomputable def evV(Φ:Fun)(N:Nat)(px:List (Option Nat))(k:Nat)(y:List S)(vs:List V):Option V:=
 if vs.length=k then(exs Φ N y (fb px vs)).bind w5 else none
theorem iw{Φ:Fun}{N:Nat}{px:List (Option Nat)}{k:Nat}{y:List S}{vs:List V}{v:V}(hk:vs.length=k)(h:Ret Φ N y (fb px vs) v):evV Φ N px k y vs=some v:=
 (by obtain⟨_,e⟩:=h;exact(af hk).trans (bd e))
theorem kj{c:Cx}{ps:List Str}{px:List (Option Nat)}(h:pix c ps=px)(l:List V):ro0 c ps l=fb px l:=by
 subst h;exact List.map_congr_left fun o U=>by
  cases o with
  |none=>rfl
  |some i=>first | rfl | (dsimp only;cases l[i]?<;>rfl)
theorem zc{W:Wp}{tb:Tb}{ad:Nat->Addr}(G:WF W)(B:p7 W tb ad){Φ:Fun}{N D:Nat}(h:∀i,i<tb.gf.length->Cal W D (ad i) (Φ i))(Pv:i9 W tb D)(hpl:Pl tb){a:Addr}{px:List (Option Nat)}{k:Nat}{y:List S}(F:Ev W tb a px k y):
  Cal W (D+1) a (evV Φ N px k y):=by
 obtain⟨ps,body,sc,ow,F,hk,hpx,e⟩:=F.ex;obtain C:=B.cfg h;have:=yU G (D:=D) F (φ:=exs Φ N y) fun h kk=>j7 e fun x y' hy=>mo (G.at' kk) (C.at' kk) (Pv.at' kk) B.pvn (CV hpl) 30 hy;refine this.sub fun l v e=>?_;unfold fnV;rw[hk,kj hpx];exact e
structure CC(W:Wp)(tb:Tb)(ad:Nat->Addr):Prop where
 d2:Ev W tb (ad 0) [some 0,some 1,some 2,none,none,none,none,none,none,none,none] 3 fM
 d3:Ev W tb (ad 1) [some 0,some 1,some 2,some 3,some 4,some 5,none,none] 6 fL
 dm:Ev W tb (ad 4) [some 0,some 1,none,none,none,none,none,none,none] 2 g9
 idm:Ev W tb (ad 5) [some 0,some 1,none,none] 2 g8
 i2d:Cal W 22 (ad 2) i2dV
 d2i:Cal W 22 (ad 3) d2iV
section
variable{W:Wp}{tb:Tb}{ad:Nat->Addr}
noncomputable def wW(l:List (Nat×(List V->Option V))):Fun:=fun j=>(l.lookup j).getD fun U=>none
theorem ua{D:Nat}{l:List (Nat×(List V->Option V))}(h:∀p∈l,Cal W D (ad p.1) p.2)(j:Nat):Cal W D (ad j) (wW l j):=by
 induction l with
 |nil=>exact Cal.none'
 |cons q l ih=>
  obtain⟨i,φ⟩:=q;obtain ih:=ih fun p hp=>h p (.tail _ hp);unfold wW at ih ⊢;rw[List.lookup_cons]
  cases q:j==i with
  |true=>exact aB q▸h (i,φ) (.head _)
  |false=>exact ih
theorem zR{α:Type}{P:α->Prop}{a:α}(h:P a):∀p∈[a],P p:=fun p hp=>fx.mp hp▸h
theorem qm{α:Type}{P:α->Prop}{a:α}{l:List α}(h:P a)(k:∀p∈l,P p):∀p∈a::l,P p:=fun p hp=>(aM.mp hp).elim (fun e=>e▸h) (k p)
theorem oV{K:Nat}{a b n:Int}{v:V}(e:zr K a b n=some v):D2 K a b n/\V.tup [.int (a/b),.int (a%b)]=v:=by
 unfold zr at e;exact open Classical in aO e fun h e=>⟨h,al_0 e⟩
theorem wz{K:Nat}{a12 a3 b b1 b2 n:Int}{v:V}(e:zq K a12 a3 b b1 b2 n=some v):D3 K a12 a3 b b1 b2 n/\V.tup [.int ((a12*2^n.toNat+a3)/b),.int ((a12*2^n.toNat+a3)%b)]=v:=by
 unfold zq at e;exact open Classical in aO e fun h e=>⟨h,al_0 e⟩
theorem yI{lv:Nat}{a b:Int}{v:V}(e:DS lv a b=some v):IDM lv a b/\V.tup [.int (a.fdiv b),.int (a.fmod b)]=v:=by
 unfold DS at e;exact open Classical in aO e fun h e=>⟨h,al_0 e⟩
theorem uL{l:List V}{q:Int×Int}(h:DN l=some q):l=[.int q.1,.int q.2]:=aa h fun ns hn h=>by rw[cw hn,iZ h];rfl
theorem uK{l:List V}{q:Int×Int×Int}(h:Fu l=some q):l=[.int q.1,.int q.2.1,.int q.2.2]:=aa h fun ns hn h=>by
 rw[cw hn]
 cases ns with
 |nil=>exact nn h
 |cons a ns=>
  cases ns with
  |nil=>exact nn h
  |cons b ns=>
   cases ns with
   |nil=>exact nn h
   |cons c ns=>
    cases ns with
    |nil=>exact al_0 h▸rfl
    |cons _ _=>exact nn h
theorem B3{l:List V}{q:Int×Int×Int×Int×Int×Int}(h:Ft l=some q):l=[.int q.1,.int q.2.1,.int q.2.2.1,.int q.2.2.2.1,.int q.2.2.2.2.1,.int q.2.2.2.2.2]:=aa h fun ns hn h=>by
 rw[cw hn]
 cases ns with
 |nil=>exact nn h
 |cons a ns=>
  cases ns with
  |nil=>exact nn h
  |cons b ns=>
   cases ns with
   |nil=>exact nn h
   |cons c ns=>
    cases ns with
    |nil=>exact nn h
    |cons d ns=>
     cases ns with
     |nil=>exact nn h
     |cons e ns=>
      cases ns with
      |nil=>exact nn h
      |cons f ns=>
       cases ns with
       |nil=>exact al_0 h▸rfl
       |cons _ _=>exact nn h
section
variable(G:WF W)(B:p7 W tb ad)(X:CC W tb ad)(Pv:∀D,1<=D->i9 W tb D)(hpl:Pl tb)
include G B X Pv hpl
theorem k9{D:Nat}(hD:1<=D){l:List (Nat×(List V->Option V))}(h:∀p∈l,Cal W D (ad p.1) p.2){a:Addr}{px:List (Option Nat)}{k:Nat}{y:List S}(F:Ev W tb a px k y){φ:List V->Option V}(e:∀vs v,φ vs=some v->vs.length=k/\Ret (wW l) 8 y (fb px vs) v):Cal W (D+1) a φ:=
 (zc G B (fun i U=>ua h i) (Pv D hD) hpl F).sub fun vs v hv=>iw (e vs v hv).1 (e vs v hv).2
theorem kJ:∀K,Cal W (2*K+2) (ad 0) (l7 K):=by
 intro K
 induction K with
 |zero=>
  exact k9 G B X Pv hpl (bS 1) (l:=[]) (fun p hp=>nomatch hp) X.d2 fun l v e=>aa e fun q hq e=>by
    obtain⟨h,rfl⟩:=oV e;rw[uK hq];refine⟨rfl,oU h ?_⟩;have hiba:ibits q.1<=2*q.2.2.toNat:=aK h.a0 (by
     have h1:(2:Int)^q.2.2.toNat*q.2.1<=2^q.2.2.toNat*2^q.2.2.toNat:=cC (ay h.bu) (ay (aW _));rw[Nat.two_mul,fV];exact eI h.ab h1)
    have h1:q.2.2<=4000:=h.nK;obtain h2:=h.n1;lia
 |succ K kJ=>
  exact
   have h3:Cal W (2*K+3) (ad 1) (rC K):=k9 G B X Pv hpl (D:=2*K+2) (Nat.le_add_left 1 _) (l:=[(0,l7 K)]) (zR (kJ)) X.d3 fun l v e=>aa e fun q hq e=>by
    obtain⟨h,rfl⟩:=wz e;rw[B3 hq];exact⟨rfl,wy K (fun U U e=>e) h⟩
   k9 G B X Pv hpl (D:=2*K+3) (Nat.le_add_left 1 _) (l:=[(1,rC K)]) (zR h3) X.d2 fun l v e=>aa e fun q hq e=>by
    obtain⟨h,rfl⟩:=oV e;rw[uK hq];exact⟨rfl,wA K (fun U U e=>e) h⟩
theorem Ed:Cal W 23 (ad 4) dmV:=
 k9 G B X Pv hpl (D:=22) (by decide) (l:=[(0,l7 4),(2,i2dV),(3,d2iV)]) (qm ((kJ G B X Pv hpl 4).up (by decide)) (qm X.i2d (zR X.d2i))) X.dm fun l v e=>aa e fun q hq e=>aO e fun h e=>by
  rw[uL hq];obtain rfl:=al_0 e;exact⟨rfl,Bw (fun U U e=>e) (fun U U e=>e) (fun U U e=>e) h.1 h.2.1 h.2.2.1 h.2.2.2⟩
theorem mU(lv D:Nat)(hD:23<=D){φ:List V->Option V}(hφ:Cal W D (ad 5) φ)(hl:0<lv->∀l v,jG (lv-1) l=some v->φ l=some v):Cal W (D+1) (ad 5) (jG lv):=
 k9 G B X Pv hpl (ai (by decide) hD) (l:=[(4,dmV),(5,φ)]) (qm ((Ed G B X Pv hpl).up hD) (zR hφ)) X.idm fun l v e=>aa e fun q hq e=>by
  obtain⟨h,rfl⟩:=yI e;rw[uL hq];exact⟨rfl,yH lv (fun U U e=>e) hl h⟩
theorem B7:Cal W 26 (ad 5) (jG 2):=
 mU G B X Pv hpl 2 25 (by decide) (mU G B X Pv hpl 1 24 (by decide) (mU G B X Pv hpl 0 23 (by decide) Cal.none' (fun h=>absurd h (Nat.lt_irrefl _))) (fun U l v e=>e)) (fun U l v e=>e)
end
end
end
noncomputable def FE:Data->Option FuncData
 |.func fd=>some fd
 |_=>none
noncomputable def mj:Value->Option Str
 |.str q _=>some q
 |_=>none
noncomputable def oy:Value->Option Addr
 |.ref a=>some a
 |_=>none
noncomputable def sV:Value->Option Int
 |.int i _=>some i
 |_=>none
noncomputable def jI:Data->Option (Array Value)
 |.fields vs=>some vs
 |_=>none
noncomputable def jy:FuncBody->Option (List Stmt)
 |.stmts b=>some b
 |_=>none
theorem FD{d:Data}{q:FuncData}(h:FE d=some q):d=.func q:=by cases d<;>first | exact nn h | exact aq Data.func (al_0 h)
theorem pA{v:Value}{q:Str}(h:mj v=some q):∃t,v=.str q t:=by cases v<;>first | exact nn h | exact al_0 h▸⟨_,rfl⟩
theorem mC{v:Value}{a:Addr}(h:oy v=some a):v=.ref a:=by cases v<;>first | exact nn h | exact aq Value.ref (al_0 h)
theorem B1{v:Value}{i:Int}(h:sV v=some i):∃t,v=.int i t:=by cases v<;>first | exact nn h | exact al_0 h▸⟨_,rfl⟩
theorem kD{d:Data}{vs:Array Value}(h:jI d=some vs):d=.fields vs:=by cases d<;>first | exact nn h | exact aq Data.fields (al_0 h)
theorem xe{d:FuncBody}{b:List Stmt}(h:jy d=some b):d=.stmts b:=by cases d<;>first | exact nn h | exact aq FuncBody.stmts (al_0 h)
theorem qO{a:Addr}{T:List Addr}(h:(!T.contains a)=true):a∉T:=fun m=>by rw[List.contains_iff_mem.mpr m]at h;cases h
noncomputable def yV(K:Frag)(a:Addr):Option FuncData:=(K.lookup a).bind fun o=>FE o.data
theorem pW{K:Frag}{h:Heap}(X:K.In h){a:Addr}{fd:FuncData}(e:yV K a=some fd):∃o,h.get? a=some o/\o.data=.func fd:=aa e fun o ho e=>⟨o,X _ _ ho,FD e⟩
noncomputable def zA(K:Frag)(T:List Addr)(v:Value):Option Str:=(oy v).bind fun c=>gd (!T.contains c) ((K.lookup c).bind fun o=>(jI o.data).bind fun vs=>(vs[1]?).bind mj)
theorem BD{W:Wp}{K:Frag}(X:K.In W.h0){v:Value}{q:Str}(e:zA K W.T v=some q):nU W W.h0 v q:=
 aa e fun c hc e=>eN e fun hT e=>aa e fun o ho e=>aa e fun vs hv e=>aa e fun s hs e=>
  let⟨t,ht⟩:=pA e
  ⟨c,o,vs,t,mC hc,qO hT,X _ _ ho,kD hv,hs.trans (aq some ht)⟩
noncomputable def zQ:Nat->(List Value->Prop)->Prop
 |0,Q=>Q []
 |n+1,Q=>∀u,zQ n fun us=>Q (u::us)
theorem zP{n:Nat}:∀{Q:List Value->Prop},zQ n Q->∀{us:List Value},us.length=n->Q us:=by
 induction n with
 |zero=>exact fun h U e=>ln0 e h
 |succ n ih=>exact fun h U e=>lnS (P:=fun us=>_) e fun u us e=>ih (h u) e
noncomputable def gC(K:Frag)(a:Addr)(ps:List Str):Prop:=zQ ps.length fun us=>(yV K a).map (fun fd=>bindArgs fd ⟨us,[]⟩)=some (pure (ps.zip us))
noncomputable abbrev GG(K:Frag)(T:List Addr)(ps:List Str)(fd:FuncData):Prop:=
 fd.closure.isEmpty=true/\fd.globals=mainGlobals/\fd.builtins=builtinsNs/\cK fd.scope=true/\(∀p∈fd.scope.names,p.2≠.free) /\
  (∀x∈ps,fd.scope.names.lookup x=some .local\/fd.scope.names.lookup x=some .cell)/\ps.Nodup/\fd.scope.isCoroutine=false/\fd.scope.isGenerator=false/\zA K T fd.code=some fd.qualname
noncomputable def uW(K:Frag)(T:List Addr)(a:Addr)(ps:List Str):Option FuncData:=gd (!T.contains a) ((yV K a).bind fun fd=>if GG K T ps fd then some fd else none)
theorem mZ{W:Wp}{K:Frag}(X:K.In W.h0){a:Addr}{ps:List Str}{fd:FuncData}{body:List Stmt}(B:gC K a ps)(e:uW K W.T a ps=some fd)(hb:jy fd.body=some body):eQ W a ps body fd.scope:=
 eN e fun hT e=>aa e fun fd' hf e=>aO e fun F e=>by
  obtain rfl:=al_0 e;obtain⟨o,ho,hd⟩:=pW X hf;obtain c:=F.1;obtain g:=F.2.1;obtain b:=F.2.2.1;obtain s:=F.2.2.2.1;obtain f:=F.2.2.2.2.1;obtain l:=F.2.2.2.2.2.1;obtain u:=F.2.2.2.2.2.2.1;obtain co:=F.2.2.2.2.2.2.2.1;obtain ge:=F.2.2.2.2.2.2.2.2.1;obtain k:=F.2.2.2.2.2.2.2.2.2;exact⟨⟨o,fd',ho,hd,qO hT,BD X k,⟨rfl,xe hb,fc c,g,b,fun us hl=>by have:=zP B hl;rw[hf]at this;exact al_0 this⟩⟩,s,f,l,u,co,ge⟩
noncomputable def FH(K:Frag)(T:List Addr)(a:Addr)(ps:List Str)(tb:Tb)(ow:List Str):Option (List S×List (Option Nat)):=(uW K T a ps).bind fun fd=>(jy fd.body).bind fun b=>(b.mapM (trS tb ow 30 (ac fd.scope))).map fun y=>(y,pix (ac fd.scope) ps)
theorem FG{W:Wp}{K:Frag}(X:K.In W.h0){tb:Tb}{a:Addr}{ps ow:List Str}{y:List S}{px:List (Option Nat)}{k:Nat}(B:gC K a ps)(e:FH K W.T a ps tb ow=some (y,px))(hk:ps.length=k):Ev W tb a px k y:=
 aa e fun fd hf e=>aa e fun b hb e=>by
  obtain⟨y',hy,e⟩:=bj.mp e
  cases e
  exact⟨ps,b,fd.scope,ow,mZ X B hf hb,hk,rfl,hy⟩
noncomputable def j0(K:Frag)(T:List Addr)(a:Addr)(ps:List Str):Option (List Stmt×Scope):=(uW K T a ps).bind fun fd=>(jy fd.body).map fun b=>(b,fd.scope)
theorem rl{W:Wp}{K:Frag}(X:K.In W.h0){a:Addr}{ps:List Str}{body:List Stmt}{sc:Scope}(B:gC K a ps)(e:j0 K W.T a ps=some (body,sc)):eQ W a ps body sc:=
 aa e fun fd hf e=>by
  obtain⟨b,hb,e⟩:=bj.mp e
  cases e
  exact mZ X B hf hb
noncomputable def tE(K:Frag)(a:Addr):Option (Addr×Str):=(yV K a).bind fun fd=>(oy fd.code).map fun c=>(c,fd.qualname)
theorem oK{W:Wp}{K:Frag}(X:K.In W.h0){a c:Addr}{q:Str}(e:tE K a=some (c,q)):qt W a c q:=
 aa e fun fd hf e=>by
  obtain⟨c',hc,e⟩:=bj.mp e;obtain⟨o,ho,hd⟩:=pW X hf
  cases e
  exact⟨o,fd,ho,hd,mC hc,rfl⟩
noncomputable def rj(K:Frag)(x:Str):Option Value:=(nsIn K mainGlobals x).bind id
theorem rh{K:Frag}{h:Heap}{mg:Str->Option Value}(X:K.In h)(G:h.Ns mainGlobals mg){x:Str}{v:Value}(e:rj K x=some v):mg x=some v:=
 aa e fun o ho e=>mg_of X G (ho.trans (aq some e))
noncomputable def cR(K:Frag)(T:List Addr):List Str->List Addr->Option Unit
 |[],_=>some ()
 |x::xs,as=>(as.head?).bind fun a=>(rj K x).bind fun v=>(oy v).bind fun b=>gd (b==a&&!T.contains a) ((yV K a).bind fun U=>cR K T xs as.tail)
theorem fe{W:Wp}{K:Frag}(X:K.In W.h0)(G:W.h0.Ns mainGlobals W.mg):∀{xs:List Str}{as:List Addr}{u:Unit},cR K W.T xs as=some u->∀{x:Str}{i:Nat},xs.findIdx? (·==x)=some i ->
  Ex2 fun o fd=>gx (W.mg x=some (.ref (as.getD i 0))) (W.h0.get? (as.getD i 0)=some o) (o.data=.func fd) (as.getD i 0∉W.T):=by
 intro xs
 induction xs with
 |nil=>exact fun U U U h=>nn h
 |cons y xs fe=>
  intro as u e x i h
  cases as with
  |nil=>exact nn0 e
  |cons a as=>
   refine aa e fun a' ha e=>aa e fun v hv e=>aa e fun b hb e=>eN e fun q e=>aa e fun fd hf e5=>?_;obtain rfl:=al_0 ha;rw[List.findIdx?_cons]at h
   cases hy:y==x with
   |true=>
    rw[hy]at h;obtain rfl:=al_0 h;obtain⟨o,ho,hd⟩:=pW X hf;refine⟨o,fd,?_,ho,hd,qO (aT q).2⟩;rw[<-aB hy,rh X G hv,mC hb,aB (aT q).1];rfl
   |false=>
    rw[hy]at h;obtain⟨j,hj,rfl⟩:=bj.mp h;exact fe e5 hj
noncomputable def Ce(K:Frag)(x:Str)(i:Int):Bool:=(rj K x).bind sV==some i
theorem pS{K:Frag}{h:Heap}{mg:Str->Option Value}(X:K.In h)(G:h.Ns mainGlobals mg):∀{l:List (Str×Int)},(l.all fun p=>Ce K p.1 p.2)=true->∀{x:Str}{v:V},(l.map fun p=>(p.1,V.int p.2)).lookup x=some v->∃u,mg x=some u/\∀P h,Rp P h u v:=by
 intro r
 induction r with
 |nil=>
  intro _ _ _ h;exact nn h
 |cons zx r pS=>
  obtain⟨y,i⟩:=zx;intro e x v h;obtain e:=aT (List.all_cons.symm.trans e);rw[bc,List.lookup_cons]at h
  cases hy:x==y with
  |true=>
   rw[hy]at h;obtain e1:(rj K y).bind sV=some i:=aB e.1;refine aa e1 fun w hw e1=>?_;obtain⟨t,rfl⟩:=B1 e1;refine⟨_,(aq mg (aB hy)).trans (rh X G hw),fun P h'=>?_⟩;obtain rfl:=al_0 h;exact Rp.i
  |false=>
   rw[hy]at h;exact pS e.2 h
noncomputable def zC:Value->Option String
 |.type t=>some t
 |_=>none
noncomputable def EX:Data->Option (Array Value×Nat)
 |.seq vs n=>some (vs,n)
 |_=>none
theorem zB{v:Value}{t:String}(h:zC v=some t):v=.type t:=by cases v<;>first | exact nn h | exact aq Value.type (al_0 h)
theorem As{d:Data}{q:Array Value×Nat}(h:EX d=some q):d=.seq q.1 q.2:=by cases d<;>first | exact nn h | exact al_0 h▸rfl
noncomputable def A0(K:Frag)(T:List Addr)(wt:Addr):Option (Array Nat):=gd (!T.contains wt) ((K.lookup wt).bind fun o=>(zC o.cls).bind fun cl=>(EX o.data).bind fun q=>gd (cl == "tuple") (some ((q.1.map Builtin.Re.reRawOf).map (·.toNat))))
noncomputable def Fg(o:Obj)(cl:String)(vs:Array Value):Bool:=cl == "re.Pattern"&&(o.dict.isNone&&(Builtin.Re.reRawNat (vs.getD 2 .none)==0&&Builtin.Re.reRawNat (vs.getD 6 .none)==0))
noncomputable def xN(K:Frag)(T:List Addr)(x:Str):Option (Array Nat):=(rj K x).bind fun v=>(oy v).bind fun p=>gd (!T.contains p) ((K.lookup p).bind fun o=>(zC o.cls).bind fun cl=>(jI o.data).bind fun vs=>
 gd (Fg o cl vs) ((oy (vs.getD 5 .none)).bind (A0 K T)))
theorem xL{W:Wp}{K:Frag}(X:K.In W.h0)(G:W.h0.Ns mainGlobals W.mg){x:Str}{code:Array Nat}(e:xN K W.T x=some code):∃p,W.mg x=some (.ref p)/\∀h:Heap,(∀b o,b∉W.T->W.h0.get? b=some o->h.get? b=some o)->ij h p code:=
 aa e fun v hv e=>aa e fun p hp e=>eN e fun n1 e=>aa e fun o ho e=>aa e fun cl hc e=>aa e fun vs hvs e=>eN e fun g e=>aa e fun wt hw e=>eN e fun n2 e=>aa e fun ow how e=>aa e fun cl2 hc2 e=>aa e fun q hq e=>eN e fun g2 e=>
  ⟨p,(rh X G hv).trans (aq some (mC hp)),fun h kk=>⟨o,vs,wt,ow,q.1,q.2,kk _ _ (qO n1) (X _ _ ho),aB (aT g).1▸zB hc,nO.mp (aT (aT g).2).1,kD hvs,aB (aT (aT (aT g).2).2).1,mC hw,aB (aT (aT (aT g).2).2).2,
   kk _ _ (qO n2) (X _ _ how),As hq,aB g2▸zB hc2,al_0 e⟩⟩
theorem xc{K:Frag}{h:Heap}{mg:Str->Option Value}(X:K.In h)(G:h.Ns mainGlobals mg){x y:Str}(e:(rj K x).bind mj=some y):∃t,mg x=some (.str y t):=
 aa e fun v hv e=>(by obtain⟨t,ht⟩:=pA e;exact⟨t,(rh X G hv).trans (aq some ht)⟩)
section
structure Mk where
 c:Addr
 P:Addr
 pos:Pos
 qual:Str
noncomputable def nR(T:List Addr)(m:Mk)(h:Heap):Prop:=
 CodeHd h m.c m.P/\(∃o,h.get? m.c=some o/\cz o)/\(h.get? m.P=some (tabObj #[])\/∃c',dD (c'∉T) (h.get? m.P=some (tabObj #[rawInt m.pos.line,rawInt m.pos.col,.ref c'])) (h.CodeRec (.ref c') m.qual))
noncomputable def my(prog:Program)(w:World)(h0:Heap)(mg mb:Str->Option Value)(m1 m2:Mk):Wp:=
 { prog,w,T:=[m1.P,m2.P],TI:=fun h=>nR [m1.P,m2.P] m1 h/\nR [m1.P,m2.P] m2 h,h0,mg,mb,fs:=fun A env=>A.frames=some [env]/\env.frame=some env.locals }
theorem gY{h h':Heap}{c P:Addr}(t:CodeHd h c P)(k:∀o,h.get? c=some o->h'.get? c=some o):CodeHd h' c P:=by
 refine byG fun gG kG=>?_;obtain⟨o,vs,file,tf,flags,tg,inF,text,tt,e,r⟩:=t;refine kG ?_;exact⟨o,vs,file,tf,flags,tg,inF,text,tt,k _ e,r⟩
theorem wE{h:Heap}{c P:Addr}(t:CodeHd h c P):c≠P:=by
 obtain⟨_,_,_,_,_,_,_,_,_,_,_,_,_,_,_,_,_,_,hne⟩:=t;exact hne
theorem nR.keep{T:List Addr}{m:Mk}{h h':Heap}(t:nR T m h)(hP:m.P∈T)(k:∀b o,h.get? b=some o->(b∈T\/cz o)->h'.get? b=some o):nR T m h':=by
 obtain⟨t,⟨oc,hc,hco⟩,ht⟩:=t;refine⟨gY t fun o e=>k _ _ e (.inr (al_0 (hc.symm.trans e)▸hco)),⟨oc,k _ _ hc (.inr hco),hco⟩,?_⟩;rcases ht with ht | ⟨c',n,ht,c2,o2,vs2,t2,e2,g2,d2,v2⟩
 ·exact .inl (k _ _ ht (.inl hP))
 ·exact .inr ⟨c',n,k _ _ ht (.inl hP),c2,o2,vs2,t2,e2,k _ _ g2 (.inr ⟨vs2,_,_,d2,v2⟩),d2,v2⟩
structure jW(K:Frag)(h:Heap)(mg mb:Str->Option Value)(m1 m2:Mk):Prop where
 X:K.In h
 g:h.Ns mainGlobals mg
 b:h.Ns builtinsNs mb
 lim:h.NoLimit
 bi:∀x:Str,x ≠ "__name__"->mb x=bootBuiltins x
 h1:CodeHd h m1.c m1.P/\h.get? m1.P=some (tabObj #[])
 h2:CodeHd h m2.c m2.P/\h.get? m2.P=some (tabObj #[])
 bm:∃bm o,mg "__builtins__" = some (.ref bm)/\bm≠builtinsNs/\h.get? bm=some o/\o.cls=.type "module"/\o.dict=some builtinsNs/\o.data=.plain
noncomputable def C6(K:Frag):Bool:=lZ.all fun x=>(nsIn K mainGlobals x).elim false (·.isNone)
theorem AI{α:Type}{o:Option (Option α)}(h:o.elim false (·.isNone)=true):o=some none:=by
 cases o with
 |none=>cases h
 |some o=>exact aq some (nO.mp h)
noncomputable def jO(K:Frag)(c:Addr):Option Str:=(K.lookup c).bind fun o=>(jI o.data).bind fun vs=>(vs[1]?).bind mj
theorem ny{K:Frag}{h:Heap}(X:K.In h){c:Addr}{s:Str}(e:jO K c=some s):∃o,h.get? c=some o/\cz o:=
 aa e fun o ho e=>aa e fun vs hv e=>aa e fun v hs e=>(by obtain⟨t,ht⟩:=pA e;exact⟨o,X _ _ ho,vs,s,t,kD hv,hs.trans (aq some ht)⟩)
section
variable{K:Frag}{prog:Program}{w:World}{h:Heap}{mg mb:Str->Option Value}{m1 m2:Mk}
theorem Dl(R:jW K h mg mb m1 m2){q1 q2:Str}(c1:jO K m1.c=some q1)(c2:jO K m2.c=some q2):(my prog w h mg mb m1 m2).TI h:=
 ⟨⟨R.h1.1,ny R.X c1,.inl R.h1.2⟩,R.h2.1,ny R.X c2,.inl R.h2.2⟩
theorem lG{T:List Addr}{m:Mk}(t:nR T m h):∃ps,h.get? m.P=some (tabObj ps):=by
 rcases t.2.2 with q | ⟨c',_,q,_⟩
 ·exact⟨_,q⟩
 ·exact⟨_,q⟩
theorem mw(R:jW K h mg mb m1 m2){b:Addr}{o:Obj}(e:h.get? b=some o)(hn:o≠tabObj #[]):b∉[m1.P,m2.P]:=fun q=>by
 simp only[aM,cM,or_false]at q;rcases q with rfl | rfl
 ·obtain rfl:=al_0 (Eq.trans (Eq.symm R.h1.2) e);exact hn rfl
 ·obtain rfl:=al_0 (Eq.trans (Eq.symm R.h2.2) e);exact hn rfl
theorem mv(R:jW K h mg mb m1 m2){a:Addr}{m:Str->Option Value}(n:h.Ns a m):a∉[m1.P,m2.P]:=by
 refine byG fun gG kG=>?_;obtain⟨o,es,ep,ho,hd,_⟩:=n;refine kG ?_;exact mw R ho (fun q=>by rw[q]at hd;cases hd)
theorem Dk(R:jW K h mg mb m1 m2)(nb:C6 K=true):WF (my prog w h mg mb m1 m2) where
 g:=R.g
 gT:=mv R R.g
 b:=R.b
 bT:=mv R R.b
 lim:=R.lim
 limT:=by obtain⟨mc,a,_⟩:=R.lim;exact mv R a
 bi:=R.bi
 tx:=fun h' t b hb=>by
  obtain hb:b∈[m1.P,m2.P]:=hb;simp only[aM,cM,or_false]at hb;rcases hb with rfl | rfl
  ·obtain⟨ps,e⟩:=lG t.1;exact⟨_,e,.inl rfl⟩
  ·obtain⟨ps,e⟩:=lG t.2;exact⟨_,e,.inl rfl⟩
 nb:=fun x hx=>by
  exact mg_none_of R.X R.g (AI (List.all_eq_true.mp nb x hx))
 ti:=fun h1 h2 k t=>⟨t.1.keep (.head _) k,t.2.keep (.tail _ (.head _)) k⟩
theorem wS(a b:Int)(c:Value):TriplesOk [rawInt a,rawInt b,c]:=by
 have:=TriplesOk_snoc a b c [] trivial;exact this
theorem zO(p:Pos)(c:Value):codeAmong p [rawInt p.line,rawInt p.col,c]=some c:=by
 have:=codeAmong_snoc (pos:=p) (c:=c) [] trivial rfl;exact this
theorem xB(R:jW K h mg mb m1 m2):Ex2 fun bm o=>mg "__builtins__" = some (.ref bm)/\bm≠builtinsNs/\bm≠mainGlobals/\bm∉[m1.P,m2.P]/\h.get? bm=some o/\o.cls=.type "module"/\o.dict=some builtinsNs/\o.data=.plain:=by
 refine byG fun gG kG=>?_;obtain⟨bm,o,a1,a2,a3,a4,a5,a6⟩:=R.bm;refine kG ?_;refine⟨bm,o,a1,a2,fun q=>?_,mw R a3 (fun q=>by rw[q]at a6;cases a6),a3,a4,a5,a6⟩;refine byG fun gG kG=>?_;obtain⟨o',es,ep,ho,hd,_⟩:=R.g;refine kG ?_;rw[q,ho]at a3;cases a3;rw[hd]at a6;cases a6
theorem u8{T:List Addr}{m:Mk}{h':Heap}{ps:Array Value}{c':Addr}(t:nR T m h)(hP:h.get? m.P=some (tabObj ps))(hn:codeAmong m.pos ps.toList=none)(nT:c'∉T)(k:∀b o,b≠m.P->h.get? b=some o->h'.get? b=some o)(hP':h'.get? m.P=some (tabObj (ps++#[rawInt m.pos.line,rawInt m.pos.col,.ref c'])))(hr:h'.CodeRec (.ref c') m.qual):nR T m h':=by
 have hne:m.c≠m.P:=wE t.1;obtain⟨t,⟨oc,hc,hco⟩,ht⟩:=t;refine⟨gY t (k _ · hne),⟨oc,k _ _ hne hc,hco⟩,.inr ⟨c',nT,?_,hr⟩⟩;rcases ht with q | ⟨c2,_,q,_⟩
 ·simp only[hP]at q
  injection q with q
  injection q with _ _ q _
  injection q with q
  simp only[hP',q];rfl
 ·simp only[hP]at q
  injection q with q
  injection q with _ _ q _
  injection q with q
  simp only[q]at hn;simp only[show(#[rawInt m.pos.line,rawInt m.pos.col,Value.ref c2]:Array Value).toList=[rawInt m.pos.line,rawInt m.pos.col,.ref c2]from rfl,zO]at hn
  cases hn
theorem qy{T:List Addr}{m:Mk}{P:Addr}{h':Heap}(t:nR T m h)(hP:m.P≠P)(hc:m.c≠P)(hcr:∀c' q,h.CodeRec (.ref c') q->c'∉T->c'≠P)(k:∀b o,b≠P->h.get? b=some o->h'.get? b=some o):nR T m h':=by
 obtain⟨t,⟨oc,hco,hco2⟩,ht⟩:=t;refine⟨gY t (k _ · hc),⟨oc,k _ _ hc hco,hco2⟩,?_⟩;rcases ht with q | ⟨c2,n,q,hr⟩
 ·exact .inl (k _ _ hP q)
 ·refine .inr ⟨c2,n,k _ _ hP q,?_⟩
  have:=hcr c2 _ hr n;obtain⟨c3,o3,vs3,t3,e3,g3,r3⟩:=hr
  cases e3
  exact⟨c2,o3,vs3,t3,rfl,k _ _ this g3,r3⟩
theorem uS{T:List Addr}{m:Mk}{h:Heap}(t:nR T m h):CodeHd h m.c m.P/\∃ps,dD (h.get? m.P=some (tabObj ps)) (TriplesOk ps.toList) ((codeAmong m.pos ps.toList=none\/∃c',dD (codeAmong m.pos ps.toList=some (.ref c')) (c'∉T) (h.CodeRec (.ref c') m.qual))):=by
 refine⟨t.1,?_⟩;rcases t.2.2 with q | ⟨c',n,q,hr⟩
 ·exact⟨_,q,trivial,.inl rfl⟩
 ·exact⟨_,q,wS ..,.inr ⟨c',zO ..,n,hr⟩⟩
theorem vU(R:jW K h mg mb m1 m2)(hP:m1.P≠m2.P)(hc:m2.c≠m1.P):lC (my prog w h mg mb m1 m2) m1.c m1.P m1.pos m1.qual where
 inT:=.head _
 get:=fun h t=>uS t.1
 put:=fun h h' ps c' t e hn nT k hP' hr=>⟨u8 t.1 e hn nT k hP' hr,qy t.2 (Ne.symm hP) hc (fun c q U n=>fun z=>n (z▸.head _)) k⟩
 ng:=fun q=>mv R R.g (q▸.head _)
 bm:=xB R
theorem vT(R:jW K h mg mb m1 m2)(hP:m1.P≠m2.P)(hc:m1.c≠m2.P):lC (my prog w h mg mb m1 m2) m2.c m2.P m2.pos m2.qual where
 inT:=.tail _ (.head _)
 get:=fun h t=>uS t.2
 put:=fun h h' ps c' t e hn nT k hP' hr=>⟨qy t.1 hP hc (fun c q U n=>fun z=>n (z▸.tail _ (.head _))) k,u8 t.2 e hn nT k hP' hr⟩
 ng:=fun q=>mv R R.g (q▸.tail _ (.head _))
 bm:=xB R
end
end
theorem pD{h:Heap}{T:List Addr}{la:Addr}{vs:List Value}{ns:List Int}{n:Nat}(hl:IsL h la vs.toArray n)(hT:la∉T)(hi:IntsAre vs ns):Rps (fun b=>b∉T) h [.ref la] [.lst (ns.map .int)]:=by
 exact Rps.cons (Rp.li hT hl (Rps.of_ints hi)) Rps.nil
theorem wq{K:Frag}{c:ClaimW}{cl:Str->Option Addr}{mean:ExcName->Option Value}{args:List WData}{s₁:Shared}{m1 m2:Mk}{prog:Program}{w:World}{mg mb:Str->Option Value}{h':Heap}{tk:Nat}(hp:c.post args (.bool true) args=true)(hr:∀cls,c.raises args cls=false)(hg:s₁.gens=#[])(k:∀b o,b∉[m1.P,m2.P]->s₁.heap.get? b=some o->h'.get? b=some o)(ti:(my prog w s₁.heap mg mb m1 m2).TI h'):
  GoodW c cl mean args { s₁ with heap:=ghostOf s₁.heap [(m1.c,m1.P),(m2.c,m2.P)] } (.ok (.ret (.bool true))) { s₁ with heap:=h',toks:=tk }/\GrownAll [(m1.c,m1.P),(m2.c,m2.P)] h':=by
 refine⟨⟨.inl ⟨.bool true,.bool true,[],rfl,hr,ReadsW.bool _,hp,fun U=>⟨List.nodup_nil,fun a h=>by cases h⟩⟩,fun b o e=>k b o (fun q=>?_) (of_hideAll _ e),rfl,hg⟩,?_⟩
 ·have:=hideAll_none (h:=s₁.heap) [m1.P,m2.P] q
  simp only[show ghostOf s₁.heap [(m1.c,m1.P),(m2.c,m2.P)]=hideAll s₁.heap [m1.P,m2.P]from rfl,this]at e
  cases e
 ·exact⟨lG ti.1,lG ti.2,trivial⟩
noncomputable def Go:List Str:=["_div2n1n", "_div3n2n", "_int2digits", "_digits2int", "_divmod_pos", "int_divmod", "quotedata", "ISTERMINAL", "ISNONTERMINAL", "ISEOF"]
noncomputable def sH:List (Str×Int):=[("_DIV_LIMIT", 4000),("ENDMARKER", 0),("NT_OFFSET", 256)]
noncomputable def Gn(gf:List Str)(gs:List Str)(tr:Nat):Tb:=⟨Go++gf,sH.map fun p=>(p.1,.int p.2), "_parse_varint", gs,tr,[]⟩
noncomputable def qv:List S:=[.ret (.cmp .Lt (.var 0) (.const (.int 256)))]
noncomputable def m6:List S:=[.ret (.cmp .GtE (.var 0) (.const (.int 256)))]
noncomputable def CD:List S:=[.ret (.cmp .Eq (.var 0) (.const (.int 0)))]
noncomputable def EvK(K:Frag)(T:List Addr)(a:Addr)(ps:List Str)(tb:Tb)(ow:List Str)(px:List (Option Nat))(y:List S):Prop:=gC K a ps/\FH K T a ps tb ow=some (y,px)
theorem EvK.ev{W:Wp}{K:Frag}(X:K.In W.h0){a:Addr}{ps ow:List Str}{tb:Tb}{px:List (Option Nat)}{y:List S}(e:EvK K W.T a ps tb ow px y):Ev W tb a px ps.length y:=FG X e.1 e.2 rfl
structure Cz(K:Frag)(T:List Addr)(m1 m2:Mk)(tb:Tb)(as:List Addr)(pv:Addr)(qp qd qi qs:Nat->Pos):Prop where
 names:cR K T tb.gf as=some ()
 gc:tb.gc=sH.map fun p=>(p.1,.int p.2)
 intK:(sH.all fun p=>Ce K p.1 p.2)=true
 pvn:tb.pvn = "_parse_varint"
 pvN:cR K T ["_parse_varint"] [pv]=some ()
 pvTB:gC K pv ["iterator"]
 pvT:j0 K T pv ["iterator"]=some (gO qp,pvSc)
 dTB:gC K (as.getD 3 0) ["digits", "n"]
 dT:j0 K T (as.getD 3 0) ["digits", "n"]=some (vi qd,zt)
 dC:tE K (as.getD 3 0)=some (m1.c,("_digits2int" : Str))
 dP:m1.pos=qd 38
 dQ:m1.qual=((("_digits2int" : Str) ++ ".<locals>.") ++ "inner")
 iTB:gC K (as.getD 2 0) ["a", "n"]
 iT:j0 K T (as.getD 2 0) ["a", "n"]=some (uP qi,yJ)
 iC:tE K (as.getD 2 0)=some (m2.c,("_int2digits" : Str))
 iP:m2.pos=qi 67
 iQ:m2.qual=((("_int2digits" : Str) ++ ".<locals>.") ++ "inner")
 iL:(qi 57).endLine=(qi 58).line
 qTB:gC K (as.getD 6 0) ["data"]
 qT:j0 K T (as.getD 6 0) ["data"]=some (xI qs,Dq)
 qL1:((qs 1).endLine==(qs 8).line)=true
 qL2:((qs 4).endLine==(qs 7).line)=true
 q1:xN K T "_twin_re_1" = some vW
 q2:xN K T "_twin_re_2" = some nZ
 q3:(rj K "CRLF").bind mj=some ⟨#[13,10]⟩
 d2:EvK K T (as.getD 0 0) ["a", "b", "n"] tb [] [some 0,some 1,some 2,none,none,none,none,none,none,none,none] fM
 d3:EvK K T (as.getD 1 0) ["a12", "a3", "b", "b1", "b2", "n"] tb [] [some 0,some 1,some 2,some 3,some 4,some 5,none,none] fL
 dm:EvK K T (as.getD 4 0) ["a", "b"] tb ["q_digits", "q_digits"] [some 0,some 1,none,none,none,none,none,none,none] g9
 idm:EvK K T (as.getD 5 0) ["a", "b"] tb [] [some 0,some 1,none,none] g8
 t7:EvK K T (as.getD 7 0) ["x"] tb [] [some 0] qv
 t8:EvK K T (as.getD 8 0) ["x"] tb [] [some 0] m6
 t9:EvK K T (as.getD 9 0) ["x"] tb [] [some 0] CD
noncomputable def B4(f:Int->Bool)(l:List V):Option V:=(one l).bind fun x=>(fD x).map fun i=>.bool (f i)
noncomputable def t7V:List V->Option V:=B4 fun x=>decide (x<256)
noncomputable def t8V:List V->Option V:=B4 fun x=>decide (256<=x)
noncomputable def t9V:List V->Option V:=B4 fun x=>x==0
structure Py(W:Wp)(tb:Tb)(ad:Nat->Addr)(pv:Addr):Prop where
 G:WF W
 B:p7 W tb ad
 Pv:∀D,1<=D->i9 W tb D
 pvm:W.mg tb.pvn=some (.ref pv)
 Pr:gB W 1 pv
 i2d:Cal W 22 (ad 2) i2dV
 d2i:Cal W 22 (ad 3) d2iV
 idm:Cal W 26 (ad 5) (jG 2)
 qd:Cal W 3 (ad 6) qdV
 c7:Cal W 2 (ad 7) t7V
 c8:Cal W 2 (ad 8) t8V
 c9:Cal W 2 (ad 9) t9V
theorem Ds{W:Wp}{K:Frag}{m1 m2:Mk}{tb:Tb}{as:List Addr}{pv:Addr}{qp qd qi qs:Nat->Pos}(G:WF W)(X:K.In W.h0)(T1:lC W m1.c m1.P m1.pos m1.qual)(T2:lC W m2.c m2.P m2.pos m2.qual)(p:Cz K W.T m1 m2 tb as pv qp qd qi qs)(hpl:Pl tb):
  Py W tb (fun i=>as.getD i 0) pv:=by
 have B:p7 W tb (fun i=>as.getD i 0):=⟨fun x v e=>pS X G.g p.intK (p.gc▸e),fun x i e=>fe X G.g p.names e,by rw[p.pvn];decide⟩;obtain⟨po,pfd,e1,e2,e3,e4⟩:=fe X G.g p.pvN (x := "_parse_varint") (i:=0) (by rfl);have pF:=rl X p.pvTB p.pvT;have Pv:∀D,1<=D->i9 W tb D:=fun D hD=>⟨⟨pv,po,pfd,p.pvn▸e1,e2,e3,e4,(Dw G (D:=0) pF).up hD⟩⟩;have d2i:Cal W 22 (as.getD 3 0) d2iV:=By G (rl X p.dTB p.dT) (oK X p.dC) (by rw[<-p.dP,<-p.dQ];exact T1);have i2d:Cal W 22 (as.getD 2 0) i2dV:=B8 G p.iL (rl X p.iTB p.iT) (oK X p.iC) (by rw[<-p.iP,<-p.iQ];exact T2);have F:CC W tb (fun i=>as.getD i 0):=⟨p.d2.ev X,p.d3.ev X,p.dm.ev X,p.idm.ev X,i2d,d2i⟩;have tc:∀{a:Addr}{y:List S}{f:Int->Bool},EvK K W.T a ["x"] tb [] [some 0] y->(∀i,Ret (wW []) 8 y [jv i] (.bool (f i)))->Cal W 2 a (B4 f):=fun{a y f} e k=>
  k9 G B F Pv hpl (bS 1) (l:=[]) (fun U h=>nomatch h) (e.ev X) fun l v e=>aa e fun x hx e=>by
   obtain⟨i,hi,rfl⟩:=bj.mp e;rw[aX hx,dN hi];exact⟨rfl,k i⟩
 exact⟨G,B,Pv,p.pvn▸e1,Du G (D:=0) pF,i2d,d2i,B7 G B F Pv hpl,
  Dp G ⟨xL X G.g p.q1,xL X G.g p.q2,(by obtain⟨t,e⟩:=xc X G.g p.q3;exact⟨_,t,e,rfl⟩)⟩ p.qL1 p.qL2 (rl X p.qTB p.qT),tc p.t7 fun i=>.ret rfl rfl,tc p.t8 fun i=>.ret rfl rfl,tc p.t9 fun i=>.ret rfl rfl⟩
section
theorem jR{ρ:Ro}{i:Nat}{v:V}(h:l9 ρ i=some v):ρ[i]?=some (.val v):=aa h fun sl hs e=>ke e▸hs
section
variable{W:Wp}{tb:Tb}{Φ:Fun}{τ N D n:Nat}{c:Cx}
structure EI(τ:Nat)(W:Wp)(tb:Tb)(Φ:Fun)(D:Nat):Prop where
 fn:∀x k,tb.gt.findIdx? (·==x)=some k->Ex3 fun a o fd=>jX (W.mg x=some (.ref a)) (W.h0.get? a=some o) (o.data=.func fd) (a∉W.T) (tT τ W D a (Φ (2000+k)))
theorem AZ{o:CmpOp}(h:Fr o=true):o=.NotEq:=by cases o<;>first | rfl | cases h
theorem zI{c:Const}{k:Bool}(h:Cv c=some k):c=.bool k:=by
 cases c
 case bool=>exact aq Const.bool (al_0 h)
 all_goals exact nn0 h
theorem AB{b:List Stmt}(h:qF b=true):Ex3 fun kd kp rp=>b=[.Return (some (.Constant (.bool false) kd kp)) rp]:=
 aa (aB h) fun s hs h=>aa h fun r hr h=>aa h fun e he h=>aa h fun q hq h=>by
  obtain hn:=(bD hr).1;obtain e1:=(bD hr).2;obtain hm:=(bD hq).1;obtain e2:=(bD hq).2;refine⟨q.2.1,q.2.2,r.2,?_⟩;rw[aX hs,Dj s hn,e1,he,tF e hm,e2,zI h]
theorem En{t:Expr}{a b:List Stmt}{q:ChkT}(h:Cs c t a b=some q):Ex8 fun xp fp yp cp p kd kp rp=>gx (t=.Compare (.Name q.x xp) [.NotEq] [.Call (.Name q.f fp) [.Name q.y yp] [] cp] p) (a=[.Return (some (.Constant (.bool false) kd kp)) rp]) (b=[]) (c.glob q.f=true):=
 aa h fun r hr h=>aa h fun op ho h=>aa h fun e he h=>aa h fun x hx h=>aa h fun u hu h=>aa h fun y hy h=>eN h fun g h=>by
  obtain rfl:=al_0 h;obtain g1:=(aT g).1;obtain g:=(aT g).2;obtain g2:=(aT g).1;obtain g3:=(aT g).2;obtain⟨kd,kp,rp,e1⟩:=AB g2;obtain⟨xp,e2⟩:=aS hx;obtain⟨yp,e3⟩:=aS hy;refine aa hu fun t ht hu=>aa hu fun f hf hu=>aa hu fun a' ha hu=>eN hu fun gg hu=>?_;obtain rfl:=al_0 hu;obtain⟨fp,e4⟩:=aS hf;exact⟨xp,fp,yp,t.2.2,r.2.2.2,kd,kp,rp,by simp only[Cr hr,e2,aX ho,aX he,AZ g1,f8 ht,e4,aX ha,show a'=Expr.Name y yp from e3],e1,fc g3,gg⟩
theorem Em(G:WF W)(T:EI τ W tb Φ D)(c:Cx)(t:Expr)(a b:List Stmt)(pos:Pos)(y:S)(h:BE tb c t a b=some y):SX τ W D c (.If t a b pos) (ex Φ N y):=
 aa h fun q hq h=>aa h fun k hk h=>aa h fun i hi h=>aa h fun j hj h=>eN h fun g h=>by
  obtain rfl:=al_0 h;obtain⟨xp,fp,yp,cp,p,kd,kp,rp,rfl,rfl,rfl,hg⟩:=En hq;obtain⟨hi1,hi2⟩:=cZ hi;obtain⟨hj1,hj2⟩:=cZ hj;intro A env ρ P s o Q E' ao fo hc pr ho ht h;refine aa ho fun x hx ho=>aa ho fun yv hy ho=>aa ho fun z hz ho=>?_;revert h;refine mpi ho fun t' ht' h=>?_;subst hc;obtain⟨fa,fob,fd,hm,hfo,hdat,hT,cal⟩:=T.fn _ k hk;refine wpAny_If (wpAny_isTrue_Compare1 (dL ht (eZ pr hi1 hi2 (jR hx) fun u h1 tk1 K1 r1 ht1=>?_)) rfl);obtain pr1:=pr.step K1;refine eS (bh (bo (s:={ s with heap:=h1,toks:=tk1 }) G pr1 hg hm ?_) (mK g));simp only[fg];refine iU (o:=fob) (fd:=fd) (fX (dH (dL (s:={ s with heap:=h1,toks:=tk1 }) ht1 (eZ (s:={ s with heap:=h1,toks:=tk1 }) pr1 hj1 hj2 (jR hy) fun w h2 tk2 K2 r2 ht2=>fw ?_))));obtain pr2:=pr1.step K2;refine⟨⟨jH pr2.ok hfo hT,hdat⟩,?_⟩;refine cal A P [w] [yv] z { s with heap:=h2,toks:=tk2 } _ _ ht2 ao pr2.ok (Rps.cons r2 Rps.nil) hz fun u3 h3 tk3 K3 r3=>?_;obtain pr3:=pr2.step K3;refine qc (s:={ s with heap:=h3,toks:=tk3 }) pr3.ok (nB ao) ht' ((r1.kx pr.ok.pt K2).kx pr.ok.pt K3).rq r3.rq (wpAny_truthy_bool ?_);obtain K13:=(K1.trans K2).trans K3
  cases t'
  ·exact eG (h P h3 _ pr3 (Stp.kx G pr K13))
  ·exact aF (wpAny_Return_some (wpAny_Constant_bool (h (.bool false) P h3 _ pr3 (Stp.kx G pr K13) Rp.b)))
theorem CU{v:Expr}{q:SplT}(h:BW v=some q):G8 fun xp yd yp zd zp wd wp ra rc sa sc=>dD (v=.Call (.Attribute (.Call (.Attribute (.Name q.x xp) "replace" ra) [.Constant (.str q.y) yd yp,.Constant (.str q.z) zd zp] [] rc) "split" sa) [.Constant (.str q.w) wd wp] [] sc) ((ra.endLine==rc.line)=true) ((sa.endLine==sc.line)=true):=
 aa h fun q hq h=>aa h fun w hw h=>aa h fun w' hw' h=>aa h fun r hr h=>aa h fun yz hyz h=>aa h fun y hy h=>aa h fun z hz h=>by
  refine byG fun gG kG=>?_;obtain⟨x,hx,rfl⟩:=bj.mp h;obtain⟨sa,sc,e1,l1⟩:=qS hq;obtain⟨ra,rc,e2,l2⟩:=qS hr;obtain⟨wd,wp,e3⟩:=sr hw';obtain⟨yd,yp,e4⟩:=sr hy;obtain⟨zd,zp,e5⟩:=sr hz;obtain⟨xp,e6⟩:=aS hx;refine kG ?_;exact⟨xp,yd,yp,zd,zp,wd,wp,ra,rc,sa,sc,by rw[e1,e2,aX hw,iZ hyz,e3,e4,e5,e6],l2,l1⟩
theorem jz{x y z w:List Nat}{v:V}(h:Am x y z w=some v):x.length<=szLine/\z.length<=14/\y≠z/\mtV .split (.str (Txt.replace (strOf x) (strOf y) (strOf z)).cps.toList) [.str w]=some v:=aO h fun g h=>⟨g.1,g.2.1,g.2.2,h⟩
theorem CT(G:WF W)(hτ:1<=τ)(c:Cx)(x:Str)(px:Pos)(v:Expr)(pos:Pos)(i:Nat)(y:S)(hx:c.ix x=some i)(h:An tb c i v=some y):SX τ W D c (.Assign [.Name x px] v pos) (ex Φ N y):=
 eN h fun U h=>aa h fun q hq h=>by
  obtain⟨j,hj,rfl⟩:=bj.mp h;obtain⟨xp,yd,yp,zd,zp,wd,wp,ra,rc,sa,sc,rfl,l2,l1⟩:=CU hq;obtain hj1:=(cZ hj).1;obtain hj2:=(cZ hj).2;intro A env ρ P s o Q E' ao fo hc pr ho ht hO;refine aa ho fun xv hxv ho=>aa ho fun xs hxs ho=>aa ho fun v hv ho=>?_;revert hO;refine jB ho fun hO=>?_;subst hc;rw[j9 hxs]at hxv;obtain z1:=(jz hv).1;obtain z2:=(jz hv).2.1;obtain z3:=(jz hv).2.2.1;obtain hm:=(jz hv).2.2.2;obtain⟨cc,hsl⟩:=Cx.ix_spec hx;refine fW ?_ rfl;refine wpAny_Call_method rfl rfl l1 PySem.F.plainAttrs_str PySem.F.slot_str_split (by rfl) ?_;refine wpAny_Call_method rfl rfl l2 PySem.F.plainAttrs_str PySem.F.slot_str_replace (by rfl) (dL (ai hτ ht) (eZ pr hj1 hj2 (jR hxv) fun u h1 tk1 K1 r1 ht1=>r1.s' fun xx tx hxx=>?_));refine⟨typeIs_str _ _ _,(fun a q=>nomatch q),?_⟩;refine iS rfl (fX (dH (wpAny_Constant_str (k:=yd) (pos:=yp) (dH (wpAny_Constant_str (k:=zd) (pos:=zp) (fw ?_))))));obtain hyz:(q.y==q.z)=false:=by rw[qA];exact bK.mpr z3
  obtain pr1:=pr.step K1;subst hxx;refine SC.replaceW (by show tk1≠0;lia) (by show tk1+1≠0;lia) (by show tk1≠tk1+1;lia) hyz (by rw[dX];exact ai z1 (by decide)) (by rw[dX];exact z2) fun t' k=>?_;refine⟨typeIs_str _ _ _,(fun a q=>nomatch q),?_⟩;refine iS rfl (fX (dH (wpAny_Constant_str (k:=wd) (pos:=wp) (fw ?_))));obtain K2:KX W h1 h1:=KX.refl K1.ti;refine C8 (W:=W) (P:=P) (m:=.split) G (s:={ s with heap:=h1,toks:=k+1 }) pr1.ok hm ?_ (.cons ?_ .nil) fun u3 h3 tk3 K3 r3=>?_
  ·exact(Rp.s:Rp P h1 (.str (Txt.replace xx q.y q.z) t') (.str (Txt.replace xx q.y q.z).cps.toList)).rq
  ·exact(Rp.s:Rp P h1 (.str q.w _) (.str q.w.cps.toList)).rq
  ·exact dc (s:=s) G (pr1.step K3) (Stp.kx G pr (K1.trans K3)) hsl r3 fun h4 tk4 pr4 s4=>hO P h4 tk4 pr4 s4
end
end
section
noncomputable abbrev Mx:=List (List Int)
structure dz(W:Wp)(env:Env)(P:Addr->Prop)(h:Heap)(a:Addr)(rs:List Addr)(M:Mx):Prop where
 var:aA W.T env h "table" (.ref a)
 pa:P a
 tab:∃n,IsL h a (rs.map Value.ref).toArray n
 len:rs.length=M.length
 nd:rs.Nodup
 row:∀(i:Nat) (r:Addr) (m:List Int),rs[i]?=some r->M[i]?=some m->Ex2 fun vs n=>IsL h r vs n/\IntsAre vs.toList m
 hid:∀r∈rs,Hid W P r/\¬aw env r
noncomputable def KM(W:Wp)(env:Env)(rs:List Addr)(h h':Heap):Prop:=∀b o,b∉W.T->¬aw env b->b∉rs->h.get? b=some o->h'.get? b=some o
section
variable{W:Wp}{env:Env}{P:Addr->Prop}{h h' h'':Heap}{a:Addr}{rs:List Addr}{M:Mx}
theorem KM.refl:KM W env rs h h:=fun U U U U U e=>e
theorem KM.trans(x:KM W env rs h h')(y:KM W env rs h' h''):KM W env rs h h'':=fun b o n m r e=>y b o n m r (x b o n m r e)
theorem KM.kx(k:KX W h h'):KM W env rs h h':=fun b o n U U e=>k.keep b o n e
theorem dz.ex(x:dz W env P h a rs M){r:Addr}(hr:r∈rs):∃o,h.get? r=some o:=by
 obtain⟨i,hi⟩:=List.mem_iff_getElem?.mp hr;have hl:i<M.length:=by simp only[<-x.len];exact(cX.mp hi).1
 obtain⟨vs,n,hv,_⟩:=x.row i r _ hi (cE hl);exact⟨_,hv⟩
theorem dz.keep(x:dz W env P h a rs M)(k:∀b o,(b=a\/b∈rs)->h.get? b=some o->h'.get? b=some o)(v:aA W.T env h' "table" (.ref a)):dz W env P h' a rs M:=
 ⟨v,x.pa,(by obtain⟨n,e⟩:=x.tab;exact⟨n,k _ _ (.inl rfl) e⟩),x.len,x.nd,fun i r m h1 h2=>(by obtain⟨vs,n,e,f⟩:=x.row i r m h1 h2;exact⟨vs,n,k _ _ (.inr (dw h1)) e,f⟩),x.hid⟩
theorem dz.kx(pt:∀b,P b->b∉W.T)(x:dz W env P h a rs M)(k:KX W h h'):dz W env P h' a rs M:=
 x.keep (fun b o q e=>k.keep b o (q.elim (fun q=>q▸pt a x.pa) fun q=>(x.hid b q).1.nt) e) (x.var.keep k.keep)
theorem Mat.frm{h0:Heap}{ρ:Ro}{h1:Heap}(pr:Pre W P env ρ h1):Frm W env ["table"] (fun h=>dz W env P h a rs M/\KM W env rs h0 h) where
 kx:=fun h h' K t=>⟨t.1.kx pr.ok.pt K,t.2.trans (KM.kx K)⟩
 st:=fun x u b h h' hn st t=>by
  have hb:=st.mutE;have k:∀b' o,b'≠b->h.get? b'=some o->h'.get? b'=some o:=fun b' o q e=>(st.same.2 b' q).trans e;refine⟨t.1.keep (fun b' o q e=>k b' o (fun z=>?_) e) (st.others _ _ (fun q=>hn (by rw[q];exact .head _)) t.1.var),t.2.trans fun b' o n m r e=>k b' o (fun z=>m (z▸hb)) e⟩;subst z;rcases q with q | q
  ·exact(pr.hid b' hb).np (q▸t.1.pa)
  ·exact(t.1.hid b' q).2 hb
end
noncomputable def MX(W:Wp)(D:Nat)(c:Cx)(a:Addr)(rs:List Addr)(st:Stmt)(ρ:Ro)(M:Mx)(ρ':Ro)(M':Mx):Prop:=
 ∀(A:Around) (env:Env) (P:Addr->Prop) (s:Shared) (Q:Flow->Shared->Prop) (E':Value->Shared->Prop),AOk A D->ac env.scope=c->bY ρ->Pre W P env ρ s.heap->dz W env P s.heap a rs M ->
  (∀h' tk,bY ρ'->Pre W P env ρ' h'->dz W env P h' a rs M'->KM W env rs s.heap h'->Q .next { s with heap:=h',toks:=tk })->wpAny W.M A (exec st env) Q E' s
noncomputable def MXs(W:Wp)(D:Nat)(c:Cx)(a:Addr)(rs:List Addr)(st:List Stmt)(ρ:Ro)(M:Mx)(ρ':Ro)(M':Mx):Prop:=
 ∀(A:Around) (env:Env) (P:Addr->Prop) (s:Shared) (Q:Flow->Shared->Prop) (E':Value->Shared->Prop),AOk A D->ac env.scope=c->bY ρ->Pre W P env ρ s.heap->dz W env P s.heap a rs M ->
  (∀h' tk,bY ρ'->Pre W P env ρ' h'->dz W env P h' a rs M'->KM W env rs s.heap h'->Q .next { s with heap:=h',toks:=tk })->wpAny W.M A (execs st env) Q E' s
section
variable{W:Wp}{Φ:Fun}{D:Nat}{c:Cx}{a:Addr}{rs:List Addr}
theorem jD{ρ:Ro}{M:Mx}:MXs W D c a rs [] ρ M ρ M:=fun A env P s Q E' ao hc no pr mt h=>eG (h s.heap s.toks no pr mt KM.refl)
theorem cg{st:Stmt}{r:List Stmt}{ρ ρ1 ρ2:Ro}{M M1 M2:Mx}(x:MX W D c a rs st ρ M ρ1 M1)(y:MXs W D c a rs r ρ1 M1 ρ2 M2):MXs W D c a rs (st::r) ρ M ρ2 M2:=fun A env P s Q E' ao hc no pr mt h=>
 aF (x A env P s _ E' ao hc no pr mt fun h1 tk1 no1 pr1 mt1 k1=>y A env P _ Q E' ao hc no1 pr1 mt1 fun h2 tk2 no2 pr2 mt2 k2=>h h2 tk2 no2 pr2 mt2 (k1.trans k2))
theorem sR(G:WF W){x:Str}{px pos:Pos}{v:Expr}{i:Nat}{φ:Ro->Option V}{w:V}{ρ:Ro}{M:Mx}(hx:c.ix x=some i)(hn:x∉(["table"]:List Str))(hv:SE W D c v φ)(he:φ ρ=some w)(hs:∀line env,swapsWith v (some (.Name x px)) line env=pure false):
  MX W D c a rs (.Assign [.Name x px] v pos) ρ M (ρ.set i (.val w)) M:=fun A env P s Q E' ao hc no pr mt h=>by
 subst hc;obtain⟨cc,hsl⟩:=Cx.ix_spec hx;exact ql G (Mat.frm (h0:=s.heap) pr) ao hsl hn hv he pr ⟨mt,KM.refl⟩ (hs _ _) fun h' tk pr' f=>h h' tk (no.set i w) pr' f.1 f.2
theorem DB(G:WF W){t:Expr}{b:List Stmt}{pos:Pos}{φ:Ro->Option Bool}{ρ ρ':Ro}{M M':Mx}(ht:SB W D c t φ)(he:φ ρ=some true)(hb:MXs W D c a rs b ρ M ρ' M'):MX W D c a rs (.If t b [] pos) ρ M ρ' M':=fun A env P s Q E' ao hc no pr mt h=>
 wpAny_If (ht A env ρ P s true _ E' ao hc pr he fun h1 tk1 K1=>hb A env P _ Q E' ao hc no (pr.step K1) (mt.kx pr.ok.pt K1) fun h2 tk2 no2 pr2 mt2 k2=>h h2 tk2 no2 pr2 mt2 ((KM.kx K1).trans k2))
theorem y8(G:WF W){t:Expr}{b:List Stmt}{pos:Pos}{φ:Ro->Option Bool}{ρ:Ro}{M:Mx}(ht:SB W D c t φ)(he:φ ρ=some false):MX W D c a rs (.If t b [] pos) ρ M ρ M:=fun A env P s Q E' ao hc no pr mt h=>
 wpAny_If (ht A env ρ P s false _ E' ao hc pr he fun h1 tk1 K1=>eG (h h1 tk1 no (pr.step K1) (mt.kx pr.ok.pt K1) (KM.kx K1)))
inductive rN(B:Int->Ro->Mx->Ro->Mx->Prop):List Int->Ro->Mx->Ro->Mx->Prop
 |nil {ρ:Ro}{M:Mx}:rN B [] ρ M ρ M
 |cons {x:Int}{xs:List Int}{ρ ρ1 ρ2:Ro}{M M1 M2:Mx} (h:B x ρ M ρ1 M1) (t:rN B xs ρ1 M1 ρ2 M2):rN B (x::xs) ρ M ρ2 M2
inductive G4(W:Wp)(env:Env)(P:Addr->Prop)(a:Addr)(rs:List Addr)(s:Shared)(St:Nat->Heap->Prop)(B:Int->Ro->Mx->Ro->Mx->Prop)(items:List Int)(ρ':Ro)(M':Mx):Nat->Shared->Prop
 |mk (k:Nat) (ρk:Ro) (Mk:Mx) (hk:Heap) (tk:Nat) (le:k<=items.length) (st:St k hk) (no:bY ρk) (pr:Pre W P env ρk hk) (mt:dz W env P hk a rs Mk) (kp:KM W env rs s.heap hk) (run:rN B (items.drop k) ρk Mk ρ' M'):G4 W env P a rs s St B items ρ' M' (items.length-k) { s with heap:=hk,toks:=tk }
theorem bY.own{ρ:Ro}{W:Wp}{env:Env}{h:Heap}(no:bY ρ)(b:Addr):¬aQ W env ρ h b:=gP no b
theorem sQ(G:WF W){x:Str}{px pos:Pos}{it:Expr}{b:List Stmt}{i:Nat}{ii:It}{Tg:Expr->Prop}{items:List Int}{ρ ρ':Ro}{M M':Mx}(hx:c.ix x=some i)(hn:x∉(["table"]:List Str))(tg:Tg (.Name x px))(hi:SI W D c it Tg (eu Φ ii))(he:eu Φ ii ρ=some (items.map V.int))(run:rN (fun z ρ M ρ' M'=>MXs W D c a rs b (ρ.set i (.val (.int z))) M ρ' M') items ρ M ρ' M'):MX W D c a rs (.For (.Name x px) it b [] pos) ρ M ρ' M':=by
 intro A env P s Q E' ao hc no pr mt h;subst hc;obtain⟨cc,hsl⟩:=Cx.ix_spec hx;refine wpAny_For (hi.2 A env ρ P s _ _ E' ao rfl pr he ?_) (hi.1 env);intro hm tkm Km I X St h1 tk1 K1 itok st hX1;dsimp only at K1 itok hX1 ⊢;have prm:=pr.step Km;have mtm:=mt.kx pr.ok.pt Km;obtain⟨prx,_⟩:=Pre.less (A:=A) G prm K1 hX1;have hXP:∀b,X b->P b:=fun b x=>prm.ok.fresh G (hX1 b x).1;have xT:∀b,X b->b∉W.T:=fun b x=>prm.ok.pt b (hXP b x);have xM:∀b,X b->¬aw env b:=fun b x m=>(prm.hid b m).np (hXP b x);have x0:∀b,X b->W.h0.get? b=none:=fun b x=>eW G prm.ok (hX1 b x).1;have xr:∀b,X b->b∉rs:=fun b x q=>(by obtain⟨o,e⟩:=mtm.ex q;exact ak (hX1 b x).1 e);have xa:¬X a:=fun x=>(by obtain⟨n,e⟩:=mtm.tab;exact ak (hX1 a x).1 e);obtain mtx:dz W env (aH P X) h1 a rs M:=by
  have:=mtm.kx prm.ok.pt K1;exact⟨this.var,⟨this.pa,xa⟩,this.tab,this.len,this.nd,this.row,fun r hr=>⟨⟨fun q=>(this.hid r hr).1.np q.1,(this.hid r hr).1.nt,(this.hid r hr).1.n0⟩,(this.hid r hr).2⟩⟩
 have xs0:∀b,X b->s.heap.get? b=none:=fun b x=>by
  cases e:s.heap.get? b with
  |none=>rfl
  |some o=>exact ak (hX1 b x).1 (Km.keep b o (xT b x) e)
 have hBP:∀b,fK P hm b->aH P X b:=fun b w=>by obtain⟨p,o,e⟩:=w;exact⟨p,fun x=>ak (hX1 b x).1 e⟩
 refine codeAny_forLoop_any (G4 W env (aH P X) a rs s St _ items ρ' M') ?_ items.length (.mk 0 _ _ h1 tk1 (cO _) st no prx mtx ((KM.kx Km).trans (KM.kx K1)) run);intro m s' iv;generalize (notedBy (model W.prog W.w) A env fun e s'=>_)=E1;obtain⟨k,ρk,Mk,hk,tk,hle,stk,nok,prk,mtk,kpk,rk⟩:=iv;rcases Nat.lt_or_ge k items.length with hlt | hge
 ·have hxk:(items.map V.int)[k]?=some (.int items[k]):=by rw[bA,cE hlt];rfl
  rw[List.drop_eq_getElem_cons hlt]at rk;generalize items[k]=z at hxk rk;obtain _ | ⟨hB,rk⟩:=rk;refine itok.next (aH P X) k (.int z) (.Name x px) _ _ _ hBP (fun b q=>fun r=>r.2 q) tg hxk stk prk.ok fun u s₁ hu1=>hu1 _ _ fun h2 tk2 k2 ti2 ru st2=>?_;have pr2:Pre W (aH P X) env ρk h2:=prk.out (Z:=X) (fun b o U q e=>k2 b o q e) ti2 fun b q=>⟨fun r=>r.2 q,xM b q,nok.own b,x0 b q,itok.here _ _ _ st2 q⟩;have mt2:dz W env (aH P X) h2 a rs Mk:=mtk.keep (fun b o q e=>k2 b o (q.elim (fun q=>q▸xa) fun q x=>xr b x q) e) (mtk.var.keepM fun b o m e=>k2 b o (fun x=>xM b x m) e);obtain kp2:KM W env rs s.heap h2:=fun b o n m r e=>k2 b o (fun x=>ak (xs0 b x) e) (kpk b o n m r e);refine wpAny_assign_Name (kc (s:={ s with heap:=h2,toks:=tk2 }) G (Mat.frm (h0:=h2) pr2) hsl hn pr2 ⟨mt2,KM.refl⟩ ru fun h3 tk3 pr3 f3=>?_);refine hB A env (aH P X) _ _ E1 ao rfl (nok.set i _) pr3 f3.1 fun h4 tk4 no4 pr4 mt4 k4=>?_;have k24:=f3.2.trans k4;refine⟨_,Nat.sub_lt_sub_left hlt (dr k),.mk (k+1) _ _ h4 tk4 hlt (itok.frame _ _ _ st2 fun b o hb e=>?_) no4 pr4 mt4 (kp2.trans k24) rk⟩;rcases hb with hb | hb
  ·exact k24 b o (xT b hb) (xM b hb) (xr b hb) e
  ·have pb:=hBP b hb
   exact k24 b o (pr2.ok.pt b pb) (fun m=>(pr2.hid b m).np pb) (fun q=>(mt2.hid b q).1.np pb) e
 ·obtain rfl:=Nat.le_antisymm hle hge
  rw[List.drop_length]at rk
  cases rk
  refine itok.done _ _ _ (by rw[aC];exact stk) prk.ok.ti fun h2 tk2 k2 ti2=>?_;have kM:∀b o,aw env b->hk.get? b=some o->h2.get? b=some o:=fun b o m e=>k2 b o (fun x=>xM b x m) e;have mt2:=mtk.keep (fun b o q e=>k2 b o (q.elim (fun q=>q▸xa) fun q x=>xr b x q) e) (mtk.var.keepM kM);refine eG (h h2 tk2 nok ?_ ⟨mt2.var,mt.pa,mt2.tab,mt2.len,mt2.nd,mt2.row,mt.hid⟩ fun b o n m r e=>k2 b o (fun x=>ak (xs0 b x) e) (kpk b o n m r e));refine prk.stepG kM (fun b o w e=>absurd w (nok.own b)) (fun b o p e=>⟨p.1,k2 b o p.2 e⟩) (fun b hb x=>?_) ⟨fun b o n e=>k2 b o (fun x=>ak (x0 b x) e) (prk.ok.kept b o n e),ti2,fun b n e=>?_,fun b q=>prm.ok.pt b q⟩
  ·rcases hb with hb | hb
   ·exact pr.hid b hb
   ·exact absurd hb (nok.own b)
  ·by_cases q:X b
   ·exact hXP b q
   ·refine(prk.ok.new b n ?_).1
    cases e2:hk.get? b with
    |none=>rfl
    |some o=>rw[k2 b o q e2]at e;exact nn0 e.symm
end
end
section
noncomputable def zk:Scope:={ kind:=.function,names:=[("table", .local),("last", .local),("k", .local),("i", .local),("j", .local),("number", .local),("told", .local),("range", .globalImplicit),("int_divmod", .globalImplicit)],isGenerator:=false,isCoroutine:=false,more:=[] }
noncomputable def f6:Cx:=ac zk
noncomputable abbrev pq(p1 p2 p3 p4 p5:Pos)(x y:Str):Expr:=.Subscript (.Subscript (.Name "table" p1) (.Name x p2) p3) (.Name y p4) p5
noncomputable def Co(q:Nat->Pos):Expr:=.BinOp (.BinOp (pq (q 22) (q 23) (q 24) (q 25) (q 26) "i" "j") .Mult (pq (q 27) (q 28) (q 29) (q 30) (q 31) "k" "k") (q 32)) .Sub (.BinOp (pq (q 33) (q 34) (q 35) (q 36) (q 37) "i" "k") .Mult (pq (q 38) (q 39) (q 40) (q 41) (q 42) "k" "j") (q 43)) (q 44)
noncomputable def FL(q:Nat->Pos):List Stmt:=[
 .Assign [.Name "told" (q 49)] (.Call (.Name "int_divmod" (q 50)) [.Name "number" (q 51),.Name "last" (q 52)] [] (q 53)) (q 54),
 .If (.Compare (.Name "told" (q 55)) [.NotEq] [.Tuple [.BinOp (.Name "number" (q 56)) .FloorDiv (.Name "last" (q 57)) (q 58),.Constant (.int 0) 0 (q 59)] 0 (q 60)] (q 61)) [.Return (some (.List [] (q 62))) (q 63)] [] (q 64),
 .Assign [.Name "number" (q 65)] (.Subscript (.Name "told" (q 66)) (.Constant (.int 0) 0 (q 67)) (q 68)) (q 69)]
noncomputable def elJ(q:Nat->Pos):List Stmt:=[
 .Assign [.Name "number" (q 21)] (Co q) (q 45),
 .If (.Compare (.Name "k" (q 46)) [.Gt] [.Constant (.int 0) 0 (q 47)] (q 48)) (FL q) [] (q 70),
 .Assign [pq (q 71) (q 72) (q 73) (q 74) (q 75) "i" "j"] (.Name "number" (q 76)) (q 77)]
noncomputable def elI(q:Nat->Pos):List Stmt:=[.For (.Name "j" (q 14)) (.Call (.Name "range" (q 15)) [.BinOp (.Name "k" (q 16)) .Add (.Constant (.int 1) 0 (q 17)) (q 18),.Constant (.int 6) 0 (q 19)] [] (q 20)) (elJ q) [] (q 78)]
noncomputable def elK(q:Nat->Pos):List Stmt:=[
 .For (.Name "i" (q 7)) (.Call (.Name "range" (q 8)) [.BinOp (.Name "k" (q 9)) .Add (.Constant (.int 1) 0 (q 10)) (q 11),.Constant (.int 5) 0 (q 12)] [] (q 13)) (elI q) [] (q 79),
 .Assign [.Name "last" (q 80)] (pq (q 81) (q 82) (q 83) (q 84) (q 85) "k" "k") (q 86)]
noncomputable def qa(q:Nat->Pos):List Stmt:=[
 .Assign [.Name "last" (q 0)] (.Constant (.int 1) 0 (q 1)) (q 2),
 .For (.Name "k" (q 3)) (.Call (.Name "range" (q 4)) [.Constant (.int 4) 0 (q 5)] [] (q 6)) (elK q) [] (q 87),
 .Return (some (.Subscript (.Subscript (.Name "table" (q 88)) (.Constant (.int 4) 0 (q 89)) (q 90)) (.Slice (some (.Constant (.int 4) 0 (q 91))) none none (q 92)) (q 93))) (q 94)]
noncomputable def bE(M:Mx)(i j:Nat):Int:=(M.getD i []).getD j 0
noncomputable def kh(M:Mx)(i j:Nat)(v:Int):Mx:=M.set i ((M.getD i []).set j v)
noncomputable def Shp(M:Mx):Prop:=M.length=5/\∀m∈M,m.length=6
theorem Shp.row{M:Mx}(s:Shp M){i:Nat}(hi:i<5):∃m,dD (M[i]?=some m) (M.getD i []=m) (m.length=6):=by
 have h:i<M.length:=by simp only[s.1];exact hi
 exact⟨M[i],cE h,by simp only[nH,cE h];rfl,s.2 _ (List.getElem_mem h)⟩
theorem Shp.set{M:Mx}(s:Shp M){i j:Nat}{v:Int}(hi:i<5):Shp (kh M i j v):=by
 obtain⟨m,h1,h2,h3⟩:=s.row hi;refine⟨by unfold kh;rw[gz];exact s.1,fun r hr=>?_⟩;unfold kh at hr;rcases List.mem_or_eq_of_mem_set hr with hr | hr
 ·exact s.2 r hr
 ·rw[hr,gz,h2];exact h3
section
variable{W:Wp}{A:Around}{E':Value->Shared->Prop}{s:Shared}{P:Addr->Prop}{env:Env}{ρ:Ro}{a:Addr}{rs:List Addr}{M:Mx}
theorem yC{us:List Value}{ns:List Int}(h:IntsAre us ns){i:Nat}{z:Int}(e:ns[i]?=some z):∃t,us[i]?=some (.int z t):=by
 obtain r:Rps (fun U=>True) (⟨#[],default⟩:Heap) us (ns.map V.int):=Rps.of_ints h;obtain⟨u,hu,ru⟩:=r.get (i:=i) (x:=.int z) (by simp only[bA,e];rfl);revert hu;exact ru.i' fun t hu=>⟨t,hu⟩
theorem sP(pr:Pre W P env ρ s.heap)(mt:dz W env P s.heap a rs M){sl:Expr}{p1 p3:Pos}{n:Nat}{Q:Value->Shared->Prop}(pl:∀o i,∃ops,subscripted sl false o i=operate ops (getItem o i))(hn:n<rs.length)(hr:rs.length<=1000)(hi:∀(Q':Value->Shared->Prop),(∀h' tk t,KX W s.heap h'->Q' (.int (n:Nat) t) { s with heap:=h',toks:=tk })->wpAny W.M A (eval sl env) Q' E' s)(h:∀r h' tk,rs[n]?=some r->KX W s.heap h'->Q (.ref r) { s with heap:=h',toks:=tk }):
  wpAny W.M A (eval (.Subscript (.Name "table" p1) sl p3) env) Q E' s:=by
 refine Subscript_ (bh (bf pr (by decide) mt.var (hi _ fun h1 tk1 t K1=>?_)) (by decide));obtain⟨nn,ht⟩:=(mt.kx pr.ok.pt K1).tab;obtain⟨ops,ho⟩:=pl (.ref a) (.int (n:Nat) t);refine tail_any (s:={ s with heap:=h1,toks:=tk1 }) ht.isList.typeIs slot_list_getitem.lookup (wpAny_getItem_list (s:={ s with heap:=h1,toks:=tk1 }) ht.isList (cF _) (by lia) (x:=.ref rs[n]) ?_ (h _ h1 tk1 (cE hn) K1)) ho;rw[Int.toNat_natCast,<-lm];rw[bA,cE hn];rfl
theorem mL(x:Str)(p:Pos)(o i:Value):∃ops,subscripted (.Name x p) false o i=operate ops (getItem o i):=⟨_,rfl⟩
theorem wC(k:Int)(n:Nat)(p:Pos)(o i:Value):∃ops,subscripted (.Constant (.int k) n p) false o i=operate ops (getItem o i):=⟨_,rfl⟩
theorem mM(pr:Pre W P env ρ s.heap)(mt:dz W env P s.heap a rs M)(sh:Shp M){x y:Str}{p1 p2 p3 p4 p5:Pos}{ix iy n m:Nat}{Q:Value->Shared->Prop}(hx:(ac env.scope).ix x=some ix)(hy:(ac env.scope).ix y=some iy)(dx:(x==("__debug__" : Str))=false)(dy:(y==("__debug__" : Str))=false)(ex:ρ[ix]?=some (.val (.int (n:Nat))))(ey:ρ[iy]?=some (.val (.int (m:Nat))))(hn:n<5)(hm:m<6)(h:∀u h' tk,KX W s.heap h'->Rp P h' u (.int (bE M n m))->Q u { s with heap:=h',toks:=tk }):
  wpAny W.M A (eval (pq p1 p2 p3 p4 p5 x y) env) Q E' s:=by
 obtain hl:rs.length=5:=mt.len.trans sh.1;refine Subscript_ (sP pr mt (mL x p2) (by rw[hl];exact hn) (by rw[hl];decide) (fun Q' k=>eZ pr hx dx ex fun u h' tk K r=>by revert K;exact r.i' fun t K=>k h' tk t K) fun r h1 tk1 hr K1=>?_);obtain pr1:=pr.step K1;refine eZ (s:={ s with heap:=h1,toks:=tk1 }) pr1 hy dy ey fun u h2 tk2 K2 r2=>?_;revert K2;refine r2.i' fun t K2=>?_;refine byG fun gG kG=>?_;obtain⟨mrow,e1,e2,e3⟩:=sh.row hn;obtain⟨vs,nn,hv,hi⟩:=((mt.kx pr.ok.pt K1).kx pr.ok.pt K2).row n r mrow hr e1;refine kG ?_;obtain hmm:mrow[m]?=some (bE M n m):=by
  unfold bE;rw[e2,nH,cE (by rw[e3];exact hm)];rfl
 obtain⟨tz,hz⟩:=yC hi hmm;obtain⟨ops,ho⟩:=mL y p4 (.ref r) (.int (m:Nat) t);exact tail_any (s:={ s with heap:=h2,toks:=tk2 }) hv.isList.typeIs slot_list_getitem.lookup (wpAny_getItem_list (s:={ s with heap:=h2,toks:=tk2 }) hv.isList (cF _) (by lia) (by rw[Int.toNat_natCast,<-lm];exact hz) (h _ h2 tk2 (K1.trans K2) Rp.i)) ho
end
section
variable{W:Wp}{tb:Tb}{Φ:Fun}{D:Nat}{a:Addr}{rs:List Addr}{M:Mx}
noncomputable abbrev elR(last:Sl)(k i:Sl)(j n t:Sl):Ro:=[.unb,last,k,i,j,n,t]
noncomputable def gD(M:Mx)(k i j:Nat):Int:=bE M i j*bE M k k-bE M i k*bE M k j
theorem DA(G:WF W)(sh:Shp M){q:Nat->Pos}{pos:Pos}{p:Pos}{k i j:Nat}{s1 s5 s6:Sl}(hk:k<5)(hi:i<5)(hj:j<6)(b1:ibits (bE M i j)+ibits (bE M k k)<=134217728)(b2:ibits (bE M i k)+ibits (bE M k j)<=134217728):
  MX W D f6 a rs (.Assign [.Name "number" p] (Co q) pos) (elR s1 (jv k) (jv i) (jv j) s5 s6) M (elR s1 (jv k) (jv i) (jv j) (jv (gD M k i j)) s6) M:=fun A env P s Q E' ao hc no pr mt h=>by
 have ix:∀{x:Str}{n:Nat},f6.ix x=some n->(ac env.scope).ix x=some n:=fun e=>by rw[hc];exact e
 have i2:=ix (x := "k") (n:=2) rfl;obtain i3:=ix (x := "i") (n:=3) rfl;obtain i4:=ix (x := "j") (n:=4) rfl;obtain hsl:(ac env.scope).slots[5]?=some (("number" : Str),false):=by rw[hc];rfl
 obtain mul:∀{x y:Int},ibits x+ibits y<=134217728->bR .Mult (.int x) (.int y)=some (.int (x*y)):=fun hb=>aq (Option.map V.int) (af hb);refine fW (wpAny_BinOp (wpAny_BinOp ?_)) rfl;refine mM pr mt sh i3 i4 rfl rfl rfl rfl hi hj fun u1 h1 tk1 K1 r1=>?_;have pr1:=pr.step K1;obtain mt1:=mt.kx pr.ok.pt K1;refine mM (s:={ s with heap:=h1,toks:=tk1 }) pr1 mt1 sh i2 i2 rfl rfl rfl rfl hk (Nat.lt_trans hk (by decide)) fun u2 h2 tk2 K2 r2=>?_;have pr2:=pr1.step K2;obtain mt2:=mt1.kx pr1.ok.pt K2;refine jQ (W:=W) G (s:={ s with heap:=h2,toks:=tk2 }) pr2.ok (mul b1) (r1.kx pr.ok.pt K2).rq r2.rq fun u3 h3 tk3 K3 r3=>?_;have pr3:=pr2.step K3;obtain mt3:=mt2.kx pr2.ok.pt K3;refine wpAny_BinOp (mM (s:={ s with heap:=h3,toks:=tk3 }) pr3 mt3 sh i3 i2 rfl rfl rfl rfl hi (Nat.lt_trans hk (by decide)) fun u4 h4 tk4 K4 r4=>?_);have pr4:=pr3.step K4;obtain mt4:=mt3.kx pr3.ok.pt K4;refine mM (s:={ s with heap:=h4,toks:=tk4 }) pr4 mt4 sh i2 i4 rfl rfl rfl rfl hk hj fun u5 h5 tk5 K5 r5=>?_;have pr5:=pr4.step K5;obtain mt5:=mt4.kx pr4.ok.pt K5;refine jQ (W:=W) G (s:={ s with heap:=h5,toks:=tk5 }) pr5.ok (mul b2) (r4.kx pr.ok.pt K5).rq r5.rq fun u6 h6 tk6 K6 r6=>?_;have pr6:=pr5.step K6;obtain mt6:=mt5.kx pr5.ok.pt K6;refine jQ (W:=W) G (s:={ s with heap:=h6,toks:=tk6 }) pr6.ok (op:=.Sub) (x:=.int (bE M i j*bE M k k)) (y:=.int (bE M i k*bE M k j)) (v:=.int (gD M k i j)) rfl ((((r3.kx pr.ok.pt K4).kx pr.ok.pt K5).kx pr.ok.pt K6)).rq r6.rq fun u7 h7 tk7 K7 r7=>?_;obtain pr7:=pr6.step K7;refine kc (s:={ s with heap:=h7,toks:=tk7 }) G (Mat.frm (h0:=s.heap) pr7) hsl (by decide) pr7 ⟨mt6.kx pr6.ok.pt K7,KM.kx ((((((K1.trans K2).trans K3).trans K4).trans K5).trans K6).trans K7)⟩ r7 fun h' tk pr' f=>?_;exact h h' tk (no.set 5 _) pr' f.1 f.2
theorem AJ(G:WF W)(sh:Shp M){q:Nat->Pos}{k:Nat}{s1 s3 s4 s5 s6:Sl}(hk:k<5):
  MX W D f6 a rs (.Assign [.Name "last" (q 80)] (pq (q 81) (q 82) (q 83) (q 84) (q 85) "k" "k") (q 86)) (elR s1 (jv k) s3 s4 s5 s6) M (elR (jv (bE M k k)) (jv k) s3 s4 s5 s6) M:=fun A env P s Q E' ao hc no pr mt h=>by
 obtain i2:(ac env.scope).ix "k" = some 2:=by rw[hc];rfl
 obtain hsl:(ac env.scope).slots[1]?=some (("last" : Str),false):=by rw[hc];rfl
 refine fW (mM pr mt sh i2 i2 rfl rfl rfl rfl hk (Nat.lt_trans hk (by decide)) fun u1 h1 tk1 K1 r1=>?_) rfl;obtain pr1:=pr.step K1;refine kc (s:={ s with heap:=h1,toks:=tk1 }) G (Mat.frm (h0:=s.heap) pr1) hsl (by decide) pr1 ⟨mt.kx pr.ok.pt K1,KM.kx K1⟩ r1 fun h' tk pr' f=>?_;exact h h' tk (no.set 1 _) pr' f.1 f.2
theorem qR(G:WF W)(sh:Shp M){q:Nat->Pos}{i j:Nat}{n:Int}{s1 s2 s6:Sl}(hi:i<5)(hj:j<6):
  MX W D f6 a rs (.Assign [pq (q 71) (q 72) (q 73) (q 74) (q 75) "i" "j"] (.Name "number" (q 76)) (q 77)) (elR s1 s2 (jv i) (jv j) (jv n) s6) M (elR s1 s2 (jv i) (jv j) (jv n) s6) (kh M i j n):=fun A env P s Q E' ao hc no pr mt h=>by
 obtain hl:rs.length=5:=mt.len.trans sh.1;obtain i3:(ac env.scope).ix "i" = some 3:=by rw[hc];rfl
 obtain i4:(ac env.scope).ix "j" = some 4:=by rw[hc];rfl
 obtain i5:(ac env.scope).ix "number" = some 5:=by rw[hc];rfl
 refine wpAny_Assign_Subscript (eZ pr i5 rfl (v:=.int n) rfl fun u h1 tk1 K1 r1=>?_) rfl;have pr1:=pr.step K1;obtain mt1:=mt.kx pr.ok.pt K1;refine sP (s:={ s with heap:=h1,toks:=tk1 }) pr1 mt1 (n:=i) (mL "i" (q 72)) (by rw[hl];exact hi) (by rw[hl];decide) (fun Q' k=>eZ (s:={ s with heap:=h1,toks:=tk1 }) pr1 i3 rfl (v:=.int (i:Nat)) rfl fun u h' tk K r=>by revert K;exact r.i' fun t K=>k h' tk t K) fun r h2 tk2 hr K2=>?_;have pr2:=pr1.step K2;obtain mt2:=mt1.kx pr1.ok.pt K2;refine eZ (s:={ s with heap:=h2,toks:=tk2 }) pr2 i4 rfl (v:=.int (j:Nat)) rfl fun w h3 tk3 K3 r3=>?_;revert K3;refine r3.i' fun tj K3=>?_;obtain pr3:=pr2.step K3;have mt3:=mt2.kx pr2.ok.pt K3;obtain⟨mrow,e1,e2,e3⟩:=sh.row hi;obtain⟨vs,nn,hv,hii⟩:=mt3.row i r mrow hr e1;obtain hsz:vs.size=6:=by rw[<-Array.length_toList,hii.length];exact e3
 obtain⟨hid,nm⟩:=mt3.hid r (dw hr);refine gJ (s:={ s with heap:=h3,toks:=tk3 }) hv (cF _) (by rw[hsz];lia) (by lia) ?_;rw[Int.toNat_natCast];generalize hh4:h3.update r (Obj.mapSeq fun x=>x.setIfInBounds j u)=h4;obtain sb:Heap.SameBut r h3 h4:=hh4▸Heap.SameBut.update ..;have k4:∀b o,b≠r->h3.get? b=some o->h4.get? b=some o:=fun b o hb e=>(sb.2 b hb).trans e;have hv4:∃n4,IsL h4 r (vs.setIfInBounds j u) n4:=⟨_,hh4▸IsL.update hv _⟩;obtain⟨n4,hv4⟩:=hv4;obtain ti4:W.TI h4:=dM G pr3.ok.ti k4 hv hid.nt (by rintro⟨vs,q,t,e,_⟩;cases e);obtain pr4:Pre W P env _ h4:=pr3.out (Z:=fun b=>b=r) (fun b o U q e=>k4 b o q e) ti4 fun b q=>q▸⟨hid.np,nm,no.own r,hid.n0,_,hv4⟩;obtain K13:=(K1.trans K2).trans K3;obtain⟨tu,rfl⟩:∃t,u=.int n t:=by revert K1;exact r1.i' fun t U=>⟨t,rfl⟩
 obtain ra:a≠r:=fun q=>hid.np (q▸mt3.pa);refine h h4 tk3 no pr4 ⟨mt3.var.keepM fun b o m e=>k4 b o (fun q=>nm (q▸m)) e,mt3.pa,?_,?_,mt3.nd,fun i' r' m' h1' h2'=>?_,mt3.hid⟩ fun b o n1 n2 n3 e=>k4 b o (fun q=>n3 (q▸dw hr)) (K13.keep b o n1 e)
 ·obtain⟨n0,ht⟩:=mt3.tab
  exact⟨n0,k4 _ _ ra ht⟩
 ·unfold kh;rw[gz];exact mt3.len
 ·unfold kh at h2'
  by_cases q:i=i'
  ·subst q
   rw[hr]at h1';obtain rfl:=al_0 h1';rw[jU (by rw[sh.1];exact hi)]at h2';obtain rfl:=al_0 h2';rw[e2];exact⟨_,_,hv4,by rw[Array.toList_setIfInBounds];exact qZ hii j⟩
  ·rw[fz q]at h2'
   obtain⟨vs',n',g1,g2⟩:=mt3.row i' r' m' h1' h2';refine⟨vs',n',k4 _ _ (fun z=>q ?_) g1,g2⟩;subst z;exact(List.getElem?_inj (cX.mp hr).1 mt3.nd).mp (hr.trans h1'.symm)
end
end
section
structure zT(Φ:Fun)(k:Nat)(last:Int)(M:Mx)(i j:Nat):Prop where
 b1:ibits (bE M i j)+ibits (bE M k k)<=134217728
 b2:ibits (bE M i k)+ibits (bE M k j)<=134217728
 dv:0<k->Φ 5 [.int (gD M k i j),.int last]=some (.tup [.int ((gD M k i j).fdiv last),.int 0])/\hG .FloorDiv (gD M k i j) last=some ((gD M k i j).fdiv last)
noncomputable def m9(k:Nat)(last:Int)(M:Mx)(i j:Nat):Int:=if k=0 then gD M k i j else(gD M k i j).fdiv last
noncomputable def iR(k:Nat)(last:Int)(i:Nat):Mx->List Nat->Mx
 |M,[]=>M
 |M,j::js=>iR k last i (kh M i j (m9 k last M i j)) js
noncomputable def fB(k:Nat)(last:Int):Mx->List Nat->Mx
 |M,[]=>M
 |M,i::is=>fB k last (iR k last i M (List.range' (k+1) (5-k))) is
noncomputable def n9:Int->Mx->List Nat->Mx
 |_,M,[]=>M
 |last,M,k::ks=>n9 (bE (fB k last M (List.range' (k+1) (4-k))) k k) (fB k last M (List.range' (k+1) (4-k))) ks
noncomputable def OkJ(Φ:Fun)(k:Nat)(last:Int)(i:Nat):Mx->List Nat->Prop
 |M,[]=>True
 |M,j::js=>zT Φ k last M i j/\OkJ Φ k last i (kh M i j (m9 k last M i j)) js
noncomputable def OkI(Φ:Fun)(k:Nat)(last:Int):Mx->List Nat->Prop
 |M,[]=>True
 |M,i::is=>OkJ Φ k last i M (List.range' (k+1) (5-k))/\OkI Φ k last (iR k last i M (List.range' (k+1) (5-k))) is
noncomputable def OkK(Φ:Fun):Int->Mx->List Nat->Prop
 |_,M,[]=>True
 |last,M,k::ks=>OkI Φ k last M (List.range' (k+1) (4-k))/\OkK Φ (bE (fB k last M (List.range' (k+1) (4-k))) k k) (fB k last M (List.range' (k+1) (4-k))) ks
theorem ui{k i:Nat}{last:Int}(hi:i<5):∀{js:List Nat}{M:Mx},Shp M->Shp (iR k last i M js):=by
 intro js
 induction js with
 |nil=>
  intro _ s;exact s
 |cons j js ui=>
  intro M s;exact(ui (s.set hi):Shp (iR k last i (kh M i j (m9 k last M i j)) js))
theorem uj{k:Nat}{last:Int}:∀{is:List Nat}{M:Mx},(∀i∈is,i<5)->Shp M->Shp (fB k last M is):=by
 intro is
 induction is with
 |nil=>
  intro _ _ s;exact s
 |cons i is uj=>
  intro M h s;exact(uj (fun j hj=>h j (.tail _ hj)) (ui (h i (.head _)) s):Shp (fB k last (iR k last i M (List.range' (k+1) (5-k))) is))
theorem xo:∀{ks:List Nat}{last:Int}{M:Mx},(∀k∈ks,k<4)->Shp M->Shp (n9 last M ks):=by
 intro ks
 induction ks with
 |nil=>
  intro _ _ _ s;exact s
 |cons k ks xo=>
  intro last M h s;exact(xo (fun j hj=>h j (.tail _ hj)) (uj (fun i hi=>by have h1:=List.mem_range'_1.mp hi;have h2:=h k (.head _);lia) s):Shp (n9 (bE (fB k last M (List.range' (k+1) (4-k))) k k) (fB k last M (List.range' (k+1) (4-k))) ks))
section
variable{W:Wp}{tb:Tb}{Φ:Fun}{D:Nat}{a:Addr}{rs:List Addr}
theorem Br(h5:tb.gf.findIdx? (·==("int_divmod" : Str))=some 5)(p p1 p2 p3:Pos):trE tb 39 f6 (.Call (.Name "int_divmod" p) [.Name "number" p1,.Name "last" p2] [] p3)=some (.call 5 [.var 5,.var 1]):=by
 show((tb.gf.findIdx? (·==("int_divmod" : Str))).elim ((BJ "int_divmod").map fun b=>E.bi b [E.var 5,E.var 1]) fun i=>some (.call i [.var 5,.var 1]))=_;rw[h5];rfl
theorem FK(p p1 p2 p3 p4 p5 p6:Pos):trB tb 40 f6 (.Compare (.Name "told" p) [.NotEq] [.Tuple [.BinOp (.Name "number" p1) .FloorDiv (.Name "last" p2) p3,.Constant (.int 0) 0 p4] 0 p5] p6)=some (.cmp .NotEq (.var 6) (.tuple [.bin .FloorDiv (.var 5) (.var 1),.const (.int 0)])):=by rfl
theorem Ea(p p1 p2:Pos):trE tb 39 f6 (.Subscript (.Name "told" p) (.Constant (.int 0) 0 p1) p2)=some (.sub (.var 6) (.const (.int 0))):=by rfl
theorem Cn(p p1 p2:Pos):trB tb 40 f6 (.Compare (.Name "k" p) [.Gt] [.Constant (.int 0) 0 p1] p2)=some (.cmp .Gt (.var 2) (.const (.int 0))):=by rfl
theorem zj(p p1 p2 p3 p4 p5:Pos)(n:Int):vF tb 40 f6 (.Call (.Name "range" p) [.BinOp (.Name "k" p1) .Add (.Constant (.int 1) 0 p2) p3,.Constant (.int n) 0 p4] [] p5)=some (.range [.bin .Add (.var 2) (.const (.int 1)),.const (.int n)]):=by rfl
theorem FJ(p p1 p2:Pos):vF tb 40 f6 (.Call (.Name "range" p) [.Constant (.int 4) 0 p1] [] p2)=some (.range [.const (.int 4)]):=by rfl
theorem Eb(p:Pos):trE tb 39 f6 (.Constant (.int 1) 0 p)=some (.const (.int 1)):=by rfl
theorem Gq(G:WF W)(C:Cfg W tb Φ D)(h5:tb.gf.findIdx? (·==("int_divmod" : Str))=some 5){M:Mx}(sh:Shp M){q:Nat->Pos}{k i j:Nat}{last:Int}{s5 s6:Sl}(hk:k<5)(hi:i<5)(hj:j<6)(ok:zT Φ k last M i j):
  ∃s6',MXs W D f6 a rs (elJ q) (elR (jv last) (jv k) (jv i) (jv j) s5 s6) M (elR (jv last) (jv k) (jv i) (jv j) (jv (m9 k last M i j)) s6') (kh M i j (m9 k last M i j)):=by
 obtain ih:=cA G C;obtain m1:=DA (a:=a) (rs:=rs) (D:=D) (q:=q) (pos:=q 45) (p:=q 21) (s1:=jv last) (s5:=s5) (s6:=s6) G sh hk hi hj ok.b1 ok.b2;by_cases h0:k=0
 ·subst h0
  refine⟨s6,?_⟩;have hv:m9 0 last M i j=gD M 0 i j:=rfl;rw[hv];exact cg m1 (cg (y8 G ((ih 40).b _ _ _ (Cn _ _ _)) rfl) (cg (qR G sh hi hj) jD))
 ·have hpos:0<k:=Nat.pos_of_ne_zero h0
  obtain⟨d1,d2⟩:=ok.dv hpos;have hv:m9 k last M i j=(gD M k i j).fdiv last:=ag h0;rw[hv];refine⟨.val (.tup [.int ((gD M k i j).fdiv last),.int 0]),?_⟩;refine cg m1 (cg (DB G ((ih 40).b _ _ _ (Cn _ _ _)) ?_ (cg (sR G (c:=f6) (x := "told") (i:=6) rfl (by decide) ((ih 39).e _ _ _ (Br h5 _ _ _ _)) (w:=.tup [.int ((gD M k i j).fdiv last),.int 0]) ?_ fun U U=>rfl) (cg (y8 G ((ih 40).b _ _ _ (FK _ _ _ _ _ _ _)) ?_) (cg (sR G (c:=f6) (x := "number") (i:=5) rfl (by decide) ((ih 39).e _ _ _ (Ea _ _ _)) (w:=.int ((gD M k i j).fdiv last)) ?_ fun U U=>rfl) jD)))) (cg (qR G sh hi hj) jD))
  ·show some (decide ((0:Int)<(k:Int)))=_
   rw[dp (by lia)]
  ·exact d1
  ·show Option.bind (Option.bind (Option.bind ((hG .FloorDiv (gD M k i j) last).map V.int) _) _) _=_
   rw[d2];show Option.map (fun x=>!x) (if(true&&true)=true then some (((gD M k i j).fdiv last==(gD M k i j).fdiv last)&&(true&&true))else none)=_;rw[fu];rfl
  ·rfl
theorem BY(G:WF W)(C:Cfg W tb Φ D)(h5:tb.gf.findIdx? (·==("int_divmod" : Str))=some 5){q:Nat->Pos}{k i:Nat}{last:Int}(hk:k<5)(hi:i<5):∀(js:List Nat){M:Mx}{s4 s5 s6:Sl},Shp M->(∀j∈js,j<6)->OkJ Φ k last i M js ->
  Ex3 fun s4' s5' s6'=>rN (fun z ρ M ρ' M'=>MXs W D f6 a rs (elJ q) (ρ.set 4 (.val (.int z))) M ρ' M') (js.map fun(j:Nat)=>(j:Int)) (elR (jv last) (jv k) (jv i) s4 s5 s6) M (elR (jv last) (jv k) (jv i) s4' s5' s6') (iR k last i M js)
 |[],_,s4,s5,s6,_,_,_=>⟨s4,s5,s6,.nil⟩
 |j::js,M,s4,s5,s6,sh,hj,ok=>by
  obtain⟨s6',m⟩:=Gq (a:=a) (rs:=rs) (q:=q) (s5:=s5) (s6:=s6) G C h5 sh hk hi (hj j (.head _)) ok.1;obtain⟨t4,t5,t6,r⟩:=BY G C h5 (q:=q) (s4:=jv j) (s5:=jv (m9 k last M i j)) (s6:=s6') hk hi js (sh.set hi) (fun x hx=>hj x (.tail _ hx)) ok.2;exact⟨t4,t5,t6,.cons m r⟩
theorem xE(k n:Nat)(s1 s3 s4 s5 s6:Sl)(hk:k<4)(hn:n=5\/n=6):eu Φ (.range [.bin .Add (.var 2) (.const (.int 1)),.const (.int (n:Nat))]) (elR s1 (jv k) s3 s4 s5 s6)=some (((List.range' (k+1) (n-1-k)).map fun(j:Nat)=>(j:Int)).map V.int):=by
 rcases hn with rfl | rfl<;>exact lt4 hk rfl rfl rfl rfl
theorem xD{k n:Nat}(hk:k<4):∀j∈List.range' (k+1) (n-1-k),j<n:=fun j hj=>by have:=List.mem_range'_1.mp hj;omega
theorem BZ(G:WF W)(C:Cfg W tb Φ D)(h5:tb.gf.findIdx? (·==("int_divmod" : Str))=some 5){q:Nat->Pos}{k:Nat}{last:Int}(hk:k<4):∀(is:List Nat){M:Mx}{s3 s4 s5 s6:Sl},Shp M->(∀i∈is,i<5)->OkI Φ k last M is ->
  Ex4 fun s3' s4' s5' s6'=>rN (fun z ρ M ρ' M'=>MXs W D f6 a rs (elI q) (ρ.set 3 (.val (.int z))) M ρ' M') (is.map fun(j:Nat)=>(j:Int)) (elR (jv last) (jv k) s3 s4 s5 s6) M (elR (jv last) (jv k) s3' s4' s5' s6') (fB k last M is)
 |[],_,s3,s4,s5,s6,_,_,_=>⟨s3,s4,s5,s6,.nil⟩
 |i::is,M,s3,s4,s5,s6,sh,hi,ok=>by
  have hi':=hi i (.head _);obtain ih:=cA G C;obtain⟨t4,t5,t6,r⟩:=BY (a:=a) (rs:=rs) G C h5 (q:=q) (s4:=s4) (s5:=s5) (s6:=s6) (Nat.lt_succ_of_lt hk) hi' (List.range' (k+1) (5-k)) sh (xD (n:=6) hk) ok.1;obtain m:MX W D f6 a rs (.For (.Name "j" (q 14)) (.Call (.Name "range" (q 15)) [.BinOp (.Name "k" (q 16)) .Add (.Constant (.int 1) 0 (q 17)) (q 18),.Constant (.int 6) 0 (q 19)] [] (q 20)) (elJ q) [] (q 78)) (elR (jv last) (jv k) (jv i) s4 s5 s6) M _ _:=
   sQ G (c:=f6) (x := "j") (i:=4) rfl (by decide) (by rfl) ((ih 40).it _ _ _ (zj _ _ _ _ _ _ 6)) (xE k 6 _ _ _ _ _ hk (.inr rfl)) r
  obtain⟨u3,u4,u5,u6,r2⟩:=BZ G C h5 (q:=q) (s3:=jv i) (s4:=t4) (s5:=t5) (s6:=t6) hk is (ui hi' sh) (fun x hx=>hi x (.tail _ hx)) ok.2;exact⟨u3,u4,u5,u6,.cons (cg m jD) r2⟩
theorem BX(G:WF W)(C:Cfg W tb Φ D)(h5:tb.gf.findIdx? (·==("int_divmod" : Str))=some 5){q:Nat->Pos}:∀(ks:List Nat){last:Int}{M:Mx}{s2 s3 s4 s5 s6:Sl},Shp M->(∀k∈ks,k<4)->OkK Φ last M ks ->
  Ex6 fun s1' s2' s3' s4' s5' s6'=>rN (fun z ρ M ρ' M'=>MXs W D f6 a rs (elK q) (ρ.set 2 (.val (.int z))) M ρ' M') (ks.map fun(j:Nat)=>(j:Int)) (elR (jv last) s2 s3 s4 s5 s6) M (elR s1' s2' s3' s4' s5' s6') (n9 last M ks)
 |[],last,_,s2,s3,s4,s5,s6,_,_,_=>⟨jv last,s2,s3,s4,s5,s6,.nil⟩
 |k::ks,last,M,s2,s3,s4,s5,s6,sh,hk,ok=>by
  have hk':=hk k (.head _);obtain ih:=cA G C;have hI:∀i∈List.range' (k+1) (4-k),i<5:=xD (n:=5) hk';obtain⟨t3,t4,t5,t6,r⟩:=BZ (a:=a) (rs:=rs) G C h5 (q:=q) (s3:=s3) (s4:=s4) (s5:=s5) (s6:=s6) hk' (List.range' (k+1) (4-k)) sh hI ok.1;obtain m:MX W D f6 a rs (.For (.Name "i" (q 7)) (.Call (.Name "range" (q 8)) [.BinOp (.Name "k" (q 9)) .Add (.Constant (.int 1) 0 (q 10)) (q 11),.Constant (.int 5) 0 (q 12)] [] (q 13)) (elI q) [] (q 79)) (elR (jv last) (jv k) s3 s4 s5 s6) M _ _:=
   sQ G (c:=f6) (x := "i") (i:=3) rfl (by decide) (by rfl) ((ih 40).it _ _ _ (zj _ _ _ _ _ _ 5)) (xE k 5 _ _ _ _ _ hk' (.inl rfl)) r
  have shI:=uj (k:=k) (last:=last) hI sh;obtain m2:=AJ (a:=a) (rs:=rs) (D:=D) (q:=q) (s1:=jv last) (s3:=t3) (s4:=t4) (s5:=t5) (s6:=t6) G shI (Nat.lt_succ_of_lt hk');obtain⟨u1,u2,u3,u4,u5,u6,r2⟩:=BX G C h5 (q:=q) (s2:=jv k) (s3:=t3) (s4:=t4) (s5:=t5) (s6:=t6) ks shI (fun x hx=>hk x (.tail _ hx)) ok.2;exact⟨u1,u2,u3,u4,u5,u6,.cons (cg m (cg m2 jD)) r2⟩
end
end
section
noncomputable def dg(M:Mx):Mx:=n9 1 M [0,1,2,3]
section
variable{W:Wp}{tb:Tb}{Φ:Fun}{D:Nat}{a:Addr}{rs:List Addr}
theorem yr{m:List Int}(h:m.length=6):eJ (m.map V.int) (some 4) none none=[.int (m.getD 4 0),.int (m.getD 5 0)]:=
 lnS h fun m0 m h=>lnS h fun m1 m h=>lnS h fun m2 m h=>lnS h fun m3 m h=>lnS h fun m4 m h=>lnS h fun m5 m h=>ln0 h<|by
  obtain e:sliceRange (sliceBounds (some 4) none none 6).1 (sliceBounds (some 4) none none 6).2.1 (sliceBounds (some 4) none none 6).2.2=[4,5]:=by decide +kernel
  show(sliceRange (sliceBounds (some 4) none none 6).1 (sliceBounds (some 4) none none 6).2.1 (sliceBounds (some 4) none none 6).2.2).filterMap ([V.int m0,.int m1,.int m2,.int m3,.int m4,.int m5][·]?)=_;rw[e];rfl
theorem Bp(G:WF W)(C:Cfg W tb Φ D)(h5:tb.gf.findIdx? (·==("int_divmod" : Str))=some 5){A:Around}{env:Env}{P:Addr->Prop}{s:Shared}{M:Mx}{q:Nat->Pos}{Q:Flow->Shared->Prop}{E':Value->Shared->Prop}(ao:AOk A D)(hc:ac env.scope=f6)(pr:Pre W P env (elR .unb .unb .unb .unb .unb .unb) s.heap)(mt:dz W env P s.heap a rs M)(sh:Shp M)(ok:OkK Φ 1 M [0,1,2,3])(h:∀u h' tk,W.TI h'->(∀r∈rs,∃o,h'.get? r=some o)->KM W env rs s.heap h'->Rp P h' u (.lst [.int (bE (dg M) 4 4),.int (bE (dg M) 4 5)])->Q (.ret u) { s with heap:=h',toks:=tk }):wpAny W.M A (execs (qa q) env) Q E' s:=by
 obtain ih:=cA G C;obtain n4:∀k∈[0,1,2,3],k<4:=by decide
 obtain⟨t1,t2,t3,t4,t5,t6,r⟩:=BX (a:=a) (rs:=rs) G C h5 (q:=q) (s2:=.unb) (s3:=.unb) (s4:=.unb) (s5:=.unb) (s6:=.unb) [0,1,2,3] sh n4 ok;obtain sh':Shp (dg M):=xo n4 sh;obtain no:bY (elR .unb .unb .unb .unb .unb .unb):=fun i sl h o=>by
  have:=dw h;simp only[aM,cM,or_false,or_self]at this;obtain⟨l,q | q⟩:=o<;>(rw[q]at this;cases this)
 refine aF ((sR G (c:=f6) (x := "last") (i:=1) rfl (by decide) ((ih 39).e _ _ _ (Eb (q 1))) (w:=.int 1) rfl fun U U=>rfl) A env P s _ E' ao hc no pr mt fun h1 tk1 no1 pr1 mt1 k1=>?_);refine aF ((sQ G (c:=f6) (x := "k") (i:=2) rfl (by decide) (by rfl) ((ih 40).it _ _ _ (FJ (q 4) (q 5) (q 6))) (items:=[0,1,2,3].map fun(j:Nat)=>(j:Int)) (by rfl) r) A env P { s with heap:=h1,toks:=tk1 } _ E' ao hc no1 pr1 mt1 fun h2 tk2 no2 pr2 mt2 k2=>?_);obtain hl:rs.length=5:=mt2.len.trans sh'.1;refine aF (wpAny_Return_some (Subscript_ (sP (s:={ s with heap:=h2,toks:=tk2 }) (n:=4) pr2 mt2 (wC 4 0 (q 89)) (by rw[hl];decide) (by rw[hl];decide) (fun Q' k=>wpAny_Constant_int (k h2 _ _ (KX.refl pr2.ok.ti))) fun r h3 tk3 hr K3=>?_)));obtain pr3:=pr2.step K3;obtain mt3:=mt2.kx pr2.ok.pt K3;refine wpAny_Slice (wpAny_Constant_int (k:=0) (pos:=q 91) (az (az ?_)));obtain⟨m,e1,e2,e3⟩:=sh'.row (i:=4) (by decide);obtain⟨vs,n,hv,hi⟩:=mt3.row 4 r m hr e1;obtain K4:=KX.push G pr3.ok.ti { cls:=.type "slice", data:=.fields #[.int 4 tk3,.none,.none] };obtain pr4:=pr3.step K4;obtain hv4:=K4.keep _ _ (mt3.hid r (dw hr)).1.nt hv;obtain rs4:=ot (P:=P) (h:=h3.push { cls:=.type "slice", data:=.fields #[.int 4 tk3,.none,.none] }) (Rps.of_ints hi) (some 4) none none;obtain K5:=KX.push G pr4.ok.ti { cls:=.type "list", data:=.seq (slicePick vs (some 4) none none) };obtain el:eJ (m.map V.int) (some 4) none none=[.int (bE (dg M) 4 4),.int (bE (dg M) 4 5)]:=by
  unfold bE;rw[e2];exact yr e3
 rw[el]at rs4;refine tail_any (s:={ s with heap:=h3.push { cls:=.type "slice", data:=.fields #[.int 4 tk3,.none,.none] },toks:=tk3+1 }) (ops:=[.ref h3.objs.size,.ref r]) (IsL.isList hv4).typeIs slot_list_getitem.lookup (wpAny_getItem_list_slice (IsL.isList hv4) (vl:=.int 4 tk3) (vu:=.none) (vs:=.none) ⟨_,eO _ rfl,rfl,rfl⟩ (.int _ _) .none .none (fun q=>by cases q) ?_ ?_) rfl
 ·refine h _ _ _ K5.ti (fun r hr=>(by obtain⟨o,e⟩:=mt3.ex hr;exact⟨o,(K4.trans K5).keep r o (mt3.hid r hr).1.nt e⟩)) (((k1.trans k2).trans (KM.kx K3)).trans (KM.kx (K4.trans K5))) (ku (pr4.ok.top G) (rs4.kx pr4.ok.pt K5))
 ·rw[<-Array.length_toList,hi.length,e3];decide
end
end
structure wK(P:Addr->Prop)(h:Heap)(a:Addr)(rs:List Addr)(M:Mx):Prop where
 pa:P a
 tab:∃n,IsL h a (rs.map Value.ref).toArray n
 len:rs.length=M.length
 nd:rs.Nodup
 row:∀(i:Nat) (r:Addr) (m:List Int),rs[i]?=some r->M[i]?=some m->Ex2 fun vs n=>IsL h r vs n/\IntsAre vs.toList m
 hid:∀r∈rs,P r
theorem wK.ex{P:Addr->Prop}{h:Heap}{a:Addr}{rs:List Addr}{M:Mx}(x:wK P h a rs M)(sh:Shp M){r:Addr}(hr:r∈rs):Ex2 fun vs n=>IsL h r vs n/\vs.size=6:=by
 obtain⟨i,hi⟩:=List.mem_iff_getElem?.mp hr;have hl:i<M.length:=by rw[<-x.len];exact(cX.mp hi).1
 obtain⟨vs,n,hv,hi2⟩:=x.row i r _ hi (cE hl);exact⟨vs,n,hv,by rw[<-Array.length_toList,hi2.length];exact sh.2 _ (List.getElem_mem hl)⟩
theorem wK.na{P:Addr->Prop}{h:Heap}{a:Addr}{rs:List Addr}{M:Mx}(x:wK P h a rs M)(sh:Shp M):a∉rs:=fun q=>by
 obtain⟨vs,n,hv,hz⟩:=x.ex sh q;obtain⟨n',ht⟩:=x.tab
 cases Eq.trans (Eq.symm ht) hv
 have:=x.len.trans sh.1;simp[this]at hz
noncomputable def zY(W:Wp)(D:Nat)(f:Addr)(Φ:Fun):Prop:=
 ∀(A:Around) (P:Addr->Prop) (a:Addr) (rs:List Addr) (M:Mx) (s:Shared) (Q:Value->Shared->Prop) (E':Value->Shared->Prop),AOk A D->Ok W P s.heap->wK P s.heap a rs M->Shp M->(∀r∈rs,W.h0.get? r=none)->OkK Φ 1 M [0,1,2,3] ->
  (∀u h' tk,(∀b o,b∉W.T->b∉rs->s.heap.get? b=some o->h'.get? b=some o)->W.TI h'->(∀r∈rs,∃o,h'.get? r=some o)->Rp (aH P fun b=>b∈rs) h' u (.lst [.int (bE (dg M) 4 4),.int (bE (dg M) 4 5)])->Q u { s with heap:=h',toks:=tk })->wpAny W.M A (call (.ref f) [.ref a]) Q E' s
theorem Ec{W:Wp}{tb:Tb}{Φ:Fun}(G:WF W){D:Nat}(C:Cfg W tb Φ D)(h5:tb.gf.findIdx? (·==("int_divmod" : Str))=some 5){f:Addr}{q:Nat->Pos}(F:eQ W f ["table"] (qa q) zk):zY W (D+1) f Φ:=by
 intro A P a rs M s Q E' ao ok mc sh n0 hok hQ;refine wpAny_call (gU G F (us:=[.ref a]) (vs:=[]) (cO _) ao ok rfl (fun i v e=>by simp at e) fun env h₁ tk₁ U hc U mn keep pr vars=>?_);have nm:∀{b:Addr}{o:Obj},s.heap.get? b=some o->¬aw env b:=fun e m=>by exact nn (Eq.trans (Eq.symm (mn _ m)) e)
 obtain h0k:∀b o,b∉W.T->W.h0.get? b=some o->(hideAll s.heap rs).get? b=some o:=fun b o n e=>hideAll_get _ (ok.kept b o n e) fun q=>by exact nn (Eq.trans (Eq.symm (n0 b q)) e)
 generalize hW1:W.at' (hideAll s.heap rs)=W1;have pr1:Pre W1 (aH P fun b=>aw env b) env (elR .unb .unb .unb .unb .unb .unb) h₁:=by
  have:ro0 (ac zk) ["table"] []=elR .unb .unb .unb .unb .unb .unb:=by rfl
  rw[<-this,<-hW1];exact Pre.hide (W:=W.at' s.heap) (fun b o e=>of_hideAll _ e) pr
 have hT1:W1.T=W.T:=by rw[<-hW1];rfl
 obtain hTI:W1.TI=W.TI:=by rw[<-hW1];rfl
 obtain hM1:W1.M=W.M:=by rw[<-hW1];rfl
 obtain hex:∀r∈rs,∃o,s.heap.get? r=some o:=fun r hr=>(by obtain⟨vs,n,hv,_⟩:=mc.ex sh hr;exact⟨_,hv⟩);obtain pr2:Pre W1 (aH (aH P fun b=>aw env b) fun b=>b∈rs) env (elR .unb .unb .unb .unb .unb .unb) h₁:=by
  refine⟨⟨pr1.ok.kept,pr1.ok.ti,fun b n e=>⟨pr1.ok.new b n e,fun hr=>?_⟩,fun b p=>pr1.ok.pt b p.1⟩,pr1.en,fun i x c sl h1 h2=>?_,pr1.len,fun b m=>⟨fun p=>(pr1.hid b m).np p.1,(pr1.hid b m).nt,(pr1.hid b m).n0⟩,pr1.inj,pr1.ncl,pr1.dist⟩
  ·obtain⟨o,e2⟩:=hex b hr
   exact nn (Eq.trans (Eq.symm e) (keep b o e2))
  ·have:=dw h2
   simp only[aM,cM,or_false,or_self]at this;rw[this];trivial
 obtain G1:WF W1:=hW1▸G.at' h0k;obtain C1:Cfg W1 tb Φ D:=hW1▸C.at' h0k;obtain mt:dz W1 env (aH (aH P fun b=>aw env b) fun b=>b∈rs) h₁ a rs M:=by
  obtain⟨n,ht⟩:=mc.tab;refine⟨by rw[hT1];exact vars _ _ (.head _),⟨⟨mc.pa,nm ht⟩,mc.na sh⟩,⟨n,keep _ _ ht⟩,mc.len,mc.nd,fun i r m h1 h2=>(by obtain⟨vs,n,e1,e2⟩:=mc.row i r m h1 h2;exact⟨vs,n,keep _ _ e1,e2⟩),fun r hr=>?_⟩;obtain⟨o,e⟩:=hex r hr;exact⟨⟨fun q=>q.2 hr,by rw[hT1];exact ok.pt r (mc.hid r hr),by rw[<-hW1];exact hideAll_none _ hr⟩,nm e⟩
 have:=Bp (W:=W1) (A:=A.deeper env) (s:={ s with heap:=h₁,toks:=tk₁ }) (q:=q) (Q:=fun fl s'=>Q (match fl with | .ret v=>v | _=>.none) s') (E':=fun e s'=>wpAny W.M (A.deeper env) (leaving env e) (fun U s''=>E' e s'') (fun e' s''=>E' e' s'') s') G1 C1 h5 (ao.deeper _) hc pr2 mt sh hok fun u h' tk ti ex km r=>?_
 ·rw[hM1]at this;exact this
 ·refine hQ u h' tk (fun b o n1 n2 e=>km b o (by rw[hT1];exact n1) (nm e) n2 (keep b o e)) (by rw[<-hTI];exact ti) ex (r.sub fun b p=>⟨p.1.1,p.2⟩)
section
mutual
noncomputable def no6:V->Bool
 |.none=>true
 |.bool _=>true
 |.int _=>true
 |.str _=>true
 |.tup l=>o5 l
 |.lst l=>l.length != 6&&o5 l
noncomputable def o5:List V->Bool
 |[]=>true
 |x::l=>no6 x&&o5 l
end
noncomputable def eo:Sl->Bool
 |.unb=>true
 |.val v=>no6 v
 |.own l=>o5 l
 |.itr _=>false
noncomputable def msk(ρ:Ro):Ro:=ρ.map fun sl=>bif eo sl then sl else .unb
section
variable{P:Addr->Prop}{h:Heap}{R:Addr->Prop}
theorem RpN(hR:∀b,R b->Ex2 fun vs n=>IsL h b vs n/\vs.size=6):(∀v u,Rp P h u v->no6 v=true->Rp (aH P R) h u v)/\∀l us,Rps P h us l->o5 l=true->Rps (aH P R) h us l:=
 Rp.ind (Mp:=fun u v=>no6 v=true->Rp (aH P R) h u v) (Mq:=fun us l=>o5 l=true->Rps (aH P R) h us l) (fun U=>Rp.n) (fun U U=>Rp.b) (fun U U U=>Rp.i) (fun U U U=>Rp.s)
  (fun a vs n l p ho U ih g=>Rp.ti ⟨p,fun x=>by
   obtain⟨ws,k,hw,_⟩:=hR a x;exact absurd (Eq.trans (Eq.symm ho) hw) (by simp)⟩ ho (ih g))
  (fun a vs n l p ho q ih g=>by
   obtain g:=aT (show(l.length != 6&&o5 l)=true from g);refine Rp.li ⟨p,fun x=>?_⟩ ho (ih g.2);obtain⟨ws,k,hw,hz⟩:=hR a x
   cases Eq.trans (Eq.symm ho) hw
   rw[<-q.length,Array.length_toList,hz]at g;exact absurd g.1 (by decide))
  (fun U=>Rps.nil) fun U U x l U U ih ihs g=>Rps.cons (ih (aT (show(no6 x&&o5 l)=true from g)).1) (ihs (aT (show(no6 x&&o5 l)=true from g)).2)
theorem Rp.no6(hR:∀b,R b->Ex2 fun vs n=>IsL h b vs n/\vs.size=6){u:Value}{v:V}(g:no6 v=true)(r:Rp P h u v):Rp (aH P R) h u v:=(RpN hR).1 v u r g
theorem Rps.no6(hR:∀b,R b->Ex2 fun vs n=>IsL h b vs n/\vs.size=6){us:List Value}{l:List V}(g:o5 l=true)(r:Rps P h us l):Rps (aH P R) h us l:=(RpN hR).2 l us r g
end
theorem Wk.msk(ρ:Ro):Wk (Internal.msk ρ) ρ:=⟨aC ..,fun i=>by
 unfold Internal.msk;rw[bA]
 cases ρ[i]? with
 |none=>exact .inl rfl
 |some sl=>cases q:eo sl with
  |true=>exact .inl (by show some (bif eo sl then sl else Sl.unb)=_;rw[q];rfl)
  |false=>exact .inr (by show some (bif eo sl then sl else Sl.unb)=_;rw[q];rfl)⟩
theorem uF{ρ:Ro}{i:Nat}{sl:Sl}(h:(msk ρ)[i]?=some sl):sl=.unb\/(eo sl=true/\ρ[i]?=some sl):=by
 unfold msk at h;rw[bA]at h;obtain⟨s,hs,rfl⟩:=bj.mp h
 cases q:eo s with
 |true=>exact .inr ⟨q,hs⟩
 |false=>exact .inl rfl
noncomputable def liM(M:Mx):V:=.lst (M.map fun m=>.lst (m.map .int))
theorem uv{P:Addr->Prop}{h:Heap}:∀{us:List Value}{M:Mx},Rps P h us (M.map fun m=>.lst (m.map .int))->∃rs:List Addr,gx (us=rs.map Value.ref) ((∀r∈rs,P r)) (rs.length=M.length) (∀(i:Nat) (r:Addr) (m:List Int),rs[i]?=some r->M[i]?=some m->Ex2 fun vs n=>IsL h r vs n/\IntsAre vs.toList m)
 |us,[],r=>r.n' ⟨[],rfl,(fun r h=>nomatch h),rfl,fun i r m h=>nomatch h⟩
 |us,m::M,r=>r.c' fun u q a b=>by
  obtain⟨rs,e,hp,hl,hr⟩:=uv b;refine a.l' fun ad vs n p ho q'=>⟨ad::rs,by rw[e];rfl,fun r hr'=>(aM.mp hr').elim (fun q=>q▸p) (hp r),by rw[List.length_cons,List.length_cons,hl],fun i r m' h1 h2=>?_⟩
  cases i with
  |zero=>
   obtain rfl:=al_0 h1;obtain rfl:=al_0 h2;exact⟨vs,n,ho,q'.map_ints⟩
  |succ i=>exact hr i r m' h1 h2
theorem AP{P:Addr->Prop}{h:Heap}{u:Value}{M:Mx}(r:Rp P h u (liM M))(nd:M.Nodup):Ex2 fun a rs=>u=.ref a/\wK P h a rs M:=by
 refine r.l' fun a vs n p ho q=>?_;obtain⟨rs,e,hp,hl,hr⟩:=uv q;refine⟨a,rs,rfl,p,⟨n,by rw[<-e];exact ho⟩,hl,?_,hr,hp⟩;refine List.pairwise_iff_getElem.mpr fun i j hi hj hij q=>?_;have hi':i<M.length:=hl▸hi;have hj':j<M.length:=hl▸hj;obtain⟨v1,n1,a1,b1⟩:=hr i rs[i] M[i] (cE hi) (cE hi');obtain⟨v2,n2,a2,b2⟩:=hr j rs[j] M[j] (cE hj) (cE hj');rw[<-q]at a2
 cases Eq.trans (Eq.symm a1) a2
 obtain e2:M[i]=M[j]:=b1.numsOf.symm.trans b2.numsOf;exact(List.pairwise_iff_getElem.mp nd) i j hi' hj' hij e2
structure Ph(W:Wp)(env:Env)(h0:Heap)(ha:Addr)(P:Addr->Prop)(ρ:Ro)(h:Heap):Prop where
 keep:∀b o,b∉W.T->¬aw env b->h0.get? b=some o->h.get? b=some o
 own:∀b,aQ W env ρ h b->h0.get? b=none
 pn:∀b o,P b->h0.get? b=some o->b=ha
theorem Ph.step{W:Wp}{env:Env}{h0:Heap}{ha:Addr}{P P':Addr->Prop}{ρ ρ':Ro}{h h':Heap}(x:Ph W env h0 ha P ρ h)(pr':Pre W P' env ρ' h')(st:Stp W env P ρ h P' ρ' h'):Ph W env h0 ha P' ρ' h':=by
 obtain no:∀b o,h0.get? b=some o->¬aQ W env ρ h b:=fun b o e w=>ak (x.own b w) e;refine⟨fun b o n m e=>st.keep b o n m (no b o e) (x.keep b o n m e),fun b w=>?_,fun b o p e=>?_⟩
 ·rcases st.own b w with q | q
  ·exact x.own b q
  ·cases e:h0.get? b with
   |none=>rfl
   |some o=>
    obtain hd:=(cb pr' w).1;obtain nm:=(cb pr' w).2.1;exact ak q (x.keep b o hd.nt nm e)
 ·obtain nt:=pr'.ok.pt b p
  obtain nm:¬aw env b:=fun m=>(pr'.hid b m).np p;by_cases q:P b
  ·exact x.pn b o q e
  ·exact absurd p (st.pn b o q nt nm (no b o e) (x.keep b o nt nm e))
end
section
section
variable{W:Wp}{tb:Tb}{Φ:Fun}{τ N D n:Nat}{c:Cx}
theorem Bq(G:WF W){f:Str}{fa:Addr}{fob:Obj}{fd:FuncData}{Φe:Fun}(fm:W.mg f=some (.ref fa))(fo:W.h0.get? fa=some fob)(fdat:fob.data=.func fd)(fT:fa∉W.T)(cal:zY W D fa Φe){A:Around}{env:Env}{P:Addr->Prop}{ρ:Ro}{s:Shared}{hA:Heap}{ha:Addr}{Q:Flow->Shared->Prop}{E':Value->Shared->Prop}{x:Str}{px fp cp pos:Pos}{a:Expr}{i:Nat}{e:E}{M:Mx}(ao:AOk A D)(pr:Pre W P env ρ s.heap)(ph:Ph W env hA ha P ρ s.heap)(hh:Ex2 fun vs n=>IsL hA ha vs n/\vs.size≠6)(hT:ha∉W.T)(hm:¬aw env ha)(hk0:∀b o,b∉W.T->W.h0.get? b=some o->hA.get? b=some o)(hx:(ac env.scope).ix x=some i)(hg:(ac env.scope).glob f=true)(hd:(f==("__debug__" : Str))=false)(hst:∀rest env,starEach (a::rest) env=(false,eval a env)::starEach rest env)(hv:SE W D (ac env.scope) a (ev Φ e))(he:ev Φ e (frz (av e) ρ)=some (liM M))(nd:M.Nodup)(sh:Shp M)(hok:OkK Φe 1 M [0,1,2,3])(h:∀P' h' tk,Pre W P' env ((msk (frz (av e) ρ)).set i (.val (.lst [.int (bE (dg M) 4 4),.int (bE (dg M) 4 5)]))) h'->Ph W env hA ha P' ((msk (frz (av e) ρ)).set i (.val (.lst [.int (bE (dg M) 4 4),.int (bE (dg M) 4 5)]))) h'->Q .next { s with heap:=h',toks:=tk }):
  wpAny W.M A (exec (.Assign [.Name x px] (.Call (.Name f fp) [a] [] cp) pos) env) Q E' s:=by
 obtain⟨P1,pr1,s1⟩:=Pre.frz (av e) pr;obtain ph1:=ph.step pr1 s1;generalize frz (av e) ρ=ρ1 at *;obtain⟨cc,hsl⟩:=Cx.ix_spec hx;refine fW (eS (bh (bo G pr1 hg fm ?_) hd)) rfl;rw[hst];refine iU (o:=fob) (fd:=fd) (fX (dH (hv A env _ P1 s _ _ E' ao rfl pr1 he fun u h1 tk1 K1 r1=>fw ?_)));have pr2:=pr1.step K1;have ph2:=ph1.step pr2 (Stp.kx G pr1 K1);refine⟨⟨jH pr2.ok fo fT,fdat⟩,?_⟩;obtain⟨a,rs,rfl,mc⟩:=AP r1 nd;have hnew:∀r∈rs,hA.get? r=none:=fun r hr=>by
  cases q:hA.get? r with
  |none=>rfl
  |some o=>
   obtain rfl:=ph2.pn r o (mc.hid r hr) q;obtain⟨vs,n,hv1,hz1⟩:=hh;obtain⟨ws,k,hv2,hz2⟩:=mc.ex sh hr
   cases Eq.trans (Eq.symm (ph2.keep _ _ hT hm hv1)) hv2
   exact absurd hz2 hz1
 have n0:∀r∈rs,W.h0.get? r=none:=fun r hr=>by
  cases q:W.h0.get? r with
  |none=>rfl
  |some o=>exact ak (hnew r hr) (hk0 r o (pr2.ok.pt r (mc.hid r hr)) q)
 refine cal A P1 a rs M { s with heap:=h1,toks:=tk1 } _ _ ao pr2.ok mc sh n0 hok fun u h2 tk2 k2 ti2 ex2 r2=>?_;have nMr:∀b,aw env b->b∉rs:=fun b m q=>(pr2.hid b m).np (mc.hid b q);have pr3:=pr2.weak (Wk.msk ρ1);have pr4:Pre W (aH P1 fun b=>b∈rs) env (msk ρ1) h1:=by
  refine⟨⟨pr3.ok.kept,pr3.ok.ti,fun b n e=>⟨pr3.ok.new b n e,fun q=>(by obtain⟨vs,n,hv,_⟩:=mc.ex sh q;exact ak e hv)⟩,fun b p=>pr3.ok.pt b p.1⟩,pr3.en,fun j y cj sj h3 h4=>?_,pr3.len,fun b m=>⟨fun p=>(pr3.hid b m).np p.1,(pr3.hid b m).nt,(pr3.hid b m).n0⟩,pr3.inj,pr3.ncl,pr3.dist⟩;have r:=pr3.er j y cj sj h3 h4;rcases uF h4 with rfl | ⟨g,_⟩
  ·trivial
  ·cases sj with
   |unb=>trivial
   |val v=>obtain⟨u,a1,a2⟩:=r;exact⟨u,a1,Rp.no6 (fun b q=>mc.ex sh q) g a2⟩
   |own l=>obtain⟨a0,vs,n,e1,e2,e4,e5⟩:=r;exact⟨a0,vs,n,e1,⟨fun p=>e2.np p.1,e2.nt,e2.n0⟩,e4,Rps.no6 (fun b q=>mc.ex sh q) g e5⟩
   |itr l=>cases g
 obtain noR:∀b,b∈rs->¬aQ W env (msk ρ1) h1 b:=fun b q w=>(cb pr3 w).1.np (mc.hid b q);obtain pr5:Pre W (aH P1 fun b=>b∈rs) env (msk ρ1) h2:=pr4.out (Z:=fun b=>b∈rs) (fun b o n q e=>k2 b o n q e) ti2 fun b q=>⟨fun p=>p.2 q,fun m=>nMr b m q,noR b q,n0 b q,ex2 b q⟩;obtain kM:∀b o,aw env b->h1.get? b=some o->h2.get? b=some o:=fun b o m e=>k2 b o (pr2.hid b m).nt (nMr b m) e;obtain ph5:Ph W env hA ha (aH P1 fun b=>b∈rs) (msk ρ1) h2:=by
  refine⟨fun b o n m e=>k2 b o n (fun q=>ak (hnew b q) e) (ph2.keep b o n m e),fun b w=>?_,fun b o p e=>ph2.pn b o p.1 e⟩;obtain⟨j,y,cj,sj,h3,h4,h5,h6⟩:=cI pr4 kM w;rcases uF h4 with rfl | ⟨_,q⟩
  ·obtain⟨l,q | q⟩:=h5<;>cases q
  ·exact ph2.own b ⟨j,y,cj,sj,h3,q,h5,h6⟩
 exact dc (s:=s) G pr5 Stp.refl hsl r2 fun h3 tk3 pr6 s6=>h _ h3 tk3 pr6 (ph5.step pr6 s6)
theorem uo{ow:List Str}(H:∀x y,trS tb ow n c x=some y->SX τ W D c x (ex Φ N y)){es:List Stmt}{ys:List S}(al:Al (trS tb ow n c) es ys){rest:List Stmt}{A:Around}{env:Env}{Q:Flow->Shared->Prop}{E':Value->Shared->Prop}(ao:AOk A D)(fo:W.fs A env)(hc:ac env.scope=c):
  ∀{P:Addr->Prop} {ρ ρ':Ro}{s:Shared},Pre W P env ρ s.heap->τ<=s.toks->exs Φ N ys ρ=some (.nxt ρ')->(∀P' h' tk,τ<=tk->Pre W P' env ρ' h'->Stp W env P ρ s.heap P' ρ' h'->wpAny W.M A (execs rest env) Q E' { s with heap:=h',toks:=tk }) ->
  wpAny W.M A (execs (es++rest) env) Q E' s:=by
 induction al with
 |nil=>exact fun{P ρ ρ' s} pr ht e k=>(by obtain rfl:ρ=ρ':=(by cases e;rfl);exact k P s.heap s.toks ht pr Stp.refl)
 |cons hx _ ih=>
  intro P ρ ρ' s pr ht e k;refine aa e fun o ho e=>?_
  cases o with
  |nxt ρ1=>exact aF (dL ht (H _ _ hx A env ρ P s (.nxt ρ1) _ _ ao fo hc pr ho ht fun P1 h1 tk1 pr1 st1 ht1=>ih (s:={ s with heap:=h1,toks:=tk1 }) pr1 ht1 e fun P' h' tk ht' pr' st'=>k P' h' tk ht' pr' (st1.trans st')))
  |ret v ρ1=>cases e
  |brk ρ1=>cases e
noncomputable def ja:Expr->Bool
 |.Constant (.str _) _ _=>true
 |.BinOp l _ _ _=>ja l
 |_=>false
noncomputable def SQp(W:Wp)(D:Nat)(c:Cx)(e:Expr)(φ:Ro->Option V):Prop:=
 ∀(A:Around) (env:Env) (ρ:Ro) (P:Addr->Prop) (s:Shared) (v:V) (Q:Value->Shared->Prop) (E':Value->Shared->Prop),AOk A D->ac env.scope=c->Pre W P env ρ s.heap->φ ρ=some v ->
  (∀u h' tk,1<=tk->KX W s.heap h'->Rp P h' u v->Q u { s with heap:=h',toks:=tk })->wpAny W.M A (eval e env) Q E' s
@[elab_as_elim] theorem vK{v:Expr}{M:Expr->Prop}(g:ja v=true)(k1:∀x kd p,M (.Constant (.str x) kd p))(k2:∀l op r p,ja l=true->M (.BinOp l op r p)):M v:=by
 cases v with
 |Constant k kd p=>
  cases k with
  |str x=>exact k1 x kd p
  |_=>cases g
 |BinOp l op r p=>exact k2 l op r p g
 |_=>cases g
theorem su(G:WF W)(C:Cfg W tb Φ D):∀{n:Nat}{v:Expr}{y:E},trE tb n c v=some y->ja v=true->SQp W D c v (fun ρ=>pk y ρ (ev Φ y ρ)):=by
 intro n
 induction n with
 |zero=>
  intro _ _ e _;exact nn e
 |succ n su=>
  intro v y e g;obtain ih:=cA G C n;revert e;refine vK g (fun x kd p e=>?_) (fun l op r p g e=>?_)
  ·obtain rfl:=al_0 (show some (E.const (.str x.cps.toList))=some y from e)
   intro A env ρ P s v Q E' ao hc pr hv h;obtain rfl:=al_0 (show some (V.str x.cps.toList)=some v from hv);exact wpAny_Constant_str (h _ s.heap _ (Nat.le_add_left 1 _) (KX.refl pr.ok.ti) Rp.s)
  ·refine bnd e fun a ha e=>mpi e fun b hb=>?_
   obtain hl:=su ha g;intro A env ρ P s v Q E' ao hc pr hv h;refine aa (show Option.bind _ _=some v from hv) fun x hx hv=>aa hv fun y hy hv=>?_;refine wpAny_BinOp (hl A env ρ P s x _ E' ao hc pr hx fun u h1 tk1 ht1 K1 r1=>dL (s:={ s with heap:=h1,toks:=tk1 }) ht1 (ih.q c r b hb A env ρ P { s with heap:=h1,toks:=tk1 } y _ _ ao hc (pr.step K1) hy fun w h2 tk2 K2 r2 ht2=>?_));refine dL (s:={ s with heap:=h2,toks:=tk2 }) ht2 (jQ G (s:={ s with heap:=h2,toks:=tk2 }) ((pr.step K1).step K2).ok hv (r1.kx pr.ok.pt K2).rq r2 fun z h3 tk3 K3 r3 ht3=>?_);exact h z h3 tk3 ht3 ((K1.trans K2).trans K3) r3
theorem wT(G:WF W)(C:Cfg W tb Φ D){A:Around}{env:Env}{P:Addr->Prop}{ρ:Ro}{s:Shared}{Q:Flow->Shared->Prop}{E':Value->Shared->Prop}{x:Str}{px pos:Pos}{v:Expr}{i:Nat}{e:E}{w:V}(ao:AOk A D)(pr:Pre W P env ρ s.heap)(hx:(ac env.scope).ix x=some i)(hv:trE tb 40 (ac env.scope) v=some e)(g:ja v=true)(hn:mT e=false)(he:ev Φ e (frz (av e) ρ)=some w)(h:∀P' h' tk,1<=tk->Pre W P' env ((frz (av e) ρ).set i (.val w)) h'->Stp W env P ρ s.heap P' ((frz (av e) ρ).set i (.val w)) h'->Q .next { s with heap:=h',toks:=tk }):
  wpAny W.M A (exec (.Assign [.Name x px] v pos) env) Q E' s:=by
 obtain⟨P1,pr1,s1⟩:=Pre.frz (av e) pr;obtain⟨cc,hsl⟩:=Cx.ix_spec hx;obtain hs:swapsWith v (some (.Name x px)) pos.line env=pure false:=by
  rcases(plain hv).swp x px pos.line env with h | ⟨_,elt,gens,sc,p,rfl⟩
  ·exact h
  ·cases g
 obtain hp:pk e (frz (av e) ρ) (ev Φ e (frz (av e) ρ))=some w:=by
  rw[C2 (fun i q=>by rw[q]at hn;cases hn)];exact he
 refine fW (su G C hv g A env _ P1 s w _ E' ao rfl pr1 hp fun u h1 tk1 ht1 K1 r1=>?_) hs;refine dL (s:={ s with heap:=h1,toks:=tk1 }) ht1 (dc (s:=s) G (pr1.step K1) (s1.trans (Stp.kx G pr1 K1)) hsl r1 fun h3 tk3 pr3 s3 ht3=>h P1 h3 tk3 ht3 pr3 s3)
end
noncomputable def kP:List V->Option Mx
 |[]=>some []
 |.lst l::r=>(cJ l).bind fun m=>(kP r).map (m::·)
 |_::_=>none
theorem jq:∀M:Mx,kP (M.map fun m=>.lst (m.map .int))=some M:=by
 intro M
 induction M with
 |nil=>
  exact rfl
 |cons m M jq=>
  show((cJ (m.map V.int)).bind fun m=>(kP (M.map fun m=>.lst (m.map .int))).map (m::·))=_;rw[dS,jq];rfl
theorem kN:∀{l:List V}{M:Mx},kP l=some M->l=M.map fun m=>.lst (m.map .int):=by
 intro l
 induction l with
 |nil=>
  intro _ e;exact al_0 e▸rfl
 |cons x l kN=>
  intro M e
  cases x with
  |lst r=>
   refine aa (show Option.bind _ _=some M from e) fun m hm e=>?_;obtain⟨M',hM,rfl⟩:=bj.mp e;rw[cw hm,kN hM];rfl
  |_=>exact nn0 e
noncomputable def oP(Φe:Fun)(v:V):Option V:=(eC v).bind fun l=>(kP l).bind fun M=>open Classical in if M.Nodup/\Shp M/\OkK Φe 1 M [0,1,2,3]then some (.lst [.int (bE (dg M) 4 4),.int (bE (dg M) 4 5)])else none
theorem wu{Φe:Fun}{v w:V}(h:oP Φe v=some w):∃M,jX (v=liM M) M.Nodup (Shp M) (OkK Φe 1 M [0,1,2,3]) (w=.lst [.int (bE (dg M) 4 4),.int (bE (dg M) 4 5)]):=by
 refine aa h fun l hl h=>aa h fun M hM h=>?_;obtain h:=(open Classical in aO h fun g h=>(⟨g,al_0 h⟩:(M.Nodup/\Shp M/\OkK Φe 1 M [0,1,2,3])/\_=w));exact⟨M,by rw[dF hl,kN hM];rfl,h.1.1,h.1.2.1,h.1.2.2,h.2.symm⟩
theorem zi{Φe:Fun}{M:Mx}(nd:M.Nodup)(sh:Shp M)(ok:OkK Φe 1 M [0,1,2,3]):oP Φe (liM M)=some (.lst [.int (bE (dg M) 4 4),.int (bE (dg M) 4 5)]):=by
 show((kP (M.map fun m=>.lst (m.map .int))).bind _)=_;rw[jq];exact af ⟨nd,sh,ok⟩
end
structure LT3 where
 px:List (Option Nat)
 y0:S
 ya:List S
 it:Nat
 et:E
 yb:List S
 ie:Nat
 ee:E
 y2:List S
noncomputable def zM:Stmt->Option (Str×Expr)
 |.Assign ts v _=>(one ts).bind fun t=>(bx t).map fun x=>(x,v)
 |_=>none
theorem rI{st:Stmt}{q:Str×Expr}(h:zM st=some q):Ex2 fun px p=>st=.Assign [.Name q.1 px] q.2 p:=by
 cases st with
 |Assign ts v p=>
  refine aa (show Option.bind _ _=some q from h) fun t ht h=>?_;obtain⟨x,hx,rfl⟩:=bj.mp h;obtain⟨px,e⟩:=aS hx;exact⟨px,p,by simp only[aX ht,e]⟩
 |_=>exact nn0 h
theorem zF{c:Cx}{v:Expr}{q:Str×Expr}(h:vy c v=some q):c.glob q.1=true/\Ex2 fun fp p=>v=.Call (.Name q.1 fp) [q.2] [] p:=
 aa h fun t ht h=>aa h fun f hf h=>aa h fun a ha h=>eN h fun g h=>by
  obtain rfl:=al_0 h;obtain⟨fp,e⟩:=aS hf;exact⟨g,fp,t.2.2,by simp only[f8 ht,e,aX ha]⟩
noncomputable def yi(tbA tbB:Tb)(ow ps:List Str)(c:Cx)(eln:Str)(b:List Stmt):Option LT3:=(pd b).bind fun u0=>(trS tbA ow 30 c u0.1).bind fun y0=>((u0.2.take 4).mapM (trS tbA ow 30 c)).bind fun ya=>(pd (u0.2.drop 4)).bind fun u1=>(zM u1.1).bind fun t=>(c.ix t.1).bind fun it=>(trE tbA 40 c t.2).bind fun et=>
 ((u1.2.take 6).mapM (trS tbB ow 30 c)).bind fun yb=>(pd (u1.2.drop 6)).bind fun u2=>(zM u2.1).bind fun w=>(c.ix w.1).bind fun ie=>(vy c w.2).bind fun q=>(trE tbA 40 c q.2).bind fun ee=>(u2.2.mapM (trS tbA ow 30 c)).bind fun y2=>gd (ja t.2&&(!mT et&&q.1==eln)) (some ⟨pix c ps,y0,ya,it,et,yb,ie,ee,y2⟩)
noncomputable def nxO:Out->Option Ro
 |.nxt ρ=>some ρ
 |_=>none
theorem sN{o:Out}{ρ:Ro}(h:nxO o=some ρ):o=.nxt ρ:=by cases o<;>first | exact nn0 h | exact aq Out.nxt (al_0 h)
noncomputable def pB(ρ:Ro):Option Ro:=(l9 ρ 1).bind fun v=>(eC v).bind fun l=>(cJ l).bind fun ns=>if ns.length≠6 then some ((List.replicate ρ.length Sl.unb).set 1 (.val (.lst (ns.map .int))))else none
noncomputable def wa(Φ Φe:Fun)(t:LT3)(ρ:Ro):Option Out:=(ex Φ 1 t.y0 ρ).bind fun o=>(nxO o).bind fun ρ=>(pB ρ).bind fun ρ=>(exs Φ 1 t.ya ρ).bind fun o=>(nxO o).bind fun ρ=>(ev Φ t.et (frz (av t.et) ρ)).bind fun v=>
 (exs Φ 1 t.yb ((frz (av t.et) ρ).set t.it (.val v))).bind fun o=>(nxO o).bind fun ρ=>(ev Φ t.ee (frz (av t.ee) ρ)).bind fun m=>(oP Φe m).bind fun v=>exs Φ 1 t.y2 ((msk (frz (av t.ee) ρ)).set t.ie (.val v))
theorem sG{W:Wp}(G:WF W){env:Env}{P:Addr->Prop}{ρ ρA:Ro}{h:Heap}(pr:Pre W P env ρ h)(e:pB ρ=some ρA):∃ha,jX (Pre W (fun b=>h.get? b=none\/b=ha) env ρA h) ((Ex2 fun vs n=>IsL h ha vs n/\vs.size≠6)) (ha∉W.T) (¬aw env ha) (bY ρA):=by
 refine aa e fun v hv e=>aa e fun l hl e=>aa e fun ns hn e=>aO e fun h6 e=>?_;obtain rfl:=al_0 e;obtain h1:=jR hv;rw[dF hl,cw hn]at h1;have hlt:1<ρ.length:=(cX.mp h1).1;obtain⟨⟨x,c⟩,hx⟩:∃q,(ac env.scope).slots[1]?=some q:=⟨_,cE (by rw[<-pr.len];exact hlt)⟩;refine esv (pr.er 1 x c _ hx h1) fun u va r=>?_;revert va;refine r.l' fun ha vs n pa hl q va=>?_;have nm:¬aw env ha:=fun m=>(pr.hid ha m).np pa;have get:∀(i:Nat) (sl:Sl),((List.replicate ρ.length Sl.unb).set 1 (.val (.lst (ns.map .int))))[i]?=some sl->(i=1/\sl=.val (.lst (ns.map .int)))\/sl=.unb:=fun i sl hi=>by
  by_cases q:1=i
  ·subst q
   rw[jU (by rw[ld];exact hlt)]at hi;exact .inl ⟨rfl,(al_0 hi).symm⟩
  ·rw[fz q]at hi
   exact .inr (List.mem_replicate.mp (dw hi)).2
 have no:bY ((List.replicate ρ.length Sl.unb).set 1 (.val (.lst (ns.map .int)))):=fun i sl hi o=>by
  rcases get i sl hi with⟨_,rfl⟩ | rfl<;>(obtain⟨l,q | q⟩:=o<;>cases q)
 refine⟨ha,⟨⟨pr.ok.kept,pr.ok.ti,fun b n e=>.inl e,fun b p=>p.elim (fun p=>pr.ok.pt b (pr.ok.fresh G p)) fun p=>p▸pr.ok.pt ha pa⟩,pr.en,fun i y cy sl h3 h4=>?_,by rw[gz,ld];exact pr.len,fun b m=>⟨fun p=>?_,(pr.hid b m).nt,(pr.hid b m).n0⟩,pr.inj,pr.ncl,fun i j y z ci cj si sj b U U U h3 U o=>absurd o (no i si h3)⟩,⟨vs,n,hl,?_⟩,pr.ok.pt ha pa,nm,no⟩
 ·rcases get i sl h4 with⟨rfl,rfl⟩ | rfl
  ·rw[hx]at h3
   cases h3
   exact⟨.ref ha,va,Rp.li (.inr rfl) hl (Rps.of_ints q.map_ints)⟩
  ·trivial
 ·rcases p with p | p
  ·rcases m with rfl | ⟨y,hy⟩
   ·obtain⟨m0,o,es,ep,ho,_⟩:=pr.en.lns
    exact ak p ho
   ·obtain⟨_,w,o,ho,_⟩:=pr.en.allc y b hy
    exact ak p ho
  ·exact nm (p▸m)
 ·rw[<-Array.length_toList,q.length,aC];exact h6
inductive zV(tbA tbB:Tb)(ow:List Str)(c:Cx)(eln:Str)(t:LT3):List Stmt->Prop
 |mk {s0:Stmt}{sa sb sc:List Stmt}{x y:Str}{xp yp fp cp p q:Pos}{e a:Expr}:trS tbA ow 30 c s0=some t.y0->sa.mapM (trS tbA ow 30 c)=some t.ya->c.ix x=some t.it->trE tbA 40 c e=some t.et->sb.mapM (trS tbB ow 30 c)=some t.yb ->
  c.ix y=some t.ie->c.glob eln=true->trE tbA 40 c a=some t.ee->sc.mapM (trS tbA ow 30 c)=some t.y2->ja e=true->(!mT t.et)=true->zV tbA tbB ow c eln t (s0::(sa++(.Assign [.Name x xp] e p::(sb++(.Assign [.Name y yp] (.Call (.Name eln fp) [a] [] cp) q::sc)))))
theorem yh{tbA tbB:Tb}{ow ps:List Str}{c:Cx}{eln:Str}{b:List Stmt}{t:LT3}(ht:yi tbA tbB ow ps c eln b=some t):zV tbA tbB ow c eln t b/\pix c ps=t.px:=by
 refine aa ht fun u0 e0 ht=>aa ht fun y0 ey0 ht=>aa ht fun ya eya ht=>aa ht fun u1 e1 ht=>aa ht fun tt et ht=>aa ht fun it eit ht=>aa ht fun et' eet ht=>aa ht fun yb eyb ht=>aa ht fun u2 e2 ht=>aa ht fun ww ew ht=>aa ht fun ie eie ht=>aa ht fun q eq ht=>aa ht fun ee eee ht=>aa ht fun y2 ey2 ht=>eN ht fun g ht=>?_;obtain rfl:=al_0 ht;obtain g1:=(aT g).1;obtain g:=(aT g).2;obtain g2:=(aT g).1;obtain g3:=(aT g).2;refine byG fun gG kG=>?_;obtain⟨tp,tpos,et⟩:=rI et;obtain⟨wp,wpos,ew⟩:=rI ew;obtain⟨hgl,fp,cp,eq⟩:=zF eq;refine kG ?_;obtain hb1:b=u0.1::(u0.2.take 4++(.Assign [.Name tt.1 tp] tt.2 tpos::(u1.2.take 6++(.Assign [.Name ww.1 wp] (.Call (.Name eln fp) [q.2] [] cp) wpos::u2.2)))):=by
  rw[jY e0,<-et,<-aB g3,<-eq,<-ew,<-jY e2,List.take_append_drop,<-jY e1,List.take_append_drop]
 rw[hb1];exact⟨.mk ey0 eya eit eet eyb eie (aB g3▸hgl) eee ey2 g1 g2,rfl⟩
inductive tQ(Φ Φe:Fun)(t:LT3)(ρ:Ro)(out:Out):Prop
 |mk {ρ1 ρA ρ2 ρ4:Ro}{v:V}{M:Mx}:ex Φ 1 t.y0 ρ=some (.nxt ρ1)->pB ρ1=some ρA->exs Φ 1 t.ya ρA=some (.nxt ρ2)->ev Φ t.et (frz (av t.et) ρ2)=some v->exs Φ 1 t.yb ((frz (av t.et) ρ2).set t.it (.val v))=some (.nxt ρ4) ->
  ev Φ t.ee (frz (av t.ee) ρ4)=some (liM M)->M.Nodup->Shp M->OkK Φe 1 M [0,1,2,3]->exs Φ 1 t.y2 ((msk (frz (av t.ee) ρ4)).set t.ie (.val (.lst [.int (bE (dg M) 4 4),.int (bE (dg M) 4 5)])))=some out->tQ Φ Φe t ρ out
theorem AQ{Φ Φe:Fun}{t:LT3}{ρ:Ro}{out:Out}(he:wa Φ Φe t ρ=some out):tQ Φ Φe t ρ out:=by
 refine aa he fun o1 ho1 he=>aa he fun ρ1 hn1 he=>aa he fun ρA hrA he=>aa he fun o2 ho2 he=>aa he fun ρ2 hn2 he=>aa he fun v hv he=>aa he fun o3 ho3 he=>aa he fun ρ4 hn4 he=>aa he fun m hm he=>aa he fun w hw he=>?_;simp only[sN hn1]at ho1;simp only[sN hn2]at ho2;simp only[sN hn4]at ho3;obtain⟨M,rfl,nd,sh,hok,rfl⟩:=wu hw;exact .mk ho1 hrA ho2 hv ho3 hm nd sh hok he
theorem yn{W:Wp}(G:WF W){A:Around}{env:Env}{P:Addr->Prop}{s:Shared}{D:Nat}{ow:List Str}{tbA tbB:Tb}{Φ Φe:Fun}{eln:Str}{t:LT3}{c:Cx}{ρ ρ':Ro}{body:List Stmt}{Q:Flow->Shared->Prop}{E':Value->Shared->Prop}(C:Cfg W tbA Φ D)(HA:∀x y,trS tbA ow 30 c x=some y->SX 0 W D c x (ex Φ 1 y))(HB:∀x y,trS tbB ow 30 c x=some y->SX 1 W D c x (ex Φ 1 y)){fa:Addr}{fob:Obj}{fd:FuncData}(fm:W.mg eln=some (.ref fa))(fo:W.h0.get? fa=some fob)(fdat:fob.data=.func fd)(fT:fa∉W.T)(cal:zY W D fa Φe)(hd:(eln==("__debug__" : Str))=false)(ao:AOk A D)(fs:W.fs A env)(hc:ac env.scope=c)(pr:Pre W P env ρ s.heap)(no:∀b,¬aQ W env ρ s.heap b)(is:zV tbA tbB ow c eln t body)(run:tQ Φ Φe t ρ (.ret (.bool true) ρ'))(k:∀h' tk,(∀b o,b∉W.T->¬aw env b->s.heap.get? b=some o->h'.get? b=some o)->W.TI h'->Q (.ret (.bool true)) { s with heap:=h',toks:=tk }):wpAny W.M A (execs body env) Q E' s:=by
 subst hc
 cases is with
 |mk ey0 eya eit eet eyb eie hgl eee ey2 g1 g2=>
 cases run with
 |mk ho1 hrA ho2 hv ho3 hm nd sh hok he=>
 refine aF (HA _ _ ey0 A env _ _ _ (.nxt _) _ _ ao fs rfl pr ho1 (cO _) fun P1 hA tkA pr1 st1=>?_);refine byG fun gG kG=>?_;obtain⟨ha,prA,hh,haT,haM,noA⟩:=sG G pr1 hrA;refine kG ?_;obtain phA:Ph W env hA ha (fun b=>hA.get? b=none\/b=ha) _ hA:=⟨fun U U U U e=>e,fun b w=>absurd w (noA.own b),fun b o p e=>p.elim (fun p=>ak p e) id⟩;refine uo HA (eR eya) ao fs rfl (s:={ s with heap:=hA,toks:=tkA }) prA (cO _) ho2 fun P2 h2 tk2 U pr2 st2=>?_;refine aF (wT G C (s:={ s with heap:=h2,toks:=tk2 }) ao pr2 eit eet g1 (mK g2) hv fun P3 h3 tk3 ht3 pr3 st3=>?_);refine uo HB (eR eyb) ao fs rfl (s:={ s with heap:=h3,toks:=tk3 }) pr3 ht3 ho3 fun P4 h4 tk4 U pr4 st4=>?_;refine aF (Bq G fm fo fdat fT cal (s:={ s with heap:=h4,toks:=tk4 }) ao pr4 (((phA.step pr2 st2).step pr3 st3).step pr4 st4) hh haT haM pr1.ok.kept eie hgl hd (plain eee).star ((cA G C 40).e _ _ _ eee) hm nd sh hok fun P5 h5 tk5 pr5 ph5=>?_);refine j7 ey2 HA A env _ P5 { s with heap:=h5,toks:=tk5 } (.ret (.bool true) ρ') _ _ ao fs rfl pr5 he (cO _) fun u P6 h6 tk6 pr6 st6 r6=>r6.b' ?_;exact k h6 tk6 (fun b o n nm e=>have eA:=st1.keep b o n nm (no b) e;st6.keep b o n nm (fun w=>ak (ph5.own b w) eA) (ph5.keep b o n nm eA)) pr6.ok.ti
theorem wf{W:Wp}(G:WF W){A:Around}{s:Shared}{D:Nat}{a:Addr}{ps ow:List Str}{body:List Stmt}{sc:Scope}{tbA tbB:Tb}{Φ Φe:Fun}{eln:Str}{t:LT3}{us:List Value}{l:List V}{R:Result->Shared->Prop}(h0:W.h0=s.heap)(ti:W.TI s.heap)(hfs:W.fs=fun A env=>A.frames=some [env]/\env.frame=some env.locals)(ao:AOk A (D+1))(hA:A.frames=some [])(F:eQ W a ps body sc)(ht:yi tbA tbB ow ps (ac sc) eln body=some t)(C:Cfg W tbA Φ D)(HA:∀x y,trS tbA ow 30 (ac sc) x=some y->SX 0 W D (ac sc) x (ex Φ 1 y))(HB:∀x y,trS tbB ow 30 (ac sc) x=some y->SX 1 W D (ac sc) x (ex Φ 1 y)){fa:Addr}{fob:Obj}{fd:FuncData}(fm:W.mg eln=some (.ref fa))(fo:W.h0.get? fa=some fob)(fdat:fob.data=.func fd)(fT:fa∉W.T)(cal:zY W D fa Φe)(hd:(eln==("__debug__" : Str))=false)(r:Rps (fun b=>b∉W.T) s.heap us l)(hlen:l.length=ps.length)(e:(wa Φ Φe t (fb t.px l)).bind w5=some (.bool true))(hR:∀h' tk,(∀b o,b∉W.T->s.heap.get? b=some o->h'.get? b=some o)->W.TI h'->R (.ok (.ret (.bool true))) { s with heap:=h',toks:=tk }):codeAny W.M A (.call (.ref a) ⟨us,[]⟩) R s:=by
 obtain ok:Ok W (fun b=>b∉W.T) s.heap:=⟨fun b o U e=>h0▸e,ti,fun b n U=>n,fun b n=>n⟩;refine gU G F (cO _) ao ok (by rw[r.length,hlen]) (fun i v e=>r.get e) fun env h₁ tk₁ U hc hf mn keep pr U=>?_;obtain is:=(yh ht).1;obtain hpx:=(yh ht).2;refine aa e fun out he hret=>?_;obtain hout:∃ρ',out=.ret (.bool true) ρ':=by
  cases out with
  |nxt ρ'=>cases hret
  |brk ρ'=>cases hret
  |ret z ρ'=>exact⟨ρ',by rw[al_0 hret]⟩
 obtain⟨ρ',rfl⟩:=hout;rw[<-show ro0 (ac sc) ps l=fb t.px l from kj hpx l]at he;exact yn G (s:={ s with heap:=h₁,toks:=tk₁ }) C HA HB fm fo fdat fT cal hd (ao.deeper _) (by rw[hfs];exact⟨by show A.frames.map _=_;rw[hA];rfl,hf⟩) hc (Pre.hide (W:=W.at' s.heap) (h0:=W.h0) (f:=W.fs) (fun b o e=>by rw[h0]at e;exact e) pr)
  mz is (AQ he) fun h' tk kp ti'=>hR h' tk (fun b o n e=>kp b o n (fun m=>by exact nn (Eq.trans (Eq.symm (mn b m)) e)) (keep b o e)) ti'
section
set_option maxHeartbeats 1000000
theorem v6{Φ:Fun}{N k:Nat}{px:List (Option Nat)}{y:List S}{sc:Scope}{ps:List Str}(hk:ps.length=k)(hpx:pix (ac sc) ps=px){l:List V}{v:V}(e:evV Φ N px k y l=some v):fnV (ac sc) ps (exs Φ N y) l=some v:=by
 unfold fnV;rw[hk,kj hpx];exact e
noncomputable def pyL:List (Nat×(List V->Option V)):=[(2,i2dV),(3,d2iV),(5,jG 2),(6,qdV),(7,t7V),(8,t8V),(9,t9V)]
noncomputable def pyΦ:Fun:=wW pyL
theorem Py.cals{W:Wp}{tb:Tb}{ad:Nat->Addr}{pv:Addr}(p:Py W tb ad pv)(j:Nat):Cal W 26 (ad j) (pyΦ j):=
 ua (qm (p.i2d.up (by decide)) (qm (p.d2i.up (by decide)) (qm p.idm (qm (p.qd.up (by decide)) (qm (p.c7.up (by decide)) (qm (p.c8.up (by decide)) (zR (p.c9.up (by decide))))))))) j
structure LF where
 ps:List Str
 ow:List Str
 px:List (Option Nat)
 y:List S
noncomputable def lfV(Φ:Fun)(f:LF):List V->Option V:=evV Φ 1 f.px f.ps.length f.y
noncomputable def lvΦ(fs:List LF):Nat->Fun
 |0=>pyΦ
 |i+1=>fun j=>bif j==10+i then(fs[i]?).elim (fun U=>none) (lfV (lvΦ fs i))else lvΦ fs i j
theorem lL{W:Wp}{tb:Tb}{ad:Nat->Addr}{pv:Addr}(p:Py W tb ad pv)(hpl:Pl tb){fs:List LF}(F:∀i f,fs[i]?=some f->Ev W tb (ad (10+i)) f.px f.ps.length f.y):∀(m j:Nat),Cal W (26+m) (ad j) (lvΦ fs m j):=by
 intro m
 induction m with
 |zero=>
  intro j;exact p.cals j
 |succ m lL=>
  intro j;show Cal W _ _ (bif j==10+m then(fs[m]?).elim (fun U=>none) (lfV (lvΦ fs m))else lvΦ fs m j)
  cases q:j==10+m with
  |true=>
   rw[aB q]
   cases hf:fs[m]? with
   |none=>exact Cal.none'
   |some f=>exact zc p.G p.B (fun i U=>lL i) (p.Pv _ (Nat.le_add_right_of_le (by decide))) hpl (F m f hf)
  |false=>exact(lL j).up (Nat.le_succ _)
theorem pN{fs:List LF}{i:Nat}{f:LF}(hf:fs[i]?=some f):∀m,i<m->lvΦ fs m (10+i)=lfV (lvΦ fs i) f:=by
 intro m
 induction m with
 |zero=>
  intro h;exact absurd h (Nat.not_lt_zero _)
 |succ m pN=>
  intro h;show(bif 10+i==10+m then(fs[m]?).elim (fun U=>none) (lfV (lvΦ fs m))else lvΦ fs m (10+i))=_;by_cases e:i=m
  ·subst e
   rw[fu,hf];rfl
  ·rw[bK.mpr fun q=>e (Nat.add_left_cancel q)]
   exact pN (Nat.lt_of_le_of_ne (Nat.le_of_lt_succ h) e)
theorem eK{fs:List LF}{j:Nat}(h:j<10):∀m,lvΦ fs m j=pyΦ j:=by
 intro m
 induction m with
 |zero=>
  exact rfl
 |succ m eK=>
  exact(oY (bK.mpr fun q=>absurd (q▸h) (Nat.not_lt.mpr (i7 _ _)))).trans (eK)
noncomputable def bB(fs:List LF)(hf:LF):List V->Option V:=lfV (lvΦ fs fs.length) hf
noncomputable def je(fs:List LF)(φ ψ:List V->Option V):Fun:=fun j=>bif j==1000 then φ else bif j==2000 then ψ else lvΦ fs fs.length j
theorem Py.tbs{W:Wp}{tb tb':Tb}{ad:Nat->Addr}{pv:Addr}(p:Py W tb ad pv)(h1:tb'.gf=tb.gf)(h2:tb'.gc=tb.gc)(h3:tb'.pvn=tb.pvn):Py W tb' ad pv:=
 ⟨p.G,⟨by rw[h2];exact p.B.gc,by rw[h1];exact p.B.fn,by rw[h3];exact p.B.pvn⟩,fun D hD=>⟨by rw[h3];exact(p.Pv D hD).fn⟩,by rw[h3];exact p.pvm,p.Pr,p.i2d,p.d2i,p.idm,p.qd,p.c7,p.c8,p.c9⟩
section
variable{W:Wp}{tb:Tb}{Φ:Fun}{D:Nat}{ad:Nat->Addr}{pv:Addr}
theorem sD{N:Nat}{a:Addr}{ps:List Str}{body:List Stmt}{sc:Scope}{y:List S}{ow:List Str}(p:Py W tb ad pv)(hD:1<=D)(h:∀i,i<tb.gf.length->Cal W D (ad i) (Φ i))(htr:tb.tr=1)(hgs:tb.gs=[])(hgt:tb.gt=[])(F:eQ W a ps body sc)(e:body.mapM (trS tb ow 30 (ac sc))=some y):tU W (D+1) a (fnV (ac sc) ps (exs Φ N y)):=by
 refine Bg p.G F fun P h0 l ok low=>j7 e fun x y' hy=>mo (p.G.atS ok low) ((p.B.cfg h).atS ok low) ((p.Pv D hD).atS ok low) p.B.pvn ⟨fun c x px v pos i k as U e=>iF hgs e,fun c x px v pos i y U e=>lH (by rw[htr];rfl) e,fun c t a b pos y e=>lY hgt e,fun c t it b pos y e=>BB (p.G.atS ok low) ((p.B.cfg h).atS ok low) (lr.atS p.G low) ((p.Pv D hD).atS ok low) (fun b hb=>?_) p.B.pvn c t it b pos y e⟩ 30 hy;obtain rfl:b=pv:=Value.ref.inj (al_0 (Eq.trans (Eq.symm hb) p.pvm));exact(p.Pr.up hD).atS ok low
theorem zo{N:Nat}{a:Addr}{ps:List Str}{body:List Stmt}{sc:Scope}{y:List S}{ow:List Str}(p:Py W tb ad pv)(hD:1<=D)(h:∀i,i<tb.gf.length->Cal W D (ad i) (Φ i))(htr:tb.tr=2)(hgs:tb.gs=[])(hgt:tb.gt=[])(F:eQ W a ps body sc)(e:body.mapM (trS tb ow 30 (ac sc))=some y):tT 1 W (D+1) a (fnV (ac sc) ps (exs Φ N y)):=by
 refine uV p.G F fun h0 kk=>j7 e fun x y' hy=>mo (p.G.at' kk) ((p.B.cfg h).at' kk) ((p.Pv D hD).at' kk) p.B.pvn ⟨fun c x px v pos i k as U e=>iF hgs e,fun c x px v pos i y hx e=>CT (p.G.at' kk) (bS 1) c x px v pos i y hx e,fun c t a b pos y e=>lY hgt e,fun c t it b pos y e=>jL (by rw[htr];rfl) e⟩ 30 hy
end
theorem Gj{W:Wp}{tb:Tb}{Φ:Fun}{D τ N:Nat}(G:WF W)(C:Cfg W tb Φ D)(S:EJ W tb Φ D)(htr:tb.tr=0)(hgt:tb.gt=[]):Sp τ W tb Φ N D:=
 ⟨zE G C S,fun c x px v pos i y U e=>lH (by rw[htr];rfl) e,fun c t a b pos y e=>lY hgt e,fun c t it b pos y e=>jL (by rw[htr];rfl) e⟩
theorem Gi{W:Wp}{tb:Tb}{Φ:Fun}{D τ N:Nat}(G:WF W)(T:EI τ W tb Φ D)(htr:tb.tr=0)(hgs:tb.gs=[]):Sp τ W tb Φ N D:=
 ⟨fun c x px v pos i k as U e=>iF hgs e,fun c x px v pos i y U e=>lH (by rw[htr];rfl) e,Em G T,fun c t it b pos y e=>jL (by rw[htr];rfl) e⟩
noncomputable def Cb(K:Frag)(T:List Addr)(a:Addr)(ps:List Str)(tbA tbB:Tb)(ow:List Str)(eln:Str):Option LT3:=(uW K T a ps).bind fun fd=>(jy fd.body).bind fun b=>yi tbA tbB ow ps (ac fd.scope) eln b
structure G5(K:Frag)(T:List Addr)(tb:Tb)(as:List Addr)(fs:List LF)(hn:Str)(hk:Addr)(hf:LF)(dn:Str)(dk:Addr)(df:LF)(en:Str)(ek:Addr)(eq:Nat->Pos)(la:Addr)(ps ow:List Str)(t:LT3):Prop where
 gfl:tb.gf.length<=1000
 fns:∀i f,fs[i]?=some f->EvK K T (as.getD (10+i) 0) f.ps tb f.ow f.px f.y
 hkN:cR K T [hn] [hk]=some ()
 hkE:EvK K T hk hf.ps { tb with tr:=1 } hf.ow hf.px hf.y
 dkN:cR K T [dn] [dk]=some ()
 dkE:EvK K T dk df.ps { tb with tr:=2 } df.ow df.px df.y
 ekN:cR K T [en] [ek]=some ()
 ekB:gC K ek ["table"]
 ekT:j0 K T ek ["table"]=some (qa eq,zk)
 edb:(en==("__debug__" : Str))=false
 h5:tb.gf.findIdx? (·==("int_divmod" : Str))=some 5
 lawB:gC K la ps
 law:Cb K T la ps { tb with gs:=[hn] } { tb with gt:=[dn] } ow en=some t
noncomputable def yo(fs:List LF)(hf df:LF)(n:Nat)(t:LT3)(l:List V):Option V:=if l.length=n then(wa (je fs (bB fs hf) (bB fs df)) (lvΦ fs fs.length) t (fb t.px l)).bind w5 else none
theorem uC{hn x:Str}{k:Nat}(h:[hn].findIdx? (·==x)=some k):hn=x/\k=0:=by
 rw[List.findIdx?_cons]at h
 cases q:hn==x with
 |true=>rw[q]at h;exact⟨aB q,(al_0 h).symm⟩
 |false=>rw[q]at h;exact nn0 h
theorem wg{W:Wp}{K:Frag}{s:Shared}{tb:Tb}{as:List Addr}{pv:Addr}(P:Py W tb (fun i=>as.getD i 0) pv)(KX:K.In W.h0)(hpl:Pl tb)(h0:W.h0=s.heap)(ti:W.TI s.heap)(hfs:W.fs=fun A env=>A.frames=some [env]/\env.frame=some env.locals){fs:List LF}{hn:Str}{hk:Addr}{hf:LF}{dn:Str}{dk:Addr}{df:LF}{en:Str}{ek:Addr}{eq:Nat->Pos}{la:Addr}{ps ow:List Str}{t:LT3}(L:G5 K W.T tb as fs hn hk hf dn dk df en ek eq la ps ow t){A:Around}(ao:AOk A 200)(hlen:fs.length<=100)(hA:A.frames=some []){us:List Value}{l:List V}{X:Result->Shared->Prop}(r:Rps (fun b=>b∉W.T) s.heap us l)(e:yo fs hf df ps.length t l=some (.bool true))(hR:∀h' tk,(∀b o,b∉W.T->s.heap.get? b=some o->h'.get? b=some o)->W.TI h'->X (.ok (.ret (.bool true))) { s with heap:=h',toks:=tk }):
  codeAny W.M A (.call (.ref la) ⟨us,[]⟩) X s:=by
 have lv:=lL P hpl (fs:=fs) fun i f hi=>(L.fns i f hi).ev KX;refine byG fun gG kG=>?_;obtain⟨hps,hbody,hsc,how,HF,hhk,hhpx,hem⟩:=(L.hkE.ev KX).ex;obtain⟨dps,dbody,dsc,dow,DF,dhk,dhpx,dem⟩:=(L.dkE.ev KX).ex;refine kG ?_;obtain P1:=P.tbs (tb':={ tb with tr:=1 }) rfl rfl rfl;obtain P2:=P.tbs (tb':={ tb with tr:=2 }) rfl rfl rfl;have PA:=P.tbs (tb':={ tb with gs:=[hn] }) rfl rfl rfl;have PB:=P.tbs (tb':={ tb with gt:=[dn] }) rfl rfl rfl;refine byG fun gG kG=>?_;obtain⟨ho,hfd,n1,n2,n3,n4⟩:=fe KX P.G.g L.hkN (x:=hn) (i:=0) (by rw[List.findIdx?_cons,fu];rfl);obtain⟨dob,dfd,d1,d2,d3,d4⟩:=fe KX P.G.g L.dkN (x:=dn) (i:=0) (by rw[List.findIdx?_cons,fu];rfl);obtain⟨eob,efd,e1,e2,e3,e4⟩:=fe KX P.G.g L.ekN (x:=en) (i:=0) (by rw[List.findIdx?_cons,fu];rfl);refine kG ?_;obtain hcal:tU W (26+fs.length+1) hk (bB fs hf):=
  (sD P1 (D:=26+fs.length) (Nat.le_add_right_of_le (by decide)) (Φ:=lvΦ fs fs.length) (N:=1) (fun i U=>lv fs.length i) rfl hpl.gs hpl.gt HF hem).sub fun l v e=>v6 hhk hhpx e
 obtain dcal:tT 1 W (26+fs.length+1) dk (bB fs df):=
  (zo P2 (D:=26+fs.length) (Nat.le_add_right_of_le (by decide)) (Φ:=lvΦ fs fs.length) (N:=1) (fun i U=>lv fs.length i) rfl hpl.gs hpl.gt DF dem).sub fun l v e=>v6 dhk dhpx e
 obtain C0:Cfg W tb (lvΦ fs fs.length) (26+fs.length):=P.B.cfg fun i U=>lv fs.length i;obtain ecal:zY W (26+fs.length+1) ek (lvΦ fs fs.length):=Ec P.G C0 L.h5 (rl KX L.ekB L.ekT);have q:∀i,i<tb.gf.length->Cal W (26+fs.length+1) (as.getD i 0) (je fs (bB fs hf) (bB fs df) i):=fun i hi=>by
  have q:je fs (bB fs hf) (bB fs df) i=lvΦ fs fs.length i:=(oY (bK.mpr fun(q:i=1000)=>absurd (q▸hi) (Nat.not_lt.mpr L.gfl))).trans (oY (bK.mpr fun(q:i=2000)=>absurd (q▸hi) (Nat.not_lt.mpr (ai L.gfl (by decide)))));rw[q];exact(lv fs.length i).up (Nat.le_succ _)
 have CA:Cfg W { tb with gs:=[hn] } (je fs (bB fs hf) (bB fs df)) (26+fs.length+1):=PA.B.cfg q;obtain CB:Cfg W { tb with gt:=[dn] } (je fs (bB fs hf) (bB fs df)) (26+fs.length+1):=PB.B.cfg q;obtain Sc:EJ W { tb with gs:=[hn] } (je fs (bB fs hf) (bB fs df)) (26+fs.length+1):=⟨fun A env h=>by rw[hfs]at h;exact h,fun x k hx=>by
  obtain⟨rfl,rfl⟩:=uC hx;exact⟨hk,ho,hfd,n1,n2,n3,n4,hcal⟩⟩
 obtain Tc:EI 1 W { tb with gt:=[dn] } (je fs (bB fs hf) (bB fs df)) (26+fs.length+1):=⟨fun x k hx=>by
  obtain⟨rfl,rfl⟩:=uC hx;exact⟨dk,dob,dfd,d1,d2,d3,d4,dcal⟩⟩
 obtain SA:Sp 0 W { tb with gs:=[hn] } (je fs (bB fs hf) (bB fs df)) 1 (26+fs.length+1):=Gj PA.G CA Sc hpl.tr hpl.gt;obtain SB:Sp 1 W { tb with gt:=[dn] } (je fs (bB fs hf) (bB fs df)) 1 (26+fs.length+1):=Gi PB.G Tc hpl.tr hpl.gs;obtain HA:∀{c:Cx} x y,trS { tb with gs:=[hn] } ow 30 c x=some y->SX 0 W (26+fs.length+1) c x (ex (je fs (bB fs hf) (bB fs df)) 1 y):=fun x y hy=>mo PA.G CA (PA.Pv _ (Nat.le_add_left _ _)) PA.B.pvn SA 30 hy;obtain HB:∀{c:Cx} x y,trS { tb with gt:=[dn] } ow 30 c x=some y->SX 1 W (26+fs.length+1) c x (ex (je fs (bB fs hf) (bB fs df)) 1 y):=fun x y hy=>mo PB.G CB (PB.Pv _ (Nat.le_add_left _ _)) PB.B.pvn SB 30 hy;obtain hl:l.length=ps.length:=aO e fun hl U=>hl;obtain e5:(wa (je fs (bB fs hf) (bB fs df)) (lvΦ fs fs.length) t (fb t.px l)).bind w5=some (.bool true):=aO e fun U e=>e;clear e;refine byG fun gG kG=>?_;obtain⟨fd,hf',l1⟩:=Option.bind_eq_some_iff.mp L.law;obtain⟨b,hb,l2⟩:=Option.bind_eq_some_iff.mp l1;refine kG ?_;obtain F:=mZ KX L.lawB hf' hb;clear l1 lv HF hhk hhpx hem DF dhk dhpx dem P1 P2 PB hcal dcal C0 q CB Sc Tc SA SB;generalize je fs (bB fs hf) (bB fs df)=Φ at *;generalize lvΦ fs fs.length=Φe at *;exact wf (D:=26+fs.length+1) P.G h0 ti hfs (ao.le (by lia)) hA F l2 CA HA HB e1 e2 e3 e4 ecal L.edb r hl e5 hR
noncomputable def sK(l:List (Nat×Nat×Nat×Nat))(n:Nat):Pos:=⟨(l.getD n (0,0,0,0)).1,(l.getD n (0,0,0,0)).2.1,(l.getD n (0,0,0,0)).2.2.1,(l.getD n (0,0,0,0)).2.2.2⟩
noncomputable def EM(K:Frag)(T:List Addr)(tb:Tb):List LF->List Addr->Prop
 |[],_=>True
 |f::fs,as=>EvK K T (as.headD 0) f.ps tb f.ow f.px f.y/\EM K T tb fs as.tail
theorem sZ{K:Frag}{T:List Addr}{tb:Tb}:∀{fs:List LF}{as:List Addr},EM K T tb fs as->∀{i:Nat}{f:LF},fs[i]?=some f->EvK K T (as.getD i 0) f.ps tb f.ow f.px f.y:=by
 intro fs
 induction fs with
 |nil=>
  intro _ _ _ _ h;exact nn h
 |cons g fs sZ=>
  intro as k zv3 f h
  match zv3 with
  |0=>
   obtain rfl:=al_0 h;have:=k.1
   cases as<;>exact this
  |i+1=>
   have:=sZ k.2 (i:=i) h
   cases as<;>exact this
theorem Dm{K:Frag}{h:Heap}{mg mb:Str->Option Value}{p:Program}{loose:List Str}{mean:ExcName->Option Value}{m1 m2:Mk}(KX:K.In h)(T:Top p loose mean mg mb h)(hT:TabsAt [(m1.c,m1.P),(m2.c,m2.P)] h):jW K h mg mb m1 m2:=
 ⟨KX,T.g,T.b,T.nolimit,T.builtins,hT _ (.head _),hT _ (.tail _ (.head _)),T.bmain⟩
theorem wN{P:Params}{h:Heap}{a:Addr}{d:WData}{ys:List WData}{items:Array Value}(w:Well P h (.ref a) d)(hd:d=.list ys)(hl:h.IsList a items):∃n,IsL h a items n:=by
 subst hd
 cases w with
 |list ho _=>
  obtain⟨o,e1,e2,n,e3⟩:=hl;rw[ho]at e1
  cases e1
  cases e3
  exact⟨_,ho⟩
structure G2(K:Frag)(m1 m2:Mk)(tb:Tb)(as:List Addr)(pv:Addr)(qp qd qi qs:Nat->Pos)(fs:List LF)(hn:Str)(hk:Addr)(hf:LF)(dn:Str)(dk:Addr)(df:LF)(en:Str)(ek:Addr)(eq:Nat->Pos)(la:Addr)(ps ow:List Str)(t:LT3):Prop where
 nb:C6 K=true
 c1:(jO K m1.c).isSome=true
 c2:(jO K m2.c).isSome=true
 hP:m1.P≠m2.P
 hc1:m2.c≠m1.P
 hc2:m1.c≠m2.P
 py:Cz K [m1.P,m2.P] m1 m2 tb as pv qp qd qi qs
 gfl:tb.gf.length<=1000
 fns:EM K [m1.P,m2.P] tb fs (as.drop 10)
 hkN:cR K [m1.P,m2.P] [hn] [hk]=some ()
 hkE:EvK K [m1.P,m2.P] hk hf.ps { tb with tr:=1 } hf.ow hf.px hf.y
 dkN:cR K [m1.P,m2.P] [dn] [dk]=some ()
 dkE:EvK K [m1.P,m2.P] dk df.ps { tb with tr:=2 } df.ow df.px df.y
 ekN:cR K [m1.P,m2.P] [en] [ek]=some ()
 ekB:gC K ek ["table"]
 ekT:j0 K [m1.P,m2.P] ek ["table"]=some (qa eq,zk)
 edb:(en==("__debug__" : Str))=false
 h5:tb.gf.findIdx? (·==("int_divmod" : Str))=some 5
 lawB:gC K la ps
 law:Cb K [m1.P,m2.P] la ps { tb with gs:=[hn] } { tb with gt:=[dn] } ow en=some t
 fa:rj K "law" = some (.ref la)
 pl:Pl tb
 len:fs.length<=100
theorem xA{K:Frag}{prog:Program}{w:World}{s:Shared}{mg mb:Str->Option Value}{m1 m2:Mk}{tb:Tb}{as:List Addr}{pv:Addr}{qp qd qi qs:Nat->Pos}{fs:List LF}{hn:Str}{hk:Addr}{hf:LF}{dn:Str}{dk:Addr}{df:LF}{en:Str}{ek:Addr}{eq:Nat->Pos}{la:Addr}{ps ow:List Str}{t:LT3}{c:ClaimW}{cl:Str->Option Addr}{mean:ExcName->Option Value}{args:List WData}{fa a:Addr}{vs:List Value}{ns:List Int}(R:jW K s.heap mg mb m1 m2)(F:G2 K m1 m2 tb as pv qp qd qi qs fs hn hk hf dn dk df en ek eq la ps ow t)(hmg:mg "law" = some (.ref fa)){P:Params}(wl:Well P s.heap (.ref a) (ofPy (.list (ns.map .int))))(hl:s.heap.IsList a vs.toArray)(hi:IntsAre vs ns)(e:yo fs hf df ps.length t [.lst (ns.map .int)]=some (.bool true))(hp:c.post args (.bool true) args=true)(hr:∀cls,c.raises args cls=false)(hg:s.gens=#[]):
  codeAny (model prog w) callerA (.call (.ref fa) ⟨[.ref a],[]⟩) (fun r s'=>GoodW c cl mean args { s with heap:=ghostOf s.heap [(m1.c,m1.P),(m2.c,m2.P)] } r s'/\GrownAll [(m1.c,m1.P),(m2.c,m2.P)] s'.heap) s:=by
 obtain rfl:la=fa:=Value.ref.inj (al_0 ((rh R.X R.g F.fa).symm.trans hmg));obtain⟨n,hl⟩:=wN wl (by rw[ofPy]) hl;obtain ha:a∉[m1.P,m2.P]:=mw R hl fun q=>by cases q
 refine byG fun gG kG=>?_;obtain⟨q1,c1⟩:=nN.mp F.c1;obtain⟨q2,c2⟩:=nN.mp F.c2;refine kG ?_;obtain ao:AOk callerA 200:=⟨rfl,by decide +kernel,by decide +kernel,[],rfl⟩;obtain G:WF (my prog w s.heap mg mb m1 m2):=Dk R F.nb;exact wg (W:=my prog w s.heap mg mb m1 m2) (Ds G R.X (vU R F.hP F.hc1) (vT R F.hP F.hc2) F.py F.pl) R.X F.pl rfl (Dl R c1 c2) rfl ⟨F.gfl,fun i f h=>by
  have:=sZ F.fns h;rw[nH,List.getElem?_drop]at this;rw[nH];exact this,F.hkN,F.hkE,F.dkN,F.dkE,F.ekN,F.ekB,F.ekT,F.edb,F.h5,F.lawB,F.law⟩ ao F.len rfl (pD hl ha hi) e fun h' tk k ti=>wq (K:=K) hp hr hg k ti
end
noncomputable def eg:List S:=[
 .own 1 (.list []),
 .forr (.one 2) (.exp (.var 0)) [.asg 3 (.call 2 [(.var 2),(.const (.int 6))]),.ite (.cmp .Eq (.slice (.var 3) (.un .USub (.const (.int 1))) (.const (.none)) (.const (.none))) (.list [(.const (.int 0))])) [.ret (.list [(.const (.int 0)),(.const (.int 0))])] [],.asg 3 (.orE (.var 3) (.list [(.const (.int 0))])),.forr (.one 4) (.range [(.bin .Sub (.bi .len [(.var 3)]) (.const (.int 1))),(.un .USub (.const (.int 1))),(.un .USub (.const (.int 1)))]) [.asg 5 (.ife (.cmp .Gt (.var 4) (.const (.int 0))) (.const (.int 64)) (.const (.int 0))),.app 1 (.bin .Add (.bin .Add (.sub (.var 3) (.var 4)) (.var 5)) (.bin .Mult (.const (.int 128)) (.bin .Mod (.bi .len [(.var 1)]) (.const (.int 2)))))]],
 .ret (.var 1)]
noncomputable def kQ:List S:=[
 .asg 2 (.bin .Add (.var 1) (.list [(.const (.int 46)),(.const (.int 10)),(.const (.int 255))])),
 .asg 3 (.comp1 [none,none,some 0,some 2] (.one 1) (.range [(.bin .Mod (.var 0) (.const (.int 3)))]) [] (.sub (.var 3) (.bin .Mod (.bin .FloorDiv (.bin .FloorDiv (.var 2) (.const (.int 3))) (.bin .Pow (.const (.int 5)) (.var 1))) (.const (.int 5))))),
 .ret (.bin .Add (.var 3) (.list [(.sub (.list [(.const (.int 46)),(.const (.int 10)),(.const (.int 255))]) (.bin .Mod (.bin .FloorDiv (.var 0) (.const (.int 75))) (.const (.int 3))))]))]
noncomputable def gb:List S:=[
 .mkit 1 (.var 0),
 .own 2 (.list []),
 .forr (.one 3) (.range [(.const (.int 2))]) [.parse (some 4) 1,.own 5 (.list []),.forr (.one 6) (.range [(.const (.int 4))]) [.parse (some 7) 1,.ite (.and [(.cmp .Is (.call 9 [(.var 7)]) (.const (.bool true))),(.cmp .Is (.call 7 [(.var 7)]) (.const (.bool true))),(.cmp .Is (.call 8 [(.var 7)]) (.const (.bool false)))]) [.brk] [],.app 5 (.var 7)],.ite (.or [(.cmp .IsNot (.call 8 [(.var 4)]) (.const (.bool true))),(.cmp .IsNot (.call 7 [(.var 4)]) (.const (.bool false))),(.cmp .IsNot (.call 9 [(.var 4)]) (.const (.bool false)))]) [.ret (.list [])] [],.ite (.or [(.cmp .IsNot (.call 8 [(.un .USub (.var 4))]) (.const (.bool false))),(.cmp .IsNot (.call 7 [(.un .USub (.var 4))]) (.const (.bool true))),(.cmp .IsNot (.call 9 [(.un .USub (.var 4))]) (.const (.bool false)))]) [.ret (.list [])] [],.app 2 (.tuple [(.var 4),(.var 5)])],
 .asg 8 (.const (.int 0)),
 .cuts 9 1 8 (.slice (.var 0) (.const (.none)) (.const (.int 1)) (.const (.none))),
 .ite (.cmp .NotEq (.var 8) (.const (.int 2))) [.ret (.list [])] [],
 .ret (.var 2)]
noncomputable def eU:List S:=[
 .asg 2 (.const (.str [])),
 .forr (.one 3) (.exp (.var 0)) [.asg 4 (.bi .ord [(.var 3)]),.ite (.and [(.cmp .Is (.call 8 [(.var 4)]) (.const (.bool true))),(.cmp .Is (.call 7 [(.var 4)]) (.const (.bool false)))]) [.forr (.many [5,6]) (.exp (.var 1)) [.ite (.cmp .Eq (.var 5) (.var 4)) [.aug 2 .Add (.meth .join (.const (.str [])) [(.comp1 [none,none] (.one 1) (.exp (.var 6)) [] (.bi .chr [(.var 1)]))])] []]] [],.ite (.and [(.cmp .Is (.call 7 [(.var 4)]) (.const (.bool true))),(.cmp .Is (.call 8 [(.var 4)]) (.const (.bool false)))]) [.aug 2 .Add (.var 3)] []],
 .ret (.var 2)]
noncomputable def gh:List S:=[
 .spl 1 0 [13,10] [10] [10],
 .ret (.meth .join (.const (.str [13,10])) [(.comp1 [none,none] (.one 1) (.exp (.var 1)) [] (.ife (.cmp .Eq (.slice (.var 1) (.const (.none)) (.const (.int 1)) (.const (.none))) (.const (.str [46]))) (.bin .Add (.const (.str [46])) (.var 1)) (.var 1)))])]
noncomputable def ga:List S:=[
 .own 3 (.list []),
 .forr (.one 4) (.range [(.const (.int 4))]) [.own 5 (.bin .Add (.comp1 [none,none,some 2,some 4] (.one 1) (.range [(.const (.int 5))]) [] (.ife (.cmp .Eq (.var 1) (.var 3)) (.var 2) (.const (.int 0)))) (.list [(.bin .Mult (.var 2) (.bin .Pow (.bin .Sub (.var 2) (.const (.int 1))) (.const (.int 2))))])),.asg 6 (.bin .Mod (.var 4) (.const (.int 2))),.asg 7 (.bin .Mod (.var 4) (.const (.int 2))),.forr (.one 8) (.exp (.sub (.var 0) (.bin .FloorDiv (.var 4) (.const (.int 2))))) [.ite (.cmp .In (.var 8) (.var 1)) [.isub 5 (.bin .Add (.bin .Mult (.const (.int 2)) (.meth .index (.var 1) [(.var 8)])) (.var 7)) .Sub (.const (.int 1)),.asg 6 (.const (.int 0)),.asg 7 (.ife (.cmp .Eq (.sub (.sub (.var 0) (.meth .index (.var 1) [(.var 8)])) (.un .USub (.const (.int 1)))) (.const (.int 10))) (.const (.int 1)) (.const (.int 0)))] [.asg 9 (.const (.int 1)),.ite (.cmp .Eq (.var 8) (.const (.int 10))) [.asg 9 (.const (.int 2))] [],.ite (.cmp .Eq (.var 8) (.const (.int 46))) [.aug 9 .Add (.var 6),.isub 5 (.const (.int 5)) .Add (.bin .Mult (.var 2) (.var 7))] [],.isub 5 (.const (.int 5)) .Add (.bin .Mult (.bin .Mult (.var 9) (.var 2)) (.bin .Sub (.var 2) (.const (.int 1)))),.asg 6 (.ife (.cmp .Eq (.var 8) (.const (.int 10))) (.const (.int 1)) (.const (.int 0))),.asg 7 (.var 6)]],.app 3 (.var 5)],
 .ret (.bin .Add (.var 3) (.list [(.list [(.un .USub (.const (.int 1))),(.const (.int 0)),(.const (.int 0)),(.un .USub (.const (.int 1))),(.const (.int 1)),(.bin .Add (.bin .Mult (.bin .Mult (.const (.int 3)) (.var 2)) (.bin .Sub (.var 2) (.const (.int 1)))) (.var 2))])]))]
noncomputable def mh:LT3:=⟨[some 0,none,none,none,none,none,none,none,none,none,none,none,none,none,none,none,none,none],.asg 1 (.comp1 [none,none,none,some 0] (.many [1,2]) (.enum (.list [(.const (.int 0)),(.const (.int 98)),(.const (.int 167)),(.const (.int 8084))])) [] (.bin .Add (.var 2) (.bi .sum [(.slice (.var 3) (.var 1) (.const (.none)) (.const (.int 4)))]))),[
 .asg 2 (.list [(.bin .Add (.const (.int 256)) (.bin .Mod (.sub (.var 1) (.const (.int 0))) (.const (.int 3000)))),(.bin .Add (.const (.int 4096)) (.bin .Mod (.bin .FloorDiv (.sub (.var 1) (.const (.int 0))) (.const (.int 3000))) (.const (.int 500))))]),
 .asg 3 (.list [(.call 11 [(.sub (.var 1) (.const (.int 1))),(.var 2)]),(.call 11 [(.sub (.var 1) (.const (.int 2))),(.var 2)])]),
 .calls 4 0 [(.call 10 [(.bin .Add (.bin .Add (.bin .Add (.bin .Add (.list [(.sub (.var 2) (.const (.int 0)))]) (.sub (.var 3) (.const (.int 0)))) (.list [(.const (.int 0)),(.sub (.var 2) (.const (.int 1)))])) (.sub (.var 3) (.const (.int 1)))) (.list [(.const (.int 0))]))])],
 .ite (.cmp .NotEq (.var 4) (.list [(.tuple [(.sub (.var 2) (.const (.int 0))),(.sub (.var 3) (.const (.int 0)))]),(.tuple [(.sub (.var 2) (.const (.int 1))),(.sub (.var 3) (.const (.int 1)))])])) [.ret (.const (.bool false))] []],5,(.bin .Add (.bin .Add (.bin .Add (.const (.str [46])) (.bi .chr [(.sub (.var 2) (.const (.int 0)))])) (.const (.str [13,10]))) (.bi .chr [(.sub (.var 2) (.const (.int 1)))])),[
 .own 6 (.list [(.bi .len [(.var 5)])]),
 .forr (.one 7) (.range [(.const (.int 4))]) [.asg 8 (.call 12 [(.var 5),(.var 4)]),.asg 5 (.call 6 [(.var 8)]),.chk 5 8 0,.app 6 (.bi .len [(.var 5)])],
 .asg 9 (.bin .Add (.const (.int 16)) (.bin .Mod (.sub (.var 1) (.const (.int 3))) (.const (.int 1400)))),
 .asg 10 (.bin .Pow (.const (.int 2)) (.var 9)),
 .asg 11 (.call 13 [(.var 3),(.var 2),(.var 10)]),
 .asg 12 (.comp1 [none,none] (.one 1) (.exp (.var 11)) [] (.comp1 [none,none] (.one 1) (.exp (.var 1)) [] (.un .USub (.var 1))))],13,(.comp1 [none,none,some 1,some 11,some 12] (.one 1) (.range [(.const (.int 5))]) [] (.ife (.cmp .Eq (.bin .Mod (.bin .FloorDiv (.bin .FloorDiv (.sub (.var 2) (.const (.int 3))) (.const (.int 1400))) (.bin .Pow (.const (.int 2)) (.var 1))) (.const (.int 2))) (.const (.int 1))) (.sub (.var 4) (.var 1)) (.sub (.var 3) (.var 1)))),[
 .ite (.cmp .Eq (.var 13) (.list [])) [.ret (.const (.bool false))] [],
 .asg 14 (.bin .Mult (.bin .Pow (.var 10) (.const (.int 4))) (.sub (.var 13) (.const (.int 1)))),
 .asg 15 (.bin .Mult (.sub (.var 13) (.const (.int 0))) (.bin .Pow (.bin .Sub (.var 10) (.const (.int 1))) (.const (.int 2)))),
 .asg 16 (.const (.int 0)),
 .forr (.one 17) (.exp (.var 6)) [.asg 16 (.bin .Add (.bin .Mult (.var 16) (.var 10)) (.var 17))],
 .ite (.cmp .NotEq (.call 5 [(.var 14),(.var 15)]) (.tuple [(.var 16),(.bin .Sub (.var 14) (.bin .Mult (.var 16) (.var 15)))])) [.ret (.const (.bool false))] [],
 .ite (.cmp .NotEq (.call 5 [(.un .USub (.var 14)),(.var 15)]) (.tuple [(.bin .Sub (.un .USub (.var 16)) (.const (.int 1))),(.bin .Sub (.bin .Add (.bin .Mult (.var 16) (.var 15)) (.var 15)) (.var 14))])) [.ret (.const (.bool false))] [],
 .ret (.cmp .Eq (.call 2 [(.var 16),(.var 9)]) (.slice (.var 6) (.const (.none)) (.const (.none)) (.un .USub (.const (.int 1)))))]⟩
noncomputable def z8:LF:=⟨["numbers"],["octets"],[some 0,none,none,none,none,none],eg⟩
noncomputable def z7:LF:=⟨["heap", "names"],[],[some 0,some 1,none,none],kQ⟩
noncomputable def v5:LF:=⟨["text", "rules"],[],[some 0,some 1,none,none,none,none,none],eU⟩
noncomputable def v4:LF:=⟨["words", "names", "base"],["row", "row", "row", "table"],[some 0,some 1,some 2,none,none,none,none,none,none,none],ga⟩
noncomputable def pY:LF:=⟨["octets"],["word", "rules"],[some 0,none,none,none,none,none,none,none,none,none],gb⟩
noncomputable def z9:LF:=⟨["grown"],[],[some 0,none],gh⟩
noncomputable def jc:List LF:=[z8,z7,v5,v4]
section
noncomputable abbrev li(l:List Int):V:=.lst (l.map .int)
noncomputable abbrev ln(l:List Nat):V:=.lst (l.map fun(n:Nat)=>.int (n:Int))
theorem lR:∀(a b:List Int),jJ (a.map .int) (b.map .int)=some (a==b):=by
 intro a
 induction a with
 |nil=>
  intro zv1
  match zv1 with
  |[]=>
   exact rfl
  |y::b=>
   exact rfl
 |cons x a lR=>
  intro zv1
  match zv1 with
  |[]=>
   exact rfl
  |y::b=>
   exact(bd (show eqO (.int x) (.int y)=some (x==y)from rfl)).trans ((aq (Option.map _) (lR b)).trans rfl)
theorem uX{α:Type}{f:V->Option (List V)}{g h:α->V}:∀{l:List α},(∀x∈l,f (g x)=some [h x])->fmM (l.map g) f=some (l.map h)
 |[],_=>rfl
 |x::l,e=>by
  have:=uX (l:=l) fun y hy=>e y (.tail _ hy);exact(bd (e x (.head _))).trans (aq _ this)
theorem Do{a b:Int}(h:-szLine<=a/\a<=szLine/\-szLine<=b/\b<=szLine):pE [.int a,.int b,.int (-1)]=some ((List.range (a-b).toNat).map fun k:Nat=>.int (a-k)):=af ⟨rfl,h⟩
theorem kw:∀(l:List Int),PyData.canLayAll0 (dK (l.map .int))=true/\PyData.depthAll (dK (l.map .int))=0:=by
 intro l
 induction l with
 |nil=>
  exact⟨rfl,rfl⟩
 |cons a l kw=>
  exact⟨(kw).1,by show max 0 _=0;rw[(kw).2];rfl⟩
theorem ou(l:List Int):SeqAt.shaped (eV (li l))=true:=by
 obtain h:PyData.depth (eV (li l))=1:=aq (·+1) (kw l).2;unfold SeqAt.shaped;rw[h];exact Bool.and_eq_true_iff.mpr ⟨(kw l).1,rfl⟩
theorem ze(a b:List Int):lz .Eq (li a) (li b)=some (a==b):=
 (af (by rw[ou,ou];rfl)).trans (lR a b)
section
variable{Φ:Fun}{ρ:Ro}{es:List E}{l:List V}{a lo hi st:E}{x vl vh vt v:V}{l1 l2 l3:Option Int}
theorem C4(h:evs Φ es ρ=some l)(hl:l.length<=szLine):evp Φ (.list es) ρ=some (.lst l):=(rfl:evp Φ (.list es) ρ=ev Φ (.list es) ρ).trans (nh h hl)
theorem C3(h:evs Φ es ρ=some l)(hl:l.length<=szLine):evp Φ (.tuple es) ρ=some (.tup l):=(rfl:evp Φ (.tuple es) ρ=ev Φ (.tuple es) ρ).trans (oQ h hl)
theorem Bs(ha:evp Φ a ρ=some x)(h1:ev Φ lo ρ=some vl)(h2:ev Φ hi ρ=some vh)(h3:ev Φ st ρ=some vt)(q1:iK vl=some l1)(q2:iK vh=some l2)(q3:iK vt=some l3)(h:gH x l1 l2 l3=some v):ev Φ (.slice a lo hi st) ρ=some v:=
 (bd ha).trans ((bd h1).trans ((bd h2).trans ((bd h3).trans ((bd q1).trans ((bd q2).trans ((bd q3).trans h))))))
theorem lI(ha:evp Φ a ρ=some x)(h1:ev Φ lo ρ=some vl)(h2:ev Φ hi ρ=some vh)(h3:ev Φ st ρ=some vt)(q1:iK vl=some l1)(q2:iK vh=some l2)(q3:iK vt=some l3)(h:gH x l1 l2 l3=some v):evp Φ (.slice a lo hi st) ρ=some v:=
 (rfl:evp Φ (.slice a lo hi st) ρ=ev Φ (.slice a lo hi st) ρ).trans (Bs ha h1 h2 h3 q1 q2 q3 h)
theorem Gp{u:UnaryOp}(ha:ev Φ a ρ=some x)(h:unV u x=some v):evp Φ (.un u a) ρ=some v:=(rfl:evp Φ (.un u a) ρ=ev Φ (.un u a) ρ).trans (lx ha h)
end
theorem n6{Φ:Fun}{N:Nat}{ρ:Ro}{i j:Nat}{l r:List V}{n:Int}(hj:ρ[j]?=some (.itr l))(hp:pv l=some (some n,r))(hi:i<ρ.length/\i≠j):ex Φ N (.parse (some i) j) ρ=some (.nxt ((ρ.set j (.itr r)).set i (.val (.int n)))):=(bd hj).trans ((bd hp).trans (af hi))
theorem Bk{Φ:Fun}{N:Nat}{ρ ρ':Ro}{i:Nat}{e:E}{l:List V}(hf:frz (av e) ρ=ρ)(he:ev Φ e ρ=some (.lst l))(hi:i<ρ.length/\l.length<=szLine)(hs:ρ.set i (.itr l)=ρ'):ex Φ N (.mkit i e) ρ=some (.nxt ρ'):=by
 show Option.bind (ev Φ e (frz (av e) ρ)) (fun v=>(eC v).bind fun l=>if i<ρ.length/\l.length<=szLine then some (Out.nxt ((frz (av e) ρ).set i (.itr l)))else none)=_;rw[hf,he,<-hs];exact af hi
theorem ax{p:Pat}{b:Ro->Option Out}{x:V}{l:List V}{ρ ρ1 ρ':Ro}(h1:fC p x ρ=some ρ1)(h2:b ρ1=some (.nxt ρ')):fj p b (x::l) ρ=fj p b l ρ':=(bd h1).trans (bd h2)
end
section
noncomputable def iG(l:Nat):List Int->List Int
 |[]=>[]
 |d::ds=>(d+(if ds.isEmpty then 0 else 64)+128*((l%2:Nat):Int))::iG (l+1) ds
theorem iz:∀(ds:List Int) (l:Nat),(iG l ds).length=ds.length:=by
 intro ds
 induction ds with
 |nil=>
  intro _;exact rfl
 |cons d ds iz=>
  intro l;exact by simp only[iG,List.length_cons,iz,List.length_cons]
section
variable{Φ:Fun}{N:Nat}
noncomputable def Fh:E:=.bin .Add (.bin .Add (.sub (.var 3) (.var 4)) (.var 5)) (.bin .Mult (.const (.int 128)) (.bin .Mod (.bi .len [.var 1]) (.const (.int 2))))
noncomputable def C9:E:=.ife (.cmp .Gt (.var 4) (.const (.int 0))) (.const (.int 64)) (.const (.int 0))
noncomputable def rX:List S:=[.asg 5 C9,.app 1 Fh]
noncomputable def wV:List S:=[.asg 3 (.call 2 [.var 2,.const (.int 6)]),.ite (.cmp .Eq (.slice (.var 3) (.un .USub (.const (.int 1))) (.const .none) (.const .none)) (.list [.const (.int 0)])) [.ret (.list [.const (.int 0),.const (.int 0)])] [],
 .asg 3 (.orE (.var 3) (.list [.const (.int 0)])),.forr (.one 4) (.range [.bin .Sub (.bi .len [.var 3]) (.const (.int 1)),.un .USub (.const (.int 1)),.un .USub (.const (.int 1))]) rX]
theorem CL:eg=[.own 1 (.list []),.forr (.one 2) (.exp (.var 0)) wV,.ret (.var 1)]:=rfl
theorem AG{ρ:Ro}{o:List V}{D:List Int}{m:Nat}{d x:Int}(h1:ρ[1]?=some (.own o))(h3:ρ[3]?=some (.val (li D)))(h4:ρ[4]?=some (.val (.int m)))(h5:ρ[5]?=some (.val (.int x)))(hd:D[m]?=some d)(hD:D.length<=szLine)(ho:o.length<=szLine):
  ev Φ Fh ρ=some (.int (d+x+128*((o.length%2:Nat):Int))):=by
 obtain e1:mi (li D) (.int m)=some (.int d):=pz (by rw[bA,hd];rfl) (by rw[aC];exact hD);obtain e2:biV .len [.lst o]=some (.int o.length):=af ho;obtain e4:ibits 128+ibits ((o.length%2:Nat):Int)<=134217728:=by
  rcases Nat.mod_two_eq_zero_or_one o.length with q | q<;>rw[q]<;>decide +kernel
 exact aP (aL (fO (aN h3) (dA h4) e1) (aN h5) rfl) (aL rfl (aL (xP (f7 (Fi h1) rfl) e2) rfl (AN (k:=2) (by decide))) (dE e4)) rfl
theorem pj:∀(m:Nat){s0 s2 s4 s5:Sl}{o D:List Int},m<=D.length->D.length<=1000->o.length+m<500000 ->
  Ex2 fun s4' s5'=>fj (.one 4) (fun ρ=>exs Φ N rX ρ) ((List.range m).map fun k:Nat=>.int ((m:Int)-1-k)) [s0,.own (o.map .int),s2,.val (li D),s4,s5] =
   some (.nxt [s0,.own ((o++iG o.length (D.take m).reverse).map .int),s2,.val (li D),s4',s5']):=by
 intro m
 induction m with
 |zero=>
  intro s0 s2 s4 s5 o D _ _ _;exact⟨s4,s5,by rw[List.take_zero,List.reverse_nil,iG,bQ];rfl⟩
 |succ m pj=>
  intro s0 s2 s4 s5 o D h hD ho;obtain hz:szLine=1048576:=rfl;obtain⟨d,hd⟩:∃d,D[m]?=some d:=⟨_,cE (by lia)⟩;obtain hx:((if 0<m then 64 else 0:Int))=(if((D.take m).reverse).isEmpty then 0 else 64:Int):=by
   cases m with
   |zero=>rfl
   |succ m=>
    rw[af (by lia),ag];rw[List.isEmpty_reverse,List.isEmpty_iff,List.take_eq_nil_iff];intro q;rcases q with q | q
    ·cases q
    ·rw[q]at h;simp at h
  obtain hr:(List.range (m+1)).map (fun k:Nat=>V.int (((m+1:Nat):Int)-1-k))=.int m::(List.range m).map (fun k:Nat=>V.int ((m:Int)-1-k)):=by
   rw[List.range_succ_eq_map,bc,dI]
   congr 1
   ·congr 1;lia
   ·refine List.map_congr_left fun k U=>?_
    show V.int _=V.int _
    congr 1
    show((m+1:Nat):Int)-1-((k+1:Nat):Int)=_;lia
  obtain e1:ev Φ C9 [s0,.own (o.map .int),s2,.val (li D),.val (.int m),s5]=some (.int (if 0<m then 64 else 0)):=by
   by_cases q:0<m
   ·rw[af q];exact ni (o:=true) (aq some (dp (Int.ofNat_lt.mpr q))) rfl
   ·rw[ag q];exact ni (o:=false) (aq some (cY (fun e=>q (Int.ofNat_lt.mp e)))) rfl
  obtain e2:=AG (Φ:=Φ) (ρ:=[s0,.own (o.map .int),s2,.val (li D),.val (.int m),.val (.int (if 0<m then 64 else 0))]) (o:=o.map .int) rfl rfl rfl rfl hd (by lia) (by rw[aC];lia);obtain b:exs Φ N rX [s0,.own (o.map .int),s2,.val (li D),.val (.int m),s5]=some (.nxt [s0,.own ((o++[d+(if 0<m then 64 else 0)+128*((o.length%2:Nat):Int)]).map .int),s2,.val (li D),.val (.int m),.val (.int (if 0<m then 64 else 0))]):=by
   refine(ae (bO e1 (bg rfl))).trans ?_;refine(ae (kF e2 rfl (by rw[aC];lia))).trans ?_;rw[hU,aC];rfl
  obtain⟨s4',s5',ih⟩:=pj (s0:=s0) (s2:=s2) (s4:=.val (.int m)) (s5:=.val (.int (if 0<m then 64 else 0))) (o:=o++[d+(if 0<m then 64 else 0)+128*((o.length%2:Nat):Int)]) (D:=D) (by lia) hD (by rw[aG];simp only[List.length_cons,List.length_nil];lia);refine⟨s4',s5',?_⟩;rw[hr];rw[ax rfl b,ih];obtain ht:(D.take (m+1)).reverse=d::(D.take m).reverse:=by rw[List.take_add_one,hd,Option.toList_some,List.reverse_append];rfl
  rw[ht,iG,<-hx,bX,aG];rfl
end
end
section
theorem iq{n:Int}(h0:0<=n)(h:n<2^18):∃D:List Int,jX (i2dV [.int n,.int 6]=some (li D)) (D.length<=3) (db 6 D) (aU 6 D=n) ((∀E,D≠E++[0])):=by
 have hb:ibits n<=18:=dO h0 h;have hd:ndig n 6<=3:=by unfold ndig;lia
 obtain hm:=jC n (n:=6) (by decide);have hv:aU 6 (bH 6 (ndig n 6) n)=n:=by
  simp only[iA];refine Int.emod_eq_of_lt h0 (eI (fh h0) ?_);obtain q:2^ibits n<=2^(6*ndig n 6):=i0 (by decide) hm.1;obtain e1:((2^ibits n:Nat):Int)=2^ibits n:=by simp only[Int.natCast_pow];rfl
  obtain e2:((2^(6*ndig n 6):Nat):Int)=2^(6*ndig n 6):=by simp only[Int.natCast_pow];rfl
  simp only[<-e1,<-e2];exact cP.mpr q
 refine⟨bH 6 (ndig n 6) n,af ⟨h0,by decide,by show ibits n+6<=_;lia,by show ndig n 6<=_;lia⟩,by simp only[br];exact hd,fun d hd=>eB 6 _ n d hd,hv,fun E hE=>?_⟩;obtain hl:=aq List.length hE;simp only[br,aG,List.length_singleton]at hl;simp only[hE,ez]at hv;obtain hE2:db 6 E:=fun x hx=>eB 6 (ndig n 6) n x (by simp only[hE];exact List.mem_append_left _ hx);obtain hs:=(dj 6 E hE2).2;have:aU 6 [0]=0:=by decide
 simp only[this,Int.mul_zero,Int.add_zero]at hv;simp only[hv]at hs;have:=dO h0 hs;have h2:ndig n 6<=E.length:=by
  unfold ndig;have:Builtin.Int.intBits n=ibits n:=rfl;lia
 lia
noncomputable def dB(n:Int):List Int:=match bH 6 (ndig n 6) n with
 |[]=>[0]
 |d::ds=>d::ds
noncomputable def ji(l:Nat):List Int->List Int
 |[]=>[]
 |n::ns=>iG l (dB n).reverse++ji (l+(dB n).length) ns
theorem sw:∀(D:List Int),D.length<=3->∃L,gH (li D) (some (-1)) none none=some (li L)/\(L=[0]->∃E,D=E++[0])
 |[],_=>⟨[],by kernel_rfl,fun h=>by cases h⟩
 |[a],_=>⟨[a],by kernel_rfl,fun h=>⟨[],h⟩⟩
 |[a,b],_=>⟨[b],by kernel_rfl,fun h=>⟨[a],by rw[(List.cons.inj h).1];rfl⟩⟩
 |[a,b,c],_=>⟨[c],by kernel_rfl,fun h=>⟨[a,b],by rw[(List.cons.inj h).1];rfl⟩⟩
 |_::_::_::_::_,h=>absurd h (by simp)
section
variable{Φ:Fun}{N:Nat}
theorem dZ{n:Int}{D:List Int}(h:i2dV [.int n,.int 6]=some (li D)):(D=[]->dB n=[0])/\(D≠[]->dB n=D):=by
 have:D=bH 6 (ndig n 6) n:=by
  refine aO (show(if _ then some (li (bH 6 (ndig n 6) n))else none)=_ from h) fun U h=>?_;have:=aq cJ (AR (al_0 h));simp only[dS,dS]at this;exact(al_0 this).symm
 subst this;unfold dB;constructor
 ·intro e;simp only[e]
 ·intro e
  split
  ·rename_i q;exact absurd q e
  ·rename_i q;exact q.symm
theorem vG(h2:Φ 2=i2dV){n:Int}{s0 s3 s4 s5:Sl}{o:List Int}(h0:0<=n)(h:n<2^18)(ho:o.length<=400000):
  Ex3 fun s3' s4' s5'=>exs Φ N wV [s0,.own (o.map .int),.val (.int n),s3,s4,s5]=some (.nxt [s0,.own ((o++iG o.length (dB n).reverse).map .int),.val (.int n),s3',s4',s5'])/\(dB n).length<=3:=by
 refine byG fun gG kG=>?_;obtain⟨D,hD,hl,_,_,hne⟩:=iq h0 h;obtain⟨L,hL,hL0⟩:=sw D hl;refine kG ?_;have e1:ev Φ (.call 2 [.var 2,.const (.int 6)]) [s0,.own (o.map .int),.val (.int n),s3,s4,s5]=some (li D):=by
  show Φ 2 _=_;rw[h2];exact hD
 have e2:evb Φ (.cmp .Eq (.slice (.var 3) (.un .USub (.const (.int 1))) (.const .none) (.const .none)) (.list [.const (.int 0)])) [s0,.own (o.map .int),.val (.int n),.val (li D),s4,s5]=some false:=by
  have c:lz .Eq (li L) (li [0])=some false:=by
   rw[ze]
   congr 1
   exact Bool.eq_false_iff.mpr fun q=>by
    obtain⟨E,hE⟩:=hL0 (aB q);exact hne E hE
  exact bC (lI rfl (lx rfl rfl) rfl rfl rfl rfl rfl hL) (C4 (am rfl rfl) (show 1<=szLine by decide)) c
 have e3:ev Φ (.orE (.var 3) (.list [.const (.int 0)])) [s0,.own (o.map .int),.val (.int n),.val (li D),s4,s5]=some (li (dB n)):=by
  obtain f1:=(dZ hD).1;obtain f2:=(dZ hD).2;have hz:(D.map V.int).length<=szLine:=by rw[aC];exact ai hl (by decide)
  obtain ht:k6 (li D)=some (decide (D.map V.int≠[])):=af hz
  cases D with
  |nil=>
   rw[f1 rfl];rfl
  |cons a D'=>
   rw[f2 (by simp)];have:decide ((a::D').map V.int≠[])=true:=by simp
   rw[this]at ht;exact bd ht
 have hf:(dB n).length<=3:=by
  obtain f1:=(dZ hD).1;obtain f2:=(dZ hD).2
  cases D with
  |nil=>rw[f1 rfl];decide
  |cons a D'=>rw[f2 (by simp)];exact hl
 obtain⟨s4',s5',e4⟩:=pj (Φ:=Φ) (N:=N) (dB n).length (s0:=s0) (s2:=.val (.int n)) (s4:=s4) (s5:=s5) (o:=o) (D:=dB n) (bS _) (by lia) (by lia);refine⟨.val (li (dB n)),s4',s5',?_,hf⟩;refine(ae (bO e1 (bg rfl))).trans ?_;refine(ae ((sT e2).trans rfl)).trans ?_;refine(ae (bO e3 (bg rfl))).trans ?_;have e5:eu Φ (.range [.bin .Sub (.bi .len [.var 3]) (.const (.int 1)),.un .USub (.const (.int 1)),.un .USub (.const (.int 1))]) [s0,.own (o.map .int),.val (.int n),.val (li (dB n)),s4,s5]=some ((List.range (dB n).length).map fun k:Nat=>.int (((dB n).length:Int)-1-k)):=by
  obtain hz:szLine=1048576:=rfl;have hb:biV .len [li (dB n)]=some (.int (dB n).length):=by
   refine(af (by rw[aC];lia)).trans ?_;rw[aC]
  have:pE [.int (((dB n).length:Int)-1),.int (-1),.int (-1)]=some ((List.range (dB n).length).map fun k:Nat=>.int (((dB n).length:Int)-1-k)):=by
   rw[Do (by lia)]
   congr 3
   lia
  exact uN (am (aP (xP rfl hb) rfl rfl) rfl) this
 refine(ae ((dG e5).trans e4)).trans ?_;rw[List.take_length];rfl
theorem k8(h2:Φ 2=i2dV):∀(ns:List Int){s0 s2 s3 s4 s5:Sl}{o:List Int},(∀n∈ns,0<=n/\n<2^18)->o.length+3*ns.length<=400000 ->
  Ex4 fun s2' s3' s4' s5'=>fj (.one 2) (fun ρ=>exs Φ N wV ρ) (ns.map .int) [s0,.own (o.map .int),s2,s3,s4,s5]=some (.nxt [s0,.own ((o++ji o.length ns).map .int),s2',s3',s4',s5']):=by
 intro ns
 induction ns with
 |nil=>
  intro s0 s2 s3 s4 s5 o _ _;exact⟨s2,s3,s4,s5,by rw[ji,bQ];rfl⟩
 |cons n ns k8=>
  intro s0 s2 s3 s4 s5 o h ho;rw[List.length_cons]at ho;obtain⟨s3',s4',s5',e,hf⟩:=vG (Φ:=Φ) (N:=N) h2 (n:=n) (s0:=s0) (s3:=s3) (s4:=s4) (s5:=s5) (o:=o) (h n (.head _)).1 (h n (.head _)).2 (by lia);have hl:(iG o.length (dB n).reverse).length=(dB n).length:=by rw[iz,ll]
  obtain⟨t2,t3,t4,t5,ih⟩:=k8 (s0:=s0) (s2:=.val (.int n)) (s3:=s3') (s4:=s4') (s5:=s5') (o:=o++iG o.length (dB n).reverse) (fun x hx=>h x (.tail _ hx)) (by rw[aG,hl];lia);refine⟨t2,t3,t4,t5,?_⟩;rw[bc,ax rfl e,ih,ji,bX,aG,hl]
theorem vH(h2:Φ 2=i2dV){ns:List Int}(h:∀n∈ns,0<=n/\n<2^18)(hl:ns.length<=1000):evV Φ N [some 0,none,none,none,none,none] 1 eg [li ns]=some (li (ji 0 ns)):=by
 have hz:szLine=1048576:=rfl;obtain⟨t2,t3,t4,t5,e⟩:=k8 (Φ:=Φ) (N:=N) h2 ns (s0:=.val (li ns)) (s2:=.unb) (s3:=.unb) (s4:=.unb) (s5:=.unb) (o:=[]) h (by simp;lia);have e1:exs Φ N eg [.val (li ns),.unb,.unb,.unb,.unb,.unb]=some (.ret (li (ji 0 ns)) [.val (li ns),.val (li (ji 0 ns)),t2,t3,t4,t5]):=by
  simp only[CL];refine(ae (ρ':=[.val (li ns),.own [],.unb,.unb,.unb,.unb]) rfl).trans ?_;have e2:eu Φ (.exp (.var 0)) [.val (li ns),.own [],.unb,.unb,.unb,.unb]=some (ns.map .int):=by
   exact af (by simp only[aC];lia)
  refine(ae ((dG e2).trans e)).trans ?_;rfl
 have e2:exs Φ N eg (fb [some 0,none,none,none,none,none] [li ns])=_:=e1;exact(af rfl).trans (bd e2)
end
end
theorem y4:∀d<64,∀x<2,Builtin.bitAnd ((d+64+128*x:Nat):Int) 63=(d:Nat)/\Builtin.bitAnd ((d+64+128*x:Nat):Int) 64=64/\Builtin.bitAnd ((d+128*x:Nat):Int) 63=(d:Nat)/\Builtin.bitAnd ((d+128*x:Nat):Int) 64=0:=by decide +kernel
theorem dY{d:Int}(h0:0<=d)(h:d<64)(l:Nat):Builtin.bitAnd (d+64+128*((l%2:Nat):Int)) 63=d/\Builtin.bitAnd (d+64+128*((l%2:Nat):Int)) 64=64/\Builtin.bitAnd (d+0+128*((l%2:Nat):Int)) 63=d/\Builtin.bitAnd (d+0+128*((l%2:Nat):Int)) 64=0:=by
 obtain⟨n,rfl⟩:=lh h0;rw[Int.add_zero];exact y4 n (by lia) (l%2) (Nat.mod_lt _ (by decide))
noncomputable def jf(v:Int):List Int->Int
 |[]=>v
 |d::ds=>jf (v*64+d) ds
theorem mE:∀(ds:List Int) (l:Nat) (v:Int) (r:List V),ds≠[]->(∀d∈ds,0<=d/\d<64)->0<=v->ibits v+6*ds.length<=1000000->qI v ((iG l ds).map .int++r)=some (some (jf v ds),r):=by
 intro ds
 induction ds with
 |nil=>exact fun U U U h U U U=>absurd rfl h
 |cons d ds mE=>
  intro l v r _ hd hv hb;rw[List.length_cons]at hb;obtain d0:=(hd d (.head _)).1;obtain d1:=(hd d (.head _)).2;obtain a1:=(dY d0 d1 l).1;obtain a2:=(dY d0 d1 l).2.1;obtain a3:=(dY d0 d1 l).2.2.1;obtain a4:=(dY d0 d1 l).2.2.2;obtain hg:ibits v+6<=134217728:=by
   have:ibits v+6<=1000000:=by lia
   exact ai this (by decide)
  obtain ho:Builtin.bitOr (v*64) d=v*64+d:=xV 6 hv d0 d1
  cases ds with
  |nil=>
   simp only[iG,List.isEmpty_nil,if_true,bc,List.map_nil,List.cons_append,List.nil_append,qI,a3,a4,ho,jf];rw[af hg]
  |cons e ds=>
   obtain hv':0<=v*64+d:=by lia
   obtain hb':ibits (v*64+d)<=ibits v+6:=by
    refine aK hv' ?_;have:=fh hv;rw[fV];lia
   obtain ih:=mE (l+1) (v*64+d) r (by simp) (fun x hx=>hd x (.tail _ hx)) hv' (by rw[List.length_cons]at hb ⊢;lia);rw[iG];simp only[List.isEmpty_cons,jV,if_false,bc,List.cons_append,qI,a1,a2,ho,jf];rw[af hg,ag (by decide)];exact ih
theorem Dv(ds:List Int)(l:Nat)(r:List V)(h:ds≠[])(hd:∀d∈ds,0<=d/\d<64)(hl:ds.length<=1000):pv ((iG l ds).map .int++r)=some (some (jf 0 ds),r):=by
 cases ds with
 |nil=>exact absurd rfl h
 |cons d ds=>
  obtain d0:=(hd d (.head _)).1;obtain d1:=(hd d (.head _)).2;obtain a1:=(dY d0 d1 l).1;obtain a2:=(dY d0 d1 l).2.1;obtain a3:=(dY d0 d1 l).2.2.1;obtain a4:=(dY d0 d1 l).2.2.2;rw[List.length_cons]at hl;have e0:jf 0 (d::ds)=jf d ds:=by rw[jf,Int.zero_mul,fv]
  rw[e0]
  cases ds with
  |nil=>
   simp only[iG,List.isEmpty_nil,if_true,bc,List.map_nil,List.cons_append,List.nil_append,pv,a3,a4,jf]
  |cons e ds=>
   rw[iG];simp only[List.isEmpty_cons,jV,if_false,bc,List.cons_append,pv,a1,a2];rw[ag (by decide)];refine mE (e::ds) (l+1) d r (by simp) (fun x hx=>hd x (.tail _ hx)) d0 ?_;have:ibits d<=6:=aK d0 d1;rw[List.length_cons]at *;lia
theorem kB(d:Int):∀(l:List Int) (v:Int),jf v (l++[d])=jf v l*64+d:=by
 intro l
 induction l with
 |nil=>
  intro v;exact rfl
 |cons x l kB=>
  intro v;exact by simp only[List.cons_append,jf,kB,jf]
theorem sX:∀(D:List Int),jf 0 D.reverse=aU 6 D:=by
 intro D
 induction D with
 |nil=>
  exact rfl
 |cons d D sX=>
  simp only[List.reverse_cons,kB,sX,aU];have:(2:Int)^6=64:=by decide
  simp only[this];lia
inductive iW:List V->List Int->Prop where
 |nil:iW [] []
 |cons {l r:List V}{n:Int}{ns:List Int}:pv l=some (some n,r)->iW r ns->iW l (n::ns)
theorem j6:∀(ns:List Int) (l:Nat),(∀n∈ns,0<=n/\n<2^18)->iW ((ji l ns).map .int) ns:=by
 intro ns
 induction ns with
 |nil=>
  intro _ _;exact .nil
 |cons n ns j6=>
  intro l h;obtain⟨D,hD,hl,hdg,hv,_⟩:=iq (h n (.head _)).1 (h n (.head _)).2;obtain f1:=(dZ hD).1;obtain f2:=(dZ hD).2;obtain hf:(dB n).reverse≠[]/\(∀d∈(dB n).reverse,0<=d/\d<64)/\(dB n).reverse.length<=1000/\jf 0 (dB n).reverse=n:=by
   by_cases q:D=[]
   ·rw[f1 q]
    rw[q]at hv;exact⟨by decide,fun d hd=>by rw[List.reverse_singleton,fx]at hd;rw[hd];decide,by decide,hv⟩
   ·rw[f2 q,sX]
    exact⟨fun e=>q (List.reverse_eq_nil_iff.mp e),fun d hd=>hdg d (List.mem_reverse.mp hd),by rw[ll];lia,hv⟩
  refine .cons (r:=(ji (l+(dB n).length) ns).map .int) ?_ (j6 _ fun x hx=>h x (.tail _ hx));rw[ji,hU,Dv _ _ _ hf.1 hf.2.1 hf.2.2.1,hf.2.2.2]
section
section
variable{Φ:Fun}{N:Nat}
noncomputable abbrev iv(n:Nat):Sl:=.val (.int (n:Int))
noncomputable abbrev ow(l:List Nat):Sl:=.own (l.map fun k:Nat=>.int (k:Int))
theorem CS{D:List Nat}{i:Nat}(h:i<D.length)(hD:D.length<=1000):mi (ln D) (.int (i:Int))=some (.int (D.getD i 0:Nat)):=by
 refine pz ?_ (by rw[aC];exact ai hD (by decide));rw[bA,cE h,nH,cE h];rfl
theorem EB{i:Nat}{e:E}{ρ ρ':Ro}{n:Nat}{l:List Nat}(he:ev Φ e (frz (av e) ρ)=some (.int (n:Int)))(hl:(frz (av e) ρ)[i]?=some (.own (l.map fun k:Nat=>.int (k:Int))))(hi:l.length<500000)(hρ:(frz (av e) ρ).set i (.own ((l++[n]).map fun k:Nat=>.int (k:Int)))=ρ'):ex Φ N (.app i e) ρ=some (.nxt ρ'):=by
 rw[kF he hl (by rw[aC];exact i8 hi (by decide)),<-hρ,hU];rfl
theorem E5{i:Nat}{ρ:Ro}{l:List Nat}(h:ρ[i]?=some (.val (ln l)))(hl:l.length<=100000):eu Φ (.exp (.var i)) ρ=some (l.map fun k:Nat=>.int (k:Int)):=
 (bd (dA (Φ:=Φ) h)).trans (af (by rw[aC];exact ai hl (by decide)))
theorem za{i k:Nat}{args:List E}{ρ ρ':Ro}{vs:List V}{v:V}(hf:frz (mB args) ρ=ρ)(ha:evs Φ args ρ=some vs)(hc:Φ (1000+k) vs=some v)(hs:nY i v ρ=some ρ'):ex Φ N (.calls i k args) ρ=some (.nxt ρ'):=by
 show Option.bind (evs Φ args (frz (mB args) ρ)) (fun vs=>(Φ (1000+k) vs).bind fun v=>(nY i v (frz (mB args) ρ)).map Out.nxt)=_;rw[hf,ha];exact(bd hc).trans (aq (Option.map Out.nxt) hs)
theorem gR{ρ:Ro}{c:B}{a r:List S}(h:evb Φ c ρ=some false)(hf:frz (gk c) ρ=ρ):exs Φ N (.ite c a []::r) ρ=exs Φ N r ρ:=
 ae (eL hf h rfl)
theorem n5{α:Type}{f:V->Option (List V)}{g:α->V}{h:α->List V}:∀{l:List α},(∀x∈l,f (g x)=some (h x))->fmM (l.map g) f=some (l.flatMap h):=by
 intro l
 induction l with
 |nil=>
  intro _;exact rfl
 |cons x l n5=>
  intro e;exact(bd (e x (.head _))).trans (aq _ (n5 fun y hy=>e y (.tail _ hy)))
end
theorem ko{x:Int}{n:Nat}(h:(ibits x:Int)*n<=134217728):bR .Pow (.int x) (.int n)=some (.int (x^n)):=aq (Option.map V.int) (af ⟨cF n,h⟩)
theorem gu(a:Int){b:Int}(h:b≠0)(hb:b.natAbs<1073741824):bR .FloorDiv (.int a) (.int b)=some (.int (a.fdiv b)):=by
 show(hG .FloorDiv a b).map V.int=_;rw[show hG .FloorDiv a b=some (a.fdiv b)from ag (by rw[PyProof.noPylong_small hb];simp[h])];rfl
theorem uE(a b:Int):lz .NotEq (.tup [.int a,.int b]) (.tup [.int a,.int b])=some false:=by
 have:lz .NotEq (.tup [.int a,.int b]) (.tup [.int a,.int b])=some (!((a==a)&&((b==b)&&true))):=by kernel_rfl
 rw[this,fu,fu];rfl
theorem Fo(l:List Nat):ln l=li (l.map fun k:Nat=>(k:Int)):=by rw[li,dI];rfl
theorem add_str{a b:List Nat}(h:a.length+b.length<=1000000):bR .Add (.str a) (.str b)=some (.str (a++b)):=af (ai h (by decide))
theorem r8{a b:List Nat}(h:a.length+b.length<=1000000):kz .Add (.str a) (.str b)=some (.str (a++b)):=af (ai h (by decide))
theorem yW{k:Int}(hk:0<k)(i:Int):0<=i.fmod k/\i.fmod k<k:=by
 rw[Int.fmod_eq_emod_of_nonneg _ (ay hk)];exact⟨eF _ (bW hk),eE _ hk⟩
noncomputable def wd(h:Int):List Nat:=(List.range (h.fmod 3).toNat).map (fun k:Nat=>(((h.fdiv 3).fdiv (5^k)).fmod 5).toNat)++[2+((h.fdiv 75).fmod 3).toNat]
noncomputable def sg(n0 n1:Nat)(i:Nat):Nat:=[n0,n1,46,10,255].getD i 0
theorem iu{α:Type}{f:V->Option (List V)}{g h:α->V}{l:List α}(e:∀x∈l,f (g x)=some [h x]):fmM (l.map g) f=some (l.map h):=by
 rw[n5 e];exact aq some (by induction l with | nil=>rfl | cons x l ih=>exact aq (h x::·) (ih fun y hy=>e y (.tail _ hy)))
theorem fQ{k:Int}(hk:0<k)(a:Int):((a.fmod k).toNat:Int)=a.fmod k:=Int.toNat_of_nonneg (yW hk a).1
theorem eY{k:Nat}(hk:0<k)(a:Int):(a.fmod k).toNat<k:=by
 obtain h:=yW (Int.ofNat_lt.mpr hk) a;obtain h1:=h.1;obtain h2:=h.2;omega
section
variable{Φ:Fun}{N:Nat}
theorem gq(a:Int){b:Int}(hb:b≠0):bR .Mod (.int a) (.int b)=some (.int (a.fmod b)):=aq (Option.map V.int) (ag hb)
theorem vE{h:Int}{n0 n1:Nat}:evV Φ N [some 0,some 1,none,none] 2 kQ [.int h,ln [n0,n1]]=some (ln ((wd h).map (sg n0 n1))):=by
 have m3:=eY (k:=3) (by decide) h;have g3:=fQ (k:=3) (by decide) h;have q5:∀k:Nat,k<3->∀ρ:Ro,ρ[1]?=some (iv k)->ρ[2]?=some (.val (.int h))->ev Φ (.bin .Mod (.bin .FloorDiv (.bin .FloorDiv (.var 2) (.const (.int 3))) (.bin .Pow (.const (.int 5)) (.var 1))) (.const (.int 5))) ρ=some (.int ((((h.fdiv 3).fdiv (5^k)).fmod 5).toNat:Nat)):=fun k hk ρ h1 h2=>by
  have hb:ibits 5=3:=by decide
  have e1:evp Φ (.bin .Pow (.const (.int 5)) (.var 1)) ρ=some (.int (5^k)):=aL rfl (aN h1) (ko (by rw[hb];lia));have e2:evp Φ (.bin .FloorDiv (.var 2) (.const (.int 3))) ρ=some (.int (h.fdiv 3)):=aL (aN h2) rfl (gu h (by decide) (by decide));have e3:(5:Int)^k≠0/\((5:Int)^k).natAbs<1073741824:=by exact lt3 hk (by decide) (by decide) (by decide)
  rw[fQ (by decide)];exact aP (aL e2 e1 (gu _ e3.1 e3.2)) rfl (gq _ (by decide))
 have sgs:∀i:Nat,i<5->mi (ln [n0,n1,46,10,255]) (.int (i:Nat))=some (.int (sg n0 n1 i:Nat)):=fun i hi=>by
  rw[CS (by exact hi) (by show 5<=1000;decide)];rfl
 have e2:∀ρ:Ro,ρ[0]?=some (.val (.int h))->ρ[2]?=some (.val (ln [n0,n1,46,10,255]))->ev Φ (.comp1 [none,none,some 0,some 2] (.one 1) (.range [(.bin .Mod (.var 0) (.const (.int 3)))]) [] (.sub (.var 3) (.bin .Mod (.bin .FloorDiv (.bin .FloorDiv (.var 2) (.const (.int 3))) (.bin .Pow (.const (.int 5)) (.var 1))) (.const (.int 5))))) ρ =
   some (ln (((List.range (h.fmod 3).toNat).map (fun k:Nat=>(((h.fdiv 3).fdiv (5^k)).fmod 5).toNat)).map (sg n0 n1))):=fun ρ h0 h2=>by
  have hc:capt [none,none,some 0,some 2] ρ=[.unb,.unb,.val (.int h),.val (ln [n0,n1,46,10,255])]:=by
   show[Sl.unb,.unb,((ρ[0]?).bind slV).elim .unb .val,((ρ[2]?).bind slV).elim .unb .val]=_;rw[h0,h2];rfl
  have hi:eu Φ (.range [(.bin .Mod (.var 0) (.const (.int 3)))]) ρ=some ((List.range (h.fmod 3).toNat).map fun(k:Nat)=>V.int (k:Int)):=by
   refine uN (am (aP (aN h0) rfl (gq h (by decide))) rfl) ?_;exact af ⟨by have:=(yW (k:=3) (by decide) h).1;have hs:szLine=1048576:=rfl;lia,by have hs:szLine=1048576:=rfl;lia⟩
  refine(jj hi (l:=((List.range (h.fmod 3).toNat).map (fun k:Nat=>(((h.fdiv 3).fdiv (5^k)).fmod 5).toNat)).map (sg n0 n1)|>.map fun n:Nat=>V.int (n:Int)) ?_ ?_)
  ·rw[hc,dI,dI]
   refine iu fun k hk=>kT rfl rfl (l5 (aN rfl) (q5 k (by have:=List.mem_range.mp hk;lia) _ rfl rfl) (sgs _ (eY (k:=5) (by decide) _)))
  ·simp;lia
 have s1:ev Φ (.bin .Add (.var 1) (.list [(.const (.int 46)),(.const (.int 10)),(.const (.int 255))])) [.val (.int h),.val (ln [n0,n1]),.unb,.unb]=some (ln [n0,n1,46,10,255]):=rfl;have e3:=e2 [.val (.int h),.val (ln [n0,n1]),.val (ln [n0,n1,46,10,255]),.unb] rfl rfl;have m75:=eY (k:=3) (by decide) (h.fdiv 75);have g75:=fQ (k:=3) (by decide) (h.fdiv 75);have e4:ev Φ (.sub (.list [(.const (.int 46)),(.const (.int 10)),(.const (.int 255))]) (.bin .Mod (.bin .FloorDiv (.var 0) (.const (.int 75))) (.const (.int 3)))) [.val (.int h),.val (ln [n0,n1]),.val (ln [n0,n1,46,10,255]),.val (ln (((List.range (h.fmod 3).toNat).map (fun k:Nat=>(((h.fdiv 3).fdiv (5^k)).fmod 5).toNat)).map (sg n0 n1)))]=some (.int (sg n0 n1 (2+((h.fdiv 75).fmod 3).toNat):Nat)):=by
  refine l5 (x:=ln [46,10,255]) rfl (aP (aL rfl rfl (gu h (by decide) (by decide))) rfl (gq _ (by decide))) ?_;have m75':((h.fdiv 75).fmod 3).toNat<3:=m75;have g75':(((h.fdiv 75).fmod 3).toNat:Int)=(h.fdiv 75).fmod 3:=g75;generalize (h.fdiv 75).fmod 3=z at m75' g75';rw[<-g75',Int.toNat_natCast];generalize z.toNat=j at m75';clear g75';have m75:=m75';clear m75';exact lt3 m75 rfl rfl rfl
 refine iw rfl (.asg rfl s1 rfl (.asg rfl e3 rfl (.ret rfl ?_)));refine aP rfl (nh (am e4 rfl) (by show 1<=szLine;decide)) ((af ?_).trans ?_)
 ·simp;lia
 ·unfold wd
  rw[hU,ln,hU];rfl
end
end
section
section
variable{Φ:Fun}{N:Nat}
theorem we{p:Pat}{b:Ro->Option Out}{x:V}{l:List V}{ρ ρ1 ρ2:Ro}(hb:fC p x ρ=some ρ1)(h:b ρ1=some (.brk ρ2)):fj p b (x::l) ρ=some (.nxt ρ2):=(bd hb).trans (bd h)
theorem Bh{x:S}{r:List S}{ρ ρ':Ro}(h:ex Φ N x ρ=some (.brk ρ')):exs Φ N (x::r) ρ=some (.brk ρ'):=bd h
noncomputable def ruB:List S:=[.parse (some 7) 1,.ite (.and [(.cmp .Is (.call 9 [(.var 7)]) (.const (.bool true))),(.cmp .Is (.call 7 [(.var 7)]) (.const (.bool true))),(.cmp .Is (.call 8 [(.var 7)]) (.const (.bool false)))]) [.brk] [],.app 5 (.var 7)]
theorem uu(h7:Φ 7=t7V)(h8:Φ 8=t8V)(h9:Φ 9=t9V):∀(ws:List Nat) (items l:List V){s0 s2 s3 s4 s6 s7 s8 s9:Sl} (acc:List Nat){xs:List Int},(∀m∈ws,1<=m)->iW l (ws.map (fun m:Nat=>(m:Int))++0::xs)->ws.length<items.length->acc.length+ws.length<=1000 ->
  Ex2 fun r s6'=>iW r xs/\fj (.one 6) (fun ρ=>exs Φ N ruB ρ) items [s0,.itr l,s2,s3,s4,ow acc,s6,s7,s8,s9]=some (.nxt [s0,.itr r,s2,s3,s4,ow (acc++ws),s6',iv 0,s8,s9])
 |ws,[],l,_,_,_,_,_,_,_,_,acc,_,_,_,hn,_=>absurd hn (Nat.not_lt_zero _)
 |[],x::items,l,s0,s2,s3,s4,s6,s7,s8,s9,acc,xs,_,ht,_,_=>by
  cases ht with
  |@cons _ r _ _ hp ht=>
   obtain c9:Φ 9 [.int 0]=some (.bool true):=by rw[h9];rfl
   obtain c7:Φ 7 [.int 0]=some (.bool true):=by rw[h7];rfl
   obtain c8:Φ 8 [.int 0]=some (.bool false):=by rw[h8];rfl
   obtain e1:ex Φ N (.parse (some 7) 1) [s0,.itr l,s2,s3,s4,ow acc,.val x,s7,s8,s9]=some (.nxt [s0,.itr r,s2,s3,s4,ow acc,.val x,iv 0,s8,s9]):=n6 rfl hp ⟨bg rfl,by decide⟩;have e2:evb Φ (.and [(.cmp .Is (.call 9 [(.var 7)]) (.const (.bool true))),(.cmp .Is (.call 7 [(.var 7)]) (.const (.bool true))),(.cmp .Is (.call 8 [(.var 7)]) (.const (.bool false)))]) [s0,.itr r,s2,s3,s4,ow acc,.val x,iv 0,s8,s9]=some true:=
    (bd (bC (o:=true) (bZ rfl c9) rfl rfl)).trans ((bd (bC (o:=true) (bZ rfl c7) rfl rfl)).trans ((bd (bC (o:=true) (bZ rfl c8) rfl rfl)).trans rfl))
   refine⟨r,.val x,ht,?_⟩;rw[bQ];exact we rfl ((ae e1).trans (Bh (eL rfl e2 rfl)))
 |m::ws,x::items,l,s0,s2,s3,s4,s6,s7,s8,s9,acc,xs,hm,ht,hn,hl=>by
  cases ht with
  |@cons _ r _ _ hp ht=>
   obtain m1:=hm m (.head _);obtain c9:Φ 9 [.int (m:Int)]=some (.bool false):=by rw[h9];exact aq (fun b=>some (V.bool b)) (bK.mpr (by lia))
   obtain e1:ex Φ N (.parse (some 7) 1) [s0,.itr l,s2,s3,s4,ow acc,.val x,s7,s8,s9]=some (.nxt [s0,.itr r,s2,s3,s4,ow acc,.val x,iv m,s8,s9]):=n6 rfl hp ⟨bg rfl,by decide⟩;obtain st:exs Φ N ruB [s0,.itr l,s2,s3,s4,ow acc,.val x,s7,s8,s9]=some (.nxt [s0,.itr r,s2,s3,s4,ow (acc++[m]),.val x,iv m,s8,s9]):=by
    refine(ae e1).trans ((gR ?_ rfl).trans (ae (EB (n:=m) (l:=acc) rfl rfl (by rw[List.length_cons]at hl;lia) rfl)));exact(bd (bC (o:=false) (bZ rfl c9) rfl rfl)).trans rfl
   obtain⟨r',s6',h1,ih⟩:=uu h7 h8 h9 ws items r (s0:=s0) (s2:=s2) (s3:=s3) (s4:=s4) (s6:=.val x) (s7:=iv m) (s8:=s8) (s9:=s9) (acc++[m]) (fun y hy=>hm y (.tail _ hy)) ht (Nat.lt_of_succ_lt_succ hn) (by rw[aG];rw[List.length_cons]at hl;show acc.length+1+ws.length<=1000;lia);rw[bX]at ih;exact⟨r',s6',h1,(ax rfl st).trans ih⟩
noncomputable def ruT:List S:=[.parse (some 4) 1,.own 5 (.list []),.forr (.one 6) (.range [(.const (.int 4))]) ruB,.ite (.or [(.cmp .IsNot (.call 8 [(.var 4)]) (.const (.bool true))),(.cmp .IsNot (.call 7 [(.var 4)]) (.const (.bool false))),(.cmp .IsNot (.call 9 [(.var 4)]) (.const (.bool false)))]) [.ret (.list [])] [],.ite (.or [(.cmp .IsNot (.call 8 [(.un .USub (.var 4))]) (.const (.bool false))),(.cmp .IsNot (.call 7 [(.un .USub (.var 4))]) (.const (.bool true))),(.cmp .IsNot (.call 9 [(.un .USub (.var 4))]) (.const (.bool false)))]) [.ret (.list [])] [],.app 2 (.tuple [(.var 4),(.var 5)])]
theorem Ay:gb=[.mkit 1 (.var 0),.own 2 (.list []),.forr (.one 3) (.range [(.const (.int 2))]) ruT,.asg 8 (.const (.int 0)),.cuts 9 1 8 (.slice (.var 0) (.const (.none)) (.const (.int 1)) (.const (.none))),.ite (.cmp .NotEq (.var 8) (.const (.int 2))) [.ret (.list [])] [],.ret (.var 2)]:=rfl
theorem or3{ρ:Ro}{a b c:B}(h1:evb Φ a ρ=some false)(h2:evb Φ b ρ=some false)(h3:evb Φ c ρ=some false):evb Φ (.or [a,b,c]) ρ=some false:=(bd h1).trans ((bd h2).trans ((bd h3).trans rfl))
theorem ur(h7:Φ 7=t7V)(h8:Φ 8=t8V)(h9:Φ 9=t9V){n:Nat}{ws:List Nat}{l A:List V}{xs:List Int}{s0 s3 s4 s5 s6 s7 s8 s9:Sl}(hn:256<=n)(hm:∀m∈ws,1<=m)(hw:ws.length<4)(hA:A.length<100)(ht:iW l ((n:Int)::(ws.map (fun m:Nat=>(m:Int))++0::xs))):
  Ex2 fun r s6'=>iW r xs/\exs Φ N ruT [s0,.itr l,.own A,s3,s4,s5,s6,s7,s8,s9]=some (.nxt [s0,.itr r,.own (A++[.tup [.int (n:Int),ln ws]]),s3,iv n,.val (ln ws),s6',iv 0,s8,s9]):=by
 cases ht with
 |@cons _ r _ _ hp ht=>
  obtain e1:ex Φ N (.parse (some 4) 1) [s0,.itr l,.own A,s3,s4,s5,s6,s7,s8,s9]=some (.nxt [s0,.itr r,.own A,s3,iv n,s5,s6,s7,s8,s9]):=n6 rfl hp ⟨bg rfl,by decide⟩;refine byG fun gG kG=>?_;obtain⟨r',s6',h1,lp⟩:=uu (Φ:=Φ) (N:=N) h7 h8 h9 ws [.int 0,.int 1,.int 2,.int 3] r (s0:=s0) (s2:=.own A) (s3:=s3) (s4:=iv n) (s6:=s6) (s7:=s7) (s8:=s8) (s9:=s9) [] hm ht hw (by show 0+ws.length<=1000;lia);refine kG ?_;refine⟨r',s6',h1,?_⟩;obtain b1:((n:Int)==0)=false:=bK.mpr (by lia);obtain b2:(-(n:Int)==0)=false:=bK.mpr (by lia);obtain c1:Φ 8 [.int (n:Int)]=some (.bool true):=by rw[h8];exact aq (fun b=>some (V.bool b)) (dp (by lia))
  obtain c2:Φ 7 [.int (n:Int)]=some (.bool false):=by rw[h7];exact aq (fun b=>some (V.bool b)) (cY (by lia))
  obtain c3:Φ 9 [.int (n:Int)]=some (.bool false):=by rw[h9];exact aq (fun b=>some (V.bool b)) b1
  obtain d1:Φ 8 [.int (-(n:Int))]=some (.bool false):=by rw[h8];exact aq (fun b=>some (V.bool b)) (cY (by lia))
  obtain d2:Φ 7 [.int (-(n:Int))]=some (.bool true):=by rw[h7];exact aq (fun b=>some (V.bool b)) (dp (by lia))
  obtain d3:Φ 9 [.int (-(n:Int))]=some (.bool false):=by rw[h9];exact aq (fun b=>some (V.bool b)) b2
  refine(ae e1).trans ((ae (ρ':=[s0,.itr r,.own A,s3,iv n,ow [],s6,s7,s8,s9]) rfl).trans ((ae ((dG rfl).trans lp)).trans ?_));refine(gR (or3 (bC (bZ rfl c1) rfl rfl) (bC (bZ rfl c2) rfl rfl) (bC (bZ rfl c3) rfl rfl)) rfl).trans ((gR (or3 (bC (bZ (am (lx rfl rfl) rfl) d1) rfl rfl) (bC (bZ (am (lx rfl rfl) rfl) d2) rfl rfl) (bC (bZ (am (lx rfl rfl) rfl) d3) rfl rfl)) rfl).trans ?_);exact ae ((kF (l:=A) (v:=.tup [.int (n:Int),ln ws]) rfl rfl (i8 hA (by decide))).trans rfl)
theorem vN(x:V)(l:List V):eJ (x::l) none (some 1) none=[x]:=by
 obtain e:sliceBounds none (some 1) none (x::l).length=(0,1,1):=by
  obtain h:min (1:Int) ((x::l).length:Int)=1:=Int.min_eq_left (by rw[List.length_cons];lia);show((0:Int),max 0 (min (1:Int) ((x::l).length:Int)),(1:Int))=_;rw[h];rfl
 unfold eJ;rw[e];rfl
theorem sC(h7:Φ 7=t7V)(h8:Φ 8=t8V)(h9:Φ 9=t9V){n0 n1:Nat}{w0 w1:List Nat}{b:Int}{l:List V}(g0:256<=n0)(g1:256<=n1)(m0:∀m∈w0,1<=m)(m1:∀m∈w1,1<=m)(k0:w0.length<4)(k1:w1.length<4)(he:iO [.int b]=true)(hl:(V.int b::l).length<=szLine)(ht:iW (.int b::l) ((n0:Int)::(w0.map (fun m:Nat=>(m:Int))++0::((n1:Int)::(w1.map (fun m:Nat=>(m:Int))++0::[]))))):
  evV Φ N [some 0,none,none,none,none,none,none,none,none,none] 1 gb [.lst (.int b::l)]=some (.lst [.tup [.int (n0:Int),ln w0],.tup [.int (n1:Int),ln w1]]):=by
 generalize hL:V.int b::l=L at *;refine byG fun gG kG=>?_;obtain⟨r,s6,t1,e1⟩:=ur (Φ:=Φ) (N:=N) (s0:=.val (.lst L)) (s3:=iv 0) (s4:=.unb) (s5:=.unb) (s6:=.unb) (s7:=.unb) (s8:=.unb) (s9:=.unb) (A:=[]) h7 h8 h9 g0 m0 k0 (by decide) ht;obtain⟨r2,s6',t2,e2⟩:=ur (Φ:=Φ) (N:=N) (s0:=.val (.lst L)) (s3:=iv 1) (s4:=iv n0) (s5:=.val (ln w0)) (s6:=s6) (s7:=iv 0) (s8:=.unb) (s9:=.unb) (A:=[.tup [.int (n0:Int),ln w0]]) h7 h8 h9 g1 m1 k1 (by show 1<100;decide) t1;refine kG ?_
 cases t2
 obtain x1:ex Φ N (.mkit 1 (.var 0)) [.val (.lst L),.unb,.unb,.unb,.unb,.unb,.unb,.unb,.unb,.unb]=some (.nxt [.val (.lst L),.itr L,.unb,.unb,.unb,.unb,.unb,.unb,.unb,.unb]):=Bk rfl rfl ⟨bg rfl,hl⟩ rfl;obtain lp:fj (.one 3) (fun ρ=>exs Φ N ruT ρ) [.int 0,.int 1] [.val (.lst L),.itr L,.own [],.unb,.unb,.unb,.unb,.unb,.unb,.unb]=some (.nxt [.val (.lst L),.itr [],.own [.tup [.int (n0:Int),ln w0],.tup [.int (n1:Int),ln w1]],iv 1,iv n1,.val (ln w1),s6',iv 0,.unb,.unb]):=
  (ax rfl e1).trans ((ax rfl e2).trans rfl)
 obtain sl:ev Φ (.slice (.var 0) (.const (.none)) (.const (.int 1)) (.const (.none))) [.val (.lst L),.itr [],.own [.tup [.int (n0:Int),ln w0],.tup [.int (n1:Int),ln w1]],iv 1,iv n1,.val (ln w1),s6',iv 0,.val (.int 0),.unb]=some (.lst [.int b]):=by
  refine(af ⟨hl,by decide⟩).trans ?_;rw[<-hL,vN]
 obtain cu:ex Φ N (.cuts 9 1 8 (.slice (.var 0) (.const (.none)) (.const (.int 1)) (.const (.none)))) [.val (.lst L),.itr [],.own [.tup [.int (n0:Int),ln w0],.tup [.int (n1:Int),ln w1]],iv 1,iv n1,.val (ln w1),s6',iv 0,.val (.int 0),.unb] =
   some (.nxt [.val (.lst L),.unb,.own [.tup [.int (n0:Int),ln w0],.tup [.int (n1:Int),ln w1]],iv 1,iv n1,.val (ln w1),s6',iv 0,.val (.int 2),.unb]):=by
  refine(bd sl).trans (af ⟨rfl,he,by show 1<=szLine;decide,by show 9<10;decide,by show 8<10;decide,by decide,by decide,by decide⟩)
 rw[Ay];refine iw rfl ⟨_,(ae x1).trans ((ae (ρ':=[.val (.lst L),.itr L,.own [],.unb,.unb,.unb,.unb,.unb,.unb,.unb]) rfl).trans ((ae ((dG rfl).trans lp)).trans ((ae (ρ':=[.val (.lst L),.itr [],.own [.tup [.int (n0:Int),ln w0],.tup [.int (n1:Int),ln w1]],iv 1,iv n1,.val (ln w1),s6',iv 0,.val (.int 0),.unb]) rfl).trans ((ae cu).trans ((gR rfl rfl).trans rfl)))))⟩
end
end
section
noncomputable def grC(n0 n1:Nat)(w0 w1:List Nat)(c:Nat):List Nat:=if c=n0 then w0 else if c=n1 then w1 else[c]
section
variable{Φ:Fun}{N:Nat}
noncomputable def rls(n0 n1:Nat)(w0 w1:List Nat):V:=.lst [.tup [.int (n0:Int),ln w0],.tup [.int (n1:Int),ln w1]]
noncomputable def grJ:S:=.aug 2 .Add (.meth .join (.const (.str [])) [(.comp1 [none,none] (.one 1) (.exp (.var 6)) [] (.bi .chr [(.var 1)]))])
noncomputable def grB:List S:=[.asg 4 (.bi .ord [(.var 3)]),.ite (.and [(.cmp .Is (.call 8 [(.var 4)]) (.const (.bool true))),(.cmp .Is (.call 7 [(.var 4)]) (.const (.bool false)))]) [.forr (.many [5,6]) (.exp (.var 1)) [.ite (.cmp .Eq (.var 5) (.var 4)) [grJ] []]] [],.ite (.and [(.cmp .Is (.call 7 [(.var 4)]) (.const (.bool true))),(.cmp .Is (.call 8 [(.var 4)]) (.const (.bool false)))]) [.aug 2 .Add (.var 3)] []]
theorem Bb:eU=[.asg 2 (.const (.str [])),.forr (.one 3) (.exp (.var 0)) grB,.ret (.var 2)]:=rfl
theorem tM(ps:List (List Nat)):jp (ps.map V.str)=some ps:=by
 induction ps with
 |nil=>rfl
 |cons p ps ih=>exact aq (Option.map (p::·)) ih
noncomputable def aD(sep:List Nat):List (List Nat)->List Nat
 |[]=>[]
 |[x]=>x
 |x::y::r=>x++(sep++aD sep (y::r))
theorem uJ(sep:List Nat):∀ps:List (List Nat),(Txt.join (strOf sep) (ps.map strOf)).cps.toList=aD sep ps:=by
 obtain go:∀ps:List (List Nat),(PySem.Str.join (strOf sep) (ps.map strOf)).cps.toList=aD sep ps:=by
  intro ps
  induction ps with
  |nil=>rfl
  |cons x r ih=>
   cases r with
   |nil=>rfl
   |cons y r=>
    show((strOf x++strOf sep++PySem.Str.join (strOf sep) ((y::r).map strOf)).cps).toList=_;simp only[Str.cps_append,Str.cps_append,lq,lq,ih,bX];rfl
 intro ps;show(Builtin.Str.glued (strOf sep) (ps.map strOf)).cps.toList=_;simp only[StrLaws.glued_eq_join];exact go ps
theorem qW:∀ps:List (List Nat),aD [] ps=ps.flatten
 |[]=>rfl
 |[x]=>(bQ x).symm
 |x::y::r=>aq (x++·) (qW (y::r))
theorem yt{sep:List Nat}{ps:List (List Nat)}(h:(ps.map List.length).sum+ps.length*sep.length<=16777216):JoinOk (strOf sep) (ps.map strOf)=true:=by
 refine joinOk_of ?_;simp only[dI,aC];exact h
theorem uI{sep:List Nat}{ps:List (List Nat)}(h:(ps.map List.length).sum+ps.length*sep.length<=16777216):mtV .join (.str sep) [.lst (ps.map V.str)]=some (.str (aD sep ps)):=by
 show((jp (ps.map V.str)).bind fun ps=>gd (JoinOk (strOf sep) (ps.map strOf)) (some (V.str (Txt.join (strOf sep) (ps.map strOf)).cps.toList)))=_;simp only[tM];show gd (JoinOk (strOf sep) (ps.map strOf)) _=_;simp only[yt h,uJ];rfl
theorem Be{a:List Nat}{ws:List Nat}{s0 s1 s3 s4 s5:Sl}(hw:∀m∈ws,m<=1114111)(hl:ws.length<=1000)(ha:a.length<=500000):
  ex Φ N grJ [s0,s1,.val (.str a),s3,s4,s5,.val (ln ws)]=some (.nxt [s0,s1,.val (.str (a++ws)),s3,s4,s5,.val (ln ws)]):=by
 obtain c1:ev Φ (.comp1 [none,none] (.one 1) (.exp (.var 6)) [] (.bi .chr [(.var 1)])) [s0,s1,.val (.str a),s3,s4,s5,.val (ln ws)]=some (.lst ((ws.map fun m=>[m]).map V.str)):=by
  refine jj (E5 rfl (ai hl (by decide))) ?_ (by simp;exact ai hl (by decide));simp only[dI];exact iu fun m hm=>kT rfl rfl (zm rfl (af ⟨cF m,by have:=hw m hm;lia⟩))
 obtain hs:((ws.map fun m=>[m]).map List.length).sum+(ws.map fun m=>[m]).length*([]:List Nat).length<=16777216:=by
  have:((ws.map fun m=>[m]).map List.length).sum=ws.length:=by
   clear hw c1
   induction ws with
   |nil=>rfl
   |cons x ws ih=>simp only[bc,List.sum_cons,List.length_cons,List.length_nil]at ih ⊢;simp only[ih (by simp only[List.length_cons]at hl;lia)];lia
  simp only[this];simp;lia
 obtain c2:=tC (Φ:=Φ) (f:=.join) (a:=.const (.str [])) (es:=[(.comp1 [none,none] (.one 1) (.exp (.var 6)) [] (.bi .chr [(.var 1)]))]) (ρ:=[s0,s1,.val (.str a),s3,s4,s5,.val (ln ws)]) rfl (f7 c1 rfl) (uI hs);simp only[qW]at c2;obtain hf:(ws.map fun m=>[m]).flatten=ws:=by
  clear hw c1 c2 hs hl
  induction ws with
  |nil=>rfl
  |cons x ws ih=>simp only[bc,List.flatten_cons,ih];rfl
 simp only[hf]at c2;exact(kE (x:=.str a) (y:=.str ws) rfl c2 (r8 (by lia)) (bg rfl)).trans rfl
theorem uQ{n c:Nat}{w a:List Nat}{s0 s1 s3:Sl}(hw:∀m∈w,m<=1114111)(k:w.length<4)(ha:a.length<=499000):
  exs Φ N [.ite (.cmp .Eq (.var 5) (.var 4)) [grJ] []] [s0,s1,.val (.str a),s3,iv c,iv n,.val (ln w)]=some (.nxt [s0,s1,.val (.str (a++if n=c then w else[])),s3,iv c,iv n,.val (ln w)]):=by
 obtain e:evb Φ (.cmp .Eq (.var 5) (.var 4)) [s0,s1,.val (.str a),s3,iv c,iv n,.val (ln w)]=some ((n:Int)==(c:Int)):=bC (aN rfl) (aN rfl) rfl;by_cases h:n=c
 ·subst h
  rw[fu]at e;rw[af rfl];obtain j:exs Φ N [grJ] [s0,s1,.val (.str a),s3,iv n,iv n,.val (ln w)]=some (.nxt [s0,s1,.val (.str (a++w)),s3,iv n,iv n,.val (ln w)]):=(ae (Be hw (bP (Nat.lt_trans k (by decide))) (ai ha (by decide)))).trans rfl;exact(ae (eL (s:=[grJ]) (t:=[]) rfl e j)).trans rfl
 ·obtain hb:((n:Int)==(c:Int))=false:=bK.mpr fun q=>h (Int.ofNat.inj q)
  rw[hb]at e;rw[ag h,bQ];exact(gR e rfl).trans rfl
theorem Bd(h7:Φ 7=t7V)(h8:Φ 8=t8V){n0 n1 c:Nat}{w0 w1 a:List Nat}{s0 s4 s5 s6:Sl}(g0:256<=n0)(g1:256<=n1)(gn:n0≠n1)(hc:c=n0\/c=n1\/c<256)(hw0:∀m∈w0,m<=1114111)(hw1:∀m∈w1,m<=1114111)(k0:w0.length<4)(k1:w1.length<4)(ha:a.length<=400000):
  Ex2 fun s5' s6'=>exs Φ N grB [s0,.val (rls n0 n1 w0 w1),.val (.str a),.val (.str [c]),s4,s5,s6]=some (.nxt [s0,.val (rls n0 n1 w0 w1),.val (.str (a++grC n0 n1 w0 w1 c)),.val (.str [c]),iv c,s5',s6']):=by
 obtain c8:Φ 8 [.int (c:Int)]=some (.bool (decide (256<=(c:Int)))):=by rw[h8];rfl
 obtain c7:Φ 7 [.int (c:Int)]=some (.bool (decide ((c:Int)<256))):=by rw[h7];rfl
 by_cases hb:256<=c
 ·obtain d8:decide (256<=(c:Int))=true:=dp (by lia)
  obtain d7:decide ((c:Int)<256)=false:=cY (by lia);rw[d8]at c8;rw[d7]at c7;obtain t1:∀ρ:Ro,ρ[4]?=some (iv c)->evb Φ (.and [(.cmp .Is (.call 8 [(.var 4)]) (.const (.bool true))),(.cmp .Is (.call 7 [(.var 4)]) (.const (.bool false)))]) ρ=some true:=fun ρ h=>(bd (bC (o:=true) (bZ (am (dA h) rfl) c8) rfl rfl)).trans ((bd (bC (o:=true) (bZ (am (dA h) rfl) c7) rfl rfl)).trans rfl);obtain t2:∀ρ:Ro,ρ[4]?=some (iv c)->evb Φ (.and [(.cmp .Is (.call 7 [(.var 4)]) (.const (.bool true))),(.cmp .Is (.call 8 [(.var 4)]) (.const (.bool false)))]) ρ=some false:=fun ρ h=>(bd (bC (o:=false) (bZ (am (dA h) rfl) c7) rfl rfl)).trans rfl;obtain r0:=uQ (Φ:=Φ) (N:=N) (n:=n0) (c:=c) (w:=w0) (a:=a) (s0:=s0) (s1:=.val (rls n0 n1 w0 w1)) (s3:=.val (.str [c])) hw0 k0 (by lia);obtain r1:=uQ (Φ:=Φ) (N:=N) (n:=n1) (c:=c) (w:=w1) (a:=a++if n0=c then w0 else[]) (s0:=s0) (s1:=.val (rls n0 n1 w0 w1)) (s3:=.val (.str [c])) hw1 k1 (by rw[aG];split<;>first | lia | (show a.length+0<=_;lia));have lp:fj (.many [5,6]) (fun ρ=>exs Φ N [.ite (.cmp .Eq (.var 5) (.var 4)) [grJ] []] ρ) [.tup [.int (n0:Int),ln w0],.tup [.int (n1:Int),ln w1]] [s0,.val (rls n0 n1 w0 w1),.val (.str a),.val (.str [c]),iv c,s5,s6]=some (.nxt [s0,.val (rls n0 n1 w0 w1),.val (.str ((a++if n0=c then w0 else[])++if n1=c then w1 else[])),.val (.str [c]),iv c,iv n1,.val (ln w1)]):=
   (ax rfl r0).trans ((ax rfl r1).trans rfl)
  obtain ea:(a++if n0=c then w0 else[])++(if n1=c then w1 else[])=a++grC n0 n1 w0 w1 c:=by
   unfold grC;rcases hc with rfl | rfl | h
   ·rw[af rfl,ag (Ne.symm gn),bQ,af rfl]
   ·rw[ag gn,af rfl,bQ,ag (Ne.symm gn),af rfl]
   ·lia
  rw[ea]at lp;obtain fo:exs Φ N [.forr (.many [5,6]) (.exp (.var 1)) [.ite (.cmp .Eq (.var 5) (.var 4)) [grJ] []]] [s0,.val (rls n0 n1 w0 w1),.val (.str a),.val (.str [c]),iv c,s5,s6]=some (.nxt [s0,.val (rls n0 n1 w0 w1),.val (.str (a++grC n0 n1 w0 w1 c)),.val (.str [c]),iv c,iv n1,.val (ln w1)]):=(ae ((dG rfl).trans lp)).trans rfl;refine⟨iv n1,.val (ln w1),(ae (ρ':=[s0,.val (rls n0 n1 w0 w1),.val (.str a),.val (.str [c]),iv c,s5,s6]) rfl).trans ((ae (eL (s:=[.forr (.many [5,6]) (.exp (.var 1)) [.ite (.cmp .Eq (.var 5) (.var 4)) [grJ] []]]) (t:=[]) rfl (t1 _ rfl) fo)).trans ((gR (t2 _ rfl) rfl).trans rfl))⟩
 ·obtain d8:decide (256<=(c:Int))=false:=cY (by lia)
  obtain d7:decide ((c:Int)<256)=true:=dp (by lia);rw[d8]at c8;rw[d7]at c7;obtain t1:∀ρ:Ro,ρ[4]?=some (iv c)->evb Φ (.and [(.cmp .Is (.call 8 [(.var 4)]) (.const (.bool true))),(.cmp .Is (.call 7 [(.var 4)]) (.const (.bool false)))]) ρ=some false:=fun ρ h=>(bd (bC (o:=false) (bZ (am (dA h) rfl) c8) rfl rfl)).trans rfl;obtain t2:∀ρ:Ro,ρ[4]?=some (iv c)->evb Φ (.and [(.cmp .Is (.call 7 [(.var 4)]) (.const (.bool true))),(.cmp .Is (.call 8 [(.var 4)]) (.const (.bool false)))]) ρ=some true:=fun ρ h=>(bd (bC (o:=true) (bZ (am (dA h) rfl) c7) rfl rfl)).trans ((bd (bC (o:=true) (bZ (am (dA h) rfl) c8) rfl rfl)).trans rfl);obtain ea:grC n0 n1 w0 w1 c=[c]:=by unfold grC;rw[ag (by lia),ag (by lia)]
  rw[ea];obtain au:exs Φ N [.aug 2 .Add (.var 3)] [s0,.val (rls n0 n1 w0 w1),.val (.str a),.val (.str [c]),iv c,s5,s6]=some (.nxt [s0,.val (rls n0 n1 w0 w1),.val (.str (a++[c])),.val (.str [c]),iv c,s5,s6]):=(ae ((kE (x:=.str a) (y:=.str [c]) rfl rfl (r8 (by show a.length+1<=1000000;lia)) (bg rfl)).trans rfl)).trans rfl;exact⟨s5,s6,(ae (ρ':=[s0,.val (rls n0 n1 w0 w1),.val (.str a),.val (.str [c]),iv c,s5,s6]) rfl).trans ((gR (t1 _ rfl) rfl).trans ((ae (eL (s:=[.aug 2 .Add (.var 3)]) (t:=[]) rfl (t2 _ rfl) au)).trans rfl))⟩
theorem yS{n0 n1:Nat}{w0 w1:List Nat}(k0:w0.length<4)(k1:w1.length<4)(c:Nat):(grC n0 n1 w0 w1 c).length<=3:=by
 unfold grC
 split
 ·lia
 ·split
  ·lia
  ·show 1<=3;decide
theorem uR(h7:Φ 7=t7V)(h8:Φ 8=t8V){n0 n1:Nat}{w0 w1:List Nat}{s0:Sl}(g0:256<=n0)(g1:256<=n1)(gn:n0≠n1)(hw0:∀m∈w0,m<=1114111)(hw1:∀m∈w1,m<=1114111)(k0:w0.length<4)(k1:w1.length<4):∀(t a:List Nat){s3 s4 s5 s6:Sl},(∀c∈t,c=n0\/c=n1\/c<256)->a.length+3*t.length<=400000 ->
  Ex4 fun s3' s4' s5' s6'=>fj (.one 3) (fun ρ=>exs Φ N grB ρ) (t.map fun c=>V.str [c]) [s0,.val (rls n0 n1 w0 w1),.val (.str a),s3,s4,s5,s6]=some (.nxt [s0,.val (rls n0 n1 w0 w1),.val (.str (a++t.flatMap (grC n0 n1 w0 w1))),s3',s4',s5',s6'])
 |[],a,s3,s4,s5,s6,_,_=>⟨s3,s4,s5,s6,by simp only[List.flatMap_nil,bQ];rfl⟩
 |c::t,a,s3,s4,s5,s6,hc,hl=>by
  simp only[List.length_cons]at hl;obtain⟨s5',s6',e⟩:=Bd (Φ:=Φ) (N:=N) (s0:=s0) (s4:=s4) (s5:=s5) (s6:=s6) (a:=a) h7 h8 g0 g1 gn (hc c (.head _)) hw0 hw1 k0 k1 (by lia);have:=yS (n0:=n0) (n1:=n1) k0 k1 c;obtain⟨u3,u4,u5,u6,ih⟩:=uR h7 h8 (s0:=s0) g0 g1 gn hw0 hw1 k0 k1 t (a++grC n0 n1 w0 w1 c) (s3:=.val (.str [c])) (s4:=iv c) (s5:=s5') (s6:=s6') (fun x hx=>hc x (.tail _ hx)) (by simp only[aG];lia);simp only[bX]at ih;exact⟨u3,u4,u5,u6,(ax rfl e).trans ih⟩
theorem Bj{i:Nat}{ρ:Ro}{t:List Nat}(h:ρ[i]?=some (.val (.str t)))(hl:t.length<=100000):eu Φ (.exp (.var i)) ρ=some (t.map fun c=>V.str [c]):=
 (bd (dA (Φ:=Φ) h)).trans (af (ai hl (by decide)))
theorem sY(h7:Φ 7=t7V)(h8:Φ 8=t8V){n0 n1:Nat}{w0 w1 t:List Nat}(g0:256<=n0)(g1:256<=n1)(gn:n0≠n1)(hw0:∀m∈w0,m<=1114111)(hw1:∀m∈w1,m<=1114111)(k0:w0.length<4)(k1:w1.length<4)(hc:∀c∈t,c=n0\/c=n1\/c<256)(hl:t.length<=100000):
  evV Φ N [some 0,some 1,none,none,none,none,none] 2 eU [.str t,rls n0 n1 w0 w1]=some (.str (t.flatMap (grC n0 n1 w0 w1))):=by
 obtain⟨s3,s4,s5,s6,e⟩:=uR (Φ:=Φ) (N:=N) (s0:=.val (.str t)) h7 h8 g0 g1 gn hw0 hw1 k0 k1 t [] (s3:=.unb) (s4:=.unb) (s5:=.unb) (s6:=.unb) hc (by show 0+3*t.length<=400000;lia);obtain hi:eu Φ (.exp (.var 0)) [.val (.str t),.val (rls n0 n1 w0 w1),.val (.str []),.unb,.unb,.unb,.unb]=some (t.map fun c=>V.str [c]):=Bj rfl hl;simp only[Bb];exact iw rfl ⟨_,(ae (ρ':=[.val (.str t),.val (rls n0 n1 w0 w1),.val (.str []),.unb,.unb,.unb,.unb]) rfl).trans ((ae ((dG hi).trans e)).trans rfl)⟩
end
end
section
noncomputable def mxF(f:Nat->Nat->Int):Mx:=(List.range 5).map fun i=>(List.range 6).map fun j=>f i j
noncomputable def ej(f:Nat->Nat->Int)(k i j:Nat):Int:=f i j*f k k-f i k*f k j
noncomputable def iY(k:Nat)(last:Int)(f:Nat->Nat->Int)(i j:Nat):Int:=if k=0 then ej f k i j else(ej f k i j).fdiv last
theorem ux(f:Nat->Nat->Int){i:Nat}(hi:i<5):(mxF f).getD i []=(List.range 6).map fun j=>f i j:=by
 unfold mxF;rw[nH,bA,List.getElem?_range hi];rfl
theorem da(f:Nat->Nat->Int){i j:Nat}(hi:i<5)(hj:j<6):bE (mxF f) i j=f i j:=by
 unfold bE;rw[ux f hi,nH,bA,List.getElem?_range hj];rfl
theorem ug(f:Nat->Nat->Int):Shp (mxF f):=⟨rfl,fun m hm=>by obtain⟨i,_,rfl⟩:=eH.mp hm;rfl⟩
theorem iN{α:Type}(f:Nat->α)(n i:Nat)(v:α):((List.range n).map f).set i v=(List.range n).map fun x=>if x=i then v else f x:=by
 refine List.ext_getElem? fun x=>?_;rw[List.getElem?_set,bA,bA,aC,List.length_range];by_cases hx:x<n
 ·rw[List.getElem?_range hx]
  by_cases e:i=x
  ·subst e
   rw[af rfl,af hx];exact aq some (af rfl).symm
  ·rw[ag e]
   exact aq some (ag fun q=>e q.symm).symm
 ·rw[List.getElem?_eq_none (by rw[List.length_range];lia)]
  by_cases e:i=x
  ·rw[af e,ag (by rw[e];exact hx)];rfl
  ·rw[ag e];rfl
theorem um(f:Nat->Nat->Int){i j:Nat}(hi:i<5)(v:Int):kh (mxF f) i j v=mxF fun x y=>if x=i/\y=j then v else f x y:=by
 unfold kh;rw[ux f hi,iN];unfold mxF;rw[iN];refine List.map_congr_left fun x U=>?_;by_cases e:x=i
 ·subst e
  rw[af rfl];refine List.map_congr_left fun y U=>?_;by_cases e:y=j
  ·rw[af e];exact(af ⟨rfl,e⟩).symm
  ·rw[ag e];exact(ag fun q=>e q.2).symm
 ·rw[ag e]
  exact List.map_congr_left fun y U=>(ag fun q=>e q.1).symm
theorem uD(f:Nat->Nat->Int){k i j:Nat}(hk:k<5)(hi:i<5)(hj:j<6):gD (mxF f) k i j=ej f k i j:=by
 unfold gD ej;rw[da f hi hj,da f hk (by lia),da f hi (by lia),da f hk hj]
theorem tW(f:Nat->Nat->Int){k i j:Nat}{last:Int}(hk:k<5)(hi:i<5)(hj:j<6):m9 k last (mxF f) i j=iY k last f i j:=by
 unfold m9 iY;rw[uD f hk hi hj]
structure vC(Φ:Fun)(k:Nat)(last:Int)(f:Nat->Nat->Int)(i j:Nat):Prop where
 b1:ibits (f i j)+ibits (f k k)<=134217728
 b2:ibits (f i k)+ibits (f k j)<=134217728
 dv:0<k->Φ 5 [.int (ej f k i j),.int last]=some (.tup [.int ((ej f k i j).fdiv last),.int 0])/\hG .FloorDiv (ej f k i j) last=some ((ej f k i j).fdiv last)
section
variable{Φ:Fun}{k:Nat}{last:Int}{i:Nat}
noncomputable def upJ(k:Nat)(last:Int)(i:Nat)(js:List Nat)(f:Nat->Nat->Int)(x y:Nat):Int:=if x=i/\y∈js then iY k last f x y else f x y
theorem wQ{f:Nat->Nat->Int}{j:Nat}{js:List Nat}(hik:k<i)(hj:k<j)(hn:j∉js)(hjs:∀y∈js,k<y):
  upJ k last i js (fun x y=>if x=i/\y=j then iY k last f i j else f x y)=upJ k last i (j::js) f:=by
 funext x y
 unfold upJ;by_cases e:x=i
 ·subst e
  by_cases hy:y∈js
  ·obtain yj:y≠j:=fun q=>hn (q▸hy)
   rw[af ⟨rfl,hy⟩,af ⟨rfl,.tail _ hy⟩];obtain e1:(fun a b=>if a=x/\b=j then iY k last f x j else f a b) x y=f x y:=ag fun q=>yj q.2;obtain e2:∀z,(fun a b=>if a=x/\b=j then iY k last f x j else f a b) k z=f k z:=fun z=>ag fun q=>absurd q.1 (by lia);obtain e3:(fun a b=>if a=x/\b=j then iY k last f x j else f a b) x k=f x k:=ag fun q=>absurd q.2 (by lia);obtain e4:ej (fun a b=>if a=x/\b=j then iY k last f x j else f a b) k x y=ej f k x y:=by unfold ej;rw[e1,e2,e2,e3]
   unfold iY at e4 ⊢;rw[e4]
  ·rw[ag fun q=>hy q.2]
   by_cases yj:y=j
   ·subst yj
    rw[af (⟨rfl,.head _⟩:x=x/\y∈y::js)];exact af ⟨rfl,rfl⟩
   ·refine(ag fun q=>yj q.2).trans (ag ?_).symm
    rintro⟨_,q⟩
    cases q with
    |head=>exact yj rfl
    |tail _ q=>exact hy q
 ·rw[ag fun q=>e q.1]
  exact(ag fun q=>e q.1).trans (ag fun q=>e q.1).symm
theorem lS(hk:k<5)(hi:i<5)(hik:k<i):∀(js:List Nat) (f:Nat->Nat->Int),(∀y∈js,k<y/\y<6)->js.Nodup->iR k last i (mxF f) js=mxF (upJ k last i js f):=by
 intro js
 induction js with
 |nil=>
  intro f _ _;exact aq mxF (by funext x y;exact(ag fun q=>absurd q.2 cM).symm)
 |cons j js lS=>
  intro f hj nd;obtain hj1:=hj j (.head _);show iR k last i (kh (mxF f) i j (m9 k last (mxF f) i j)) js=_;rw[tW f hk hi hj1.2,um f hi,lS _ (fun y hy=>hj y (.tail _ hy)) (fy.mp nd).2,wQ hik hj1.1 (fy.mp nd).1 fun y hy=>(hj y (.tail _ hy)).1]
theorem xX(hk:k<5)(hi:i<5)(hik:k<i):∀(js:List Nat) (f:Nat->Nat->Int),(∀y∈js,k<y/\y<6)->js.Nodup->(∀y∈js,vC Φ k last f i y)->OkJ Φ k last i (mxF f) js:=by
 intro js
 induction js with
 |nil=>
  intro f _ _ _;exact trivial
 |cons j js xX=>
  intro f hj nd st;obtain hj1:=hj j (.head _);obtain s:=st j (.head _);refine⟨⟨?_,?_,?_⟩,?_⟩
  ·rw[da f hi hj1.2,da f hk (by lia)];exact s.b1
  ·rw[da f hi (by lia),da f hk hj1.2];exact s.b2
  ·rw[uD f hk hi hj1.2];exact s.dv
  ·rw[tW f hk hi hj1.2,um f hi]
   refine xX _ (fun y hy=>hj y (.tail _ hy)) (fy.mp nd).2 fun y hy=>?_;have yj:y≠j:=fun q=>(fy.mp nd).1 (q▸hy);obtain s:=st y (.tail _ hy);have e1:∀v,(fun x y=>if x=i/\y=j then v else f x y) i y=f i y:=fun v=>ag fun q=>yj q.2;have e2:∀v z,(fun x y=>if x=i/\y=j then v else f x y) k z=f k z:=fun v z=>ag fun q=>absurd q.1 (by lia);have e3:∀v,(fun x y=>if x=i/\y=j then v else f x y) i k=f i k:=fun v=>ag fun q=>absurd q.2 (by lia);have e4:∀v,ej (fun x y=>if x=i/\y=j then v else f x y) k i y=ej f k i y:=fun v=>by unfold ej;rw[e1,e2,e2,e3]
   exact⟨(congr (aq (fun a b=>ibits a+ibits b<=134217728) (e1 _)) (e2 _ _)).mpr s.b1,(congr (aq (fun a b=>ibits a+ibits b<=134217728) (e3 _)) (e2 _ _)).mpr s.b2,by rw[e4];exact s.dv⟩
noncomputable def upI(k:Nat)(last:Int)(is js:List Nat)(f:Nat->Nat->Int)(x y:Nat):Int:=if x∈is/\y∈js then iY k last f x y else f x y
theorem wR{f:Nat->Nat->Int}{is js:List Nat}(hik:k<i)(hn:i∉is)(his:∀y∈is,k<y)(hk:k∉js):upI k last is js (upJ k last i js f)=upI k last (i::is) js f:=by
 funext x y
 have hv:x≠i->iY k last (upJ k last i js f) x y=iY k last f x y:=fun h=>by
  have e:∀z,upJ k last i js f x z=f x z:=fun z=>ag fun q=>h q.1;have e2:∀z,upJ k last i js f k z=f k z:=fun z=>ag fun q=>absurd q.1 (by lia);unfold iY ej;rw[e,e2,e2,e]
 unfold upI;by_cases hy:y∈js
 ·by_cases hx:x∈is
  ·rw[af ⟨hx,hy⟩,af ⟨.tail _ hx,hy⟩,hv fun q=>hn (q▸hx)]
  ·rw[ag fun q=>hx q.1]
   by_cases e:x=i
   ·subst e
    rw[af ⟨.head _,hy⟩];exact af ⟨rfl,hy⟩
   ·rw[ag]
    ·exact ag fun q=>e q.1
    ·rintro⟨q,_⟩
     cases q with
     |head=>exact e rfl
     |tail _ q=>exact hx q
 ·rw[ag fun q=>hy q.2,ag fun q=>hy q.2]
  exact ag fun q=>hy q.2
theorem AA{k:Nat}(hk:k<4):∀y∈List.range' (k+1) (5-k),k<y/\y<6:=fun y hy=>⟨(List.mem_range'_1.mp hy).1,(show k+1+(5-k)=6 by lia)▸(List.mem_range'_1.mp hy).2⟩
theorem sE{k:Nat}(hk:k<4):∀y∈List.range' (k+1) (4-k),k<y/\y<5:=fun y hy=>⟨(List.mem_range'_1.mp hy).1,(show k+1+(4-k)=5 by lia)▸(List.mem_range'_1.mp hy).2⟩
theorem kr(a n:Nat):(List.range' a n).Nodup:=List.nodup_range'
theorem lU(hk:k<4):∀(is:List Nat) (f:Nat->Nat->Int),(∀y∈is,k<y/\y<5)->is.Nodup->fB k last (mxF f) is=mxF (upI k last is (List.range' (k+1) (5-k)) f):=by
 intro is
 induction is with
 |nil=>
  intro f _ _;exact aq mxF (by funext x y;exact(ag fun q=>absurd q.1 cM).symm)
 |cons i is lU=>
  intro f hi nd;obtain hi1:=hi i (.head _);obtain hr:=AA hk;show fB k last (iR k last i (mxF f) (List.range' (k+1) (5-k))) is=_;rw[lS (by lia) hi1.2 hi1.1 _ f hr (kr _ _),lU _ (fun y hy=>hi y (.tail _ hy)) (fy.mp nd).2,
   wR hi1.1 (fy.mp nd).1 (fun y hy=>(hi y (.tail _ hy)).1) fun q=>absurd (hr k q).1 (Nat.lt_irrefl k)]
theorem xY(hk:k<4):∀(is:List Nat) (f:Nat->Nat->Int),(∀y∈is,k<y/\y<5)->is.Nodup->(∀x∈is,∀y,k<y->y<6->vC Φ k last f x y)->OkI Φ k last (mxF f) is:=by
 intro is
 induction is with
 |nil=>
  intro f _ _ _;exact trivial
 |cons i is xY=>
  intro f hi nd st;obtain hi1:=hi i (.head _);obtain hr:=AA hk;refine⟨xX (by lia) hi1.2 hi1.1 _ f hr (kr _ _) fun y hy=>st i (.head _) y (hr y hy).1 (hr y hy).2,?_⟩;rw[lS (by lia) hi1.2 hi1.1 _ f hr (kr _ _)];refine xY _ (fun y hy=>hi y (.tail _ hy)) (fy.mp nd).2 fun x hx y h1 h2=>?_;obtain xi:x≠i:=fun q=>(fy.mp nd).1 (q▸hx);obtain s:=st x (.tail _ hx) y h1 h2;obtain e:∀z,upJ k last i (List.range' (k+1) (5-k)) f x z=f x z:=fun z=>ag fun q=>xi q.1;obtain e2:∀z,upJ k last i (List.range' (k+1) (5-k)) f k z=f k z:=fun z=>ag fun q=>absurd q.1 (by lia);obtain e4:ej (upJ k last i (List.range' (k+1) (5-k)) f) k x y=ej f k x y:=by unfold ej;rw[e,e2,e2,e]
  exact⟨by rw[e,e2];exact s.b1,by rw[e,e2];exact s.b2,by rw[e4];exact s.dv⟩
end
noncomputable def stg(k:Nat)(last:Int)(f:Nat->Nat->Int)(x y:Nat):Int:=if k<x/\x<5/\k<y/\y<6 then iY k last f x y else f x y
theorem xg{k:Nat}(hk:k<4)(last:Int)(f:Nat->Nat->Int):upI k last (List.range' (k+1) (4-k)) (List.range' (k+1) (5-k)) f=stg k last f:=by
 funext x y
 unfold upI stg;by_cases h:k<x/\x<5/\k<y/\y<6
 ·rw[af h,af ⟨List.mem_range'_1.mpr ⟨h.1,(show 5=k+1+(4-k) by lia)▸h.2.1⟩,List.mem_range'_1.mpr ⟨h.2.2.1,(show 6=k+1+(5-k) by lia)▸h.2.2.2⟩⟩]
 ·rw[ag h,ag fun q=>h ⟨(sE hk x q.1).1,(sE hk x q.1).2,(AA hk y q.2).1,(AA hk y q.2).2⟩]
noncomputable def xf:Int->(Nat->Nat->Int)->List Nat->Nat->Nat->Int
 |_,f,[]=>f
 |last,f,k::ks=>xf (stg k last f k k) (stg k last f) ks
noncomputable def okS(Φ:Fun):Int->(Nat->Nat->Int)->List Nat->Prop
 |_,_,[]=>True
 |last,f,k::ks=>(∀x y,k<x->x<5->k<y->y<6->vC Φ k last f x y)/\okS Φ (stg k last f k k) (stg k last f) ks
theorem q9:∀(ks:List Nat) (last:Int) (f:Nat->Nat->Int),(∀k∈ks,k<4)->n9 last (mxF f) ks=mxF (xf last f ks):=by
 intro ks
 induction ks with
 |nil=>
  intro _ _ _;exact rfl
 |cons k ks q9=>
  intro last f h;obtain hk:=h k (.head _);show n9 (bE (fB k last (mxF f) _) k k) (fB k last (mxF f) _) ks=_;rw[lU hk _ f (sE hk) (kr _ _),xg hk,da _ (by lia) (by lia),q9 _ _ fun x hx=>h x (.tail _ hx)];rfl
theorem xW{Φ:Fun}:∀(ks:List Nat) (last:Int) (f:Nat->Nat->Int),(∀k∈ks,k<4)->okS Φ last f ks->OkK Φ last (mxF f) ks:=by
 intro ks
 induction ks with
 |nil=>
  intro _ _ _ _;exact trivial
 |cons k ks xW=>
  intro last f h o;obtain hk:=h k (.head _);refine⟨xY hk _ f (sE hk) (kr _ _) fun x hx y h1 h2=>o.1 x y (sE hk x hx).1 (sE hk x hx).2 h1 h2,?_⟩;rw[lU hk _ f (sE hk) (kr _ _),xg hk,da _ (by lia) (by lia)];exact xW _ _ (fun x hx=>h x (.tail _ hx)) o.2
theorem Bo{Φ:Fun}{f:Nat->Nat->Int}(nd:(mxF f).Nodup)(o:okS Φ 1 f [0,1,2,3]):oP Φ (liM (mxF f))=some (.lst [.int (xf 1 f [0,1,2,3] 4 4),.int (xf 1 f [0,1,2,3] 4 5)]):=by
 rw[zi nd (ug f) (xW _ _ _ (by decide) o)];unfold dg;rw[q9 _ _ _ (by decide),da _ (by decide) (by decide),da _ (by decide) (by decide)]
end
section
section
variable(a:Nat->Nat->Int)
noncomputable def dt2(c d:Nat):Int:=a 0 c*a 1 d-a 0 d*a 1 c
noncomputable def dt3(i c d e:Nat):Int:=a i c*dt2 a d e-a i d*dt2 a c e+a i e*dt2 a c d
noncomputable def dt4(i c d e f:Nat):Int:=a i f*dt3 a 2 c d e-a i e*dt3 a 2 c d f+a i d*dt3 a 2 c e f-a i c*dt3 a 2 d e f
noncomputable def dt5(j:Nat):Int:=a 4 j*dt4 a 3 0 1 2 3-a 4 3*dt4 a 3 0 1 2 j+a 4 2*dt4 a 3 0 1 3 j-a 4 1*dt4 a 3 0 2 3 j+a 4 0*dt4 a 3 1 2 3 j
theorem Bu(i j:Nat):(a i j*a 0 0-a i 0*a 0 j)*(a 1 1*a 0 0-a 1 0*a 0 1)-(a i 1*a 0 0-a i 0*a 0 1)*(a 1 j*a 0 0-a 1 0*a 0 j)=a 0 0*dt3 a i 0 1 j:=by simp only[dt3,dt2];grind
theorem FS(i j:Nat):dt3 a i 0 1 j*dt3 a 2 0 1 2-dt3 a i 0 1 2*dt3 a 2 0 1 j=dt2 a 0 1*dt4 a i 0 1 2 j:=by simp only[dt4,dt3,dt2];grind
set_option maxHeartbeats 0 in
theorem GD(j:Nat):dt4 a 4 0 1 2 j*dt4 a 3 0 1 2 3-dt4 a 4 0 1 2 3*dt4 a 3 0 1 2 j=dt3 a 2 0 1 2*dt5 a j:=by simp only[dt5,dt4,dt3,dt2];grind
end
theorem rf{x:Int}{n:Nat}(h:x.natAbs<2^n):ibits x<=n:=by
 unfold ibits Builtin.Int.intBits
 split
 ·exact cO _
 ·rename_i h0
  have:x.natAbs≠0:=fun q=>h0 (by rw[Int.natAbs_eq_zero.mp q];rfl);exact(Nat.log2_lt this).mpr h
noncomputable def bdF(B:Nat)(g:Nat->Nat->Int):Prop:=∀x y,x<5->y<6->(g x y).natAbs<=2^B
theorem oH{x:Int}{B:Nat}(h:x.natAbs<=2^B):ibits x<=B+1:=rf (iV h (Nat.pow_lt_pow_right (by decide) (dr B)))
theorem nQ{x y:Int}{B:Nat}(hx:x.natAbs<=2^B)(hy:y.natAbs<=2^B):(x*y).natAbs<=2^(2*B):=by
 rw[Int.natAbs_mul,Nat.two_mul,Nat.pow_add];exact Nat.mul_le_mul hx hy
theorem y6{g:Nat->Nat->Int}{B k x y:Nat}(hb:bdF B g)(hk:k<5)(hx:x<5)(hy:y<6):(ej g k x y).natAbs<=2^(2*B+1):=by
 obtain h1:=nQ (hb x y hx hy) (hb k k hk (by lia));obtain h2:=nQ (hb x k hx (by lia)) (hb k y hk hy);rw[Nat.pow_succ,Nat.mul_two];exact ai (Int.natAbs_sub_le _ _) (Nat.add_le_add h1 h2)
theorem tO{p v:Int}(hp:p≠0):v.natAbs<=(p*v).natAbs:=by
 rw[Int.natAbs_mul];exact Nat.le_mul_of_pos_left _ (Nat.pos_of_ne_zero fun q=>hp (Int.natAbs_eq_zero.mp q))
theorem ub{Φ:Fun}{k B:Nat}{last:Int}{g:Nat->Nat->Int}(v:Nat->Nat->Int)(h5:Φ 5=jG 2)(hk:k<4)(hb:bdF B g)(hB:2*B+2<=800000)(hl:last≠0)(hL:last.natAbs<2^9000)(h0:k=0->last=1)(e:∀x y,k<x->x<5->k<y->y<6->ej g k x y=last*v x y):
  (∀x y,k<x->x<5->k<y->y<6->vC Φ k last g x y)/\(∀x y,k<x->x<5->k<y->y<6->stg k last g x y=v x y)/\(∀x y,x<=k\/y<=k->stg k last g x y=g x y)/\bdF (2*B+1) (stg k last g):=by
 have hd:∀x y,k<x->x<5->k<y->y<6->(ej g k x y).fdiv last=v x y:=fun x y h1 h2 h3 h4=>by rw[e x y h1 h2 h3 h4];exact Int.mul_fdiv_cancel_left _ hl
 have hv:∀x y,k<x->x<5->k<y->y<6->stg k last g x y=v x y:=fun x y h1 h2 h3 h4=>by
  unfold stg;rw[af ⟨h1,h2,h3,h4⟩];unfold iY;by_cases hz:k=0
  ·rw[af hz,e x y h1 h2 h3 h4,h0 hz,bU]
  ·rw[ag hz];exact hd x y h1 h2 h3 h4
 refine⟨fun x y h1 h2 h3 h4=>⟨?_,?_,fun hp=>⟨?_,?_⟩⟩,hv,fun x y h=>ag fun q=>by lia,fun x y hx hy=>?_⟩
 ·have:=oH (hb x y h2 h4);have:=oH (hb k k (by lia) (by lia));lia
 ·have:=oH (hb x k h2 (by lia));have:=oH (hb k y (by lia) h4);lia
 ·obtain i1:=oH (y6 hb (k:=k) (by lia) h2 h4)
  rw[h5,mW ⟨hl,by lia,ai (rf hL) (by decide),.inl (bS _),.inl (by decide)⟩,e x y h1 h2 h3 h4,Int.mul_fmod_right]
 ·refine ag ?_
  rintro(q | q)
  ·exact hl q
  ·by_cases hz:last.natAbs=0
   ·exact hl (Int.natAbs_eq_zero.mp hz)
   ·rw[PyProof.noPylong_of_log2 ((Nat.log2_lt hz).mpr hL)]at q
    cases q
 ·by_cases h:k<x/\k<y
  ·rw[hv x y h.1 hx h.2 hy]
   refine ai (tO hl) ?_;rw[<-e x y h.1 hx h.2 hy];exact y6 hb (by lia) hx hy
  ·have:stg k last g x y=g x y:=ag fun q=>h ⟨q.1,q.2.2.1⟩
   rw[this];exact ai (hb x y hx hy) (i0 (by decide) (by lia))
theorem zh{Φ:Fun}{B:Nat}{a:Nat->Nat->Int}(h5:Φ 5=jG 2)(hb:bdF B a)(hB:B<=40000)(n1:a 0 0≠0)(n2:dt2 a 0 1≠0)(n3:dt3 a 2 0 1 2≠0)(l1:(a 0 0).natAbs<2^9000)(l2:(dt2 a 0 1).natAbs<2^9000)(l3:(dt3 a 2 0 1 2).natAbs<2^9000)(nd:(mxF a).Nodup):
  oP Φ (liM (mxF a))=some (.lst [.int (dt5 a 4),.int (dt5 a 5)]):=by
 obtain s0:=ub (Φ:=Φ) (k:=0) (last:=1) (g:=a) (fun x y=>ej a 0 x y) h5 (by decide) hb (by lia) (by decide) (by decide +kernel) (fun U=>rfl) fun x y U U U U=>(bU _).symm;obtain⟨o0,v0,u0,b0⟩:=s0;generalize eg1:stg 0 1 a=g1 at *;obtain e1:g1 1 1=dt2 a 0 1:=by rw[v0 1 1 (by decide) (by decide) (by decide) (by decide)];unfold ej dt2;grind
 have e00:g1 0 0=a 0 0:=u0 0 0 (.inl (by decide));obtain s1:=ub (Φ:=Φ) (k:=1) (last:=a 0 0) (g:=g1) (fun x y=>dt3 a x 0 1 y) h5 (by decide) b0 (by lia) n1 l1 (fun q=>by cases q) fun x y h1 h2 h3 h4=>by
  unfold ej;rw[v0 x y (by lia) h2 (by lia) h4,v0 1 1 (by lia) (by lia) (by lia) (by lia),v0 x 1 (by lia) (by lia) (by lia) (by lia),v0 1 y (by lia) (by lia) (by lia) (by lia)];exact Bu a x y
 obtain⟨o1,v1,u1,b1⟩:=s1;generalize eg2:stg 1 (a 0 0) g1=g2 at *;have e11:g2 1 1=dt2 a 0 1:=(u1 1 1 (.inl (by decide))).trans e1;obtain e2:g2 2 2=dt3 a 2 0 1 2:=v1 2 2 (by decide) (by decide) (by decide) (by decide);obtain s2:=ub (Φ:=Φ) (k:=2) (last:=dt2 a 0 1) (g:=g2) (fun x y=>dt4 a x 0 1 2 y) h5 (by decide) b1 (by lia) n2 l2 (fun q=>by cases q) fun x y h1 h2 h3 h4=>by
  unfold ej;rw[v1 x y (by lia) h2 (by lia) h4,v1 2 2 (by lia) (by lia) (by lia) (by lia),v1 x 2 (by lia) (by lia) (by lia) (by lia),v1 2 y (by lia) (by lia) (by lia) (by lia)];exact FS a x y
 obtain⟨o2,v2,u2,b2⟩:=s2;generalize eg3:stg 2 (dt2 a 0 1) g2=g3 at *;obtain e22:g3 2 2=dt3 a 2 0 1 2:=(u2 2 2 (.inl (by decide))).trans e2;obtain s3:=ub (Φ:=Φ) (k:=3) (last:=dt3 a 2 0 1 2) (g:=g3) (fun x y=>dt5 a y) h5 (by decide) b2 (by lia) n3 l3 (fun q=>by cases q) fun x y h1 h2 h3 h4=>by
  obtain rfl:x=4:=by lia
  unfold ej;rw[v2 4 y (by lia) h2 (by lia) h4,v2 3 3 (by lia) (by lia) (by lia) (by lia),v2 4 3 (by lia) (by lia) (by lia) (by lia),v2 3 y (by lia) (by lia) (by lia) (by lia)];exact GD a y
 obtain⟨o3,v3,u3,b3⟩:=s3;obtain hs:∀y,3<y->y<6->xf 1 a [0,1,2,3] 4 y=dt5 a y:=fun y h1 h2=>by
  show stg 3 (stg 2 _ (stg 1 _ (stg 0 1 a)) 2 2) (stg 2 (stg 1 _ (stg 0 1 a) 1 1) (stg 1 (stg 0 1 a 0 0) (stg 0 1 a))) 4 y=_;rw[eg1,e00,eg2,e11,eg3,e22];exact v3 4 y (by decide) (by decide) h1 h2
 rw[Bo nd,hs 4 (by decide) (by decide),hs 5 (by decide) (by decide)];refine⟨o0,?_,?_,?_,trivial⟩
 ·rw[eg1,e00];exact o1
 ·rw[eg1,e00,eg2,e11];exact o2
 ·rw[eg1,e00,eg2,e11,eg3,e22];exact o3
end
section
section
variable(e:Nat->Nat->Int)(σ:Nat->Int)
noncomputable def flp(i j:Nat):Int:=σ i*e i j
theorem E3(c d:Nat):dt2 (flp e σ) c d=σ 0*σ 1*dt2 e c d:=by simp only[dt2,flp];grind
theorem DZ(i c d f:Nat):dt3 (flp e σ) i c d f=σ 0*σ 1*σ i*dt3 e i c d f:=by
 simp only[dt3,E3];simp only[flp];grind
theorem GC(i c d f g:Nat):dt4 (flp e σ) i c d f g=σ 0*σ 1*σ 2*σ i*dt4 e i c d f g:=by
 simp only[dt4,DZ];simp only[flp];grind
theorem FB(j:Nat):dt5 (flp e σ) j=σ 0*σ 1*σ 2*σ 3*σ 4*dt5 e j:=by
 simp only[dt5,GC];simp only[flp];grind
end
section
variable(e:Nat->Nat->Int)
noncomputable def mn3(r s t c d f:Nat):Int:=e t c*(e r d*e s f-e r f*e s d)-e t d*(e r c*e s f-e r f*e s c)+e t f*(e r c*e s d-e r d*e s c)
noncomputable def yv:Nat->Int
 |0=>mn3 e 1 2 3 1 2 3-mn3 e 1 2 3 0 1 2
 |1=>mn3 e 0 2 3 0 1 2-mn3 e 0 2 3 1 2 3
 |2=>mn3 e 0 1 3 1 2 3-mn3 e 0 1 3 0 1 2
 |_=>mn3 e 0 1 2 0 1 2-mn3 e 0 1 2 1 2 3
theorem Gg:yv e 0*e 0 0+yv e 1*e 1 0+yv e 2*e 2 0+yv e 3*e 3 0=dt4 e 3 0 1 2 3:=by simp only[yv,mn3,dt4,dt3,dt2];grind
theorem Gf:yv e 0*e 0 1+yv e 1*e 1 1+yv e 2*e 2 1+yv e 3*e 3 1=0:=by simp only[yv,mn3];grind
theorem Ge:yv e 0*e 0 2+yv e 1*e 1 2+yv e 2*e 2 2+yv e 3*e 3 2=0:=by simp only[yv,mn3];grind
theorem Gd:yv e 0*e 0 3+yv e 1*e 1 3+yv e 2*e 2 3+yv e 3*e 3 3=dt4 e 3 0 1 2 3:=by simp only[yv,mn3,dt4,dt3,dt2];grind
theorem Gb(h0:e 4 0=-1)(h1:e 4 1=0)(h2:e 4 2=0)(h3:e 4 3=-1):dt5 e 5=e 4 5*dt4 e 3 0 1 2 3+(yv e 0*e 0 5+yv e 1*e 1 5+yv e 2*e 2 5+yv e 3*e 3 5):=by
 simp only[dt5,h0,h1,h2,h3];simp only[yv,mn3,dt4,dt3,dt2];grind
theorem Gc(h0:e 4 0=-1)(h1:e 4 1=0)(h2:e 4 2=0)(h3:e 4 3=-1)(h4:e 4 4=1)(z0:e 0 4=0)(z1:e 1 4=0)(z2:e 2 4=0)(z3:e 3 4=0):dt5 e 4=dt4 e 3 0 1 2 3:=by
 simp only[dt5,h0,h1,h2,h3,h4];simp only[dt4,dt3,dt2,z0,z1,z2,z3];grind
end
structure Sys(X:Int)(n:Nat->Nat->Int)(S D:Nat->Int)(L:Nat->Nat->Int):Prop where
 X:65536<=X
 n0:∀s r,0<=n s r
 nr:∀s,n s 0+n s 1+n s 2+n s 3<=2
 S0:∀s,0<=S s
 S1:∀s,S s<=6
 D0:∀s,0<=D s
 D1:∀s,D s<=3
 L0:∀s,L s 0=1
 Ls:∀s (k:Nat),L s (k+1)=n s 0*L 0 k+n s 1*L 1 k+n s 2*L 2 k+n s 3*L 3 k+S s+k*D s
section
variable{X:Int}{n:Nat->Nat->Int}{S D:Nat->Int}{L:Nat->Nat->Int}
theorem uT{a b c d x y z w M:Int}(ha:0<=a)(hb:0<=b)(hc:0<=c)(hd:0<=d)(hs:a+b+c+d<=2)(hM:0<=M)(hx:x<=M)(hy:y<=M)(hz:z<=M)(hw:w<=M):a*x+b*y+c*z+d*w<=2*M:=by
 obtain h1:=cC hx ha;obtain h2:=cC hy hb;obtain h3:=cC hz hc;obtain h4:=cC hw hd;obtain h5:=eD hs hM;obtain h6:(a+b+c+d)*M=a*M+b*M+c*M+d*M:=by grind
 lia
theorem uU{a b c d x y z w:Int}(ha:0<=a)(hb:0<=b)(hc:0<=c)(hd:0<=d)(hx:0<=x)(hy:0<=y)(hz:0<=z)(hw:0<=w):0<=a*x+b*y+c*z+d*w:=by
 have h1:=bJ ha hx;have h2:=bJ hb hy;have h3:=bJ hc hz;have h4:=bJ hd hw;lia
theorem Sys.step(h:Sys X n S D L){k:Nat}{M M':Int}(hM:∀s,0<=L s k/\L s k<=M)(e:2*M+6+3*(k:Int)=M'):∀s,0<=L s (k+1)/\L s (k+1)<=M':=fun s=>by
 obtain h1:=uT (h.n0 s 0) (h.n0 s 1) (h.n0 s 2) (h.n0 s 3) (h.nr s) (aY (hM 0).1 (hM 0).2) (hM 0).2 (hM 1).2 (hM 2).2 (hM 3).2;obtain h2:=uU (h.n0 s 0) (h.n0 s 1) (h.n0 s 2) (h.n0 s 3) (hM 0).1 (hM 1).1 (hM 2).1 (hM 3).1;obtain h3:=cC (h.D1 s) (cF k);obtain h4:=bJ (cF k) (h.D0 s);obtain h5:=h.S0 s;obtain h6:=h.S1 s;rw[h.Ls s k];lia
theorem Sys.L4(h:Sys X n S D L):∀s,0<=L s 4/\L s 4<=139:=
 h.step (M:=62) (h.step (M:=25) (h.step (M:=8) (h.step (M:=1) (fun s=>by rw[h.L0 s];decide) rfl) rfl) rfl) rfl
theorem Sys.Lk(h:Sys X n S D L):∀s k,k<=4->0<=L s k/\L s k<=139:=fun s k hk=>by
 obtain h0:∀s,0<=L s 0/\L s 0<=1:=fun s=>by rw[h.L0 s];decide
 obtain h1:=h.step (M':=8) h0 rfl;obtain h2:=h.step (M':=25) h1 rfl;obtain h3:=h.step (M':=62) h2 rfl;refine lt5 (Nat.lt_succ_of_le hk) ?_ ?_ ?_ ?_ ?_
 ·exact⟨(h0 s).1,aY (h0 s).2 (by decide)⟩
 ·exact⟨(h1 s).1,aY (h1 s).2 (by decide)⟩
 ·exact⟨(h2 s).1,aY (h2 s).2 (by decide)⟩
 ·exact⟨(h3 s).1,aY (h3 s).2 (by decide)⟩
 ·exact h.L4 s
noncomputable def bV(X:Int)(S D:Nat->Int)(s:Nat):Int:=X*(X-1)^2+X*D s+S s*X*(X-1)
noncomputable def cV(X:Int):Int:=3*X*(X-1)+X
noncomputable def eM(X:Int)(n:Nat->Nat->Int)(S D:Nat->Int)(i j:Nat):Int:=
 if i=4 then(if j=0 then -1 else if j=1 then 0 else if j=2 then 0 else if j=3 then -1 else if j=4 then 1 else cV X)
 else if j=5 then bV X S D i else if j=4 then 0 else if i=j then X-n i j else-n i j
noncomputable def pV(X:Int)(L:Nat->Nat->Int)(s:Nat):Int:=L s 0*X^4+L s 1*X^3+L s 2*X^2+L s 3*X+L s 4
noncomputable def mV(n:Nat->Nat->Int)(L:Nat->Nat->Int)(s:Nat):Int:=n s 0*L 0 4+n s 1*L 1 4+n s 2*L 2 4+n s 3*L 3 4
noncomputable def epV(X:Int)(n:Nat->Nat->Int)(S D:Nat->Int)(L:Nat->Nat->Int)(s:Nat):Int:=S s*(X*(X-1))+D s*(4*X^2-3*X)+(X-1)^2*mV n L s
theorem Sys.eps(h:Sys X n S D L)(s:Nat):X^4*bV X S D s=(X-1)^2*(X*pV X L s-(n s 0*pV X L 0+n s 1*pV X L 1+n s 2*pV X L 2+n s 3*pV X L 3))+epV X n S D L s:=by
 obtain h1:=h.Ls s 0;obtain h2:=h.Ls s 1;obtain h3:=h.Ls s 2;obtain h4:=h.Ls s 3;obtain h0:=h.L0;simp only[pV,epV,bV,mV];simp only[Nat.reduceAdd,h0 0,h0 1,h0 2,h0 3,h0 s]at h1 h2 h3 h4 ⊢;generalize L s 1=a1 at *;generalize L s 2=a2 at *;generalize L s 3=a3 at *;generalize L s 4=a4 at *;grind
theorem o4{p v:Int}(hp:0<p)(h:p*v<=0):v<=0:=Int.not_lt.mp fun q=>absurd (Int.mul_pos hp q) (Int.not_lt.mpr h)
theorem mG{p v:Int}(hp:0<p)(h:0<p*v):0<v:=Int.not_le.mp fun q=>absurd (Int.mul_nonpos_of_nonneg_of_nonpos (ay hp) q) (Int.not_le.mpr h)
theorem xZ{x k y z:Int}(hx:x<=0)(hk:0<k)(hy:y<=0)(hz:z<=0):x*k-y*z<=0:=by
 obtain h1:=Int.mul_nonpos_of_nonpos_of_nonneg hx (ay hk);obtain h2:=Int.mul_nonneg_of_nonpos_of_nonpos hy hz;lia
theorem so{R k y Q:Int}(hR:0<R)(hk:0<k)(hy:y<=0)(hQ:0<Q):0<k*R-y*Q:=by
 obtain h1:=Int.mul_pos hk hR;obtain h2:=Int.mul_nonpos_of_nonpos_of_nonneg hy (ay hQ);lia
theorem AF{e:Nat->Nat->Int}(off:∀i j,i<4->j<4->i≠j->e i j<=0)(sm:∀i,i<4->0<e i 0+e i 1+e i 2+e i 3):0<e 0 0/\0<dt2 e 0 1/\0<dt3 e 2 0 1 2/\0<dt4 e 3 0 1 2 3:=by
 have p0:0<e 0 0:=by have:=sm 0 (by decide);have:=off 0 1 (by decide) (by decide) (by decide);have:=off 0 2 (by decide) (by decide) (by decide);have:=off 0 3 (by decide) (by decide) (by decide);lia
 have m:∀i j,0<i->i<4->0<j->j<4->i≠j->e i j*e 0 0-e i 0*e 0 j<=0:=fun i j h1 h2 h3 h4 h5=>xZ (off i j h2 h4 h5) p0 (off i 0 h2 (by decide) (by lia)) (off 0 j (by decide) h4 (by lia));have ms:∀i,0<i->i<4->0<(e i 1*e 0 0-e i 0*e 0 1)+(e i 2*e 0 0-e i 0*e 0 2)+(e i 3*e 0 0-e i 0*e 0 3):=fun i h1 h2=>by
  have:=so (sm i h2) p0 (off i 0 h2 (by decide) (by lia)) (sm 0 (by decide));have e:e 0 0*(e i 0+e i 1+e i 2+e i 3)-e i 0*(e 0 0+e 0 1+e 0 2+e 0 3)=(e i 1*e 0 0-e i 0*e 0 1)+(e i 2*e 0 0-e i 0*e 0 2)+(e i 3*e 0 0-e i 0*e 0 3):=by grind
  rw[e]at this;exact this
 have m11:e 1 1*e 0 0-e 1 0*e 0 1=dt2 e 0 1:=by unfold dt2;grind
 have p1:0<dt2 e 0 1:=by rw[<-m11];have:=ms 1 (by decide) (by decide);have:=m 1 2 (by decide) (by decide) (by decide) (by decide) (by decide);have:=m 1 3 (by decide) (by decide) (by decide) (by decide) (by decide);lia
 have t:∀i j,1<i->i<4->1<j->j<4->i≠j->dt3 e i 0 1 j<=0:=fun i j h1 h2 h3 h4 h5=>by
  refine o4 p0 ?_;rw[<-Bu];exact xZ (m i j (by lia) h2 (by lia) h4 h5) (by rw[m11];exact p1) (m i 1 (by lia) h2 (by decide) (by decide) (by lia)) (m 1 j (by decide) (by decide) (by lia) h4 (by lia))
 have ts:∀i,1<i->i<4->0<dt3 e i 0 1 2+dt3 e i 0 1 3:=fun i h1 h2=>by
  refine mG p0 ?_;have:=so (ms i (by lia) h2) (show 0<e 1 1*e 0 0-e 1 0*e 0 1 by rw[m11];exact p1) (m i 1 (by lia) h2 (by decide) (by decide) (by lia)) (ms 1 (by decide) (by decide));obtain a1:=Bu e i 2;obtain a2:=Bu e i 3;rw[Int.mul_add,<-a1,<-a2];grind
 have p2:0<dt3 e 2 0 1 2:=by have:=ts 2 (by decide) (by decide);have:=t 2 3 (by decide) (by decide) (by decide) (by decide) (by decide);lia
 obtain p3:0<dt4 e 3 0 1 2 3:=by
  refine mG p1 ?_;rw[<-FS];have:=so (ts 3 (by decide) (by decide)) p2 (t 3 2 (by decide) (by decide) (by decide) (by decide) (by decide)) (ts 2 (by decide) (by decide));grind
 exact⟨p0,p1,p2,p3⟩
theorem lM{X:Int}(hX:65536<=X){y0 y1 y2 y3 d a0 a1 a2 a3:Int}(h0:0<=a0)(h1:0<=a1)(h2:0<=a2)(h3:0<=a3)(ha:a0+a1+a2+a3<=8){y:Int}(l0:y<=y0)(l1:y<=y1)(l2:y<=y2)(l3:y<=y3)(hd:0<=d)(e:y*X=d+(y0*a0+y1*a1+y2*a2+y3*a3)):0<=y:=by
 refine Int.not_lt.mp fun hy=>?_;obtain e0:=eD l0 h0;obtain e1:=eD l1 h1;obtain e2:=eD l2 h2;obtain e3:=eD l3 h3;obtain q:y*(X-(a0+a1+a2+a3))=y*X-(y*a0+y*a1+y*a2+y*a3):=by grind
 obtain r:=Int.mul_neg_of_neg_of_pos hy (show 0<X-(a0+a1+a2+a3) by lia);lia
end
end
section
section
variable{X:Int}{n:Nat->Nat->Int}{S D:Nat->Int}{L:Nat->Nat->Int}
theorem gW{i j:Nat}(hi:i<4)(hj:j<4):eM X n S D i j=if i=j then X-n i j else-n i j:=by
 unfold eM;rw[ag (by lia),ag (by lia),ag (by lia)]
theorem wv{i:Nat}(hi:i<4):eM X n S D i 5=bV X S D i:=by
 unfold eM;rw[ag (by lia),af rfl]
theorem FP{i:Nat}(hi:i<4):eM X n S D i 4=0:=by
 unfold eM;rw[ag (by lia),ag (by decide),af rfl]
theorem Sys.n2(h:Sys X n S D L)(s r:Nat)(hr:r<4):n s r<=2:=by
 have:=h.nr s;have:=h.n0 s 0;have:=h.n0 s 1;have:=h.n0 s 2;have:=h.n0 s 3;refine lt4 hr ?_ ?_ ?_ ?_
 ·lia
 ·lia
 ·lia
 ·lia
theorem Sys.piv(h:Sys X n S D L):0<eM X n S D 0 0/\0<dt2 (eM X n S D) 0 1/\0<dt3 (eM X n S D) 2 0 1 2/\0<dt4 (eM X n S D) 3 0 1 2 3:=by
 refine AF (fun i j hi hj hij=>?_) fun i hi=>?_
 ·rw[gW hi hj,ag hij]
  have:=h.n0 i j;lia
 ·obtain hX:=h.X
  have:=h.nr i;rw[gW hi (by decide),gW hi (by decide),gW hi (by decide),gW hi (by decide)];revert this;refine lt4 hi ?_ ?_ ?_ ?_
  ·intro q;simp;lia
  ·intro q;simp;lia
  ·intro q;simp;lia
  ·intro q;simp;lia
theorem Sys.yeq(h:Sys X n S D L){y0 y1 y2 y3 b:Int}(h0:yv (eM X n S D) 0=y0)(h1:yv (eM X n S D) 1=y1)(h2:yv (eM X n S D) 2=y2)(h3:yv (eM X n S D) 3=y3)(hb:dt4 (eM X n S D) 3 0 1 2 3=b):
  y0*X=b+(y0*n 0 0+y1*n 1 0+y2*n 2 0+y3*n 3 0)/\y1*X=y0*n 0 1+y1*n 1 1+y2*n 2 1+y3*n 3 1/\y2*X=y0*n 0 2+y1*n 1 2+y2*n 2 2+y3*n 3 2/\y3*X=b+(y0*n 0 3+y1*n 1 3+y2*n 2 3+y3*n 3 3):=by
 obtain e0:=Gg (eM X n S D);obtain e1:=Gf (eM X n S D);obtain e2:=Ge (eM X n S D);obtain e3:=Gd (eM X n S D);rw[h0,h1,h2,h3]at e0 e1 e2 e3;rw[hb]at e0 e3;obtain q:∀i j,i<4->j<4->i≠j->eM X n S D i j=- n i j:=fun i j hi hj hij=>by rw[gW hi hj,ag hij]
 obtain d:∀i,i<4->eM X n S D i i=X-n i i:=fun i hi=>by rw[gW hi hi,af rfl]
 rw[d 0 (by decide),q 1 0 (by decide) (by decide) (by decide),q 2 0 (by decide) (by decide) (by decide),q 3 0 (by decide) (by decide) (by decide)]at e0;rw[d 1 (by decide),q 0 1 (by decide) (by decide) (by decide),q 2 1 (by decide) (by decide) (by decide),q 3 1 (by decide) (by decide) (by decide)]at e1;rw[d 2 (by decide),q 1 2 (by decide) (by decide) (by decide),q 0 2 (by decide) (by decide) (by decide),q 3 2 (by decide) (by decide) (by decide)]at e2;rw[d 3 (by decide),q 1 3 (by decide) (by decide) (by decide),q 2 3 (by decide) (by decide) (by decide),q 0 3 (by decide) (by decide) (by decide)]at e3;refine⟨by grind,by grind,by grind,by grind⟩
theorem AO{y0 y1:Int}(f0:y0<=y1->0<=y0)(f1:y1<=y0->0<=y1):0<=y0/\0<=y1:=(Int.le_total y0 y1).elim (fun h=>⟨f0 h,aY (f0 h) h⟩) fun h=>⟨aY (f1 h) h,f1 h⟩
theorem Gr{y0 y1 y2 y3:Int}(f0:y0<=y1->y0<=y2->y0<=y3->0<=y0)(f1:y1<=y0->y1<=y2->y1<=y3->0<=y1)(f2:y2<=y0->y2<=y1->y2<=y3->0<=y2)(f3:y3<=y0->y3<=y1->y3<=y2->0<=y3):0<=y0/\0<=y1/\0<=y2/\0<=y3:=by
 obtain a:y0<=y1->y2<=y3->(0<=y0/\0<=y2):=fun h g=>AO (fun q=>f0 h q (aY q g)) fun q=>f2 q (aY q h) g;obtain b:y0<=y1->y3<=y2->(0<=y0/\0<=y3):=fun h g=>AO (fun q=>f0 h (aY q g) q) fun q=>f3 q (aY q h) g;obtain c:y1<=y0->y2<=y3->(0<=y1/\0<=y2):=fun h g=>AO (fun q=>f1 h q (aY q g)) fun q=>f2 (aY q h) q g;obtain d:y1<=y0->y3<=y2->(0<=y1/\0<=y3):=fun h g=>AO (fun q=>f1 h (aY q g) q) fun q=>f3 (aY q h) q g;rcases Int.le_total y0 y1 with h | h<;>rcases Int.le_total y2 y3 with g | g
 ·exact⟨(a h g).1,aY (a h g).1 h,(a h g).2,aY (a h g).2 g⟩
 ·exact⟨(b h g).1,aY (b h g).1 h,aY (b h g).2 g,(b h g).2⟩
 ·exact⟨aY (c h g).1 h,(c h g).1,(c h g).2,aY (c h g).2 g⟩
 ·exact⟨aY (d h g).1 h,(d h g).1,aY (d h g).2 g,(d h g).2⟩
theorem Sys.ypos(h:Sys X n S D L){y0 y1 y2 y3 b:Int}(hb:0<=b)(e0:y0*X=b+(y0*n 0 0+y1*n 1 0+y2*n 2 0+y3*n 3 0))(e1:y1*X=y0*n 0 1+y1*n 1 1+y2*n 2 1+y3*n 3 1)(e2:y2*X=y0*n 0 2+y1*n 1 2+y2*n 2 2+y3*n 3 2)(e3:y3*X=b+(y0*n 0 3+y1*n 1 3+y2*n 2 3+y3*n 3 3)):0<=y0/\0<=y1/\0<=y2/\0<=y3:=by
 obtain c:∀j,j<4->n 0 j+n 1 j+n 2 j+n 3 j<=8:=fun j hj=>by have:=h.n2 0 j hj;have:=h.n2 1 j hj;have:=h.n2 2 j hj;have:=h.n2 3 j hj;lia
 exact Gr (fun l1 l2 l3=>lM h.X (h.n0 _ _) (h.n0 _ _) (h.n0 _ _) (h.n0 _ _) (c 0 (by decide)) (ft _) l1 l2 l3 hb e0) (fun l1 l2 l3=>lM h.X (h.n0 _ _) (h.n0 _ _) (h.n0 _ _) (h.n0 _ _) (c 1 (by decide)) l1 (ft _) l2 l3 (ft 0) (by rw[fv];exact e1)) (fun l1 l2 l3=>lM h.X (h.n0 _ _) (h.n0 _ _) (h.n0 _ _) (h.n0 _ _) (c 2 (by decide)) l1 l2 (ft _) l3 (ft 0) (by rw[fv];exact e2)) (fun l1 l2 l3=>lM h.X (h.n0 _ _) (h.n0 _ _) (h.n0 _ _) (h.n0 _ _) (c 3 (by decide)) l1 l2 l3 (ft _) hb e3)
theorem Sys.ep0(h:Sys X n S D L)(s:Nat):0<=epV X n S D L s/\epV X n S D L s<=318*X^2:=by
 obtain hX:=h.X;obtain hm0:0<=mV n L s:=uU (h.n0 s 0) (h.n0 s 1) (h.n0 s 2) (h.n0 s 3) (h.L4 0).1 (h.L4 1).1 (h.L4 2).1 (h.L4 3).1;obtain hm1:mV n L s<=2*139:=uT (h.n0 s 0) (h.n0 s 1) (h.n0 s 2) (h.n0 s 3) (h.nr s) (by decide) (h.L4 0).2 (h.L4 1).2 (h.L4 2).2 (h.L4 3).2;unfold epV;generalize mV n L s=m at *;obtain x1:0<=X*(X-1):=bJ (by lia) (by lia);obtain x2:0<=(X-1)^2:=by rw[Int.pow_succ,Int.pow_succ,Int.pow_zero,bU];exact bJ (by lia) (by lia)
 obtain x3:X^2=X*X:=by grind
 obtain x4:X*(X-1)=X^2-X:=by grind
 obtain x5:(X-1)^2=X^2-2*X+1:=by grind
 obtain x6:65536*X<=X*X:=eD hX (by lia);obtain x7:0<=4*X^2-3*X:=by lia
 obtain s0:=bJ (h.S0 s) x1;obtain s1:=eD (h.S1 s) x1;obtain d0:=bJ (h.D0 s) x7;obtain d1:=eD (h.D1 s) x7;obtain m0:=bJ x2 hm0;obtain m1:=cC hm1 x2;generalize S s*(X*(X-1))=u at *;generalize D s*(4*X^2-3*X)=v at *;generalize (X-1)^2*m=w at *;rw[x5]at m1;rw[x4]at s1;rw[<-x3]at x6;generalize X^2=Z at *;clear x1 x2 x3 x4 x5;exact⟨by lia,by lia⟩
noncomputable def fG(X:Int)(L:Nat->Nat->Int):Int:=(L 0 0+L 3 0+3)*X^4+(L 0 1+L 3 1+4)*X^3+(L 0 2+L 3 2+5)*X^2+(L 0 3+L 3 3+6)*X+(L 0 4+L 3 4+7)
theorem Sys.rest(h:Sys X n S D L){y0 y1 y2 y3 b:Int}(h0:yv (eM X n S D) 0=y0)(h1:yv (eM X n S D) 1=y1)(h2:yv (eM X n S D) 2=y2)(h3:yv (eM X n S D) 3=y3)(hb:dt4 (eM X n S D) 3 0 1 2 3=b):
  X^4*dt5 (eM X n S D) 5-fG X L*(b*(X-1)^2)=(y0*epV X n S D L 0+y1*epV X n S D L 1+y2*epV X n S D L 2+y3*epV X n S D L 3)+b*(8*X-7):=by
 obtain e0:=(h.yeq h0 h1 h2 h3 hb).1;obtain e1:=(h.yeq h0 h1 h2 h3 hb).2.1;obtain e2:=(h.yeq h0 h1 h2 h3 hb).2.2.1;obtain e3:=(h.yeq h0 h1 h2 h3 hb).2.2.2;obtain g0:=h.eps 0;obtain g1:=h.eps 1;obtain g2:=h.eps 2;obtain g3:=h.eps 3;obtain hc:eM X n S D 4 5=cV X:=rfl;rw[Gb _ rfl rfl rfl rfl,hb,h0,h1,h2,h3,hc,wv (by decide),wv (by decide),wv (by decide),wv (by decide)];obtain hv:fG X L=pV X L 0+pV X L 3+(3*X^4+4*X^3+5*X^2+6*X+7):=by simp only[fG,pV];grind
 rw[hv];generalize epV X n S D L 0=p0 at *;generalize epV X n S D L 1=p1 at *;generalize epV X n S D L 2=p2 at *;generalize epV X n S D L 3=p3 at *;generalize pV X L 0=q0 at *;generalize pV X L 1=q1 at *;generalize pV X L 2=q2 at *;generalize pV X L 3=q3 at *;obtain a:X^4*(cV X*b+(y0*bV X S D 0+y1*bV X S D 1+y2*bV X S D 2+y3*bV X S D 3))=X^4*cV X*b+(y0*(X^4*bV X S D 0)+y1*(X^4*bV X S D 1)+y2*(X^4*bV X S D 2)+y3*(X^4*bV X S D 3)):=by grind
 rw[a,g0,g1,g2,g3];obtain k:y0*((X-1)^2*(X*q0-(n 0 0*q0+n 0 1*q1+n 0 2*q2+n 0 3*q3))+p0)+y1*((X-1)^2*(X*q1-(n 1 0*q0+n 1 1*q1+n 1 2*q2+n 1 3*q3))+p1)+y2*((X-1)^2*(X*q2-(n 2 0*q0+n 2 1*q1+n 2 2*q2+n 2 3*q3))+p2)+y3*((X-1)^2*(X*q3-(n 3 0*q0+n 3 1*q1+n 3 2*q2+n 3 3*q3))+p3) =
   (y0*p0+y1*p1+y2*p2+y3*p3)+(X-1)^2*((y0*X-(y0*n 0 0+y1*n 1 0+y2*n 2 0+y3*n 3 0))*q0+(y1*X-(y0*n 0 1+y1*n 1 1+y2*n 2 1+y3*n 3 1))*q1+(y2*X-(y0*n 0 2+y1*n 1 2+y2*n 2 2+y3*n 3 2))*q2+(y3*X-(y0*n 0 3+y1*n 1 3+y2*n 2 3+y3*n 3 3))*q3):=by grind
 rw[k,e0,e1,e2,e3,Int.sub_self,Int.sub_self,Int.add_sub_cancel,Int.add_sub_cancel];unfold cV;grind
theorem Sys.fin(h:Sys X n S D L){b:Int}(hb:dt4 (eM X n S D) 3 0 1 2 3=b):0<X^4*dt5 (eM X n S D) 5-fG X L*(b*(X-1)^2)/\X^4*dt5 (eM X n S D) 5-fG X L*(b*(X-1)^2)<b*(X-1)^2:=by
 obtain hX:=h.X;obtain b0:0<b:=hb▸h.piv.2.2.2;obtain e0:=(h.yeq rfl rfl rfl rfl hb).1;obtain e1:=(h.yeq rfl rfl rfl rfl hb).2.1;obtain e2:=(h.yeq rfl rfl rfl rfl hb).2.2.1;obtain e3:=(h.yeq rfl rfl rfl rfl hb).2.2.2;rw[h.rest rfl rfl rfl rfl hb];generalize yv (eM X n S D) 0=y0 at *;generalize yv (eM X n S D) 1=y1 at *;generalize yv (eM X n S D) 2=y2 at *;generalize yv (eM X n S D) 3=y3 at *;obtain p0:=(h.ypos (ay b0) e0 e1 e2 e3).1;obtain p1:=(h.ypos (ay b0) e0 e1 e2 e3).2.1;obtain p2:=(h.ypos (ay b0) e0 e1 e2 e3).2.2.1;obtain p3:=(h.ypos (ay b0) e0 e1 e2 e3).2.2.2;obtain u0:=cC (h.ep0 0).2 p0;obtain u1:=cC (h.ep0 1).2 p1;obtain u2:=cC (h.ep0 2).2 p2;obtain u3:=cC (h.ep0 3).2 p3;obtain v0:=bJ p0 (h.ep0 0).1;obtain v1:=bJ p1 (h.ep0 1).1;obtain v2:=bJ p2 (h.ep0 2).1;obtain v3:=bJ p3 (h.ep0 3).1;obtain w:=Int.mul_pos b0 (show 0<8*X-7 by lia);obtain r0:=cC (h.nr 0) p0;obtain r1:=cC (h.nr 1) p1;obtain r2:=cC (h.nr 2) p2;obtain r3:=cC (h.nr 3) p3;generalize epV X n S D L 0=ε0 at *;generalize epV X n S D L 1=ε1 at *;generalize epV X n S D L 2=ε2 at *;generalize epV X n S D L 3=ε3 at *;refine⟨by clear e0 e1 e2 e3 u0 u1 u2 u3 r0 r1 r2 r3;lia,?_⟩;obtain⟨T,hT⟩:∃T,y0+y1+y2+y3=T:=⟨_,rfl⟩;obtain t0:0<=T:=by lia
 obtain t1:T*X=2*b+(y0*(n 0 0+n 0 1+n 0 2+n 0 3)+y1*(n 1 0+n 1 1+n 1 2+n 1 3)+y2*(n 2 0+n 2 1+n 2 2+n 2 3)+y3*(n 3 0+n 3 1+n 3 2+n 3 3)):=by
  have:T*X=y0*X+y1*X+y2*X+y3*X:=by rw[<-hT];grind
  rw[this,e0,e1,e2,e3];grind
 obtain t2:T*X<=2*b+2*T:=by lia
 obtain t3:=cC hX t0;obtain t4:T*X<=4*b:=by lia
 obtain t5:=eD t4 (show 0<=X by lia);obtain t6:y0*(318*X^2)+y1*(318*X^2)+y2*(318*X^2)+y3*(318*X^2)=318*(T*X*X):=by rw[<-hT];grind
 obtain t7:b*(8*X-7)=8*(b*X)-7*b:=by grind
 obtain t8:b*(X-1)^2=b*X*X-2*(b*X)+b:=by grind
 obtain t9:4*b*X=4*(b*X):=by grind
 obtain ta:=cC hX (show 0<=b*X from bJ (ay b0) (by lia));obtain tb:=cC hX (ay b0);rw[t7,t8];rw[t9]at t5;generalize T*X*X=z1 at *;generalize b*X*X=z2 at *;generalize b*X=z3 at *;clear e0 e1 e2 e3 t1 r0 r1 r2 r3 t2 t3 t4 w v0 v1 v2 v3 t7 t8 t9;generalize y0*ε0=f0 at *;generalize y1*ε1=f1 at *;generalize y2*ε2=f2 at *;generalize y3*ε3=f3 at *;lia
end
end
section
noncomputable def Lw(w:Nat)(x:Int)(k c:Nat):Prop:=x.natAbs<=2^(k*w+c)
section
variable{w:Nat}{x y:Int}{k c k' c':Nat}
theorem Lw.mul(hx:Lw w x k c)(hy:Lw w y k' c'):Lw w (x*y) (k+k') (c+c'):=by
 unfold Lw;rw[Int.natAbs_mul,Nat.add_mul,Nat.add_add_add_comm,Nat.pow_add];exact Nat.mul_le_mul hx hy
theorem Lw.up{K C:Nat}(hx:Lw w x k c)(h:k<=K/\c<=C):Lw w x K C:=ai hx (i0 (by decide) (Nat.add_le_add (Nat.mul_le_mul_right w h.1) h.2))
theorem Lw.neg(hx:Lw w x k c):Lw w (-x) k c:=by unfold Lw;simp only[Int.natAbs_neg];exact hx
theorem Lw.add{K C:Nat}(hx:Lw w x k c)(hy:Lw w y k' c')(h:k<=K/\c<=C)(h':k'<=K/\c'<=C):Lw w (x+y) K (C+1):=by
 unfold Lw;simp only[<-Nat.add_assoc,Nat.pow_succ,Nat.mul_two];exact ai (Int.natAbs_add_le _ _) (Nat.add_le_add (hx.up h) (hy.up h'))
theorem Lw.sub{K C:Nat}(hx:Lw w x k c)(hy:Lw w y k' c')(h:k<=K/\c<=C)(h':k'<=K/\c'<=C):Lw w (x-y) K (C+1):=Int.sub_eq_add_neg▸hx.add hy.neg h h'
theorem Lw.le(h0:0<=x)(h:x<=y)(hy:Lw w y k c):Lw w x k c:=ai (show x.natAbs<=y.natAbs by lia) hy
theorem Lw.num{n:Nat}(h:n<=2^c):Lw w (n:Int) 0 c:=by unfold Lw;simp only[Nat.zero_mul,Nat.zero_add];exact h
theorem Lw.sg{s:Int}(hx:Lw w x k c)(hs:s=1\/s=-1):Lw w (s*x) k c:=by
 rcases hs with rfl | rfl
 ·rw[bU];exact hx
 ·rw[Int.neg_mul,bU];exact hx.neg
theorem Lw.ib(hx:Lw w x k c)(hw:w<=1415):ibits x<=k*1415+c+1:=ai (oH hx) (fF (fF (Nat.mul_le_mul_left k hw) c) 1)
theorem Lw.room(hx:Lw w x k c)(hy:Lw w y k' c')(hw:w<=1415)(h:k*1415+c+1+(k'*1415+c'+1)<=134217728):ibits x+ibits y<=134217728:=ai (Nat.add_le_add (hx.ib hw) (hy.ib hw)) h
theorem Lw.lt(hx:Lw w x k c)(hw:w<=1415)(h:k*1415+c<9000):x.natAbs<2^9000:=iV hx (Nat.pow_lt_pow_right (by decide) (iV (fF (Nat.mul_le_mul_left k hw) c) h))
theorem Lw.sq(hx:Lw w x k c):Lw w (x^2) (k+k) (c+c):=by simp only[Int.pow_succ,Int.pow_succ,Int.pow_zero,bU];exact hx.mul hx
theorem Lw.two(w:Nat):Lw w ((2:Int)^w) 1 0:=by unfold Lw;simp only[Int.natAbs_pow,Nat.one_mul,Nat.add_zero];exact bS _
end
section
variable{X:Int}{n:Nat->Nat->Int}{S D:Nat->Int}{L:Nat->Nat->Int}{w:Nat}
theorem Sys.lb'(h:Sys X n S D L)(hX:Lw w X 1 0):Lw w (X-1) 1 0:=.le (by have:=h.X;lia) (Int.sub_le_self _ (by decide)) hX
theorem Sys.lb_in(h:Sys X n S D L)(hX:Lw w X 1 0){i j:Nat}(hi:i<4)(hj:j<4):Lw w (eM X n S D i j) 1 1:=by
 obtain q:Lw w (n i j) 0 1:=.le (h.n0 i j) (h.n2 i j hj) (.num (n:=2) (by decide));have:=h.X;obtain h0:=h.n0 i j;obtain h2:=h.n2 i j hj;rw[gW hi hj]
 split
 ·exact .up (.le (by lia) (Int.sub_le_self _ h0) hX) (by decide)
 ·exact q.neg.up (by decide)
theorem Sys.lb_b(h:Sys X n S D L)(hX:Lw w X 1 0)(s:Nat):Lw w (bV X S D s) 3 5:=by
 obtain d1:Lw w (D s) 0 3:=.le (h.D0 s) (aY (h.D1 s) (by decide)) (.num (n:=8) (by decide));obtain s1:Lw w (S s) 0 3:=.le (h.S0 s) (aY (h.S1 s) (by decide)) (.num (n:=8) (by decide));exact((hX.mul (h.lb' hX).sq).add (hX.mul d1) (K:=3) (C:=3) (by decide) (by decide)).add ((s1.mul hX).mul (h.lb' hX)) (by decide) (by decide)
theorem Sys.lb_c(h:Sys X n S D L)(hX:Lw w X 1 0):Lw w (cV X) 2 3:=
 (((Lw.num (n:=3) (c:=2) (by decide)).mul hX).mul (h.lb' hX)).add hX (by decide) (by decide)
theorem Sys.lb(h:Sys X n S D L)(hX:Lw w X 1 0){i j:Nat}(hi:i<5)(hj:j<6):Lw w (eM X n S D i j) 3 5:=by
 by_cases i4:i=4
 ·subst i4
  by_cases j5:j=5
  ·subst j5;exact(h.lb_c hX).up (by decide)
  ·obtain hj:j<5:=Nat.lt_of_le_of_ne (Nat.le_of_lt_succ hj) j5
   obtain z:Lw w (0:Int) 3 5:=(Lw.num (n:=0) (c:=0) (by decide)).up (by decide);obtain o:Lw w (1:Int) 3 5:=(Lw.num (n:=1) (c:=0) (by decide)).up (by decide);exact lt5 hj o.neg z z o.neg o
 ·obtain i4:i<4:=Nat.lt_of_le_of_ne (Nat.le_of_lt_succ hi) i4
  by_cases j5:j=5
  ·subst j5;rw[wv i4];exact h.lb_b hX i
  ·obtain hj:j<5:=Nat.lt_of_le_of_ne (Nat.le_of_lt_succ hj) j5
   by_cases j4:j=4
   ·subst j4;rw[FP i4];exact(Lw.num (n:=0) (c:=0) (by decide)).up (by decide)
   ·exact(h.lb_in hX i4 (Nat.lt_of_le_of_ne (Nat.le_of_lt_succ hj) j4)).up (by decide)
theorem Sys.lb2(h:Sys X n S D L)(hX:Lw w X 1 0){c d:Nat}(hc:c<4)(hd:d<4):Lw w (dt2 (eM X n S D) c d) 2 3:=
 ((h.lb_in hX (by decide) hc).mul (h.lb_in hX (by decide) hd)).sub ((h.lb_in hX (by decide) hd).mul (h.lb_in hX (by decide) hc)) (by decide) (by decide)
theorem Sys.lb3(h:Sys X n S D L)(hX:Lw w X 1 0){i c d f:Nat}(hi:i<4)(hc:c<4)(hd:d<4)(hf:f<4):Lw w (dt3 (eM X n S D) i c d f) 3 6:=
 (((h.lb_in hX hi hc).mul (h.lb2 hX hd hf)).sub ((h.lb_in hX hi hd).mul (h.lb2 hX hc hf)) (K:=3) (C:=4) (by decide) (by decide)).add ((h.lb_in hX hi hf).mul (h.lb2 hX hc hd)) (by decide) (by decide)
theorem Sys.lb4(h:Sys X n S D L)(hX:Lw w X 1 0):Lw w (dt4 (eM X n S D) 3 0 1 2 3) 4 10:=by
 obtain t:∀j c d f,j<4->c<4->d<4->f<4->Lw w (eM X n S D 3 j*dt3 (eM X n S D) 2 c d f) 4 7:=fun j c d f h0 h1 h2 h3=>(h.lb_in hX (by decide) h0).mul (h.lb3 hX (by decide) h1 h2 h3);exact(((t _ _ _ _ (by decide) (by decide) (by decide) (by decide)).sub (t _ _ _ _ (by decide) (by decide) (by decide) (by decide)) (K:=4) (C:=7) (by decide) (by decide)).add (t _ _ _ _ (by decide) (by decide) (by decide) (by decide)) (K:=4) (C:=8) (by decide) (by decide)).sub (t _ _ _ _ (by decide) (by decide) (by decide) (by decide)) (by decide) (by decide)
theorem Sys.nd(h:Sys X n S D L){σ:Nat->Int}(hσ:∀i,σ i=1\/σ i=-1):(mxF (flp (eM X n S D) σ)).Nodup:=by
 refine List.pairwise_map.mpr (List.pairwise_lt_range.imp_of_mem fun{i j} hi hj hij=>fun q=>?_);rw[List.mem_range]at hi hj;have i4:i<4:=by lia
 obtain hX:=h.X;obtain q:=aq (fun l:List Int=>l[i]?) q;simp only[bA,List.getElem?_range (show i<6 by lia),Option.map_some,Option.some.injEq,flp]at q;rw[gW i4 i4,af rfl]at q;have b:Lw 0 (eM X n S D j i) 0 1:=by
  by_cases j4:j=4
  ·subst j4
   obtain z:Lw 0 (0:Int) 0 1:=.num (n:=0) (by decide);obtain o:Lw 0 (1:Int) 0 1:=.num (n:=1) (by decide);exact lt4 i4 o.neg z z o.neg
  ·rw[gW (by lia) i4,ag (Nat.ne_of_gt hij)]
   exact Lw.neg (.le (h.n0 j i) (h.n2 j i i4) (.num (n:=2) (by decide)))
 obtain b:=b.sg (hσ j);rw[<-q]at b;have c:(X-n i i).natAbs<=2:=by
  have:Lw 0 (X-n i i) 0 1:=by
   rcases hσ i with e | e
   ·rw[e,bU]at b;exact b
   ·rw[e,Int.neg_mul,bU]at b;have:=b.neg;rw[Int.neg_neg]at this;exact this
  exact this
 have:=h.n2 i i i4;lia
theorem wO(h:Sys X n S D L)(hX:Lw w X 1 0):Lw w (fG X L) 4 13/\0<=fG X L:=by
 obtain l:∀k,k<=4->Lw w (L 0 k+L 3 k+(3+k)) 0 9/\0<=L 0 k+L 3 k+(3+k):=fun k hk=>by
  have:=h.Lk 0 k hk;have:=h.Lk 3 k hk;exact⟨.le (by lia) (show _<=(300:Int) by lia) (.num (n:=300) (by decide)),by lia⟩
 obtain p2:Lw w (X^3) 3 0:=by rw[show X^3=X^2*X by grind];exact hX.sq.mul hX
 obtain p3:Lw w (X^4) 4 0:=by rw[show X^4=X^3*X by grind];exact p2.mul hX
 obtain x0:0<=X:=aY (by decide) h.X;obtain l0:=l 0 (by decide);obtain l1:=l 1 (by decide);obtain l2:=l 2 (by decide);obtain l3:=l 3 (by decide);obtain l4:=l 4 (by decide);exact⟨((((l0.1.mul p3).add (l1.1.mul p2) (K:=4) (C:=9) (by decide) (by decide)).add (l2.1.mul hX.sq) (K:=4) (C:=10) (by decide) (by decide)).add (l3.1.mul hX) (K:=4) (C:=11) (by decide) (by decide)).add l4.1 (by decide) (by decide),
  Int.add_nonneg (Int.add_nonneg (Int.add_nonneg (Int.add_nonneg (bJ l0.2 (Int.pow_nonneg x0)) (bJ l1.2 (Int.pow_nonneg x0))) (bJ l2.2 (Int.pow_nonneg x0))) (bJ l3.2 x0)) l4.2⟩
theorem uY{s a q V:Int}(hs:s=1\/s=-1)(h0:0<a-V*q)(h1:a-V*q<q):(s*a).fdiv (s*q)=V/\(-(s*a)).fdiv (s*q)=-V-1:=by
 obtain hq:0<q:=by lia
 obtain e1:a.fdiv q=V:=(gV (r:=a-V*q) (by lia) hq (ay h0) h1).1;obtain e2:(-a).fdiv q=-V-1:=by
  refine(gV (r:=q-(a-V*q)) ?_ hq (by lia) (by lia)).1;grind
 rcases hs with rfl | rfl
 ·simp only[bU,bU];exact⟨e1,e2⟩
 ·simp only[Int.neg_mul,bU,Int.neg_mul,bU,Int.neg_fdiv_neg,Int.neg_fdiv_neg];exact⟨e1,e2⟩
structure EN(Φ:Fun)(X V E0 E1:Int):Prop where
 top:ibits (X^4)+ibits E1<=134217728
 bot:ibits E0+ibits ((X-1)^2)<=134217728
 d1:Φ 5 [.int (X^4*E1),.int (E0*(X-1)^2)]=some (.tup [.int V,.int (X^4*E1-V*(E0*(X-1)^2))])
 d2:Φ 5 [.int (-(X^4*E1)),.int (E0*(X-1)^2)]=some (.tup [.int (-V-1),.int (V*(E0*(X-1)^2)+E0*(X-1)^2-X^4*E1)])
 vb:ibits V+ibits (E0*(X-1)^2)<=134217728
theorem Bn{Φ:Fun}{b E V s:Int}(hX:Lw w X 1 0)(x1:Lw w (X-1) 1 0)(hw:w<=1415)(hx:65536<=X)(s5:s=1\/s=-1)(h5:Φ 5=jG 2)(lb:Lw w b 4 10)(b0:0<b)(f:0<X^4*E-V*(b*(X-1)^2)/\X^4*E-V*(b*(X-1)^2)<b*(X-1)^2)(v:Lw w V 4 13/\0<=V):EN Φ X V (s*b) (s*E):=by
 obtain g1:=(uY s5 f.1 f.2).1;obtain g2:=(uY s5 f.1 f.2).2;obtain x0:0<X:=eI (by decide) hx;obtain x40:0<X^4:=fU x0;obtain bq:0<b*(X-1)^2:=Int.lt_trans f.1 f.2;obtain x4:Lw w (X^4) 4 0:=by rw[show X^4=X^2*X^2 by grind];exact hX.sq.mul hX.sq
 obtain lbq:=lb.mul x1.sq;obtain vq:0<=V*(b*(X-1)^2):=bJ v.2 (ay bq);obtain tl:Lw w (X^4*E) 10 24:=.le (ay (gA vq (by have:=f.1;omega))) (show X^4*E<=V*(b*(X-1)^2)+b*(X-1)^2 by have:=f.2;omega) ((v.1.mul lbq).add lbq (by decide) (by decide));obtain E0:0<E:=Int.not_le.mp fun q=>by have:=Int.mul_nonpos_of_nonneg_of_nonpos (ay x40) q;have:=f.1;omega
 obtain el:Lw w E 10 24:=.le (ay E0) (by have:=eD (show 1<=X^4 from x40) (ay E0);rw[bU]at this;exact this) tl;obtain ta:X^4*(s*E)=s*(X^4*E):=Int.mul_left_comm ..;obtain ba:s*b*(X-1)^2=s*(b*(X-1)^2):=fE ..;obtain nz:s*(b*(X-1)^2)≠0:=Int.mul_ne_zero (by rcases s5 with rfl | rfl<;>decide) (bW bq);obtain i2:=ai ((lbq.sg s5).ib hw) (show _<=60000 by decide);refine⟨x4.room (el.sg s5) hw (by decide),(lb.sg s5).room x1.sq hw (by decide),?_,?_,?_⟩
 ·rw[ta,ba,h5,mW ⟨nz,ai ((tl.sg s5).ib hw) (by decide),i2,.inl (bS _),.inl (by decide)⟩,Int.fmod_def,g1,bL V]
 ·rw[ta,ba,h5,mW ⟨nz,ai ((tl.sg s5).neg.ib hw) (by decide),i2,.inl (bS _),.inl (by decide)⟩,Int.fmod_def,g2]
  refine aq (fun z=>some (Internal.V.tup [.int (-V-1),.int z])) ?_;grind
 ·rw[ba];exact v.1.room (lbq.sg s5) hw (by decide)
theorem Sys.ends(h:Sys X n S D L)(hX:Lw w X 1 0)(hw:w<=1415){σ:Nat->Int}(hσ:∀i,σ i=1\/σ i=-1){Φ:Fun}(h5:Φ 5=jG 2):
  Ex2 fun E0 E1=>oP Φ (liM (mxF (flp (eM X n S D) σ)))=some (.lst [.int E0,.int E1])/\EN Φ X (fG X L) E0 E1:=by
 obtain p0:=h.piv.1;obtain p1:=h.piv.2.1;obtain p2:=h.piv.2.2.1;obtain p3:=h.piv.2.2.2;obtain ne:∀{s x:Int},(s=1\/s=-1)->0<x->s*x≠0:=fun hs hx=>by rcases hs with rfl | rfl<;>lia
 obtain sm:∀{s t:Int},(s=1\/s=-1)->(t=1\/t=-1)->(s*t=1\/s*t=-1):=fun hs ht=>by rcases hs with rfl | rfl<;>rcases ht with rfl | rfl<;>decide
 obtain s2:=sm (hσ 0) (hσ 1);obtain s3:=sm s2 (hσ 2);obtain s5:=sm (sm s3 (hσ 3)) (hσ 4);obtain el:=zh (Φ:=Φ) (B:=3*w+5) (a:=flp (eM X n S D) σ) h5 (fun x y hx hy=>(h.lb hX hx hy).sg (hσ x)) (by lia) (ne (hσ 0) p0)
  (by rw[E3];exact ne s2 p1) (by rw[DZ];exact ne s3 p2) (((h.lb_in hX (i:=0) (j:=0) (by decide) (by decide)).sg (hσ 0)).lt hw (by decide)) (by rw[E3];exact((h.lb2 hX (by decide) (by decide)).sg s2).lt hw (by decide)) (by rw[DZ];exact((h.lb3 hX (by decide) (by decide) (by decide) (by decide)).sg s3).lt hw (by decide)) (h.nd hσ)
 rw[FB,FB,Gc _ rfl rfl rfl rfl rfl rfl rfl rfl rfl]at el;exact⟨_,_,el,Bn hX (h.lb' hX) hw h.X s5 h5 (h.lb4 hX) p3 (h.fin rfl) (wO h hX)⟩
end
end
section
noncomputable def be(w:List Nat):Prop:=Ex2 fun u x=>jX (w=u++[x]) (u.length<=2) ((∀i∈u,i<5)) (2<=x) (x<5)
theorem tV(h:Int):be (wd h):=by
 obtain m3:=eY (k:=3) (by decide) h;obtain m75:=eY (k:=3) (by decide) (h.fdiv 75);refine⟨_,_,rfl,by simp;lia,fun i hi=>?_,by lia,by lia⟩;obtain⟨k,_,rfl⟩:=eH.mp hi;exact eY (k:=5) (by decide) _
theorem be.lt{w:List Nat}(h:be w):∀i∈w,i<5:=by
 obtain⟨u,x,rfl,h1,h2,h3,h4⟩:=h;intro i hi;rcases List.mem_append.mp hi with hi | hi
 ·exact h2 i hi
 ·rw[fx.mp hi];exact h4
theorem be.len{w:List Nat}(h:be w):w.length<4:=by
 obtain⟨u,x,rfl,h1,h2,h3,h4⟩:=h;rw[aG];show u.length+1<4;lia
noncomputable def nxF(la:Nat->Bool)(t:Nat):Bool:=if t<2 then la t else t==3
noncomputable def bI(b:Bool):Int:=if b then 1 else 0
noncomputable def bN(b:Bool):Nat:=if b then 1 else 0
noncomputable def cN(la:Nat->Bool)(r:Nat):Bool->List Nat->Int
 |_,[]=>0
 |l,t::u=>(if t<2/\r=2*t+bN l then 1 else 0)+cN la r (nxF la t) u
noncomputable def cS:Bool->List Nat->Int
 |_,[]=>0
 |b,t::u=>(if t<2 then 0 else if t=3 then 2 else if t=2 then 1+bI b else 1)+cS (t==3) u
noncomputable def cD(la:Nat->Bool):Bool->List Nat->Int
 |_,[]=>0
 |l,t::u=>(if t=2 then bI l else 0)+cD la (nxF la t) u
section
variable{la:Nat->Bool}
theorem kL(r:Nat):∀(w:List Nat) (l:Bool),0<=cN la r l w:=by
 intro u
 induction u with
 |nil=>
  intro _;exact ft 0
 |cons t u kL=>
  intro l;have:=kL (nxF la t);unfold cN
  split<;>lia
theorem vz:∀(w:List Nat) (b:Bool),0<=cS b w/\cS b w<=2*w.length:=by
 intro u
 induction u with
 |nil=>
  intro _;exact⟨ft 0,ft 0⟩
 |cons t u vz=>
  intro b;have:=vz (t==3);obtain hb:0<=bI b/\bI b<=1:=by cases b<;>decide
  unfold cS;rw[List.length_cons]
  split
  ·lia
  ·split
   ·lia
   ·split<;>lia
theorem vA:∀(w:List Nat) (l:Bool),0<=cD la l w/\cD la l w<=w.length:=by
 intro u
 induction u with
 |nil=>
  intro _;exact⟨ft 0,ft 0⟩
 |cons t u vA=>
  intro l;have:=vA (nxF la t);have hb:0<=bI l/\bI l<=1:=by cases l<;>decide
  unfold cD;rw[List.length_cons]
  split<;>lia
theorem bN4{t:Nat}{l:Bool}(ht:t<2):2*t+bN l<4:=lt2 (P:=fun t=>2*t+bN l<4) ht (by cases l<;>decide) (by cases l<;>decide)
theorem Ff{q:Nat}(hq:q<4){c0 c1 c2 c3 z:Int}(h:c0+c1+c2+c3<=z):((if 0=q then 1 else 0)+c0)+((if 1=q then 1 else 0)+c1)+((if 2=q then 1 else 0)+c2)+((if 3=q then 1 else 0)+c3)<=z+1:=
 lt4 hq (by simp;lia) (by simp;lia) (by simp;lia) (by simp;lia)
theorem tH:∀(w:List Nat) (l:Bool),cN la 0 l w+cN la 1 l w+cN la 2 l w+cN la 3 l w<=(w.countP (·<2):Nat):=by
 intro u
 induction u with
 |nil=>
  intro _;exact ft 0
 |cons t u tH=>
  intro l;have ih:=tH (nxF la t);rw[List.countP_cons];unfold cN;by_cases ht:t<2
  ·have e:∀r,(if t<2/\r=2*t+bN l then(1:Int)else 0)=if r=2*t+bN l then 1 else 0:=fun r=>by simp[ht]
   rw[af (dp ht),e,e,e,e,Int.natCast_add];exact Ff (bN4 ht) ih
  ·have e:∀r,(if t<2/\r=2*t+bN l then(1:Int)else 0)=0:=fun r=>ag fun q=>ht q.1
   rw[ag (show ¬decide (t<2)=true by simp[ht]),e,e,e,e,fv,fv,fv,fv];exact ih
theorem be.names{w:List Nat}(h:be w):w.countP (·<2)<=2:=by
 obtain⟨u,x,rfl,h1,h2,h3,h4⟩:=h;rw[List.countP_append,List.countP_cons_of_neg (by simp;lia),List.countP_nil];exact ai List.countP_le_length h1
end
noncomputable def qT:Bool->List Nat->List Nat
 |_,[]=>[]
 |b,t::u=>if t=2/\b=true then 2::2::qT false u else t::qT (t==3) u
noncomputable def kI(b:Bool):List Nat->Bool
 |[]=>b
 |t::u=>kI (t==3) u
theorem mD:∀(w u:List Nat) (b:Bool),qT b (w++u)=qT b w++qT (kI b w) u:=by
 intro w
 induction w with
 |nil=>
  intro _ _;exact rfl
 |cons t w mD=>
  intro u b;rw[List.cons_append,qT,qT,kI];by_cases h:t=2/\b=true
  ·rw[af h,af h,mD u,h.1];rfl
  ·rw[ag h,ag h,mD u];rfl
section
variable{la:Nat->Bool}{L:Nat->Nat->Int}
noncomputable def fT(la:Nat->Bool)(L:Nat->Nat->Int)(n:Nat):Bool->List Nat->Int
 |_,[]=>0
 |l,t::u=>(if t<2 then L (2*t+bN l) n else if t=2 then 1+(if l then(n:Int)else 0)else if t=3 then 2 else 1)+fT la L n (nxF la t) u
noncomputable def rA(la:Nat->Bool)(l:Bool):List Nat->Bool
 |[]=>l
 |t::u=>rA la (nxF la t) u
theorem th(n:Nat):∀(w u:List Nat) (l:Bool),fT la L n l (w++u)=fT la L n l w+fT la L n (rA la l w) u:=by
 intro w
 induction w with
 |nil=>
  intro u l;exact(fv _).symm
 |cons t w th=>
  intro u l;rw[List.cons_append,fT,fT,rA,th u];lia
theorem n7:∀(w u:List Nat) (l:Bool),rA la l (w++u)=rA la (rA la l w) u:=by
 intro w
 induction w with
 |nil=>
  intro _ _;exact rfl
 |cons t w n7=>
  intro u l;exact n7 u _
theorem fR:∀(w u:List Nat) (l:Bool),kI l (w++u)=kI (kI l w) u:=by
 intro w
 induction w with
 |nil=>
  intro _ _;exact rfl
 |cons t w fR=>
  intro u l;exact fR u _
theorem Fe{q:Nat}(hq:q<4){c0 c1 c2 c3 s D n:Int}{L:Nat->Int}:L q+(c0*L 0+c1*L 1+c2*L 2+c3*L 3+s+n*D)=((if 0=q then 1 else 0)+c0)*L 0+((if 1=q then 1 else 0)+c1)*L 1+((if 2=q then 1 else 0)+c2)*L 2+((if 3=q then 1 else 0)+c3)*L 3+(0+s)+n*(0+D):=
 lt4 hq (by simp;grind) (by simp;grind) (by simp;grind) (by simp;grind)
theorem yl{c0 c1 c2 c3 l0 l1 l2 l3 s z n d D x:Int}(h:x=z+n*d):x+(c0*l0+c1*l1+c2*l2+c3*l3+s+n*D)=(0+c0)*l0+(0+c1)*l1+(0+c2)*l2+(0+c3)*l3+(z+s)+n*(d+D):=by rw[h];grind
theorem pX(n:Nat):∀(w:List Nat) (b l:Bool),(b=true->l=true)->(∀i∈w,i<5) ->
  fT la L n l (qT b w)=cN la 0 l w*L 0 n+cN la 1 l w*L 1 n+cN la 2 l w*L 2 n+cN la 3 l w*L 3 n+cS b w+n*cD la l w:=by
 intro w
 induction w with
 |nil=>
  intro b l _ _;exact by show(0:Int)=0*_+0*_+0*_+0*_+0+n*0;lia
 |cons t w pX=>
  intro b l hb hi;have ih:=fun b l hb=>pX b l hb fun i h=>hi i (.tail _ h);by_cases ht:t<2
  ·have t2:t≠2:=fun q=>by rw[q]at ht;exact absurd ht (by decide)
   have t3:t≠3:=fun q=>by rw[q]at ht;exact absurd ht (by decide)
   have e:∀r,(if t<2/\r=2*t+bN l then(1:Int)else 0)=if r=2*t+bN l then 1 else 0:=fun r=>by simp[ht]
   rw[cN,cN,cN,cN,cS,cD,qT,ag (show ¬(t=2/\b=true)from fun q=>t2 q.1),fT,bK.mpr t3,ih false (nxF la t) (fun q=>by cases q),af ht,af ht,ag t2,e,e,e,e];exact Fe (L:=fun r=>L r n) (bN4 ht)
  ·have h3:t=2\/t=3\/t=4:=wc (hi t (.head _)) (Nat.not_lt.mp ht) (.inl rfl) (.inr (.inl rfl)) (.inr (.inr rfl))
   rcases h3 with rfl | rfl | rfl
   ·cases b with
    |true=>
     rw[hb rfl];show((1:Int)+(n:Int))+((1+0)+fT la L n false (qT false w))=(0+cN la 0 false w)*L 0 n+(0+cN la 1 false w)*L 1 n+(0+cN la 2 false w)*L 2 n+(0+cN la 3 false w)*L 3 n+((1+1)+cS false w)+n*(1+cD la false w);rw[ih false false id,<-Int.add_assoc];exact yl (by lia)
    |false=>
     cases l with
     |true=>
      show((1:Int)+(n:Int))+fT la L n false (qT false w)=(0+cN la 0 false w)*L 0 n+(0+cN la 1 false w)*L 1 n+(0+cN la 2 false w)*L 2 n+(0+cN la 3 false w)*L 3 n+((1+0)+cS false w)+n*(1+cD la false w);rw[ih false false id];exact yl (by lia)
     |false=>
      show((1:Int)+0)+fT la L n false (qT false w)=(0+cN la 0 false w)*L 0 n+(0+cN la 1 false w)*L 1 n+(0+cN la 2 false w)*L 2 n+(0+cN la 3 false w)*L 3 n+((1+0)+cS false w)+n*(0+cD la false w);rw[ih false false id];exact yl (by lia)
   ·show(2:Int)+fT la L n true (qT true w)=(0+cN la 0 true w)*L 0 n+(0+cN la 1 true w)*L 1 n+(0+cN la 2 true w)*L 2 n+(0+cN la 3 true w)*L 3 n+(2+cS true w)+n*(0+cD la true w)
    rw[ih true true id];exact yl (by lia)
   ·show(1:Int)+fT la L n false (qT false w)=(0+cN la 0 false w)*L 0 n+(0+cN la 1 false w)*L 1 n+(0+cN la 2 false w)*L 2 n+(0+cN la 3 false w)*L 3 n+(1+cS false w)+n*(0+cD la false w)
    rw[ih false false id];exact yl (by lia)
noncomputable def gtT(w0 w1:List Nat)(t:Nat):List Nat:=if t=0 then w0 else if t=1 then w1 else[t]
theorem uZ{w0 w1:List Nat}(h0:be w0)(h1:be w1)(n:Nat)(hla0:∀b,kI b w0=la 0)(hla1:∀b,kI b w1=la 1)(hL:∀t l,t<2->L (2*t+bN l) (n+1)=cN la 0 l (gtT w0 w1 t)*L 0 n+cN la 1 l (gtT w0 w1 t)*L 1 n+cN la 2 l (gtT w0 w1 t)*L 2 n+cN la 3 l (gtT w0 w1 t)*L 3 n+cS l (gtT w0 w1 t)+n*cD la l (gtT w0 w1 t)):
  ∀(T:List Nat) (l:Bool),(∀i∈T,i<5)->fT la L (n+1) l T=fT la L n l (qT l (T.flatMap (gtT w0 w1)))
 |[],_,_=>rfl
 |t::T,l,hi=>by
  obtain t5:=hi t (.head _);rw[fT,jS,mD,th];obtain ih:=uZ h0 h1 n hla0 hla1 hL T (nxF la t) fun i h=>hi i (.tail _ h);rw[ih];by_cases ht:t<2
  ·obtain hw:be (gtT w0 w1 t):=by
    unfold gtT;by_cases h:t=0
    ·rw[af h];exact h0
    ·rw[ag h,af (by lia)];exact h1
   obtain hq:∀b,kI b (gtT w0 w1 t)=la t:=by
    intro b;unfold gtT;by_cases h:t=0
    ·rw[af h,h];exact hla0 b
    ·rw[ag h,af (by lia),show t=1 by lia];exact hla1 b
   obtain hn:nxF la t=la t:=af ht;obtain e1:=pX (la:=la) (L:=L) n (gtT w0 w1 t) l l id hw.lt;rw[af ht,hL t l ht,<-e1,hq,hn];obtain e2:rA la l (qT l (gtT w0 w1 t))=la t:=by
    rw[<-hq l];obtain⟨u,x,e,_,_,h3,h4⟩:=hw;rw[e,mD,n7,fR];have:∀b l',rA la l' (qT b [x])=kI b [x]:=fun b l'=>by
     refine wc h4 h3 ?_ ?_ ?_
     ·cases b<;>rfl
     ·rfl
     ·rfl
    rw[this]
   rw[e2]
  ·obtain hg:gtT w0 w1 t=[t]:=by unfold gtT;rw[ag (by lia),ag (by lia)]
   rw[hg,ag ht];have:t=2\/t=3\/t=4:=by lia
   rcases this with rfl | rfl | rfl
   ·cases l with
    |true=>
     show(1+((n+1:Nat):Int))+_=((1+(n:Int))+((1+0)+0))+fT la L n false (qT false _);obtain e:nxF la 2=false:=rfl;rw[e];lia
    |false=>
     show((1:Int)+0)+_=((1+0)+0)+fT la L n false (qT false _);obtain e:nxF la 2=false:=rfl;rw[e];lia
   ·show(2:Int)+_=(2+0)+fT la L n true (qT true _)
    obtain e:nxF la 3=true:=rfl;rw[e];lia
   ·show(1:Int)+_=(1+0)+fT la L n false (qT false _)
    obtain e:nxF la 4=false:=rfl;rw[e];lia
end
end
section
open Builtin Builtin.Str StrLaws
noncomputable def mJ(pat:List Nat):Nat->Nat->List Nat->List Nat
 |_,_,[]=>[]
 |pos,free,x::r=>if free<=pos/\pat<+:x::r then pos::mJ pat (pos+1) (pos+pat.length) r else mJ pat (pos+1) free r
theorem vI{l pre suf pat:List Nat}(h:l=pre++suf):(pre.length+(Str.length ⟨pat.toArray⟩)<=l.length/\subAt ⟨l.toArray⟩ ⟨pat.toArray⟩ pre.length=true)↔pat<+:suf:=by
 obtain hl:Str.length ⟨pat.toArray⟩=pat.length:=rfl;rw[hl];obtain e:(l.toArray.extract pre.length (pre.length+pat.length)).toList=suf.take pat.length:=by
  rw[Array.toList_extract];rw[List.extract_eq_take_drop,h,List.drop_left,nI]
 obtain e2:subAt ⟨l.toArray⟩ ⟨pat.toArray⟩ pre.length=true↔suf.take pat.length=pat:=by
  unfold subAt;rw[hl];rw[beq_iff_eq,<-Array.toList_inj,e]
 rw[e2,List.prefix_iff_eq_take];constructor
 ·intro q;exact q.2.symm
 ·intro q
  refine⟨?_,q.symm⟩;have:=aq List.length q;rw[List.length_take]at this;rw[h,aG];lia
theorem sM{l pat:List Nat}(hp:pat≠[]):∀(suf pre:List Nat) (found:Array Nat) (free:Nat),l=pre++suf->found.size<=pre.length ->
  (forIn (List.range' pre.length (suf.length+1)) (found,free) (occBody ⟨l.toArray⟩ ⟨pat.toArray⟩ l.length (l.length+1))).run.fst.toList=found.toList++mJ pat pre.length free suf
 |[],pre,found,free,h,hf=>by
  rw[List.length_nil,Nat.zero_add,mJ,bQ];rw[show List.range' pre.length 1=[pre.length]from rfl,List.forIn_cons];unfold occBody;rw[ag]
  ·rfl
  ·rintro⟨⟨_,q⟩,_⟩
   rw[h,bQ]at q;have:Str.length ⟨pat.toArray⟩=pat.length:=rfl;rw[this]at q
   cases pat with
   |nil=>exact hp rfl
   |cons a b=>rw[List.length_cons]at q;lia
 |x::suf,pre,found,free,h,hf=>by
  obtain hl:l.length=pre.length+suf.length+1:=by rw[h,aG,List.length_cons];lia
  obtain hpre:(pre++[x]).length=pre.length+1:=by rw[aG];rfl
  rw[List.length_cons,List.range'_succ,List.forIn_cons];obtain step:=vI (pat:=pat) h;unfold occBody;rw[mJ];by_cases c:free<=pre.length/\pat<+:x::suf
  ·obtain c1:=(step.mpr c.2).1
   obtain c2:=(step.mpr c.2).2;rw[af c,af ⟨⟨⟨by show found.size<_;lia,c.1⟩,c1⟩,c2⟩];obtain ih:=sM (l:=l) hp suf (pre++[x]) (found.push pre.length) (pre.length+pat.length) (by rw[h,bX];rfl) (by rw[Array.size_push,hpre];lia);rw[hpre]at ih;exact ih.trans (by rw[Array.toList_push,bX];rfl)
  ·rw[ag c,ag (fun q=>c ⟨q.1.1.2,step.mp ⟨q.1.2,q.2⟩⟩)]
   obtain ih:=sM (l:=l) hp suf (pre++[x]) found free (by rw[h,bX];rfl) (by rw[hpre];lia);rw[hpre]at ih;exact ih
theorem y5{l pat:List Nat}(hp:pat≠[]):occurrences ⟨l.toArray⟩ ⟨pat.toArray⟩ 0 (Str.length ⟨l.toArray⟩) (Str.length ⟨l.toArray⟩+1)=mJ pat 0 0 l:=by
 obtain hl:Str.length ⟨l.toArray⟩=l.length:=rfl;simp only[hl,occ_eq];have:=sM hp l [] #[] 0 rfl (bS _);simp only[List.length_nil]at this;exact this
noncomputable def jM(k pos:Nat):List (List Nat)->List Nat
 |[]=>[]
 |[_]=>[]
 |P::Q::r=>(pos+P.length)::jM k (pos+P.length+k) (Q::r)
section
variable{a:Nat}{st:List Nat}
theorem mH{P r:List Nat}(h:a∉P):∀(pos free:Nat),mJ (a::st) pos free (P++r)=mJ (a::st) (pos+P.length) free r:=by
 induction P with
 |nil=>intro pos free;rfl
 |cons x P ih=>
  intro pos free;rw[List.cons_append,mJ,ag,ih (fun q=>h (.tail _ q)),List.length_cons]
  ·congr 1;lia
  ·rintro⟨_,t,q⟩
   exact h (by rw[<-(List.cons.inj q).1];exact .head _)
theorem mI(hs:a∉st):∀(ps:List (List Nat)) (pos free:Nat),(∀P∈ps,a∉P)->free<=pos->mJ (a::st) pos free (aD (a::st) ps)=jM (st.length+1) pos ps:=by
 intro ps
 induction ps with
 |nil=>exact fun U U U U=>rfl
 |cons P ps mI=>
  intro pos free h hf
  cases ps with
  |nil=>
   obtain e:=mH (st:=st) (r:=[]) (h P (.head _)) pos free;rw[bQ]at e;rw[aD,e];rfl
  |cons Q r=>
   rw[aD,mH (h P (.head _)),List.cons_append,mJ,af ⟨by lia,by rw[<-List.cons_append];exact List.prefix_append _ _⟩,mH hs,jM,
    mI _ _ (fun x hx=>h x (.tail _ hx)) (by simp;lia)]
   congr 2;lia
end
theorem jb(sep:List Nat):∀(ps:List (List Nat)) (l pre:List Nat),ps≠[]->l=pre++aD sep ps ->
  ((pre.length::(jM sep.length pre.length ps).map (·+sep.length)).zip (jM sep.length pre.length ps++[l.length])).map (fun(i,j)=>strSub ⟨l.toArray⟩ i j)=ps.map fun P=>(⟨P.toArray⟩:Str):=by
 intro ps
 induction ps with
 |nil=>exact fun U U h U=>absurd rfl h
 |cons P ps jb=>
  intro l pre _ h
  cases ps with
  |nil=>
   show[strSub ⟨l.toArray⟩ pre.length l.length]=[⟨P.toArray⟩]
   congr 1
   unfold strSub
   congr 1
   simp only[<-Array.toList_inj,Array.toList_extract];show l.extract _ _=P;simp only[List.extract_eq_take_drop,h,List.drop_left,aG,nI];exact List.take_length
  |cons Q r=>
   obtain e1:strSub ⟨l.toArray⟩ pre.length (pre.length+P.length)=⟨P.toArray⟩:=by
    unfold strSub
    congr 1
    simp only[<-Array.toList_inj,Array.toList_extract];show l.extract _ _=P;simp only[List.extract_eq_take_drop,h,List.drop_left,nI,aD,List.take_left]
   obtain hp:(pre++P++sep).length=pre.length+P.length+sep.length:=by simp only[aG,aG]
   obtain ih:=jb l (pre++P++sep) (by simp) (by simp only[h,aD,bX,bX]);simp only[hp]at ih;simp only[jM,bc,List.cons_append,List.zip_cons_cons,bc,ih,bc (l:=Q::r)];exact aq (·::_) e1
section
variable{a:Nat}{st:List Nat}{ps:List (List Nat)}
theorem mF(hs:a∉st)(h:∀P∈ps,a∉P)(h1:ps≠[]):occurrences (strOf (aD (a::st) ps)) (strOf (a::st)) 0 (Str.length (strOf (aD (a::st) ps))) (Str.length (strOf (aD (a::st) ps))+1)=jM (st.length+1) 0 ps /\
  partsBetween (strOf (aD (a::st) ps)) (jM (st.length+1) 0 ps) (Str.length (strOf (a::st)))=ps.map strOf:=
 ⟨(y5 (by simp)).trans (mI hs ps 0 0 h (bS _)),jb (a::st) ps _ [] h1 rfl⟩
theorem vm{P Q:List Nat}{r:List (List Nat)}{k:Nat}:(jM k 0 (P::Q::r)).isEmpty=false:=rfl
theorem AC{z:List Nat}(hs:a∉st)(h:∀P∈ps,a∉P)(h1:ps≠[]):(Txt.replace (strOf (aD (a::st) ps)) (strOf (a::st)) (strOf z)).cps.toList=aD z ps:=by
 obtain e1:=(mF hs h h1).1;obtain e2:=(mF hs h h1).2;obtain g:(Builtin.Str.glued (strOf z) (ps.map strOf)).cps.toList=aD z ps:=uJ z ps;obtain l0:(Str.length (strOf (a::st))==0)=false:=rfl;unfold Txt.replace;rw[e1,e2,l0,Bool.false_and,Bool.or_false];clear e1 e2 h l0
 cases ps with
 |nil=>exact absurd rfl h1
 |cons P ps=>
  cases ps with
  |nil=>rfl
  |cons Q r=>
   rw[vm,ag Bool.noConfusion];exact g
theorem mR(sep:List Nat)(ps:List (List Nat)):(ps.map List.length).sum<=(aD sep ps).length/\(1<=sep.length->ps.length<=(aD sep ps).length+1):=by
 induction ps with
 |nil=>exact⟨bS _,fun U=>cO _⟩
 |cons P ps ih=>
  cases ps with
  |nil=>exact⟨by simp[aD],fun U=>by simp⟩
  |cons Q r=>
   rw[aD,aG,aG,bc,List.sum_cons,List.length_cons];exact⟨by have:=ih.1;lia,fun h=>by have:=ih.2 h;lia⟩
theorem xh(h:∀P∈ps,10∉P)(h2:2<=ps.length)(hl:(aD [10] ps).length<=1000000):mtV .split (.str (aD [10] ps)) [.str [10]]=some (.lst (ps.map V.str)):=by
 obtain⟨P,Q,r,rfl⟩:Ex3 fun P Q r=>ps=P::Q::r:=by
  clear h hl
  cases ps with
  |nil=>cases h2
  |cons P ps=>
   cases ps with
   |nil=>exact absurd h2 (show ¬2<=1 by decide)
   |cons Q r=>exact⟨P,Q,r,rfl⟩
 obtain⟨e1,e2⟩:=mF (a:=10) (st:=[]) cM h (by simp);obtain j:=mR [10] (P::Q::r);obtain hlen:1<=(aD [10] (P::Q::r)).length:=by rw[aD,aG,aG];simp;lia
 obtain k1:Builtin.Str.strKind (strOf [10])=1:=by decide +kernel
 obtain k2:1<=Builtin.Str.strKind (strOf (aD [10] (P::Q::r))):=by unfold Builtin.Str.strKind;split;exact bS _;split<;>decide
 obtain hs:Str.length (strOf (aD [10] (P::Q::r)))=(aD [10] (P::Q::r)).length:=rfl;obtain hs2:Str.length (strOf [10])=1:=rfl;obtain c1:(decide (Str.length (strOf (aD [10] (P::Q::r)))<Str.length (strOf [10]))||decide (Builtin.Str.strKind (strOf (aD [10] (P::Q::r)))<Builtin.Str.strKind (strOf [10])))=false:=by
  rw[hs,hs2,k1,cY (by lia),cY (by lia)];rfl
 obtain sz:sizeLine=16777216:=by decide
 obtain j2:=j.2 (bS _);obtain ok:ox (strOf (aD [10] (P::Q::r))) (strOf [10])=true:=by
  unfold ox;rw[c1,e1,e2,aC,sz,dp (show Str.length (strOf (aD [10] (P::Q::r)))<=16777216 by rw[hs];lia),dp (show(P::Q::r).length<=16777216 by lia)];rfl
 obtain sp:Txt.split (strOf (aD [10] (P::Q::r))) (strOf [10])=(P::Q::r).map strOf:=by
  unfold Txt.split;rw[c1,e1,e2,ag (by decide),vm,ag (by decide)]
 show(if ox (strOf (aD [10] (P::Q::r))) (strOf [10])=true then some (V.lst ((Txt.split (strOf (aD [10] (P::Q::r))) (strOf [10])).map fun s=>.str s.cps.toList))else none)=_;rw[af ok,sp,dI];rfl
end
theorem CW(r:List Nat):(Txt.slice (strOf r) none (some 1)).cps.toList=r.take 1:=by
 cases r with
 |nil=>rfl
 |cons c t=>
  obtain hl:Str.length (strOf (c::t))=t.length+1:=rfl;have e:strSliceIndices none (some 1) 1 (t.length+1)=[0]:=by
   obtain hm:min (1:Int) ((t.length+1:Nat):Int)=1:=Int.min_eq_left (by omega);show sliceRange 0 (max 0 (min (1:Int) ((t.length+1:Nat):Int))) 1=_;rw[hm];rfl
  unfold Txt.slice;rw[hl,e]
  cases t with
  |nil=>rfl
  |cons d t=>rw[ag (by simp)];rfl
end
section
noncomputable def dotRow(r:List Nat):List Nat:=if r.take 1=[46]then 46::r else r
noncomputable def dq:Bool->List Nat->List Nat
 |_,[]=>[]
 |b,c::r=>if c=10 then 13::10::dq true r else if b=true/\c=46 then 46::46::dq false r else c::dq false r
theorem bM(sep:List Nat)(c:Nat)(P:List Nat)(r:List (List Nat)):aD sep ((c::P)::r)=c::aD sep (P::r):=by
 cases r<;>rfl
theorem f9(sep P:List Nat)(r:List (List Nat)):aD sep ([]::P::r)=sep++aD sep (P::r):=rfl
theorem mu:∀m:List Nat,Ex2 fun P Ps=>gx ((∀Q∈P::Ps,10∉Q)) (aD [10] (P::Ps)=m) (aD [13,10] (P::Ps.map dotRow)=dq false m) (aD [13,10] (dotRow P::Ps.map dotRow)=dq true m):=by
 intro m
 induction m with
 |nil=>
  exact⟨[],[],by simp,rfl,rfl,rfl⟩
 |cons c m mu=>
  obtain⟨P,Ps,h1,h2,h3,h4⟩:=mu;by_cases hc:c=10
  ·subst hc
   refine⟨[],P::Ps,?_,?_,?_,?_⟩
   ·intro Q hQ
    rcases aM.mp hQ with rfl | hQ
    ·exact cM
    ·exact h1 Q hQ
   ·rw[f9,h2];rfl
   ·rw[bc,f9,h4];rfl
   ·rw[bc]
    show aD [13,10] ([]::dotRow P::Ps.map dotRow)=_;rw[f9,h4];rfl
  ·refine⟨c::P,Ps,?_,?_,?_,?_⟩
   ·intro Q hQ
    rcases aM.mp hQ with rfl | hQ
    ·intro q
     cases q with
     |head=>exact hc rfl
     |tail _ q=>exact h1 P (.head _) q
    ·exact h1 Q (.tail _ hQ)
   ·rw[bM,h2]
   ·rw[bM,h3,dq,ag hc,ag fun q=>by cases q.1]
   ·rw[dq,ag hc]
    unfold dotRow;by_cases h46:c=46
    ·subst h46
     rw[af (show((46::P).take 1=[46])from rfl),af ⟨rfl,rfl⟩,bM,bM,<-h3];rfl
    ·rw[ag (show ¬((c::P).take 1=[46])from fun q=>h46 (List.cons.inj q).1),ag fun q=>h46 q.2,bM,<-h3]
     rfl
inductive MxR(n0 n1:Nat):List Nat->List Nat->Prop
 |nil:MxR n0 n1 [] []
 |crlf {l u:List Nat}:MxR n0 n1 l u->MxR n0 n1 (13::10::l) (3::u)
 |lf {l u:List Nat}:MxR n0 n1 l u->MxR n0 n1 (10::l) (3::u)
 |ch {l u:List Nat}{t:Nat}:t<5->t≠3->MxR n0 n1 l u->MxR n0 n1 (sg n0 n1 t::l) (t::u)
noncomputable def chC(n0 n1 t:Nat):List Nat:=if t=3 then[13,10]else[sg n0 n1 t]
noncomputable def txt(n0 n1:Nat)(T:List Nat):List Nat:=T.flatMap (chC n0 n1)
section
variable{n0 n1:Nat}
theorem MxR.app{l u l' u':List Nat}(h:MxR n0 n1 l u)(h':MxR n0 n1 l' u'):MxR n0 n1 (l++l') (u++u'):=by
 induction h with
 |nil=>exact h'
 |crlf _ ih=>exact .crlf ih
 |lf _ ih=>exact .lf ih
 |ch h1 h2 _ ih=>exact .ch h1 h2 ih
theorem MxR.word:∀(w:List Nat),(∀i∈w,i<5)->MxR n0 n1 (w.map (sg n0 n1)) w:=by
 intro w
 induction w with
 |nil=>
  intro _;exact .nil
 |cons t w zih=>
  intro h;have ih:=zih fun i hi=>h i (.tail _ hi);by_cases t3:t=3
  ·subst t3;exact .lf ih
  ·exact .ch (h t (.head _)) t3 ih
theorem uk(g0:256<=n0)(g1:256<=n1){t:Nat}(ht:t<5)(t3:t≠3):sg n0 n1 t≠13/\sg n0 n1 t≠10/\(sg n0 n1 t=46↔t=2):=by
 refine Gv ht t3 ?_ ?_ ?_ ?_
 ·exact⟨by show n0≠_;lia,by show n0≠_;lia,by show n0=46↔_;lia⟩
 ·exact⟨by show n1≠_;lia,by show n1≠_;lia,by show n1=46↔_;lia⟩
 ·exact⟨by show(46:Nat)≠13;decide,by show(46:Nat)≠10;decide,by show(46:Nat)=46↔2=2;decide⟩
 ·exact⟨by show(255:Nat)≠13;decide,by show(255:Nat)≠10;decide,by show(255:Nat)=46↔4=2;decide⟩
theorem MxR.quo(g0:256<=n0)(g1:256<=n1){l u:List Nat}(h:MxR n0 n1 l u):∀b,bp b (crGo false l)=txt n0 n1 (qT b u):=by
 induction h with
 |nil=>intro b;rfl
 |@crlf l u _ ih=>
  intro b;have e:bp b (crGo false (13::10::l))=13::10::bp true (crGo false l):=by cases b<;>rfl
  have e2:qT b (3::u)=3::qT true u:=by cases b<;>rfl
  rw[e,e2,ih];rfl
 |@lf l u _ ih=>
  intro b;have e:bp b (crGo false (10::l))=13::10::bp true (crGo false l):=by cases b<;>rfl
  have e2:qT b (3::u)=3::qT true u:=by cases b<;>rfl
  rw[e,e2,ih];rfl
 |@ch l u t ht t3 _ ih=>
  intro b;obtain s1:=(uk g0 g1 ht t3).1;obtain s2:=(uk g0 g1 ht t3).2.1;obtain s3:=(uk g0 g1 ht t3).2.2;rw[crGo,ag s1,ag s2,bp,qT];obtain s4:(sg n0 n1 t==10)=false:=bK.mpr s2;obtain t4:(t==3)=false:=bK.mpr t3;by_cases h:t=2/\b=true
  ·rw[af h,af (by rw[h.2,h.1];rfl),ih];rfl
  ·rw[ag h,ag (fun q=>h (by obtain⟨q1,q2⟩:=Bool.and_eq_true_iff.mp q;exact⟨s3.mp (aB q2),q1⟩)),s4,t4,ih]
   unfold txt;rw[jS];unfold chC;rw[ag t3];rfl
theorem MxR.pieces(g0:256<=n0)(g1:256<=n1){l u:List Nat}(h:MxR n0 n1 l u):Ex2 fun P Ps=>gx ((∀Q∈P::Ps,13∉Q)) (aD [13,10] (P::Ps)=l) ((∀b,bp b (crGo false l)=dq b (aD [10] (P::Ps)))) ((3∈u->10∈aD [10] (P::Ps))):=by
 induction h with
 |nil=>exact⟨[],[],by simp,rfl,fun U=>rfl,fun q=>absurd q cM⟩
 |@crlf l u _ ih=>
  refine byG fun gG kG=>?_;obtain⟨P,Ps,h1,h2,h3,h4⟩:=ih;refine kG ?_;refine⟨[],P::Ps,?_,?_,fun b=>?_,fun U=>?_⟩
  ·intro Q hQ
   rcases aM.mp hQ with rfl | hQ
   ·exact cM
   ·exact h1 Q hQ
  ·rw[f9,h2];rfl
  ·obtain e:bp b (crGo false (13::10::l))=13::10::bp true (crGo false l):=by cases b<;>rfl
   rw[e,h3,f9];rfl
  ·rw[f9];exact .head _
 |@lf l u _ ih=>
  refine byG fun gG kG=>?_;obtain⟨P,Ps,h1,h2,h3,h4⟩:=ih;refine kG ?_;refine⟨10::P,Ps,?_,?_,fun b=>?_,fun U=>?_⟩
  ·intro Q hQ
   rcases aM.mp hQ with rfl | hQ
   ·intro q
    cases q with
    |tail _ q=>exact h1 P (.head _) q
   ·exact h1 Q (.tail _ hQ)
  ·rw[bM,h2]
  ·obtain e:bp b (crGo false (10::l))=13::10::bp true (crGo false l):=by cases b<;>rfl
   rw[e,h3,bM];rfl
  ·rw[bM];exact .head _
 |@ch l u t ht t3 _ ih=>
  refine byG fun gG kG=>?_;obtain⟨P,Ps,h1,h2,h3,h4⟩:=ih;obtain⟨s1,s2,s3⟩:=uk g0 g1 ht t3;refine kG ?_;obtain s4:(sg n0 n1 t==10)=false:=bK.mpr s2;refine⟨sg n0 n1 t::P,Ps,?_,?_,fun b=>?_,fun q=>?_⟩
  ·intro Q hQ
   rcases aM.mp hQ with rfl | hQ
   ·intro q
    rcases aM.mp q with q | q
    ·exact s1 q.symm
    ·exact h1 P (.head _) q
   ·exact h1 Q (.tail _ hQ)
  ·rw[bM,h2]
  ·rw[crGo,ag s1,ag s2,bp,bM,dq,ag s2,s4,h3]
   by_cases q:b=true/\sg n0 n1 t=46
   ·rw[af q,af (by rw[q.1,q.2];rfl)]
   ·rw[ag q,ag fun r=>q (by obtain⟨q1,q2⟩:=Bool.and_eq_true_iff.mp r;exact⟨q1,aB q2⟩)]
  ·rw[bM]
   refine .tail _ (h4 ?_);rcases aM.mp q with q | q
   ·exact absurd q.symm t3
   ·exact q
end
section
variable{Φ:Fun}{N:Nat}
noncomputable def FR:E:=.meth .join (.const (.str [13,10])) [(.comp1 [none,none] (.one 1) (.exp (.var 1)) [] (.ife (.cmp .Eq (.slice (.var 1) (.const (.none)) (.const (.int 1)) (.const (.none))) (.const (.str [46]))) (.bin .Add (.const (.str [46])) (.var 1)) (.var 1)))]
theorem FQ:gh=[.spl 1 0 [13,10] [10] [10],.ret FR]:=rfl
theorem lQ{i:Nat}{ρ:Ro}{l:List V}(h:ρ[i]?=some (.val (.lst l)))(hl:l.length<=1000000):eu Φ (.exp (.var i)) ρ=some l:=
 (bd (dA (Φ:=Φ) h)).trans (af (ai hl (by decide)))
theorem Bt{ρ:Ro}{r:List Nat}(h:ρ[1]?=some (.val (.str r)))(hl:r.length<=200000):ev Φ (.ife (.cmp .Eq (.slice (.var 1) (.const (.none)) (.const (.int 1)) (.const (.none))) (.const (.str [46]))) (.bin .Add (.const (.str [46])) (.var 1)) (.var 1)) ρ=some (.str (dotRow r)):=by
 obtain s:gH (.str r) none (some 1) none=some (.str (r.take 1)):=by
  show(if r.length<=szLine then some (V.str (Txt.slice (strOf r) none (some 1)).cps.toList)else none)=_;rw[af (ai hl (by decide)),CW]
 obtain c:evb Φ (.cmp .Eq (.slice (.var 1) (.const (.none)) (.const (.int 1)) (.const (.none))) (.const (.str [46]))) ρ=some (r.take 1==[46]):=
  bC (lI (aN h) rfl rfl rfl rfl rfl rfl s) rfl rfl
 refine ni c ?_;unfold dotRow;by_cases q:r.take 1=[46]
 ·rw[af q,q]
  exact aP rfl (aN h) (add_str (by show 1+r.length<=_;lia))
 ·rw[ag q,bK.mpr q]
  exact dA (Φ:=Φ) h
theorem jd{r:List Nat}:∀{l:List (List Nat)},r∈l->r.length<=(l.map List.length).sum:=by
 intro xs
 induction xs with
 |nil=>
  intro zv1
  first | exact nomatch zv1 | contradiction
 |cons x xs jd=>
  intro hr;simp only[bc,List.sum_cons]
  cases hr with
  |head=>lia
  |tail _ h=>have:=jd h;lia
theorem qb:∀l:List (List Nat),((l.map dotRow).map List.length).sum<=(l.map List.length).sum+l.length:=by
 intro xs
 induction xs with
 |nil=>
  exact bS _
 |cons x xs qb=>
  have ih:=qb;simp only[bc,List.sum_cons,List.length_cons];have:(dotRow x).length<=x.length+1:=by unfold dotRow;split<;>simp
  lia
theorem uH:∀ps:List (List Nat),(aD [10] ps).length<=(aD [13,10] ps).length
 |[]=>bS _
 |[P]=>bS _
 |P::Q::r=>by
  obtain ih:=uH (Q::r);simp only[aD,aG,List.length_cons,List.length_nil]at ih ⊢;lia
theorem zn{n0 n1:Nat}(g0:256<=n0)(g1:256<=n1){l u:List Nat}(hm:MxR n0 n1 l u)(h3:3∈u)(hl:l.length<=100000):evV Φ N [some 0,none] 1 gh [.str l]=some (.str (fH l)):=by
 refine byG fun gG kG=>?_;obtain⟨P,Ps,p1,p2,p3,p4⟩:=hm.pieces g0 g1;obtain⟨R,Rs,r1,r2,r3,r4⟩:=mu (aD [10] (P::Ps));refine kG ?_;have hq:fH l=aD [13,10] ((R::Rs).map dotRow):=by rw[fH,p3,<-r4];rfl
 obtain jl:=(mR [13,10] (P::Ps));have ml:(aD [10] (P::Ps)).length<=l.length:=by rw[<-p2];exact uH _
 obtain nl:=mR [10] (R::Rs);rw[r2]at nl;obtain n2:=nl.2 (bS _);have R2:2<=(R::Rs).length:=by
  cases Rs with
  |nil=>
   have:R=aD [10] (P::Ps):=r2;exact absurd (this▸p4 h3) (r1 R (.head _))
  |cons Q r=>show 2<=r.length+1+1;lia
 have sp:Am l [13,10] [10] [10]=some (.lst ((R::Rs).map V.str)):=by
  refine(af ⟨ai hl (by decide),by decide,by decide⟩).trans ?_;have:=AC (a:=13) (st:=[10]) (z:=[10]) (by decide) p1 (List.cons_ne_nil _ _);rw[p2]at this;rw[this,<-r2];exact xh r1 R2 (by rw[r2];lia)
 obtain hR:∀r∈R::Rs,r.length<=100000:=fun r hr=>by
  have:=jd hr;lia
 have c1:ev Φ (.comp1 [none,none] (.one 1) (.exp (.var 1)) [] (.ife (.cmp .Eq (.slice (.var 1) (.const (.none)) (.const (.int 1)) (.const (.none))) (.const (.str [46]))) (.bin .Add (.const (.str [46])) (.var 1)) (.var 1))) [.val (.str l),.val (.lst ((R::Rs).map V.str))]=some (.lst (((R::Rs).map dotRow).map V.str)):=by
  refine jj (items:=(R::Rs).map V.str) (lQ rfl (by rw[aC];lia)) ?_ (by rw[aC,aC];exact ai n2 (ai (fF (ai ml hl) 1) (by decide)));rw[dI];exact iu fun r hr=>kT rfl rfl (Bt rfl (ai (hR r hr) (by decide)))
 obtain jl2:=qb (R::Rs);have c2:ev Φ FR [.val (.str l),.val (.lst ((R::Rs).map V.str))]=some (.str (fH l)):=by
  rw[hq];exact tC rfl (f7 c1 rfl) (uI (by rw[aC];show _+_*2<=_;lia))
 rw[FQ];refine iw rfl (.nxt (ρ':=[.val (.str l),.val (.lst ((R::Rs).map V.str))]) ?_ (.ret rfl c2));show(Am l [13,10] [10] [10]).bind _=_;rw[sp];rfl
end
end
section
noncomputable def laW(w0 w1:List Nat)(t:Nat):Bool:=kI false (gtT w0 w1 t)
noncomputable def nW(w0 w1:List Nat)(s r:Nat):Int:=cN (laW w0 w1) r (s%2==1) (gtT w0 w1 (bif s/2==0 then 0 else 1))
noncomputable def sW(w0 w1:List Nat)(s:Nat):Int:=cS (s%2==1) (gtT w0 w1 (bif s/2==0 then 0 else 1))
noncomputable def dW(w0 w1:List Nat)(s:Nat):Int:=cD (laW w0 w1) (s%2==1) (gtT w0 w1 (bif s/2==0 then 0 else 1))
noncomputable def ym(n:Nat->Nat->Int)(S D:Nat->Int):Nat->Nat->Int
 |0,_=>1
 |k+1,s=>n s 0*ym n S D k 0+n s 1*ym n S D k 1+n s 2*ym n S D k 2+n s 3*ym n S D k 3+S s+k*D s
noncomputable def lW(w0 w1:List Nat)(s k:Nat):Int:=ym (nW w0 w1) (sW w0 w1) (dW w0 w1) k s
section
variable{w0 w1:List Nat}
theorem jg(h0:be w0)(h1:be w1){t:Nat}(ht:t<2):be (gtT w0 w1 t):=by
 refine lt2 ht ?_ ?_
 ·exact h0
 ·exact h1
theorem md(b:Bool):(bif b then 0 else 1)<2:=by cases b<;>decide
theorem wX{X:Int}(hX:65536<=X)(h0:be w0)(h1:be w1):Sys X (nW w0 w1) (sW w0 w1) (dW w0 w1) (lW w0 w1) where
 X:=hX
 n0:=fun s r=>kL r _ _
 nr:=fun s=>aY (tH _ _) (cP.mpr (jg h0 h1 (md _)).names)
 S0:=fun s=>(vz _ _).1
 S1:=fun s=>by have:=(vz (gtT w0 w1 (bif s/2==0 then 0 else 1)) (s%2==1)).2;have:=(jg h0 h1 (md (s/2==0))).len;unfold sW;lia
 D0:=fun s=>(vA _ _).1
 D1:=fun s=>by have:=(vA (la:=laW w0 w1) (gtT w0 w1 (bif s/2==0 then 0 else 1)) (s%2==1)).2;have:=(jg h0 h1 (md (s/2==0))).len;unfold dW;lia
 L0:=fun U=>rfl
 Ls:=fun U U=>rfl
theorem rv(h:be w0)(b:Bool):kI b w0=kI false w0:=by
 obtain⟨u,x,rfl,_⟩:=h;rw[fR,fR];rfl
theorem xC(t:Nat)(l:Bool)(ht:t<2):((2*t+bN l)%2==1)=l/\(bif (2*t+bN l)/2==0 then 0 else 1)=t:=by
 refine lt2 ht ?_ ?_
 ·cases l<;>decide
 ·cases l<;>decide
theorem FF(h0:be w0)(h1:be w1)(n:Nat)(T:List Nat)(l:Bool)(hi:∀i∈T,i<5):fT (laW w0 w1) (lW w0 w1) (n+1) l T=fT (laW w0 w1) (lW w0 w1) n l (qT l (T.flatMap (gtT w0 w1))):=by
 refine uZ h0 h1 n (rv h0) (rv h1) (fun t l ht=>?_) T l hi;obtain e1:=(xC t l ht).1;obtain e2:=(xC t l ht).2;show nW w0 w1 (2*t+bN l) 0*lW w0 w1 0 n+nW w0 w1 (2*t+bN l) 1*lW w0 w1 1 n+nW w0 w1 (2*t+bN l) 2*lW w0 w1 2 n+nW w0 w1 (2*t+bN l) 3*lW w0 w1 3 n+sW w0 w1 (2*t+bN l)+n*dW w0 w1 (2*t+bN l)=_;unfold nW sW dW;rw[e1,e2]
noncomputable def tk(w0 w1:List Nat):Nat->List Nat
 |0=>[2,0,3,1]
 |k+1=>qT true ((tk w0 w1 k).flatMap (gtT w0 w1))
theorem F9{u:List Nat}(h:∀i∈u,i<5):∀b,∀i∈qT b u,i<5:=by
 induction u with
 |nil=>intro b i hi;exact absurd hi cM
 |cons t u ih=>
  intro b i hi;obtain ih:=ih fun i hi=>h i (.tail _ hi);unfold qT at hi
  split at hi
  ·rcases aM.mp hi with rfl | hi
   ·decide
   ·rcases aM.mp hi with rfl | hi
    ·decide
    ·exact ih _ i hi
  ·rcases aM.mp hi with rfl | hi
   ·exact h _ (.head _)
   ·exact ih _ i hi
theorem DW(h0:be w0)(h1:be w1){t:Nat}(ht:t<5):∀i∈gtT w0 w1 t,i<5:=by
 unfold gtT
 split
 ·exact h0.lt
 ·split
  ·exact h1.lt
  ·intro i hi;rw[fx.mp hi];exact ht
theorem FC(h0:be w0)(h1:be w1){T:List Nat}(h:∀i∈T,i<5):∀i∈T.flatMap (gtT w0 w1),i<5:=fun i hi=>by
 obtain⟨t,ht,hi⟩:=List.mem_flatMap.mp hi;exact DW h0 h1 (h t ht) i hi
theorem qx(h0:be w0)(h1:be w1):∀k,∀i∈tk w0 w1 k,i<5:=by
 intro k
 induction k with
 |zero=>
  exact by show ∀i∈[2,0,3,1],i<5;decide
 |succ k qx=>
  exact F9 (FC h0 h1 (qx)) true
theorem Dr{u:List Nat}(h:3∈u):∀b,3∈qT b u:=by
 induction u with
 |nil=>exact absurd h cM
 |cons t u ih=>
  intro b;unfold qT
  split
  ·rename_i q
   rcases aM.mp h with e | h
   ·rw[<-e]at q;exact absurd q.1 (by decide)
   ·exact .tail _ (.tail _ (ih h _))
  ·rcases aM.mp h with e | h
   ·rw[<-e];exact .head _
   ·exact .tail _ (ih h _)
theorem yY{T:List Nat}(h:3∈T):3∈T.flatMap (gtT w0 w1):=List.mem_flatMap.mpr ⟨3,h,.head _⟩
theorem rT:∀k,3∈tk w0 w1 k:=by
 intro k
 induction k with
 |zero=>
  exact by show 3∈[2,0,3,1];decide
 |succ k rT=>
  exact Dr (yY (rT)) true
theorem z6(h0:be w0)(h1:be w1):∀(k j:Nat),fT (laW w0 w1) (lW w0 w1) j true (tk w0 w1 k)=lW w0 w1 0 (j+k)+lW w0 w1 3 (j+k)+3+((j+k:Nat):Int):=by
 intro k
 induction k with
 |zero=>
  intro j;show(1+(j:Int))+(lW w0 w1 0 j+(2+(lW w0 w1 3 j+0)))=_;rw[Nat.add_zero];lia
 |succ k z6=>
  intro j;show fT _ _ j true (qT true ((tk w0 w1 k).flatMap (gtT w0 w1)))=_;rw[<-FF h0 h1 j _ _ (qx h0 h1 k),z6 (j+1),Nat.add_assoc,Nat.add_comm 1 k]
variable{n0 n1:Nat}
theorem tX{la:Nat->Bool}:∀(T:List Nat) (l:Bool),((txt n0 n1 T).length:Int)=fT la (lW w0 w1) 0 l T
 |[],_=>rfl
 |t::T,l=>by
  obtain ih:=tX (la:=la) T (nxF la t);unfold txt at ih ⊢;rw[jS,aG,Int.natCast_add,ih,fT]
  congr 1
  unfold chC;by_cases ht:t<2
  ·rw[af ht,ag (by lia)];rfl
  ·rw[ag ht]
   by_cases t2:t=2
   ·subst t2;cases l<;>rfl
   ·rw[ag t2]
    by_cases t3:t=3
    ·rw[af t3,af t3];rfl
    ·rw[ag t3,ag t3];rfl
theorem rU(h0:be w0)(h1:be w1)(k:Nat):((txt n0 n1 (tk w0 w1 k)).length:Int)=lW w0 w1 0 k+lW w0 w1 3 k+3+(k:Int):=by
 rw[tX (la:=laW w0 w1) _ true,z6 h0 h1 k 0,Nat.zero_add]
theorem BV(h0:be w0)(h1:be w1){k:Nat}(hk:k<=4):(txt n0 n1 (tk w0 w1 k)).length<=300:=by
 obtain h:=rU (n0:=n0) (n1:=n1) h0 h1 k;obtain s:=wX (X:=65536) (by decide) h0 h1;have:=s.Lk 0 k hk;have:=s.Lk 3 k hk;lia
theorem Cl(g0:256<=n0)(g1:256<=n1)(gn:n0≠n1){W0 W1:List Nat}{t:Nat}(ht:t<5):grC n0 n1 W0 W1 (sg n0 n1 t)=if t=0 then W0 else if t=1 then W1 else[sg n0 n1 t]:=by
 refine lt5 ht ?_ ?_ ?_ ?_ ?_
 ·exact af rfl
 ·exact(ag (fun q=>gn q.symm)).trans (af rfl)
 ·exact(ag (by show ¬(46=n0);lia)).trans (ag (by show ¬(46=n1);lia))
 ·exact(ag (by show ¬(10=n0);lia)).trans (ag (by show ¬(10=n1);lia))
 ·exact(ag (by show ¬(255=n0);lia)).trans (ag (by show ¬(255=n1);lia))
theorem Fz(g0:256<=n0)(g1:256<=n1){W0 W1:List Nat}:grC n0 n1 W0 W1 13=[13]:=(ag (by lia)).trans (ag (by lia))
theorem yR(g0:256<=n0)(g1:256<=n1)(gn:n0≠n1)(h0:be w0)(h1:be w1):∀T:List Nat,(∀i∈T,i<5)->MxR n0 n1 ((txt n0 n1 T).flatMap (grC n0 n1 (w0.map (sg n0 n1)) (w1.map (sg n0 n1)))) (T.flatMap (gtT w0 w1)):=by
 intro T
 induction T with
 |nil=>
  intro _;exact .nil
 |cons t T yR=>
  intro h;obtain ih:=yR fun i hi=>h i (.tail _ hi);obtain t5:=h t (.head _);unfold txt at ih ⊢;rw[jS,List.flatMap_append,jS (f:=gtT w0 w1)];refine MxR.app ?_ ih;unfold chC;by_cases t3:t=3
  ·subst t3
   rw[af rfl,jS,jS,List.flatMap_nil,Fz g0 g1];obtain e:=Cl (W0:=w0.map (sg n0 n1)) (W1:=w1.map (sg n0 n1)) g0 g1 gn (t:=3) (by decide);obtain e:grC n0 n1 (w0.map (sg n0 n1)) (w1.map (sg n0 n1)) 10=[10]:=e;rw[e];exact .crlf .nil
  ·rw[ag t3,jS,List.flatMap_nil,bQ,Cl g0 g1 gn t5]
   unfold gtT;by_cases t0:t=0
   ·rw[af t0,af t0];exact .word _ h0.lt
   ·by_cases t1:t=1
    ·rw[ag t0,ag t0,af t1,af t1];exact .word _ h1.lt
    ·rw[ag t0,ag t0,ag t1,ag t1];exact .ch t5 t3 .nil
theorem CF{T:List Nat}(h:∀i∈T,i<5):∀c∈txt n0 n1 T,c=n0\/c=n1\/c<256:=fun c hc=>by
 obtain⟨t,ht,hc⟩:=List.mem_flatMap.mp hc;obtain t5:=h t ht;unfold chC at hc
 split at hc
 ·rcases aM.mp hc with rfl | hc
  ·right;right;decide
  ·rw[fx.mp hc];right;right;decide
 ·rw[fx.mp hc]
  refine lt5 t5 ?_ ?_ ?_ ?_ ?_
  ·exact .inl rfl
  ·exact .inr (.inl rfl)
  ·right;right;show 46<256;decide
  ·right;right;show 10<256;decide
  ·right;right;show 255<256;decide
section
variable{Φ:Fun}{N:Nat}
theorem Bc(h7:Φ 7=t7V)(h8:Φ 8=t8V)(g0:256<=n0)(g1:256<=n1)(gn:n0≠n1)(m0:n0<=1114111)(m1:n1<=1114111)(h0:be w0)(h1:be w1){k:Nat}(hk:k<4):
  ∃gr,gx (evV Φ N [some 0,some 1,none,none,none,none,none] 2 eU [.str (txt n0 n1 (tk w0 w1 k)),rls n0 n1 (w0.map (sg n0 n1)) (w1.map (sg n0 n1))]=some (.str gr)) (gr.length<=1000) (fH gr=txt n0 n1 (tk w0 w1 (k+1))) (∀{Φ':Fun} {N':Nat},evV Φ' N' [some 0,none] 1 gh [.str gr]=some (.str (txt n0 n1 (tk w0 w1 (k+1))))):=by
 obtain hsg:∀w:List Nat,be w->∀m∈w.map (sg n0 n1),m<=1114111:=fun w hw m hm=>by
  obtain⟨t,ht,rfl⟩:=eH.mp hm;refine lt5 (hw.lt t ht) ?_ ?_ ?_ ?_ ?_
  ·exact m0
  ·exact m1
  ·show 46<=1114111;decide
  ·show 10<=1114111;decide
  ·show 255<=1114111;decide
 obtain kl:=BV (n0:=n0) (n1:=n1) h0 h1 (bP hk);obtain e:=sY (Φ:=Φ) (N:=N) h7 h8 g0 g1 gn (hsg w0 h0) (hsg w1 h1) (by rw[aC];exact h0.len) (by rw[aC];exact h1.len) (CF (qx h0 h1 k)) (ai kl (by decide));obtain mx:=yR g0 g1 gn h0 h1 (tk w0 w1 k) (qx h0 h1 k);have gl:((txt n0 n1 (tk w0 w1 k)).flatMap (grC n0 n1 (w0.map (sg n0 n1)) (w1.map (sg n0 n1)))).length<=3*(txt n0 n1 (tk w0 w1 k)).length:=by
  generalize txt n0 n1 (tk w0 w1 k)=l
  induction l with
  |nil=>exact bS _
  |cons c l ih=>
   rw[jS,aG,List.length_cons];have:=yS (n0:=n0) (n1:=n1) (w0:=w0.map (sg n0 n1)) (w1:=w1.map (sg n0 n1)) (by rw[aC];exact h0.len) (by rw[aC];exact h1.len) c;lia
 obtain hq:fH ((txt n0 n1 (tk w0 w1 k)).flatMap (grC n0 n1 (w0.map (sg n0 n1)) (w1.map (sg n0 n1))))=txt n0 n1 (tk w0 w1 (k+1)):=mx.quo g0 g1 true;refine⟨_,e,by lia,hq,?_⟩;rw[<-hq];exact zn g0 g1 mx (yY (rT k)) (by lia)
end
end
end
section
noncomputable def tbN:List S:=[.isub 5 (.bin .Add (.bin .Mult (.const (.int 2)) (.meth .index (.var 1) [(.var 8)])) (.var 7)) .Sub (.const (.int 1)),.asg 6 (.const (.int 0)),.asg 7 (.ife (.cmp .Eq (.sub (.sub (.var 0) (.meth .index (.var 1) [(.var 8)])) (.un .USub (.const (.int 1)))) (.const (.int 10))) (.const (.int 1)) (.const (.int 0)))]
noncomputable def CK:List S:=[.isub 5 (.const (.int 5)) .Add (.bin .Mult (.bin .Mult (.var 9) (.var 2)) (.bin .Sub (.var 2) (.const (.int 1)))),.asg 6 (.ife (.cmp .Eq (.var 8) (.const (.int 10))) (.const (.int 1)) (.const (.int 0))),.asg 7 (.var 6)]
noncomputable def tbS:List S:=.asg 9 (.const (.int 1))::.ite (.cmp .Eq (.var 8) (.const (.int 10))) [.asg 9 (.const (.int 2))] []::.ite (.cmp .Eq (.var 8) (.const (.int 46))) [.aug 9 .Add (.var 6),.isub 5 (.const (.int 5)) .Add (.bin .Mult (.var 2) (.var 7))] []::CK
noncomputable def tbB:List S:=[.ite (.cmp .In (.var 8) (.var 1)) tbN tbS]
noncomputable def tbR:List S:=[.own 5 (.bin .Add (.comp1 [none,none,some 2,some 4] (.one 1) (.range [(.const (.int 5))]) [] (.ife (.cmp .Eq (.var 1) (.var 3)) (.var 2) (.const (.int 0)))) (.list [(.bin .Mult (.var 2) (.bin .Pow (.bin .Sub (.var 2) (.const (.int 1))) (.const (.int 2))))])),.asg 6 (.bin .Mod (.var 4) (.const (.int 2))),.asg 7 (.bin .Mod (.var 4) (.const (.int 2))),.forr (.one 8) (.exp (.sub (.var 0) (.bin .FloorDiv (.var 4) (.const (.int 2))))) tbB,.app 3 (.var 5)]
theorem A9:ga=[.own 3 (.list []),.forr (.one 4) (.range [(.const (.int 4))]) tbR,.ret (.bin .Add (.var 3) (.list [(.list [(.un .USub (.const (.int 1))),(.const (.int 0)),(.const (.int 0)),(.un .USub (.const (.int 1))),(.const (.int 1)),(.bin .Add (.bin .Mult (.bin .Mult (.const (.int 3)) (.var 2)) (.bin .Sub (.var 2) (.const (.int 1)))) (.var 2))])]))]:=rfl
section
variable{Φ:Fun}{N:Nat}
theorem q6{i:Nat}{j e:E}{op:Operator}{ρ ρ':Ro}{k:Int}{l l':List V}{y:V}(hf:frz (av j++av e) ρ=ρ)(hj:ev Φ j ρ=some (.int k))(hl:ρ[i]?=some (.own l))(he:ev Φ e ρ=some y)(h:qX op l k y=some l')(hρ:ρ.set i (.own l')=ρ'):ex Φ N (.isub i j op e) ρ=some (.nxt ρ'):=by
 show Option.bind (ev Φ j (frz (av j++av e) ρ)) (fun k=>(fD k).bind fun k=>((frz (av j++av e) ρ)[i]?).bind fun sl=>(xS sl).bind fun l=>(ev Φ e (frz (av j++av e) ρ)).bind fun y=>(qX op l k y).map fun l=>Out.nxt ((frz (av j++av e) ρ).set i (.own l)))=_;rw[hf,hj];rw[hl];rw[he];show Option.map _ (qX op l k y)=_;rw[h,<-hρ];rfl
noncomputable def cf(c:Nat->Int)(b:Int):List V:=[.int (c 0),.int (c 1),.int (c 2),.int (c 3),.int 0,.int b]
noncomputable def tbF(W0 W1:List Nat)(n0 n1:Nat)(X:Int)(s3 s4:Sl)(r:List V)(b l:Bool)(s8 s9:Sl):Ro:=[.val (.lst [ln W0,ln W1]),.val (ln [n0,n1]),.val (.int X),s3,s4,.own r,.val (.int (bI b)),.val (.int (bI l)),s8,s9]
variable{W0 W1:List Nat}{n0 n1:Nat}{X:Int}{s3 s4 s9:Sl}{c:Nat->Int}{v:Int}{b l:Bool}{w0 w1:List Nat}{w:Nat}
theorem Cc{k j:Nat}(h:oG (k:Int) [.int (n0:Int),.int (n1:Int)]=some j):mtV .index (ln [n0,n1]) [.int (k:Int)]=some (.int (j:Int)):=by
 show(if[V.int (n0:Int),.int (n1:Int)].length<=szLine/\(jr (k:Int) [V.int (n0:Int),.int (n1:Int)]).isSome=true then(oG (k:Int) [V.int (n0:Int),.int (n1:Int)]).map fun(j:Nat)=>V.int (j:Int)else none)=_;rw[af ⟨by show 2<=szLine;decide,rfl⟩,h];rfl
theorem Gx:mtV .index (ln [n0,n1]) [.int (n0:Int)]=some (.int (0:Nat)):=Cc (af rfl)
theorem Gw(gn:n0≠n1):mtV .index (ln [n0,n1]) [.int (n1:Int)]=some (.int (1:Nat)):=
 Cc ((ag fun q=>gn (Int.ofNat.inj q)).trans (aq (Option.map (·+1)) (af rfl)))
theorem Ci(k:Nat):lz .In (.int (k:Int)) (ln [n0,n1])=some (((n0:Int)==(k:Int))||(((n1:Int)==(k:Int))||false)):=rfl
theorem wU{W:List Nat}{x:Nat}{u:List Nat}(h:W=u++[x])(hl:W.length<100):mi (ln W) (.int (-1))=some (.int (x:Nat)):=by
 obtain hL:(W.map fun(n:Nat)=>V.int (n:Int)).length=u.length+1:=by rw[aC,h,aG];rfl
 obtain e:ixN (-1) (W.map fun(n:Nat)=>V.int (n:Int)).length=some u.length:=by
  rw[hL];refine(af (by decide)).trans ?_;unfold seqIndex?;rw[af (show(-1:Int)<0 by decide),af (by lia)]
  congr 1;lia
 refine(af (by rw[aC];exact ai (bP hl) (by decide))).trans ?_;rw[e];show(W.map fun(n:Nat)=>V.int (n:Int))[u.length]?=_;rw[bA,h,List.getElem?_append_right (bS _),Nat.sub_self];rfl
theorem A8(gn:n0≠n1)(h0:be w0)(h1:be w1)(g0:256<=n0)(g1:256<=n1){t:Nat}(ht:t<2):
  exs Φ N tbB (tbF (w0.map (sg n0 n1)) (w1.map (sg n0 n1)) n0 n1 X s3 s4 (cf c v) b l (iv (sg n0 n1 t)) s9)=some (.nxt (tbF (w0.map (sg n0 n1)) (w1.map (sg n0 n1)) n0 n1 X s3 s4 (cf (fun r=>c r-if t<2/\r=2*t+bN l then 1 else 0) v) false (laW w0 w1 t) (iv (sg n0 n1 t)) s9)):=by
 obtain hw:=jg h0 h1 ht;obtain⟨u,x,e,h2,h3,h4,h5⟩:=hw;have hla:laW w0 w1 t=(x==3):=by unfold laW;simp only[e,fR];rfl
 have hlast:(((sg n0 n1 x:Nat):Int)==10)=(x==3):=by
  refine wc h5 h4 ?_ ?_ ?_
  ·rfl
  ·rfl
  ·rfl
 have hin:evb Φ (.cmp .In (.var 8) (.var 1)) (tbF (w0.map (sg n0 n1)) (w1.map (sg n0 n1)) n0 n1 X s3 s4 (cf c v) b l (iv (sg n0 n1 t)) s9)=some true:=by
  refine bC (aN rfl) (aN rfl) ((Ci _).trans (aq some ?_));refine lt2 ht ?_ ?_
  ·show(((n0:Int)==(n0:Int))||_)=true;simp only[fu];rfl
  ·show(_||(((n1:Int)==(n1:Int))||false))=true;simp only[fu,Bool.true_or,Bool.or_true]
 obtain hix:∀r b l,ev Φ (.meth .index (.var 1) [(.var 8)]) (tbF (w0.map (sg n0 n1)) (w1.map (sg n0 n1)) n0 n1 X s3 s4 r b l (iv (sg n0 n1 t)) s9)=some (.int (t:Nat)):=fun r b l=>by
  refine tC (aN rfl) (f7 (aN rfl) rfl) ?_;refine lt2 ht ?_ ?_
  ·exact Gx
  ·exact Gw gn
 obtain hpx:∀r b l,evp Φ (.meth .index (.var 1) [(.var 8)]) (tbF (w0.map (sg n0 n1)) (w1.map (sg n0 n1)) n0 n1 X s3 s4 r b l (iv (sg n0 n1 t)) s9)=some (.int (t:Nat)):=fun r b l=>hix r b l;have e1:ex Φ N (.isub 5 (.bin .Add (.bin .Mult (.const (.int 2)) (.meth .index (.var 1) [(.var 8)])) (.var 7)) .Sub (.const (.int 1))) (tbF (w0.map (sg n0 n1)) (w1.map (sg n0 n1)) n0 n1 X s3 s4 (cf c v) b l (iv (sg n0 n1 t)) s9)=some (.nxt (tbF (w0.map (sg n0 n1)) (w1.map (sg n0 n1)) n0 n1 X s3 s4 (cf (fun r=>c r-if t<2/\r=2*t+bN l then 1 else 0) v) b l (iv (sg n0 n1 t)) s9)):=by
  refine q6 (k:=2*(t:Int)+bI l) rfl (aP (aL rfl (hpx _ _ _) (dE (by exact lt2 ht (by decide) (by decide)))) (aN rfl) rfl) rfl rfl (l':=cf (fun r=>c r-if t<2/\r=2*t+bN l then 1 else 0) v) ?_ rfl;refine lt2 ht ?_ ?_
  ·cases l
   ·show some [V.int (c 0-1),.int (c 1),.int (c 2),.int (c 3),.int 0,.int v]=_;simp[cf,bN]
   ·show some [V.int (c 0),.int (c 1-1),.int (c 2),.int (c 3),.int 0,.int v]=_;simp[cf,bN]
  ·cases l
   ·show some [V.int (c 0),.int (c 1),.int (c 2-1),.int (c 3),.int 0,.int v]=_;simp[cf,bN]
   ·show some [V.int (c 0),.int (c 1),.int (c 2),.int (c 3-1),.int 0,.int v]=_;simp[cf,bN]
 have ew:mi (.lst [ln (w0.map (sg n0 n1)),ln (w1.map (sg n0 n1))]) (.int (t:Nat))=some (ln ((gtT w0 w1 t).map (sg n0 n1))):=by
  refine lt2 ht ?_ ?_
  ·rfl
  ·rfl
 obtain el:=wU (W:=(gtT w0 w1 t).map (sg n0 n1)) (x:=sg n0 n1 x) (u:=u.map (sg n0 n1)) (by simp only[e,hU];rfl) (by simp only[aC];exact Nat.lt_trans (jg h0 h1 ht).len (by decide));obtain e3:∀r,ev Φ (.ife (.cmp .Eq (.sub (.sub (.var 0) (.meth .index (.var 1) [(.var 8)])) (.un .USub (.const (.int 1)))) (.const (.int 10))) (.const (.int 1)) (.const (.int 0))) (tbF (w0.map (sg n0 n1)) (w1.map (sg n0 n1)) n0 n1 X s3 s4 r false l (iv (sg n0 n1 t)) s9)=some (.int (bI (laW w0 w1 t))):=fun r=>by
  refine ni (bC (fO (fO (aN rfl) (hix _ _ _) ew) rfl el) rfl rfl) ?_;simp only[hla,<-hlast]
  cases((sg n0 n1 x:Nat):Int)==10<;>rfl
 refine(ae (eL (s:=tbN) (t:=tbS) rfl hin ((ae e1).trans ((ae (ρ':=tbF (w0.map (sg n0 n1)) (w1.map (sg n0 n1)) n0 n1 X s3 s4 (cf (fun r=>c r-if t<2/\r=2*t+bN l then 1 else 0) v) false l (iv (sg n0 n1 t)) s9) rfl).trans ((ae (bO (e3 _) (bg rfl))).trans rfl))))).trans rfl
theorem A6(hX:Lw w X 1 0)(hX':Lw w (X-1) 1 0)(hw:w<=1415){t:Nat}(ht:t<5)(t2:2<=t){z:Int}(z0:0<=z)(z3:z<=3):
  exs Φ N CK (tbF W0 W1 n0 n1 X s3 s4 (cf c v) b l (iv (sg n0 n1 t)) (.val (.int z)))=some (.nxt (tbF W0 W1 n0 n1 X s3 s4 (cf c (v+z*X*(X-1))) (t==3) (t==3) (iv (sg n0 n1 t)) (.val (.int z)))):=by
 obtain zl:Lw w z 0 2:=.le z0 z3 (.num (n:=3) (by decide));obtain e0:ev Φ (.bin .Mult (.bin .Mult (.var 9) (.var 2)) (.bin .Sub (.var 2) (.const (.int 1)))) (tbF W0 W1 n0 n1 X s3 s4 (cf c v) b l (iv (sg n0 n1 t)) (.val (.int z)))=some (.int (z*X*(X-1))):=
  aP (aL (aN rfl) (aN rfl) (dE (zl.room hX hw (by decide)))) (aL (aN rfl) rfl rfl) (dE ((zl.mul hX).room hX' hw (by decide)))
 obtain e1:ex Φ N (.isub 5 (.const (.int 5)) .Add (.bin .Mult (.bin .Mult (.var 9) (.var 2)) (.bin .Sub (.var 2) (.const (.int 1))))) (tbF W0 W1 n0 n1 X s3 s4 (cf c v) b l (iv (sg n0 n1 t)) (.val (.int z)))=some (.nxt (tbF W0 W1 n0 n1 X s3 s4 (cf c (v+z*X*(X-1))) b l (iv (sg n0 n1 t)) (.val (.int z)))):=
  q6 (k:=5) rfl rfl rfl e0 rfl rfl
 obtain e2:∀r,ev Φ (.ife (.cmp .Eq (.var 8) (.const (.int 10))) (.const (.int 1)) (.const (.int 0))) (tbF W0 W1 n0 n1 X s3 s4 r b l (iv (sg n0 n1 t)) (.val (.int z)))=some (.int (bI (t==3))):=fun r=>by
  refine ni (bC (aN rfl) rfl rfl) ?_;refine wc ht t2 ?_ ?_ ?_
  ·rfl
  ·rfl
  ·rfl
 exact(ae e1).trans ((ae (bO (e2 _) (bg rfl))).trans ((ae (ρ':=tbF W0 W1 n0 n1 X s3 s4 (cf c (v+z*X*(X-1))) (t==3) (t==3) (iv (sg n0 n1 t)) (.val (.int z))) rfl).trans rfl))
theorem Dx(g0:256<=n0)(g1:256<=n1){t:Nat}(ht:t<5)(t2:2<=t){ρ:Ro}(h8:ρ[8]?=some (iv (sg n0 n1 t)))(h1:ρ[1]?=some (.val (ln [n0,n1]))):evb Φ (.cmp .In (.var 8) (.var 1)) ρ=some false:=by
 refine bC (aN h8) (aN h1) ((Ci _).trans (aq some ?_));have:sg n0 n1 t<256:=by
  refine wc ht t2 ?_ ?_ ?_
  ·show 46<256;decide
  ·show 10<256;decide
  ·show 255<256;decide
 rw[bK.mpr (by lia),bK.mpr (by lia)];rfl
theorem A7(hX:Lw w X 1 0)(hX':Lw w (X-1) 1 0)(hw:w<=1415)(g0:256<=n0)(g1:256<=n1){t:Nat}(ht:t<5)(t2:2<=t):
  ∃s9',exs Φ N tbB (tbF W0 W1 n0 n1 X s3 s4 (cf c v) b l (iv (sg n0 n1 t)) s9)=some (.nxt (tbF W0 W1 n0 n1 X s3 s4 (cf c (v+X*(if t=2 then bI l else 0)+(if t=3 then 2 else if t=2 then 1+bI b else 1)*(X*(X-1)))) (t==3) (t==3) (iv (sg n0 n1 t)) s9')):=by
 obtain hin:evb Φ (.cmp .In (.var 8) (.var 1)) (tbF W0 W1 n0 n1 X s3 s4 (cf c v) b l (iv (sg n0 n1 t)) s9)=some false:=Dx g0 g1 ht t2 rfl rfl;have fin:∀{z:Int} {v':Int},exs Φ N tbS (tbF W0 W1 n0 n1 X s3 s4 (cf c v) b l (iv (sg n0 n1 t)) s9)=exs Φ N CK (tbF W0 W1 n0 n1 X s3 s4 (cf c v') b l (iv (sg n0 n1 t)) (.val (.int z)))->0<=z->z<=3->v'+z*X*(X-1)=v+X*(if t=2 then bI l else 0)+(if t=3 then 2 else if t=2 then 1+bI b else 1)*(X*(X-1)) ->
   ∃s9',exs Φ N tbB (tbF W0 W1 n0 n1 X s3 s4 (cf c v) b l (iv (sg n0 n1 t)) s9)=some (.nxt (tbF W0 W1 n0 n1 X s3 s4 (cf c (v+X*(if t=2 then bI l else 0)+(if t=3 then 2 else if t=2 then 1+bI b else 1)*(X*(X-1)))) (t==3) (t==3) (iv (sg n0 n1 t)) s9')):=fun{z v'} h z0 z3 e=>by
  refine⟨.val (.int z),(ae (eL (s:=tbN) (t:=tbS) rfl hin (h.trans (A6 hX hX' hw ht t2 z0 z3)))).trans ?_⟩;rw[e];rfl
 obtain h3:t=2\/t=3\/t=4:=wc ht t2 (.inl rfl) (.inr (.inl rfl)) (.inr (.inr rfl));rcases h3 with rfl | rfl | rfl
 ·obtain hb:0<=bI b/\bI b<=1:=by cases b<;>decide
  obtain xl:Lw w (bI l) 0 0:=by cases l<;>(show(_:Nat)<=2^(0*w+0);rw[Nat.zero_mul];decide)
  refine fin (z:=1+bI b) (v':=v+X*bI l) ?_ (by lia) (by lia) (by rw[af rfl,ag (by decide),af rfl];grind);refine(ae (ρ':=tbF W0 W1 n0 n1 X s3 s4 (cf c v) b l (iv 46) (.val (.int 1))) rfl).trans ((ae (ρ':=tbF W0 W1 n0 n1 X s3 s4 (cf c v) b l (iv 46) (.val (.int 1))) rfl).trans (ae ?_));refine eL (o:=true) rfl (bC (aN rfl) rfl rfl) ((ae (ρ':=tbF W0 W1 n0 n1 X s3 s4 (cf c v) b l (iv 46) (.val (.int (1+bI b)))) rfl).trans ((ae (q6 (k:=5) rfl rfl rfl (aP (aN rfl) (aN rfl) (dE (hX.room xl hw (by decide)))) rfl rfl)).trans rfl))
 ·refine fin (z:=2) (v':=v) ?_ (by decide) (by decide) (by rw[ag (by decide),af rfl];grind)
  exact(ae (ρ':=tbF W0 W1 n0 n1 X s3 s4 (cf c v) b l (iv 10) (.val (.int 1))) rfl).trans ((ae (ρ':=tbF W0 W1 n0 n1 X s3 s4 (cf c v) b l (iv 10) (.val (.int 2))) rfl).trans (ae rfl))
 ·refine fin (z:=1) (v':=v) ?_ (by decide) (by decide) (by rw[ag (by decide),ag (by decide),ag (by decide)];grind)
  exact(ae (ρ':=tbF W0 W1 n0 n1 X s3 s4 (cf c v) b l (iv 255) (.val (.int 1))) rfl).trans ((ae (ρ':=tbF W0 W1 n0 n1 X s3 s4 (cf c v) b l (iv 255) (.val (.int 1))) rfl).trans (ae rfl))
theorem lF(hX:Lw w X 1 0)(hX':Lw w (X-1) 1 0)(hw:w<=1415)(gn:n0≠n1)(h0:be w0)(h1:be w1)(g0:256<=n0)(g1:256<=n1):∀(u:List Nat){c:Nat->Int}{v:Int}{b l:Bool}{s8 s9:Sl},(∀i∈u,i<5) ->
  Ex4 fun b' l' s8' s9'=>fj (.one 8) (fun ρ=>exs Φ N tbB ρ) (u.map fun t=>V.int ((sg n0 n1 t:Nat):Int)) (tbF (w0.map (sg n0 n1)) (w1.map (sg n0 n1)) n0 n1 X s3 s4 (cf c v) b l s8 s9) =
   some (.nxt (tbF (w0.map (sg n0 n1)) (w1.map (sg n0 n1)) n0 n1 X s3 s4 (cf (fun r=>c r-cN (laW w0 w1) r l u) (v+X*cD (laW w0 w1) l u+cS b u*(X*(X-1)))) b' l' s8' s9')):=by
 intro u
 induction u with
 |nil=>
  intro c v b l s8 s9 _;exact⟨b,l,s8,s9,by
    obtain e1:(fun r=>c r-cN (laW w0 w1) r l [])=c:=funext fun r=>Int.sub_zero _;obtain e2:v+X*cD (laW w0 w1) l []+cS b []*(X*(X-1))=v:=by show v+X*0+0*_=v;lia
    rw[e1,e2];rfl⟩
 |cons t u lF=>
  intro c v b l s8 s9 hi;obtain t5:=hi t (.head _);by_cases ht:t<2
  ·obtain⟨b',l',s8',s9',ih⟩:=lF (c:=fun r=>c r-if t<2/\r=2*t+bN l then 1 else 0) (v:=v) (b:=false) (l:=laW w0 w1 t) (s8:=iv (sg n0 n1 t)) (s9:=s9) (fun i h=>hi i (.tail _ h))
   obtain e:=A8 (Φ:=Φ) (N:=N) (X:=X) (s3:=s3) (s4:=s4) (s9:=s9) (c:=c) (v:=v) (b:=b) (l:=l) gn h0 h1 g0 g1 ht;refine⟨b',l',s8',s9',(ax rfl e).trans (ih.trans ?_)⟩;obtain e0:nxF (laW w0 w1) t=laW w0 w1 t:=af ht;obtain e3:(t==3)=false:=bK.mpr (by lia);obtain e1:(fun r=>(c r-if t<2/\r=2*t+bN l then 1 else 0)-cN (laW w0 w1) r (laW w0 w1 t) u)=fun r=>c r-cN (laW w0 w1) r l (t::u):=funext fun r=>by rw[cN,e0];lia
   obtain e2:v+X*cD (laW w0 w1) (laW w0 w1 t) u+cS false u*(X*(X-1))=v+X*cD (laW w0 w1) l (t::u)+cS b (t::u)*(X*(X-1)):=by
    rw[cD,cS,e0,e3,ag (by lia),af ht,fv,fv]
   rw[e1,e2]
  ·obtain⟨s9a,e⟩:=A7 (Φ:=Φ) (N:=N) (W0:=w0.map (sg n0 n1)) (W1:=w1.map (sg n0 n1)) (s3:=s3) (s4:=s4) (s9:=s9) (c:=c) (v:=v) (b:=b) (l:=l) hX hX' hw g0 g1 t5 (by lia:2<=t)
   obtain⟨b',l',s8',s9',ih⟩:=lF (c:=c) (v:=v+X*(if t=2 then bI l else 0)+(if t=3 then 2 else if t=2 then 1+bI b else 1)*(X*(X-1))) (b:=t==3) (l:=t==3) (s8:=iv (sg n0 n1 t)) (s9:=s9a) (fun i h=>hi i (.tail _ h));refine⟨b',l',s8',s9',(ax rfl e).trans (ih.trans ?_)⟩;obtain e0:nxF (laW w0 w1) t=(t==3):=ag ht;obtain e1:(fun r=>c r-cN (laW w0 w1) r (t==3) u)=fun r=>c r-cN (laW w0 w1) r l (t::u):=funext fun r=>by rw[cN,e0,ag fun q=>ht q.1,fv]
   obtain e2:(v+X*(if t=2 then bI l else 0)+(if t=3 then 2 else if t=2 then 1+bI b else 1)*(X*(X-1)))+X*cD (laW w0 w1) (t==3) u+cS (t==3) u*(X*(X-1))=v+X*cD (laW w0 w1) l (t::u)+cS b (t::u)*(X*(X-1)):=by
    rw[cD,cS,e0,ag ht];grind
   rw[e1,e2]
end
end
section
section
variable{Φ:Fun}{N:Nat}{n0 n1:Nat}{X:Int}{w0 w1:List Nat}{w:Nat}{s5 s6 s7 s8 s9:Sl}{A:List V}
noncomputable def EU:E:=.bin .Add (.comp1 [none,none,some 2,some 4] (.one 1) (.range [(.const (.int 5))]) [] (.ife (.cmp .Eq (.var 1) (.var 3)) (.var 2) (.const (.int 0)))) (.list [(.bin .Mult (.var 2) (.bin .Pow (.bin .Sub (.var 2) (.const (.int 1))) (.const (.int 2))))])
noncomputable def kR(X:Int)(w0 w1:List Nat)(s:Nat):List V:=cf (fun r=>(if r=s then X else 0)-nW w0 w1 s r) (X*(X-1)^2+X*dW w0 w1 s+sW w0 w1 s*(X*(X-1)))
theorem pi(hX:Lw w X 1 0)(hX':Lw w (X-1) 1 0)(hw:w<=1415)(gn:n0≠n1)(h0:be w0)(h1:be w1)(g0:256<=n0)(g1:256<=n1){s:Nat}(hs:s<4)(hA:A.length<10):
  Ex5 fun s5' s6' s7' s8' s9'=>exs Φ N tbR [.val (.lst [ln (w0.map (sg n0 n1)),ln (w1.map (sg n0 n1))]),.val (ln [n0,n1]),.val (.int X),.own A,iv s,s5,s6,s7,s8,s9] =
   some (.nxt [.val (.lst [ln (w0.map (sg n0 n1)),ln (w1.map (sg n0 n1))]),.val (ln [n0,n1]),.val (.int X),.own (A++[.lst (kR X w0 w1 s)]),iv s,s5',s6',s7',s8',s9']):=by
 obtain x2:=hX'.ib hw;obtain ec:ev Φ (.comp1 [none,none,some 2,some 4] (.one 1) (.range [(.const (.int 5))]) [] (.ife (.cmp .Eq (.var 1) (.var 3)) (.var 2) (.const (.int 0)))) [.val (.lst [ln (w0.map (sg n0 n1)),ln (w1.map (sg n0 n1))]),.val (ln [n0,n1]),.val (.int X),.own A,iv s,s5,s6,s7,s8,s9] =
   some (.lst [.int (if 0=s then X else 0),.int (if 1=s then X else 0),.int (if 2=s then X else 0),.int (if 3=s then X else 0),.int 0]):=by
  refine lt4 hs ?_ ?_ ?_ ?_
  ·rfl
  ·rfl
  ·rfl
  ·rfl
 obtain el:ev Φ (.list [(.bin .Mult (.var 2) (.bin .Pow (.bin .Sub (.var 2) (.const (.int 1))) (.const (.int 2))))]) [.val (.lst [ln (w0.map (sg n0 n1)),ln (w1.map (sg n0 n1))]),.val (ln [n0,n1]),.val (.int X),.own A,iv s,s5,s6,s7,s8,s9]=some (.lst [.int (X*(X-1)^2)]):=
  nh (am (aP (aN rfl) (aL (aL (aN rfl) rfl rfl) rfl (ko (n:=2) (by lia))) (dE (hX.room hX'.sq hw (by decide)))) rfl) (by show 1<=szLine;decide)
 obtain e5:ev Φ EU [.val (.lst [ln (w0.map (sg n0 n1)),ln (w1.map (sg n0 n1))]),.val (ln [n0,n1]),.val (.int X),.own A,iv s,s5,s6,s7,s8,s9]=some (.lst (cf (fun r=>if r=s then X else 0) (X*(X-1)^2))):=aP ec el rfl;obtain o1:ex Φ N (.own 5 EU) [.val (.lst [ln (w0.map (sg n0 n1)),ln (w1.map (sg n0 n1))]),.val (ln [n0,n1]),.val (.int X),.own A,iv s,s5,s6,s7,s8,s9]=some (.nxt [.val (.lst [ln (w0.map (sg n0 n1)),ln (w1.map (sg n0 n1))]),.val (ln [n0,n1]),.val (.int X),.own A,iv s,.own (cf (fun r=>if r=s then X else 0) (X*(X-1)^2)),s6,s7,s8,s9]):=(tq e5 (bg rfl)).trans rfl;obtain em:∀ρ:Ro,ρ[4]?=some (iv s)->ev Φ (.bin .Mod (.var 4) (.const (.int 2))) ρ=some (.int (bI (s%2==1))):=fun ρ h=>aP (aN h) rfl (by exact lt4 hs rfl rfl rfl rfl);obtain⟨b',l',s8',s9',lp⟩:=lF (Φ:=Φ) (N:=N) (s3:=.own A) (s4:=iv s) hX hX' hw gn h0 h1 g0 g1 (gtT w0 w1 (bif s/2==0 then 0 else 1)) (c:=fun r=>if r=s then X else 0) (v:=X*(X-1)^2) (b:=s%2==1) (l:=s%2==1) (s8:=s8) (s9:=s9) (jg h0 h1 (md _)).lt;obtain hi:eu Φ (.exp (.sub (.var 0) (.bin .FloorDiv (.var 4) (.const (.int 2))))) (tbF (w0.map (sg n0 n1)) (w1.map (sg n0 n1)) n0 n1 X (.own A) (iv s) (cf (fun r=>if r=s then X else 0) (X*(X-1)^2)) (s%2==1) (s%2==1) s8 s9)=some ((gtT w0 w1 (bif s/2==0 then 0 else 1)).map fun t=>V.int ((sg n0 n1 t:Nat):Int)):=by
  obtain e:ev Φ (.sub (.var 0) (.bin .FloorDiv (.var 4) (.const (.int 2)))) (tbF (w0.map (sg n0 n1)) (w1.map (sg n0 n1)) n0 n1 X (.own A) (iv s) (cf (fun r=>if r=s then X else 0) (X*(X-1)^2)) (s%2==1) (s%2==1) s8 s9)=some (ln ((gtT w0 w1 (bif s/2==0 then 0 else 1)).map (sg n0 n1))):=by
   refine l5 (aN rfl) (aP (aN rfl) rfl (gu _ (by decide) (by decide))) ?_;refine lt4 hs ?_ ?_ ?_ ?_
   ·rfl
   ·rfl
   ·rfl
   ·rfl
  refine(bd e).trans ((af ?_).trans ?_)
  ·rw[aC,aC]
   exact ai (bP (jg h0 h1 (md _)).len) (by decide)
  ·rw[dI];rfl
 refine⟨_,_,_,_,_,(ae o1).trans ((ae (bO (em _ rfl) (bg rfl))).trans ((ae (bO (em _ rfl) (bg rfl))).trans ((ae ((dG hi).trans lp)).trans ((ae (kF (l:=A) rfl rfl (by have:szLine=1048576:=rfl;lia))).trans rfl))))⟩
theorem tZ(X:Int)(w0 w1:List Nat)(s:Nat)(hs:s<4):kR X w0 w1 s=(List.range 6).map fun j=>V.int (eM X (nW w0 w1) (sW w0 w1) (dW w0 w1) s j):=by
 obtain e:∀j,j<4->(if j=s then X else 0)-nW w0 w1 s j=eM X (nW w0 w1) (sW w0 w1) (dW w0 w1) s j:=fun j hj=>by
  rw[gW hs hj];by_cases q:j=s
  ·rw[af q,af q.symm]
  ·rw[ag q,ag fun r=>q r.symm];lia
 obtain e5:X*(X-1)^2+X*dW w0 w1 s+sW w0 w1 s*(X*(X-1))=eM X (nW w0 w1) (sW w0 w1) (dW w0 w1) s 5:=by rw[wv hs];unfold bV;grind
 show[V.int ((if 0=s then X else 0)-nW w0 w1 s 0),V.int ((if 1=s then X else 0)-nW w0 w1 s 1),V.int ((if 2=s then X else 0)-nW w0 w1 s 2),V.int ((if 3=s then X else 0)-nW w0 w1 s 3),V.int 0,V.int (X*(X-1)^2+X*dW w0 w1 s+sW w0 w1 s*(X*(X-1)))]=[V.int (eM X (nW w0 w1) (sW w0 w1) (dW w0 w1) s 0),V.int (eM X (nW w0 w1) (sW w0 w1) (dW w0 w1) s 1),V.int (eM X (nW w0 w1) (sW w0 w1) (dW w0 w1) s 2),V.int (eM X (nW w0 w1) (sW w0 w1) (dW w0 w1) s 3),V.int (eM X (nW w0 w1) (sW w0 w1) (dW w0 w1) s 4),V.int (eM X (nW w0 w1) (sW w0 w1) (dW w0 w1) s 5)];rw[e 0 (by decide),e 1 (by decide),e 2 (by decide),e 3 (by decide),e5,FP hs]
theorem rY(hX:Lw w X 1 0)(hX':Lw w (X-1) 1 0)(hw:w<=1415)(gn:n0≠n1)(h0:be w0)(h1:be w1)(g0:256<=n0)(g1:256<=n1):
  evV Φ N [some 0,some 1,some 2,none,none,none,none,none,none,none] 3 ga [.lst [ln (w0.map (sg n0 n1)),ln (w1.map (sg n0 n1))],ln [n0,n1],.int X]=some (liM (mxF (eM X (nW w0 w1) (sW w0 w1) (dW w0 w1)))):=by
 refine byG fun gG kG=>?_;obtain⟨a5,a6,a7,a8,a9,e0⟩:=pi (Φ:=Φ) (N:=N) (s5:=.unb) (s6:=.unb) (s7:=.unb) (s8:=.unb) (s9:=.unb) (A:=[]) hX hX' hw gn h0 h1 g0 g1 (s:=0) (by decide) (by decide);obtain⟨b5,b6,b7,b8,b9,e1⟩:=pi (Φ:=Φ) (N:=N) (s5:=a5) (s6:=a6) (s7:=a7) (s8:=a8) (s9:=a9) (A:=[]++[.lst (kR X w0 w1 0)]) hX hX' hw gn h0 h1 g0 g1 (s:=1) (by decide) (by simp);obtain⟨c5,c6,c7,c8,c9,e2⟩:=pi (Φ:=Φ) (N:=N) (s5:=b5) (s6:=b6) (s7:=b7) (s8:=b8) (s9:=b9) (A:=[]++[.lst (kR X w0 w1 0)]++[.lst (kR X w0 w1 1)]) hX hX' hw gn h0 h1 g0 g1 (s:=2) (by decide) (by simp);obtain⟨d5,d6,d7,d8,d9,e3⟩:=pi (Φ:=Φ) (N:=N) (s5:=c5) (s6:=c6) (s7:=c7) (s8:=c8) (s9:=c9) (A:=[]++[.lst (kR X w0 w1 0)]++[.lst (kR X w0 w1 1)]++[.lst (kR X w0 w1 2)]) hX hX' hw gn h0 h1 g0 g1 (s:=3) (by decide) (by simp);refine kG ?_;obtain lp:=(ax (p:=.one 4) (b:=fun ρ=>exs Φ N tbR ρ) (x:=.int (0:Nat)) (l:=[.int (1:Nat),.int (2:Nat),.int (3:Nat)]) (ρ:=[.val (.lst [ln (w0.map (sg n0 n1)),ln (w1.map (sg n0 n1))]),.val (ln [n0,n1]),.val (.int X),.own [],.unb,.unb,.unb,.unb,.unb,.unb]) rfl e0).trans ((ax rfl e1).trans ((ax rfl e2).trans ((ax rfl e3).trans rfl)));rw[A9];refine iw rfl (.nxt rfl (.nxt ((dG rfl).trans lp) (.ret rfl (aP (Fi rfl) (C4 (am (nh (l:=[.int (-1),.int 0,.int 0,.int (-1),.int 1,.int (3*X*(X-1)+X)]) ?_ (by show 6<=szLine;decide)) rfl) (by show 1<=szLine;decide)) ?_))))
 ·exact am rfl (am rfl (am rfl (am rfl (am rfl (am (aP (aL (aL rfl (aN rfl) (dE ((Lw.num (n:=3) (c:=2) (by decide)).room hX hw (by decide)))) (aL (aN rfl) rfl rfl) (dE (((Lw.num (n:=3) (c:=2) (by decide)).mul hX).room hX' hw (by decide)))) (aN rfl) rfl) rfl)))))
 ·show(if 5<=szLine then some _ else none)=_
  rw[af (show 5<=szLine by decide)];rw[tZ X w0 w1 0 (by decide),tZ X w0 w1 1 (by decide),tZ X w0 w1 2 (by decide),tZ X w0 w1 3 (by decide)];rfl
end
end
section
theorem vO{α β:Type}(f:α->β)(l:List α)(lo hi st:Option Int):eJ (l.map f) lo hi st=(eJ l lo hi st).map f:=by
 unfold eJ;rw[aC,List.map_filterMap];exact aq (fun g=>List.filterMap g _) (funext fun i=>bA)
theorem qq{a b:List Nat}(h:a.length+b.length<=100000):bR .Add (ln a) (ln b)=some (ln (a++b)):=by
 refine(af (by rw[aC,aC];exact ai h (by decide))).trans ?_;rw[<-hU]
theorem CR(l:List Int):biV .sum [li l]=some (.int l.sum):=by
 show(cJ _).map _=_;rw[dS];rfl
structure LF3(Φ:Fun):Prop where
 i2d:Φ 2=i2dV
 idm:Φ 5=jG 2
 qd:Φ 6=qdV
 tape:∀{ns:List Int},(∀n∈ns,0<=n/\n<2^18)->ns.length<=1000->Φ 10 [li ns]=some (li (ji 0 ns))
 word:∀{h:Int}{n0 n1:Nat},Φ 11 [.int h,ln [n0,n1]]=some (ln ((wd h).map (sg n0 n1)))
 rules:∀{n0 n1:Nat}{w0 w1:List Nat}{b:Int}{l:List V},256<=n0->256<=n1->(∀m∈w0,1<=m)->(∀m∈w1,1<=m)->w0.length<4->w1.length<4->iO [.int b]=true->(V.int b::l).length<=szLine ->
  iW (.int b::l) ((n0:Int)::(w0.map (fun m:Nat=>(m:Int))++0::((n1:Int)::(w1.map (fun m:Nat=>(m:Int))++0::[]))))->Φ 1000 [.lst (.int b::l)]=some (rls n0 n1 w0 w1)
 grow:∀{n0 n1:Nat}{w0 w1:List Nat},256<=n0->256<=n1->n0≠n1->n0<=1114111->n1<=1114111->be w0->be w1->∀{k:Nat},k<4 ->
  ∃gr,gx (Φ 12 [.str (txt n0 n1 (tk w0 w1 k)),rls n0 n1 (w0.map (sg n0 n1)) (w1.map (sg n0 n1))]=some (.str gr)) (gr.length<=1000) (fH gr=txt n0 n1 (tk w0 w1 (k+1))) (Φ 2000 [.str gr]=some (.str (txt n0 n1 (tk w0 w1 (k+1)))))
 table:∀{n0 n1:Nat}{w0 w1:List Nat}{X:Int}{w:Nat},Lw w X 1 0->Lw w (X-1) 1 0->w<=1415->n0≠n1->be w0->be w1->256<=n0->256<=n1 ->
  Φ 13 [.lst [ln (w0.map (sg n0 n1)),ln (w1.map (sg n0 n1))],ln [n0,n1],.int X]=some (liM (mxF (eM X (nW w0 w1) (sW w0 w1) (dW w0 w1))))
theorem py2:pyΦ 2=i2dV:=rfl
theorem py5:pyΦ 5=jG 2:=rfl
theorem py6:pyΦ 6=qdV:=rfl
theorem py7:pyΦ 7=t7V:=rfl
theorem py8:pyΦ 8=t8V:=rfl
theorem py9:pyΦ 9=t9V:=rfl
theorem lN{φ ψ:List V->Option V}{i:Nat}{f:LF}(hf:jc[i]?=some f)(hi:i<4)(vs:List V):je jc φ ψ (10+i) vs=lfV (lvΦ jc i) f vs:=
 congrFun ((oY (bK.mpr fun e=>by lia)).trans ((oY (bK.mpr fun e=>by lia)).trans (pN hf 4 hi))) vs
theorem lf3:LF3 (je jc (bB jc pY) (bB jc z9)) where
 i2d:=(eK (fs:=jc) (by decide) 4).trans py2
 idm:=(eK (fs:=jc) (by decide) 4).trans py5
 qd:=(eK (fs:=jc) (by decide) 4).trans py6
 tape h hl:=(lN (i:=0) (f:=z8) rfl (by decide) _).trans (vH ((eK (by decide) 0).trans py2) h hl)
 word:=(lN (i:=1) (f:=z7) rfl (by decide) _).trans vE
 rules a b c d e f g h i:=sC ((eK (by decide) 4).trans py7) ((eK (by decide) 4).trans py8) ((eK (by decide) 4).trans py9) a b c d e f g h i
 grow a b c d e f g k hk:=by
  obtain⟨gr,h1,h2,h3,h4⟩:=Bc (Φ:=lvΦ jc 2) (N:=1) ((eK (by decide) 2).trans py7) ((eK (by decide) 2).trans py8) a b c d e f g hk;exact⟨gr,(lN (i:=2) (f:=v5) rfl (by decide) _).trans h1,h2,h3,h4⟩
 table a b c d e f g h:=(lN (i:=3) (f:=v4) rfl (by decide) _).trans (rY a b c d e f g h)
theorem rW{n:Nat}(h:256<=n)(h2:n<2^18)(ns:List Int):Ex2 fun b l=>ji 0 ((n:Int)::ns)=b::l/\iO [.int b]=true:=by
 obtain⟨D,hD,hl,hdg,hv,_⟩:=iq (n:=(n:Int)) (by lia) (by exact_mod_cast h2);obtain f1:=(dZ hD).1;obtain f2:=(dZ hD).2;have ne:D≠[]:=fun q=>by rw[q]at hv;have:(0:Int)=n:=hv;lia
 rw[ji,f2 ne]
 match hr:D.reverse,hdg with
 |[],_=>exact absurd (List.reverse_eq_nil_iff.mp hr) ne
 |[d],hdg=>
  have:D=[d]:=by rw[<-List.reverse_reverse D,hr];rfl
  subst this;have q:=hdg d (.head _);have:aU 6 [d]=d:=by rw[aU,aU,Int.mul_zero,Int.add_zero]
  rw[this]at hv;have:(2:Int)^6=64:=by decide
  lia
 |d::e::r,hdg=>
  have q:=hdg d (List.mem_reverse.mp (by rw[hr];exact .head _));have p6:(2:Int)^6=64:=by decide
  rw[p6]at q;obtain a1:=(dY q.1 q.2 0).1;obtain a2:=(dY q.1 q.2 0).2.1;refine⟨_,_,rfl,?_⟩;show(Builtin.bitAnd (d+64+128*((0%2:Nat):Int)) 64 != 0&&decide (ibits (Builtin.bitAnd (d+64+128*((0%2:Nat):Int)) 63)<=64))=true;rw[a1,a2,dp (ai (aK (m:=6) q.1 (by rw[p6];exact q.2)) (by decide))];rfl
theorem pR(l:List Nat):PyData.canLayAll0 (dK (l.map fun n:Nat=>V.int (n:Int)))=true/\PyData.depthAll (dK (l.map fun n:Nat=>V.int (n:Int)))=0:=by
 have:=kw (l.map fun n:Nat=>(n:Int));rw[dI]at this;exact this
theorem Bl(l:List Nat):jJ (l.map fun n:Nat=>V.int (n:Int)) (l.map fun n:Nat=>V.int (n:Int))=some true:=by
 have:=lR (l.map fun n:Nat=>(n:Int)) (l.map fun n:Nat=>(n:Int));rw[dI,fu]at this;exact this
theorem Dz(n0 n1:Nat)(w0 w1:List Nat):lz .NotEq (rls n0 n1 w0 w1) (rls n0 n1 w0 w1)=some false:=by
 obtain h:SeqAt.shaped (eV (rls n0 n1 w0 w1))=true:=by
  unfold SeqAt.shaped;refine Bool.and_eq_true_iff.mpr ⟨?_,dp ?_⟩
  ·simp only[rls,eV,dK,PyData.canLay0,PyData.canLayAll0,(pR w0).1,(pR w1).1];rfl
  ·simp only[rls,eV,dK,PyData.depth,PyData.depthAll,(pR w0).2,(pR w1).2];decide
 obtain e:jJ [V.tup [.int (n0:Int),ln w0],.tup [.int (n1:Int),ln w1]] [V.tup [.int (n0:Int),ln w0],.tup [.int (n1:Int),ln w1]]=some true:=by
  obtain q:∀(n:Nat) (w:List Nat),eqO (.tup [.int (n:Int),ln w]) (.tup [.int (n:Int),ln w])=some true:=fun n w=>by
   show Option.bind (some ((n:Int)==(n:Int))) (fun a=>(((jJ (w.map fun n:Nat=>V.int (n:Int)) (w.map fun n:Nat=>V.int (n:Int)))).bind fun a=>(some true).map fun b=>a&&b).map fun b=>a&&b)=_;rw[Bl,fu];rfl
  exact(bd (q n0 w0)).trans ((aq (Option.map _) ((bd (q n1 w1)).trans rfl)).trans rfl)
 show Option.map (!·) (if SeqAt.shaped (eV (rls n0 n1 w0 w1))&&SeqAt.shaped (eV (rls n0 n1 w0 w1))then jJ [V.tup [.int (n0:Int),ln w0],.tup [.int (n1:Int),ln w1]] [V.tup [.int (n0:Int),ln w0],.tup [.int (n1:Int),ln w1]]else none)=_;rw[h,e];rfl
section
variable{Φ:Fun}{N:Nat}
noncomputable def gE(n:Nat):Ro:=List.replicate n .unb
noncomputable def hp3:List (Int×Int):=[(0,0),(1,98),(2,167),(3,8084)]
noncomputable def Ck:E:=.comp1 [none,none,none,some 0] (.many [1,2]) (.enum (.list [(.const (.int 0)),(.const (.int 98)),(.const (.int 167)),(.const (.int 8084))])) [] (.bin .Add (.var 2) (.bi .sum [(.slice (.var 3) (.var 1) (.const (.none)) (.const (.int 4)))]))
noncomputable def fq(ns:List Int)(p:Int×Int):Int:=p.2+(eJ ns (some p.1) none (some 4)).sum
theorem yO{ns:List Int}{r:Ro}(hn:ns.length<=szLine):ev Φ Ck (.val (li ns)::r)=some (li (hp3.map (fq ns))):=by
 obtain hf:fmM (hp3.map fun p=>V.tup [.int p.1,.int p.2]) (me (.many [1,2]) (fun ρ=>rt Φ [] ρ) [.unb,.unb,.unb,.val (li ns)] fun ρ=>(ev Φ (.bin .Add (.var 2) (.bi .sum [(.slice (.var 3) (.var 1) (.const (.none)) (.const (.int 4)))])) ρ).map fun v=>[v])=some (hp3.map fun p=>V.int (fq ns p)):=
  uX fun p U=>by
   obtain e:gH (li ns) (some p.1) none (some 4)=some (li (eJ ns (some p.1) none (some 4))):=(af ⟨by rw[aC];exact hn,by decide⟩).trans (by rw[vO]);exact kT rfl rfl (aP rfl (xP (f7 (lI rfl rfl rfl rfl rfl rfl rfl e) rfl) (CR _)) rfl)
 exact(jj (show eu Φ (.enum _) _=some _ from rfl) hf (show(hp3.map fun p=>V.int (fq ns p)).length<=szLine from(show 4<=szLine by decide))).trans rfl
noncomputable def n0F(h:Int):Nat:=256+(h.fmod 3000).toNat
noncomputable def n1F(h:Int):Nat:=4096+((h.fdiv 3000).fmod 500).toNat
theorem kU(h:Int):256<=n0F h/\n0F h<3256/\4096<=n1F h/\n1F h<4596:=by
 exact⟨i7 _ _,Nat.add_lt_add_left (eY (k:=3000) (by decide) h) 256,i7 _ _,Nat.add_lt_add_left (eY (k:=500) (by decide) (h.fdiv 3000)) 4096⟩
noncomputable def yaS:List S:=[.asg 2 (.list [(.bin .Add (.const (.int 256)) (.bin .Mod (.sub (.var 1) (.const (.int 0))) (.const (.int 3000)))),(.bin .Add (.const (.int 4096)) (.bin .Mod (.bin .FloorDiv (.sub (.var 1) (.const (.int 0))) (.const (.int 3000))) (.const (.int 500))))]),
 .asg 3 (.list [(.call 11 [(.sub (.var 1) (.const (.int 1))),(.var 2)]),(.call 11 [(.sub (.var 1) (.const (.int 2))),(.var 2)])]),
 .calls 4 0 [(.call 10 [(.bin .Add (.bin .Add (.bin .Add (.bin .Add (.list [(.sub (.var 2) (.const (.int 0)))]) (.sub (.var 3) (.const (.int 0)))) (.list [(.const (.int 0)),(.sub (.var 2) (.const (.int 1)))])) (.sub (.var 3) (.const (.int 1)))) (.list [(.const (.int 0))]))])],
 .ite (.cmp .NotEq (.var 4) (.list [(.tuple [(.sub (.var 2) (.const (.int 0))),(.sub (.var 3) (.const (.int 0)))]),(.tuple [(.sub (.var 2) (.const (.int 1))),(.sub (.var 3) (.const (.int 1)))])])) [.ret (.const (.bool false))] []]
theorem yZ{n:Int}(h0:0<=n)(h:n<2^18):(dB n).length<=3:=by
 obtain⟨D,hD,hl,_⟩:=iq h0 h;obtain f1:=(dZ hD).1;obtain f2:=(dZ hD).2;by_cases q:D=[]
 ·rw[f1 q];decide
 ·rw[f2 q];exact hl
theorem n8:∀(ns:List Int) (l:Nat),(∀n∈ns,0<=n/\n<2^18)->(ji l ns).length<=3*ns.length:=by
 intro ns
 induction ns with
 |nil=>
  intro _ _;exact bS _
 |cons n ns n8=>
  intro l h;obtain ih:=n8 (l+(dB n).length) fun x hx=>h x (.tail _ hx);have:=yZ (h n (.head _)).1 (h n (.head _)).2;rw[ji,aG,iz,ll,List.length_cons];lia
theorem GB{b:Int}{l xs:List Int}(tn:(b::l).length<=3*xs.length)(el:xs.length<=20):(V.int b::l.map V.int).length<=szLine:=by
 obtain hz:szLine=1048576:=rfl;rw[List.length_cons]at tn;rw[List.length_cons,aC];lia
theorem EQ(L:LF3 Φ){h0 h1 h2 h3:Int}{r:Ro}(hr:r=gE 14):exs Φ N yaS (.unb::.val (li [h0,h1,h2,h3])::.unb::.unb::r) =
  some (.nxt (.unb::.val (li [h0,h1,h2,h3])::.val (ln [n0F h0,n1F h0])::.val (.lst [ln ((wd h1).map (sg (n0F h0) (n1F h0))),ln ((wd h2).map (sg (n0F h0) (n1F h0)))])::.val (rls (n0F h0) (n1F h0) ((wd h1).map (sg (n0F h0) (n1F h0))) ((wd h2).map (sg (n0F h0) (n1F h0))))::gE 13)):=by
 subst hr;obtain b0:=(kU h0).1;obtain b1:=(kU h0).2.1;obtain b2:=(kU h0).2.2.1;obtain b3:=(kU h0).2.2.2;obtain e2:ev Φ (.list [(.bin .Add (.const (.int 256)) (.bin .Mod (.sub (.var 1) (.const (.int 0))) (.const (.int 3000)))),(.bin .Add (.const (.int 4096)) (.bin .Mod (.bin .FloorDiv (.sub (.var 1) (.const (.int 0))) (.const (.int 3000))) (.const (.int 500))))]) (.unb::.val (li [h0,h1,h2,h3])::.unb::.unb::gE 14)=some (ln [n0F h0,n1F h0]):=by
  obtain q0:=fQ (k:=3000) (by decide) h0;obtain q1:=fQ (k:=500) (by decide) (h0.fdiv 3000);refine(nh (am (aP rfl (aL (fO (aN rfl) rfl rfl) rfl (gq h0 (by decide))) rfl) (am (aP rfl (aL (aL (fO (aN rfl) rfl rfl) rfl (gu h0 (by decide) (by decide))) rfl (gq _ (by decide))) rfl) rfl)) (by show 2<=szLine;decide)).trans ?_;show some (V.lst [.int (256+h0.fmod 3000),.int (4096+(h0.fdiv 3000).fmod 500)])=some (V.lst [.int ((n0F h0:Nat):Int),.int ((n1F h0:Nat):Int)]);obtain z0:((n0F h0:Nat):Int)=256+h0.fmod 3000:=by unfold n0F;rw[Int.natCast_add,q0];rfl
  obtain z1:((n1F h0:Nat):Int)=4096+(h0.fdiv 3000).fmod 500:=by unfold n1F;rw[Int.natCast_add,q1];rfl
  rw[z0,z1]
 generalize n0F h0=n0 at *;generalize n1F h0=n1 at *;have k1:=tV h1;have k2:=tV h2;have hsg:∀w:List Nat,be w->∀m∈w.map (sg n0 n1),1<=m/\m<2^18:=fun w hw m hm=>by
  obtain⟨t,ht,rfl⟩:=eH.mp hm;refine lt5 (hw.lt t ht) ?_ ?_ ?_ ?_ ?_
  ·show 1<=n0/\n0<2^18;lia
  ·show 1<=n1/\n1<2^18;lia
  ·show 1<=46/\46<2^18;decide
  ·show 1<=10/\10<2^18;decide
  ·show 1<=255/\255<2^18;decide
 have s1:=hsg _ k1;have s2:=hsg _ k2;obtain l1:((wd h1).map (sg n0 n1)).length<4:=by rw[aC];exact k1.len
 obtain l2:((wd h2).map (sg n0 n1)).length<4:=by rw[aC];exact k2.len
 obtain c1:=L.word (h:=h1) (n0:=n0) (n1:=n1);obtain c2:=L.word (h:=h2) (n0:=n0) (n1:=n1);generalize (wd h1).map (sg n0 n1)=W0 at *;generalize (wd h2).map (sg n0 n1)=W1 at *;obtain e3:ev Φ (.list [(.call 11 [(.sub (.var 1) (.const (.int 1))),(.var 2)]),(.call 11 [(.sub (.var 1) (.const (.int 2))),(.var 2)])]) (.unb::.val (li [h0,h1,h2,h3])::.val (ln [n0,n1])::.unb::gE 14)=some (.lst [ln W0,ln W1]):=
  nh (am (cQ (am (l5 (aN rfl) rfl rfl) (am (dA rfl) rfl)) c1) (am (cQ (am (l5 (aN rfl) rfl rfl) (am (dA rfl) rfl)) c2) rfl)) (by show 2<=szLine;decide)
 obtain a1:=qq (a:=[n0]) (b:=W0) (by show 1+_<=_;lia);obtain a2:=qq (a:=[n0]++W0) (b:=[0,n1]) (by rw[aG];show 1+_+2<=_;lia);obtain a3:=qq (a:=[n0]++W0++[0,n1]) (b:=W1) (by rw[aG,aG];show 1+_+2+_<=_;lia);obtain a4:=qq (a:=[n0]++W0++[0,n1]++W1) (b:=[0]) (by rw[aG,aG,aG];show 1+_+2+_+1<=_;lia);have et:([n0]++W0++[0,n1]++W1++[0]).map (fun n:Nat=>(n:Int))=(n0:Int)::(W0.map (fun m:Nat=>(m:Int))++0::((n1:Int)::(W1.map (fun m:Nat=>(m:Int))++0::[]))):=by simp
 have eb:∀n∈([n0]++W0++[0,n1]++W1++[0]).map (fun n:Nat=>(n:Int)),0<=n/\n<2^18:=fun n hn=>by
  obtain⟨m,hm,rfl⟩:=eH.mp hn;have b:m<2^18:=by
   rcases List.mem_append.mp hm with hm | hm
   ·rcases List.mem_append.mp hm with hm | hm
    ·rcases List.mem_append.mp hm with hm | hm
     ·rcases List.mem_append.mp hm with hm | hm
      ·exact fx.mp hm▸Nat.lt_trans b1 (by decide)
      ·exact(s1 m hm).2
     ·exact DG (by decide) (Nat.lt_trans b3 (by decide)) hm
    ·exact(s2 m hm).2
   ·exact fx.mp hm▸(by decide)
  exact⟨cF m,by exact_mod_cast b⟩
 have el:(([n0]++W0++[0,n1]++W1++[0]).map (fun n:Nat=>(n:Int))).length<=20:=by simp;lia
 have tp:=L.tape eb (ai el (by decide));have tl:=j6 _ 0 eb;have tn:=n8 _ 0 eb;rw[et]at tp tl tn el;obtain hp18:n0<2^18:=Nat.lt_trans b1 (by decide);obtain⟨b,l,e1,e4⟩:=rW (n:=n0) b0 hp18 (W0.map (fun m:Nat=>(m:Int))++0::((n1:Int)::(W1.map (fun m:Nat=>(m:Int))++0::[])));rw[e1]at tp tl tn;obtain ru:=L.rules (n0:=n0) (n1:=n1) (w0:=W0) (w1:=W1) (b:=b) (l:=l.map .int) b0 (by lia) (fun m hm=>(s1 m hm).1) (fun m hm=>(s2 m hm).1) l1 l2 e4 (GB tn el) tl;obtain ev4:evs Φ [(.call 10 [(.bin .Add (.bin .Add (.bin .Add (.bin .Add (.list [(.sub (.var 2) (.const (.int 0)))]) (.sub (.var 3) (.const (.int 0)))) (.list [(.const (.int 0)),(.sub (.var 2) (.const (.int 1)))])) (.sub (.var 3) (.const (.int 1)))) (.list [(.const (.int 0))]))])] (.unb::.val (li [h0,h1,h2,h3])::.val (ln [n0,n1])::.val (.lst [ln W0,ln W1])::gE 14)=some [li (b::l)]:=by
  refine am (cQ (l:=[li ((n0:Int)::(W0.map (fun m:Nat=>(m:Int))++0::((n1:Int)::(W1.map (fun m:Nat=>(m:Int))++0::[]))))]) (am ?_ rfl) tp) rfl;rw[<-et,<-Fo];exact aP (aL (aL (aL rfl (fO (aN rfl) rfl rfl) a1) rfl a2) (fO (aN rfl) rfl rfl) a3) rfl a4
 obtain ne:evb Φ (.cmp .NotEq (.var 4) (.list [(.tuple [(.sub (.var 2) (.const (.int 0))),(.sub (.var 3) (.const (.int 0)))]),(.tuple [(.sub (.var 2) (.const (.int 1))),(.sub (.var 3) (.const (.int 1)))])])) (.unb::.val (li [h0,h1,h2,h3])::.val (ln [n0,n1])::.val (.lst [ln W0,ln W1])::.val (rls n0 n1 W0 W1)::gE 13)=some false:=
  bC (aN rfl) rfl (Dz n0 n1 W0 W1)
 exact(ae (bO e2 (bg rfl))).trans ((ae (bO e3 (bg rfl))).trans ((ae (za rfl ev4 ru rfl)).trans ((gR ne rfl).trans rfl)))
end
end
section
noncomputable def szF(w0 w1:List Nat)(k:Nat):Int:=lW w0 w1 0 k+lW w0 w1 3 k+3+(k:Int)
noncomputable def ytB:List S:=[.asg 8 (.call 12 [(.var 5),(.var 4)]),.asg 5 (.call 6 [(.var 8)]),.chk 5 8 0,.app 6 (.bi .len [(.var 5)])]
noncomputable def ngE:E:=.comp1 [none,none] (.one 1) (.exp (.var 11)) [] (.comp1 [none,none] (.one 1) (.exp (.var 1)) [] (.un .USub (.var 1)))
noncomputable def eeE:E:=.comp1 [none,none,some 1,some 11,some 12] (.one 1) (.range [(.const (.int 5))]) [] (.ife (.cmp .Eq (.bin .Mod (.bin .FloorDiv (.bin .FloorDiv (.sub (.var 2) (.const (.int 3))) (.const (.int 1400))) (.bin .Pow (.const (.int 2)) (.var 1))) (.const (.int 2))) (.const (.int 1))) (.sub (.var 4) (.var 1)) (.sub (.var 3) (.var 1)))
noncomputable def ybS:List S:=[.own 6 (.list [(.bi .len [(.var 5)])]),.forr (.one 7) (.range [(.const (.int 4))]) ytB,.asg 9 (.bin .Add (.const (.int 16)) (.bin .Mod (.sub (.var 1) (.const (.int 3))) (.const (.int 1400)))),.asg 10 (.bin .Pow (.const (.int 2)) (.var 9)),.asg 11 (.call 13 [(.var 3),(.var 2),(.var 10)]),.asg 12 ngE]
section
variable{Φ:Fun}{N:Nat}
noncomputable def tnF(H NS WS RU:V)(t:List Nat)(s6 s7 s8:Sl):Ro:=.unb::.val H::.val NS::.val WS::.val RU::.val (.str t)::s6::s7::s8::gE 9
variable{H NS WS:V}{n0 n1:Nat}{w0 w1:List Nat}{s7 s8:Sl}{A:List V}
theorem len_str{t:List Nat}(h:t.length<=100000):biV .len [.str t]=some (.int (t.length:Nat)):=af (ai h (by decide))
theorem E6{ρ:Ro}{i j k:Nat}{x y:List Nat}(h1:l9 ρ i=some (.str x))(h2:l9 ρ j=some (.str y))(h3:Φ (2000+k) [.str y]=some (.str x)):ex Φ N (.chk i j k) ρ=some (.nxt ρ):=by
 refine(bd h1).trans ((bd h2).trans ((bd h3).trans ?_));show Option.map _ (some (!(x==x)))=_;rw[fu];rfl
theorem A5(L:LF3 Φ)(g0:256<=n0)(g1:256<=n1)(gn:n0≠n1)(m0:n0<=1114111)(m1:n1<=1114111)(h0:be w0)(h1:be w1){k:Nat}(hk:k<4)(hA:A.length<100):
  ∃s8',exs Φ N ytB (tnF H NS WS (rls n0 n1 (w0.map (sg n0 n1)) (w1.map (sg n0 n1))) (txt n0 n1 (tk w0 w1 k)) (.own A) s7 s8)=some (.nxt (tnF H NS WS (rls n0 n1 (w0.map (sg n0 n1)) (w1.map (sg n0 n1))) (txt n0 n1 (tk w0 w1 (k+1))) (.own (A++[.int (szF w0 w1 (k+1))])) s7 s8')):=by
 obtain⟨gr,e1,e2,e3,e4⟩:=L.grow g0 g1 gn m0 m1 h0 h1 hk;obtain q:Φ 6 [.str gr]=some (.str (txt n0 n1 (tk w0 w1 (k+1)))):=by
  rw[L.qd,<-e3];exact af (ai e2 (by decide))
 obtain ln:=len_str (t:=txt n0 n1 (tk w0 w1 (k+1))) (ai (BV h0 h1 hk) (by decide));rw[rU h0 h1 (k+1)]at ln;exact⟨.val (.str gr),(ae (bO (cQ (am (dA rfl) (am (dA rfl) rfl)) e1) (bg rfl))).trans ((ae (bO (cQ (am (dA rfl) rfl) q) (bg rfl))).trans
  ((ae (E6 (i:=5) (j:=8) (k:=0) rfl rfl e4)).trans ((ae (kF (l:=A) (zm (f7 (aN rfl) rfl) ln) rfl (by have:szLine=1048576:=rfl;lia))).trans rfl)))⟩
noncomputable def wF(h:Int):Nat:=16+(h.fmod 1400).toNat
theorem BR(h:Int):16<=wF h/\wF h<=1415:=by
 obtain a:(h.fmod 1400).toNat<1400:=eY (k:=1400) (by decide) h;unfold wF;lia
noncomputable def ngM(M:Mx):Mx:=M.map fun m=>m.map fun x=>-x
theorem Fk{M:Mx}{ρ:Ro}(h:ρ[11]?=some (.val (liM M)))(h5:M.length<=1000)(h6:∀m∈M,m.length<=1000):ev Φ ngE ρ=some (liM (ngM M)):=by
 obtain hr:∀(m:List Int),m.length<=1000->∀ρ:Ro,ρ[1]?=some (.val (.lst (m.map .int)))->ev Φ (.comp1 [none,none] (.one 1) (.exp (.var 1)) [] (.un .USub (.var 1))) ρ=some (.lst ((m.map fun x=>-x).map .int)):=fun m hm ρ h=>by
  refine jj (items:=m.map .int) (lQ h (by rw[aC];lia)) ?_ (by rw[aC,aC];exact ai hm (by decide));rw[dI];exact iu fun x hx=>kT rfl rfl (lx (dA rfl) rfl)
 have:liM (ngM M)=.lst (M.map fun m=>.lst ((m.map fun x=>-x).map .int)):=by
  show V.lst ((M.map _).map _)=_;rw[dI];rfl
 rw[this];refine jj (items:=M.map fun m=>.lst (m.map .int)) (lQ (l:=M.map fun m=>.lst (m.map .int)) h (by rw[aC];lia)) ?_ (by rw[aC];exact ai h5 (by decide));exact iu fun m hm=>kT rfl rfl (hr m (h6 m hm) _ rfl)
noncomputable def sgF(h:Int)(i:Nat):Int:=if((h.fdiv 1400).fdiv (2^i)).fmod 2=1 then -1 else 1
theorem D4(h:Int)(i:Nat):sgF h i=1\/sgF h i=-1:=by unfold sgF;split;exact .inr rfl;exact .inl rfl
theorem uw(f:Nat->Nat->Int){i:Nat}(hi:i<5):mi (liM (mxF f)) (.int (i:Int))=some (.lst (((List.range 6).map fun j=>f i j).map .int)):=by
 refine pz ?_ (by show 5<=szLine;decide);unfold mxF;rw[bA,bA,List.getElem?_range hi];rfl
theorem Fl(f:Nat->Nat->Int):ngM (mxF f)=mxF fun i j=>-f i j:=by
 unfold ngM mxF;rw[dI];refine List.map_congr_left fun i U=>?_;show List.map _ (List.map _ _)=_;rw[dI];rfl
theorem FN{c:B}{a b:E}{ρ:Ro}{v:V}(hc:evb Φ c ρ=some true)(h:ev Φ a ρ=some v):ev Φ (.ife c a b) ρ=some v:=ni hc ((cond_true _ _).trans h)
theorem FO{c:B}{a b:E}{ρ:Ro}{v:V}(hc:evb Φ c ρ=some false)(h:ev Φ b ρ=some v):ev Φ (.ife c a b) ρ=some v:=ni hc ((cond_false _ _).trans h)
theorem FM{f:Nat->Nat->Int}{ρ:Ro}{a b c d:Int}(h1:ρ[1]?=some (.val (li [a,b,c,d])))(h11:ρ[11]?=some (.val (liM (mxF f))))(h12:ρ[12]?=some (.val (liM (mxF fun i j=>-f i j)))):ev Φ eeE ρ=some (liM (mxF (flp f (sgF d)))):=by
 obtain hc:capt [none,none,some 1,some 11,some 12] ρ=[.unb,.unb,.val (li [a,b,c,d]),.val (liM (mxF f)),.val (liM (mxF fun i j=>-f i j))]:=by
  show[Sl.unb,.unb,((ρ[1]?).bind slV).elim .unb .val,((ρ[11]?).bind slV).elim .unb .val,((ρ[12]?).bind slV).elim .unb .val]=_;rw[h1,h11,h12];rfl
 obtain hl:liM (mxF (flp f (sgF d)))=.lst ((List.range 5).map fun i=>.lst (((List.range 6).map fun j=>flp f (sgF d) i j).map .int)):=by
  show V.lst ((mxF _).map _)=_;unfold mxF;rw[dI];rfl
 rw[hl];refine jj (items:=(List.range 5).map fun i:Nat=>V.int (i:Int)) rfl ?_ (by show 5<=szLine;decide);rw[hc];refine iu fun i hi=>?_;obtain i5:=List.mem_range.mp hi;obtain hb:ibits 2=2:=by decide
 obtain hp:(2:Int)^i≠0/\((2:Int)^i).natAbs<1073741824:=by exact lt5 i5 (by decide) (by decide) (by decide) (by decide) (by decide)
 have hcond:evb Φ (.cmp .Eq (.bin .Mod (.bin .FloorDiv (.bin .FloorDiv (.sub (.var 2) (.const (.int 3))) (.const (.int 1400))) (.bin .Pow (.const (.int 2)) (.var 1))) (.const (.int 2))) (.const (.int 1))) [.unb,iv i,.val (li [a,b,c,d]),.val (liM (mxF f)),.val (liM (mxF fun i j=>-f i j))]=some (((d.fdiv 1400).fdiv (2^i)).fmod 2==1):=
  bC (aL (aL (aL (fO (aN rfl) rfl rfl) rfl (gu d (by decide) (by decide))) (aL rfl (aN rfl) (ko (by rw[hb];lia))) (gu _ hp.1 hp.2)) rfl (gq _ (by decide))) rfl rfl
 by_cases q:((d.fdiv 1400).fdiv (2^i)).fmod 2=1
 ·rw[q]at hcond
  obtain e:(fun j=>flp f (sgF d) i j)=fun j=>-f i j:=funext fun j=>by unfold flp sgF;rw[af q];lia
  have r:ev Φ (.sub (.var 4) (.var 1)) [.unb,iv i,.val (li [a,b,c,d]),.val (liM (mxF f)),.val (liM (mxF fun i j=>-f i j))]=some (.lst (((List.range 6).map fun j=>flp f (sgF d) i j).map .int)):=
   (l5 (x:=liM (mxF fun i j=>-f i j)) (y:=.int (i:Int)) (aN rfl) (dA rfl) (uw _ i5)).trans (aq (fun g:Nat->Int=>some (V.lst (((List.range 6).map g).map V.int))) e.symm)
  exact kT rfl rfl (FN hcond r)
 ·rw[bK.mpr q]at hcond
  obtain e:(fun j=>flp f (sgF d) i j)=fun j=>f i j:=funext fun j=>by unfold flp sgF;rw[ag q];lia
  have r:ev Φ (.sub (.var 3) (.var 1)) [.unb,iv i,.val (li [a,b,c,d]),.val (liM (mxF f)),.val (liM (mxF fun i j=>-f i j))]=some (.lst (((List.range 6).map fun j=>flp f (sgF d) i j).map .int)):=
   (l5 (x:=liM (mxF f)) (y:=.int (i:Int)) (aN rfl) (dA rfl) (uw _ i5)).trans (aq (fun g:Nat->Int=>some (V.lst (((List.range 6).map g).map V.int))) e.symm)
  exact kT rfl rfl (FO hcond r)
noncomputable def lwF(h:List Int)(NS WS RU:V)(t:List Nat)(szs:List Int)(s7 s8:Sl)(w:Nat)(X:Int)(f:Nat->Nat->Int):Ro:=.unb::.val (li h)::.val NS::.val WS::.val RU::.val (.str t)::.own (szs.map .int)::s7::s8::.val (.int (w:Int))::.val (.int X)::.val (liM (mxF f))::.val (liM (mxF fun i j=>-f i j))::gE 5
theorem zS(w:Nat):Lw w ((2:Int)^w) 1 0/\Lw w ((2:Int)^w-1) 1 0:=⟨Lw.two w,.le (by have:=aW w;lia) (Int.sub_le_self _ (by decide)) (Lw.two w)⟩
theorem EP(L:LF3 Φ)(g0:256<=n0)(g1:256<=n1)(gn:n0≠n1)(m0:n0<=1114111)(m1:n1<=1114111)(h0:be w0)(h1:be w1){a b c d:Int}:
  Ex3 fun s7 s8 t=>exs Φ N ybS (.unb::.val (li [a,b,c,d])::.val (ln [n0,n1])::.val (.lst [ln (w0.map (sg n0 n1)),ln (w1.map (sg n0 n1))])::.val (rls n0 n1 (w0.map (sg n0 n1)) (w1.map (sg n0 n1)))::.val (.str (txt n0 n1 (tk w0 w1 0)))::gE 12) =
   some (.nxt (lwF [a,b,c,d] (ln [n0,n1]) (.lst [ln (w0.map (sg n0 n1)),ln (w1.map (sg n0 n1))]) (rls n0 n1 (w0.map (sg n0 n1)) (w1.map (sg n0 n1))) t [szF w0 w1 0,szF w0 w1 1,szF w0 w1 2,szF w0 w1 3,szF w0 w1 4] s7 s8 (wF d) (2^wF d) (eM (2^wF d) (nW w0 w1) (sW w0 w1) (dW w0 w1)))):=by
 have l0:=len_str (t:=txt n0 n1 (tk w0 w1 0)) (by show 5<=100000;decide);rw[rU h0 h1 0]at l0;have T:=fun{k:Nat} (hk:k<4){A:List V}{s7 s8:Sl} (hA:A.length<100)=>A5 (N:=N) (H:=li [a,b,c,d]) (NS:=ln [n0,n1]) (WS:=.lst [ln (w0.map (sg n0 n1)),ln (w1.map (sg n0 n1))]) (s7:=s7) (s8:=s8) (A:=A) L g0 g1 gn m0 m1 h0 h1 hk hA;obtain⟨a8,t0⟩:=T (k:=0) (by decide) (A:=[.int (szF w0 w1 0)]) (s7:=iv 0) (s8:=.unb) (by show 1<100;decide);obtain⟨b8,t1⟩:=T (k:=1) (by decide) (A:=[.int (szF w0 w1 0)]++[.int (szF w0 w1 1)]) (s7:=iv 1) (s8:=a8) (by simp);obtain⟨c8,t2⟩:=T (k:=2) (by decide) (A:=[.int (szF w0 w1 0)]++[.int (szF w0 w1 1)]++[.int (szF w0 w1 2)]) (s7:=iv 2) (s8:=b8) (by simp);obtain⟨d8,t3⟩:=T (k:=3) (by decide) (A:=[.int (szF w0 w1 0)]++[.int (szF w0 w1 1)]++[.int (szF w0 w1 2)]++[.int (szF w0 w1 3)]) (s7:=iv 3) (s8:=c8) (by simp);obtain lp:=(ax (p:=.one 7) (b:=fun ρ=>exs Φ N ytB ρ) (x:=.int (0:Nat)) (l:=[.int (1:Nat),.int (2:Nat),.int (3:Nat)]) (ρ:=tnF (li [a,b,c,d]) (ln [n0,n1]) (.lst [ln (w0.map (sg n0 n1)),ln (w1.map (sg n0 n1))]) (rls n0 n1 (w0.map (sg n0 n1)) (w1.map (sg n0 n1))) (txt n0 n1 (tk w0 w1 0)) (.own [.int (szF w0 w1 0)]) .unb .unb) rfl t0).trans ((ax rfl t1).trans ((ax rfl t2).trans ((ax rfl t3).trans rfl)));obtain wb:=BR d;obtain e9:∀ρ:Ro,ρ[1]?=some (.val (li [a,b,c,d]))->ev Φ (.bin .Add (.const (.int 16)) (.bin .Mod (.sub (.var 1) (.const (.int 3))) (.const (.int 1400)))) ρ=some (.int (wF d:Nat)):=fun ρ h=>by
  obtain q:=fQ (k:=1400) (by decide) d;refine(aP rfl (aL (fO (aN h) rfl rfl) rfl (gq d (by decide))) rfl).trans ?_;show some (V.int (16+d.fmod 1400))=_;rw[<-q];unfold wF;rw[Int.natCast_add];rfl
 obtain hb:ibits 2=2:=by decide
 obtain e10:∀ρ:Ro,ρ[9]?=some (iv (wF d))->ev Φ (.bin .Pow (.const (.int 2)) (.var 9)) ρ=some (.int (2^wF d)):=fun ρ h=>aP rfl (aN h) (ko (by rw[hb];lia));obtain x1:=(zS (wF d)).1;obtain x2:=(zS (wF d)).2;obtain e11:=L.table (n0:=n0) (n1:=n1) (w0:=w0) (w1:=w1) x1 x2 wb.2 gn h0 h1 g0 g1;obtain e12:∀ρ:Ro,ρ[11]?=some (.val (liM (mxF (eM (2^wF d) (nW w0 w1) (sW w0 w1) (dW w0 w1)))))->ev Φ ngE ρ=some (liM (mxF fun i j=>-eM (2^wF d) (nW w0 w1) (sW w0 w1) (dW w0 w1) i j)):=fun ρ h=>by
  rw[<-Fl];exact Fk h (by show 5<=1000;decide) fun m hm=>by rw[(ug _).2 m hm];decide
 generalize (2:Int)^wF d=X at *;generalize eM X (nW w0 w1) (sW w0 w1) (dW w0 w1)=f at *;refine⟨iv 3,d8,txt n0 n1 (tk w0 w1 4),?_⟩;refine(ae (tq (l:=[.int (szF w0 w1 0)]) (nh (am (zm (f7 (aN rfl) rfl) l0) rfl) (by show 1<=szLine;decide)) (bg rfl))).trans ?_;refine(ae ((dG rfl).trans lp)).trans ?_;refine(ae (bO (e9 _ rfl) (bg rfl))).trans ?_;refine(ae (bO (e10 _ rfl) (bg rfl))).trans ?_;refine(ae (bO (cQ (am (dA rfl) (am (dA rfl) (am (dA rfl) rfl))) e11) (bg rfl))).trans ?_;exact(ae (bO (e12 _ rfl) (bg rfl))).trans rfl
end
end
section
theorem DT{w:Nat}(hw:1<=w)(hw2:w<=10000){l:List Int}{t:Int}(h:db w (l++[t]))(ht:1<=t)(hl:l.length<=1000):i2dV [.int (aU w (l++[t])),.int w]=some (li (l++[t])):=by
 obtain hb:=dj w (l++[t]) h;obtain hbl:=dj w l fun d hd=>h d (List.mem_append_left _ hd);rw[aG,List.length_singleton]at hb;obtain e1:aU w [t]=t:=by rw[aU,aU,Int.mul_zero,Int.add_zero]
 obtain lo:2^(w*l.length)<=aU w (l++[t]):=by
  rw[ez,e1];have:=aW (w*l.length);have:(2:Int)^(w*l.length)*1<=2^(w*l.length)*t:=cC ht (by lia);lia
 obtain i1:=rg lo;obtain i2:ibits (aU w (l++[t]))<=w*(l.length+1):=aK hb.1 hb.2;obtain hm:w*(l.length+1)=w*l.length+w:=by rw[Nat.mul_add,Nat.mul_one]
 obtain hn:ndig (aU w (l++[t])) w=l.length+1:=by
  unfold ndig;refine Nat.div_eq_of_lt_le ?_ ?_
  ·rw[Nat.mul_comm];lia
  ·rw[Nat.mul_comm,Nat.mul_add]
   exact i8 (Nat.sub_one_lt_of_lt (i8 hw (Nat.le_add_left _ _))) (Nat.add_le_add i2 (Nat.le_of_eq (Nat.mul_one w).symm))
 obtain hbig:w*(l.length+1)<=10000*1001:=Nat.mul_le_mul hw2 (by lia);refine(af ⟨hb.1,by lia,?_,?_⟩).trans ?_
 ·show some (V.lst ((bH w (ndig (aU w (l++[t])) w) _).map .int))=_
  rw[hn];have:=kK w (l++[t]) h;rw[aG,List.length_singleton]at this;rw[this]
 ·show ibits _+w<=_;lia
 ·show ndig _ w<=_;rw[hn];lia
theorem sv(a b c d e:V):gH (.lst [a,b,c,d,e]) none none (some (-1))=some (.lst [e,d,c,b,a]):=by kernel_rfl
section
variable{Φ:Fun}{N:Nat}
noncomputable def ylB:List S:=[.asg 16 (.bin .Add (.bin .Mult (.var 16) (.var 10)) (.var 17))]
noncomputable def y2S:List S:=[
 .ite (.cmp .Eq (.var 13) (.list [])) [.ret (.const (.bool false))] [],
 .asg 14 (.bin .Mult (.bin .Pow (.var 10) (.const (.int 4))) (.sub (.var 13) (.const (.int 1)))),
 .asg 15 (.bin .Mult (.sub (.var 13) (.const (.int 0))) (.bin .Pow (.bin .Sub (.var 10) (.const (.int 1))) (.const (.int 2)))),
 .asg 16 (.const (.int 0)),
 .forr (.one 17) (.exp (.var 6)) ylB,
 .ite (.cmp .NotEq (.call 5 [(.var 14),(.var 15)]) (.tuple [(.var 16),(.bin .Sub (.var 14) (.bin .Mult (.var 16) (.var 15)))])) [.ret (.const (.bool false))] [],
 .ite (.cmp .NotEq (.call 5 [(.un .USub (.var 14)),(.var 15)]) (.tuple [(.bin .Sub (.un .USub (.var 16)) (.const (.int 1))),(.bin .Sub (.bin .Add (.bin .Mult (.var 16) (.var 15)) (.var 15)) (.var 14))])) [.ret (.const (.bool false))] [],
 .ret (.cmp .Eq (.call 2 [(.var 16),(.var 9)]) (.slice (.var 6) (.const (.none)) (.const (.none)) (.un .USub (.const (.int 1)))))]
noncomputable def enF(m0 m1 m2 m3 m4 m5 s6 m7 m8:Sl)(w:Nat)(X:Int)(m11 m12:Sl)(E0 E1:Int)(s14 s15 s16 s17:Sl):Ro:=[m0,m1,m2,m3,m4,m5,s6,m7,m8,iv w,.val (.int X),m11,m12,.val (li [E0,E1]),s14,s15,s16,s17]
variable{m0 m1 m2 m3 m4 m5 s6 m7 m8 m11 m12 s14 s15 s16 s17:Sl}{w:Nat}{X E0 E1:Int}
theorem zZ{v s:Int}{k c:Nat}(hX:Lw w X 1 0)(hw:w<=1415)(hv:Lw w v k c)(hs:0<=s/\s<=300)(h:k*1415+c+1+(1*1415+0+1)<=134217728)(hc:9<=c):
  exs Φ N ylB (enF m0 m1 m2 m3 m4 m5 s6 m7 m8 w X m11 m12 E0 E1 s14 s15 (.val (.int v)) (.val (.int s)))=some (.nxt (enF m0 m1 m2 m3 m4 m5 s6 m7 m8 w X m11 m12 E0 E1 s14 s15 (.val (.int (v*X+s))) (.val (.int s))))/\Lw w (v*X+s) (k+1) (c+1):=
 ⟨(ae (bO (aP (aL (aN rfl) (aN rfl) (dE (hv.room hX hw h))) (aN rfl) rfl) (bg rfl))).trans rfl,(hv.mul hX).add (Lw.le (c:=9) hs.1 hs.2 (.num (n:=300) (by decide))) ⟨bS _,bS _⟩ ⟨cO _,hc⟩⟩
theorem ER(h2:Φ 2=i2dV){z0 z1 z2 z3 z4 V:Int}(hw:16<=w)(hw2:w<=1415)(hX:X=2^w)(b0:1<=z0/\z0<=300)(b1:0<=z1/\z1<=300)(b2:0<=z2/\z2<=300)(b3:0<=z3/\z3<=300)(b4:0<=z4/\z4<=300)(hV:(((((0*X+z0)*X+z1)*X+z2)*X+z3)*X+z4)=V)(E:EN Φ X V E0 E1):
  ∃ρ',exs Φ N y2S (enF m0 m1 m2 m3 m4 m5 (.own ([z0,z1,z2,z3,z4].map .int)) m7 m8 w X m11 m12 E0 E1 s14 s15 s16 s17)=some (.ret (.bool true) ρ'):=by
 obtain lX:Lw w X 1 0:=hX▸(zS w).1;obtain lX':Lw w (X-1) 1 0:=hX▸(zS w).2;obtain iX:=lX.ib hw2;obtain iX':=lX'.ib hw2;obtain st:=fun{v s:Int}{k c:Nat}=>zZ (Φ:=Φ) (N:=N) (m0:=m0) (m1:=m1) (m2:=m2) (m3:=m3) (m4:=m4) (m5:=m5) (s6:=.val (li [z0,z1,z2,z3,z4])) (m7:=m7) (m8:=m8) (m11:=m11) (m12:=m12) (E0:=E0) (E1:=E1) (s14:=.val (.int (X^4*E1))) (s15:=.val (.int (E0*(X-1)^2))) (v:=v) (s:=s) (k:=k) (c:=c) lX hw2;obtain u1:=st (v:=0) (k:=0) (c:=9) (.num (n:=0) (by decide)) ⟨aY (by decide) b0.1,b0.2⟩ (by decide) (by decide);obtain u2:=st u1.2 b1 (by decide) (by decide);obtain u3:=st u2.2 b2 (by decide) (by decide);obtain u4:=st u3.2 b3 (by decide) (by decide);obtain u5:=st u4.2 b4 (by decide) (by decide);obtain lp:=(ax (p:=.one 17) (b:=fun ρ=>exs Φ N ylB ρ) (x:=.int z0) (l:=[.int z1,.int z2,.int z3,.int z4]) (ρ:=enF m0 m1 m2 m3 m4 m5 (.val (li [z0,z1,z2,z3,z4])) m7 m8 w X m11 m12 E0 E1 (.val (.int (X^4*E1))) (.val (.int (E0*(X-1)^2))) (.val (.int 0)) s17) rfl u1.1).trans ((ax rfl u2.1).trans ((ax rfl u3.1).trans ((ax rfl u4.1).trans ((ax rfl u5.1).trans rfl))));rw[hV]at lp;obtain c0:∀{s14 s15 s16 s17:Sl},evb Φ (.cmp .Eq (.var 13) (.list [])) (enF m0 m1 m2 m3 m4 m5 (.own ([z0,z1,z2,z3,z4].map .int)) m7 m8 w X m11 m12 E0 E1 s14 s15 s16 s17)=some false:=fun{_ _ _ _}=>
  bC (aN rfl) rfl (ze [E0,E1] [])
 obtain d1:=E.d1;obtain d2:=E.d2;obtain e14:∀{s14 s15 s16 s17:Sl},ev Φ (.bin .Mult (.bin .Pow (.var 10) (.const (.int 4))) (.sub (.var 13) (.const (.int 1)))) (enF m0 m1 m2 m3 m4 m5 (.own ([z0,z1,z2,z3,z4].map .int)) m7 m8 w X m11 m12 E0 E1 s14 s15 s16 s17)=some (.int (X^4*E1)):=fun{_ _ _ _}=>
  aP (aL (aN rfl) rfl (ko (n:=4) (by lia))) (fO (aN rfl) rfl rfl) (dE E.top)
 obtain e15:∀{s14 s15 s16 s17:Sl},ev Φ (.bin .Mult (.sub (.var 13) (.const (.int 0))) (.bin .Pow (.bin .Sub (.var 10) (.const (.int 1))) (.const (.int 2)))) (enF m0 m1 m2 m3 m4 m5 (.own ([z0,z1,z2,z3,z4].map .int)) m7 m8 w X m11 m12 E0 E1 s14 s15 s16 s17)=some (.int (E0*(X-1)^2)):=fun{_ _ _ _}=>
  aP (fO (aN rfl) rfl rfl) (aL (aL (aN rfl) rfl rfl) rfl (ko (n:=2) (by lia))) (dE E.bot)
 obtain vb:=E.vb;obtain di:i2dV [.int V,.int (w:Int)]=some (li [z4,z3,z2,z1,z0]):=by
  obtain p9:(300:Int)<2^w:=eI (b:=2^16) (by decide) (by exact_mod_cast i0 (by decide:0<2) hw);obtain this:=DT (w:=w) (ai (by decide) hw) (ai hw2 (by decide)) (l:=[z4,z3,z2,z1]) (t:=z0) (List.forall_mem_cons.mpr ⟨⟨b4.1,gA b4.2 p9⟩,List.forall_mem_cons.mpr ⟨⟨b3.1,gA b3.2 p9⟩,List.forall_mem_cons.mpr ⟨⟨b2.1,gA b2.2 p9⟩,List.forall_mem_cons.mpr ⟨⟨b1.1,gA b1.2 p9⟩,List.forall_mem_cons.mpr ⟨⟨aY (by decide) b0.1,gA b0.2 p9⟩,fun U h=>nomatch h⟩⟩⟩⟩⟩) b0.1 (by show 4<=1000;decide);obtain e:aU w ([z4,z3,z2,z1]++[z0])=V:=by
   rw[<-hV,hX];show z4+2^w*(z3+2^w*(z2+2^w*(z1+2^w*(z0+2^w*0))))=_;generalize (2:Int)^w=Y;grind
  rw[e]at this;exact this
 generalize X^4*E1=top at *;generalize E0*(X-1)^2=bot at *;obtain c1:evb Φ (.cmp .NotEq (.call 5 [(.var 14),(.var 15)]) (.tuple [(.var 16),(.bin .Sub (.var 14) (.bin .Mult (.var 16) (.var 15)))])) (enF m0 m1 m2 m3 m4 m5 (.val (li [z0,z1,z2,z3,z4])) m7 m8 w X m11 m12 E0 E1 (.val (.int top)) (.val (.int bot)) (.val (.int V)) (.val (.int z4)))=some false:=
  bC (bZ (am (dA rfl) (am (dA rfl) rfl)) d1) (C3 (am (dA rfl) (am (aP (aN rfl) (aL (aN rfl) (aN rfl) (dE vb)) rfl) rfl)) (by show 2<=szLine;decide)) (uE _ _)
 obtain c2:evb Φ (.cmp .NotEq (.call 5 [(.un .USub (.var 14)),(.var 15)]) (.tuple [(.bin .Sub (.un .USub (.var 16)) (.const (.int 1))),(.bin .Sub (.bin .Add (.bin .Mult (.var 16) (.var 15)) (.var 15)) (.var 14))])) (enF m0 m1 m2 m3 m4 m5 (.val (li [z0,z1,z2,z3,z4])) m7 m8 w X m11 m12 E0 E1 (.val (.int top)) (.val (.int bot)) (.val (.int V)) (.val (.int z4)))=some false:=
  bC (bZ (am (lx (dA rfl) rfl) (am (dA rfl) rfl)) d2) (C3 (am (aP (Gp (dA rfl) rfl) rfl rfl) (am (aP (aL (aL (aN rfl) (aN rfl) (dE vb)) (aN rfl) rfl) (aN rfl) rfl) rfl)) (by show 2<=szLine;decide)) (uE _ _)
 obtain c3:ev Φ (.cmp .Eq (.call 2 [(.var 16),(.var 9)]) (.slice (.var 6) (.const (.none)) (.const (.none)) (.un .USub (.const (.int 1))))) (enF m0 m1 m2 m3 m4 m5 (.val (li [z0,z1,z2,z3,z4])) m7 m8 w X m11 m12 E0 E1 (.val (.int top)) (.val (.int bot)) (.val (.int V)) (.val (.int z4)))=some (.bool true):=by
  obtain e1:evp Φ (.call 2 [(.var 16),(.var 9)]) (enF m0 m1 m2 m3 m4 m5 (.val (li [z0,z1,z2,z3,z4])) m7 m8 w X m11 m12 E0 E1 (.val (.int top)) (.val (.int bot)) (.val (.int V)) (.val (.int z4)))=some (li [z4,z3,z2,z1,z0]):=
   bZ (am (dA rfl) (am (dA rfl) rfl)) ((congrFun h2 _).trans di)
  obtain e2:evp Φ (.slice (.var 6) (.const (.none)) (.const (.none)) (.un .USub (.const (.int 1)))) (enF m0 m1 m2 m3 m4 m5 (.val (li [z0,z1,z2,z3,z4])) m7 m8 w X m11 m12 E0 E1 (.val (.int top)) (.val (.int bot)) (.val (.int V)) (.val (.int z4)))=some (li [z4,z3,z2,z1,z0]):=
   lI (aN rfl) rfl rfl rfl rfl rfl rfl (sv _ _ _ _ _)
  obtain e3:=ze [z4,z3,z2,z1,z0] [z4,z3,z2,z1,z0];rw[fu]at e3;exact(bd e1).trans ((bd e2).trans (aq (Option.map Internal.V.bool) e3))
 obtain fi:eu Φ (.exp (.var 6)) (enF m0 m1 m2 m3 m4 m5 (.val (li [z0,z1,z2,z3,z4])) m7 m8 w X m11 m12 E0 E1 (.val (.int top)) (.val (.int bot)) (.val (.int 0)) s17)=some [.int z0,.int z1,.int z2,.int z3,.int z4]:=lQ rfl (by show 5<=1000000;decide);refine Ret.itN (ρ':=enF m0 m1 m2 m3 m4 m5 (.own ([z0,z1,z2,z3,z4].map .int)) m7 m8 w X m11 m12 E0 E1 s14 s15 s16 s17) rfl c0 rfl ?_;refine .nxt (bO e14 (bg rfl)) (.nxt (bO (e15 (s14:=.val (.int top))) (bg rfl)) (.nxt (ρ':=enF m0 m1 m2 m3 m4 m5 (.own ([z0,z1,z2,z3,z4].map .int)) m7 m8 w X m11 m12 E0 E1 (.val (.int top)) (.val (.int bot)) (.val (.int 0)) s17) rfl ?_));refine .nxt ((dG fi).trans lp) ?_;exact Ret.itN (ρ':=enF m0 m1 m2 m3 m4 m5 (.val (li [z0,z1,z2,z3,z4])) m7 m8 w X m11 m12 E0 E1 (.val (.int top)) (.val (.int bot)) (.val (.int V)) (.val (.int z4))) rfl c1 rfl (Ret.itN (ρ':=enF m0 m1 m2 m3 m4 m5 (.val (li [z0,z1,z2,z3,z4])) m7 m8 w X m11 m12 E0 E1 (.val (.int top)) (.val (.int bot)) (.val (.int V)) (.val (.int z4))) rfl c2 rfl (.ret rfl c3))
end
end
section
section
variable{Φ:Fun}{N:Nat}
theorem vV{a b c d:Int}{s0:Sl}:pB (s0::.val (li [a,b,c,d])::gE 16)=some (.unb::.val (li [a,b,c,d])::gE 16):=by
 obtain h1:l9 (s0::.val (li [a,b,c,d])::gE 16) 1=some (li [a,b,c,d]):=rfl;obtain h2:eC (li [a,b,c,d])=some ([a,b,c,d].map V.int):=rfl;exact(bd h1).trans ((bd h2).trans ((bd (dS _)).trans (af (by show 4≠6;decide))))
theorem FI{H WS RU:V}{n0 n1:Nat}{w0 w1:List Nat}(m0:n0<=1114111)(m1:n1<=1114111):ev Φ mh.et (.unb::.val H::.val (ln [n0,n1])::.val WS::.val RU::gE 13)=some (.str (txt n0 n1 (tk w0 w1 0))):=by
 obtain c:∀{n:Nat},n<=1114111->biV .chr [.int (n:Int)]=some (.str [n]):=fun{n} h=>af ⟨cF n,by lia⟩;exact aP (aL (aL rfl (xP (f7 (fO (aN rfl) rfl rfl) rfl) (c m0)) rfl) rfl rfl) (xP (f7 (fO (aN rfl) rfl rfl) rfl) (c m1)) rfl
theorem yq{Φe:Fun}(L:LF3 Φ)(h5:Φe 5=jG 2){ns:List Int}(hn:ns.length<=63):∃ρ',wa Φ Φe mh (fb mh.px [li ns])=some (.ret (.bool true) ρ'):=by
 have e0:=yO (Φ:=Φ) (ns:=ns) (r:=gE 17) (ai hn (by decide));have e0:ev Φ Ck (.val (li ns)::gE 17)=some (li [fq ns (0,0),fq ns (1,98),fq ns (2,167),fq ns (3,8084)]):=e0;generalize fq ns (0,0)=a at e0;generalize fq ns (1,98)=b at e0;generalize fq ns (2,167)=c at e0;generalize fq ns (3,8084)=d at e0;obtain b0:=(kU a).1;obtain b1:=(kU a).2.1;obtain b2:=(kU a).2.2.1;obtain b3:=(kU a).2.2.2;obtain ya:=EQ (N:=1) L (h0:=a) (h1:=b) (h2:=c) (h3:=d) (r:=gE 14) rfl;generalize n0F a=n0 at *;generalize n1F a=n1 at *;obtain k0:=tV b;obtain k1:=tV c;generalize wd b=w0 at *;generalize wd c=w1 at *;obtain⟨s7,s8,t,yb⟩:=EP (N:=1) L (n0:=n0) (n1:=n1) (w0:=w0) (w1:=w1) (a:=a) (b:=b) (c:=c) (d:=d) b0 (by lia) (by lia) (by lia) (by lia) k0 k1;have wb:=BR d;generalize wF d=w at *;obtain hX:(65536:Int)<=2^w:=by
  have:(2:Int)^16<=2^w:=by exact_mod_cast i0 (by decide:0<2) wb.1
  have p16':(2:Int)^16=65536:=by decide
  lia
 have S:=wX hX k0 k1;obtain⟨E0,E1,el,en⟩:=S.ends (zS w).1 wb.2 (D4 d) h5;have sb:∀k,k<=4->3<=szF w0 w1 k/\szF w0 w1 k<=300:=fun k hk=>by
  have:=S.Lk 0 k hk;have:=S.Lk 3 k hk;unfold szF;lia
 obtain q0:=sb 0 (by decide);obtain q1:=sb 1 (by decide);obtain q2:=sb 2 (by decide);obtain q3:=sb 3 (by decide);obtain q4:=sb 4 (by decide);obtain hV:(((((0*(2:Int)^w+szF w0 w1 0)*2^w+szF w0 w1 1)*2^w+szF w0 w1 2)*2^w+szF w0 w1 3)*2^w+szF w0 w1 4)=fG (2^w) (lW w0 w1):=by
  unfold szF fG;generalize (2:Int)^w=X;obtain c0:((0:Nat):Int)=0:=rfl;obtain c1:((1:Nat):Int)=1:=rfl;obtain c2:((2:Nat):Int)=2:=rfl;obtain c3:((3:Nat):Int)=3:=rfl;obtain c4:((4:Nat):Int)=4:=rfl;simp only[c0,c1,c2,c3,c4];grind
 obtain ee:=FM (Φ:=Φ) (f:=eM (2^w) (nW w0 w1) (sW w0 w1) (dW w0 w1)) (ρ:=lwF [a,b,c,d] (ln [n0,n1]) (.lst [ln (w0.map (sg n0 n1)),ln (w1.map (sg n0 n1))]) (rls n0 n1 (w0.map (sg n0 n1)) (w1.map (sg n0 n1))) t [szF w0 w1 0,szF w0 w1 1,szF w0 w1 2,szF w0 w1 3,szF w0 w1 4] s7 s8 w (2^w) (eM (2^w) (nW w0 w1) (sW w0 w1) (dW w0 w1))) (a:=a) (b:=b) (c:=c) (d:=d) rfl rfl rfl;have y2:=fun{m0 m1 m2 m3 m4 m5 m7 m8 m11 m12 s14 s15 s16 s17:Sl}=>ER (Φ:=Φ) (N:=1) (m0:=m0) (m1:=m1) (m2:=m2) (m3:=m3) (m4:=m4) (m5:=m5) (m7:=m7) (m8:=m8) (m11:=m11) (m12:=m12) (s14:=s14) (s15:=s15) (s16:=s16) (s17:=s17) (w:=w) (X:=2^w) (E0:=E0) (E1:=E1) L.i2d wb.1 wb.2 rfl ⟨by lia,q0.2⟩ ⟨by lia,q1.2⟩ ⟨by lia,q2.2⟩ ⟨by lia,q3.2⟩ ⟨by lia,q4.2⟩ hV (by
  exact⟨en.top,en.bot,by simp only[L.idm,<-h5];exact en.d1,by simp only[L.idm,<-h5];exact en.d2,en.vb⟩)
 obtain et:=FI (Φ:=Φ) (H:=li [a,b,c,d]) (WS:=.lst [ln (w0.map (sg n0 n1)),ln (w1.map (sg n0 n1))]) (RU:=rls n0 n1 (w0.map (sg n0 n1)) (w1.map (sg n0 n1))) (n0:=n0) (n1:=n1) (w0:=w0) (w1:=w1) (by lia) (by lia);obtain x0:ex Φ 1 mh.y0 (fb mh.px [li ns])=some (.nxt (.val (li ns)::.val (li [a,b,c,d])::gE 16)):=bO e0 (bg rfl);generalize hF:eM (2^w) (nW w0 w1) (sW w0 w1) (dW w0 w1)=f at *;generalize hR:rls n0 n1 (w0.map (sg n0 n1)) (w1.map (sg n0 n1))=RU at *;generalize hW:V.lst [ln (w0.map (sg n0 n1)),ln (w1.map (sg n0 n1))]=WS at *;obtain hm:(msk (lwF [a,b,c,d] (ln [n0,n1]) WS RU t [szF w0 w1 0,szF w0 w1 1,szF w0 w1 2,szF w0 w1 3,szF w0 w1 4] s7 s8 w (2^w) f)).set 13 (.val (li [E0,E1])) =
   enF (bif eo .unb then .unb else .unb) (bif eo (.val (li [a,b,c,d]))then .val (li [a,b,c,d])else .unb) (bif eo (.val (ln [n0,n1]))then .val (ln [n0,n1])else .unb) (bif eo (.val WS)then .val WS else .unb) (bif eo (.val RU)then .val RU else .unb) (bif eo (.val (.str t))then .val (.str t)else .unb) (.own ([szF w0 w1 0,szF w0 w1 1,szF w0 w1 2,szF w0 w1 3,szF w0 w1 4].map .int)) (bif eo s7 then s7 else .unb) (bif eo s8 then s8 else .unb) w (2^w) (bif eo (.val (liM (mxF f)))then .val (liM (mxF f))else .unb) (bif eo (.val (liM (mxF fun i j=>-f i j)))then .val (liM (mxF fun i j=>-f i j))else .unb) E0 E1 .unb .unb .unb .unb:=rfl
 obtain⟨ρ',y2⟩:=y2 (m0:=(bif eo .unb then .unb else .unb)) (m1:=(bif eo (.val (li [a,b,c,d]))then .val (li [a,b,c,d])else .unb)) (m2:=(bif eo (.val (ln [n0,n1]))then .val (ln [n0,n1])else .unb)) (m3:=(bif eo (.val WS)then .val WS else .unb)) (m4:=(bif eo (.val RU)then .val RU else .unb)) (m5:=(bif eo (.val (.str t))then .val (.str t)else .unb)) (m7:=(bif eo s7 then s7 else .unb)) (m8:=(bif eo s8 then s8 else .unb)) (m11:=(bif eo (.val (liM (mxF f)))then .val (liM (mxF f))else .unb)) (m12:=(bif eo (.val (liM (mxF fun i j=>-f i j)))then .val (liM (mxF fun i j=>-f i j))else .unb)) (s14:=.unb) (s15:=.unb) (s16:=.unb) (s17:=.unb);simp only[<-hm]at y2;refine⟨ρ',?_⟩;unfold wa;refine(bd x0).trans ((bd (x:=_) rfl).trans ((bd vV).trans ?_));refine(bd ya).trans ((bd (x:=_) rfl).trans ((bd et).trans ?_));refine(bd yb).trans ((bd (x:=_) rfl).trans ((bd ee).trans ((bd el).trans ?_)));exact y2
end
theorem wh{ns:List Int}{m:Nat}(hm:m<=1048576)(hn:¬((63:Int)<(ns.length:Int)))(hw:∀n∈ns,ibits n<=m):yo jc pY z9 1 mh [.lst (ns.map .int)]=some (.bool true):=by
 obtain⟨ρ',e⟩:=yq lf3 (Φe:=lvΦ jc jc.length) ((eK (fs:=jc) (by decide) 4).trans py5) (ns:=ns) (by lia);exact(af rfl).trans (bd e)
end
set_option tactic.hygienic true
noncomputable def Gl:List (Nat×Nat×Nat×Nat):=[(88,4,88,5),(88,8,88,12),(88,13,88,21),(88,8,88,22),(88,4,88,22),(89,4,89,7),(89,10,89,11),(89,14,89,16),(89,10,89,16),(89,4,89,16),(90,10,90,11),(90,14,90,16),(90,10,90,16),(91,8,91,11),(91,16,91,17),(91,8,91,17),(92,8,92,9),(92,12,92,16),(92,17,92,25),(92,12,92,26),(92,8,92,26),(93,8,93,11),(93,15,93,16),(93,19,93,21),(93,15,93,21),(93,8,93,21),(90,4,93,21),(94,11,94,14),(94,4,94,14)]
noncomputable def Fb:List (Nat×Nat×Nat×Nat):=[(57,14,57,15),(57,17,57,18),(58,11,58,12),(58,15,58,16),(58,11,58,16),(58,20,58,21),(58,11,58,21),(59,19,59,25),(59,26,59,27),(59,19,59,28),(59,12,59,28),(58,8,59,28),(60,8,60,11),(60,14,60,15),(60,18,60,19),(60,14,60,19),(60,23,60,24),(60,14,60,24),(60,8,60,24),(61,8,61,13),(61,17,61,20),(61,23,61,24),(61,17,61,24),(61,28,61,29),(61,16,61,29),(61,8,61,29),(62,16,62,21),(62,22,62,25),(62,27,62,28),(62,16,62,29),(62,33,62,38),(62,16,62,38),(62,42,62,47),(62,48,62,49),(62,51,62,54),(62,42,62,55),(62,15,62,55),(62,8,62,55),(57,4,62,55),(63,36,63,42),(63,11,63,16),(63,17,63,18),(63,20,63,23),(63,24,63,30),(63,20,63,31),(63,11,63,32),(63,48,63,49),(63,11,63,49),(63,4,63,49)]
noncomputable def Fa:List (Nat×Nat×Nat×Nat):=[(42,14,42,15),(42,17,42,18),(42,20,42,21),(43,11,43,12),(43,15,43,16),(43,11,43,16),(43,20,43,21),(43,11,43,21),(44,12,44,20),(44,21,44,22),(44,12,44,23),(44,26,44,27),(44,12,44,27),(45,12,45,18),(43,8,45,18),(46,8,46,11),(46,14,46,15),(46,18,46,19),(46,14,46,19),(46,23,46,24),(46,14,46,24),(46,8,46,24),(47,8,47,13),(47,17,47,20),(47,23,47,24),(47,17,47,24),(47,28,47,29),(47,16,47,29),(47,8,47,29),(48,8,48,13),(48,16,48,17),(48,21,48,26),(48,16,48,26),(48,8,48,26),(49,8,49,13),(49,16,49,17),(49,20,49,25),(49,29,49,34),(49,20,49,34),(49,16,49,34),(49,8,49,34),(50,8,50,13),(50,14,50,19),(50,21,50,22),(50,24,50,27),(50,8,50,28),(50,8,50,28),(51,8,51,13),(51,14,51,19),(51,21,51,24),(51,26,51,27),(51,8,51,28),(51,8,51,28),(40,4,40,12),(40,16,40,17),(40,15,40,18),(40,23,40,24),(40,23,40,35),(40,23,40,37),(40,40,40,41),(40,23,40,41),(40,44,40,45),(40,23,40,45),(40,50,40,51),(40,22,40,51),(40,15,40,52),(40,4,40,52),(42,4,51,28),(52,7,52,8),(53,8,53,13),(53,14,53,15),(53,17,53,18),(53,20,53,23),(53,24,53,32),(53,20,53,33),(53,8,53,34),(53,8,53,34),(52,4,53,34),(54,11,54,19),(54,4,54,19)]
noncomputable def Gk:List (Nat×Nat×Nat×Nat):=[(100,11,100,21),(100,11,100,25),(100,26,100,30),(100,32,100,42),(100,32,100,46),(100,47,100,51),(100,53,100,57),(100,32,100,58),(100,11,100,59),(100,4,100,59)]
noncomputable def Gm:List (Nat×Nat×Nat×Nat):=[(180,4,180,8),(180,11,180,12),(180,4,180,12),(181,8,181,9),(181,13,181,18),(181,19,181,20),(181,13,181,21),(182,12,182,13),(182,17,182,22),(182,23,182,24),(182,27,182,28),(182,23,182,28),(182,30,182,31),(182,17,182,32),(183,16,183,17),(183,21,183,26),(183,27,183,28),(183,31,183,32),(183,27,183,32),(183,34,183,35),(183,21,183,36),(184,16,184,22),(184,25,184,30),(184,31,184,32),(184,25,184,33),(184,34,184,35),(184,25,184,36),(184,39,184,44),(184,45,184,46),(184,39,184,47),(184,48,184,49),(184,39,184,50),(184,25,184,50),(184,53,184,58),(184,59,184,60),(184,53,184,61),(184,62,184,63),(184,53,184,64),(184,67,184,72),(184,73,184,74),(184,67,184,75),(184,76,184,77),(184,67,184,78),(184,53,184,78),(184,25,184,78),(184,16,184,78),(185,19,185,20),(185,23,185,24),(185,19,185,24),(186,20,186,24),(186,27,186,37),(186,38,186,44),(186,46,186,50),(186,27,186,51),(186,20,186,51),(187,23,187,27),(187,32,187,38),(187,42,187,46),(187,32,187,46),(187,48,187,49),(187,31,187,50),(187,23,187,50),(188,31,188,33),(188,24,188,33),(187,20,188,33),(189,20,189,26),(189,29,189,33),(189,34,189,35),(189,29,189,36),(189,20,189,36),(185,16,189,36),(190,16,190,21),(190,22,190,23),(190,16,190,24),(190,25,190,26),(190,16,190,27),(190,30,190,36),(190,16,190,36),(183,12,190,36),(182,8,190,36),(191,8,191,12),(191,15,191,20),(191,21,191,22),(191,15,191,23),(191,24,191,25),(191,15,191,26),(191,8,191,26),(181,4,191,26),(192,11,192,16),(192,17,192,18),(192,11,192,19),(192,20,192,21),(192,20,192,22),(192,11,192,23),(192,4,192,23)]
noncomputable def m1a:Mk:=⟨79,75,sK Fb 38,((("_digits2int" : Str) ++ ".<locals>.") ++ "inner")⟩
noncomputable def m1b:Mk:=⟨72,68,sK Fa 67,((("_int2digits" : Str) ++ ".<locals>.") ++ "inner")⟩
noncomputable def tb3:Tb:=Gn ["_law_tape", "_law_word", "_law_grown", "_law_table"] [] 0
noncomputable def as3:List Addr:=[59,66,73,80,87,94,118,38,45,52,125,130,142,152]
end Mine.Internal
open Mine.Internal in
set_option maxRecDepth 100000 in
set_option maxHeartbeats 8000000 in
theorem PySem.Challenge.cw_uc0005_03_holds : PySem.Challenge.rw_uc0005_03.Holds := by
 w_on
 refine PySem.W.holds_law (show _ = true by kernel_rfl) fun said=>?_
 k_head
 (case hw=>w_witness2)
 k_fill
 intro w s₀ s₁ mg mb G Y fa o pm cd doc dV kV ho hd hcd hD hmg hg args vals as hpre hlay hrd hwl hlo
 have KX:=km_in_of Y
 km_tabs Y
 have X:=(Ground.X G).1
 have V:=(Ground.X G).2
 refine Ground.open G ?_
 intro T B D TE TW
 try (refine guard_noD D (by decide +kernel) ?_;clear D)
 km_lay T hmg ho hd cd
 wrow_args hpre hlay hrd hwl hlo
 all_goals (
  first | refine callC_kw (enter_call ?_) | refine enter_call ?_
  w_top on
  kn_posts
  refine xA (m1:=m1a) (m2:=m1b) (tb:=tb3) (as:=as3) (pv:=101) (qp:=sK Gl) (qd:=sK Fb) (qi:=sK Fa) (qs:=sK Gk) (fs:=jc) (hn := "_law_rules") (hk:=137) (hf:=pY) (dn := "_law_due") (dk:=147) (df:=z9) (en := "_law_eliminated") (ek:=159) (eq:=sK Gm) (la:=164) (ps:=["script"]) (ow:=["sizes"]) (t:=mh) (Dm KX T hT9) ?_ hmg (by assumption) (by assumption) (by assumption) (wh (Nat.le_refl 1048576) (by assumption) (fun n h=>intBits_le_of_item h (by assumption))) (by first | kernel_rfl | rfl | trace_state) (fun _=>by first | kernel_rfl | rfl) hg
  refine ⟨by kernel_rfl,by kernel_rfl,by kernel_rfl,by decide,by decide,by decide,⟨by kernel_rfl,rfl,by kernel_rfl,rfl,by kernel_rfl,fun _=>by show _ = _;kernel_rfl,by kernel_rfl,fun _ _=>by show _ = _;kernel_rfl,by kernel_rfl,by kernel_rfl,rfl,rfl,fun _ _=>by show _ = _;kernel_rfl,by kernel_rfl,by kernel_rfl,rfl,rfl,by kernel_rfl,fun _=>by show _ = _;kernel_rfl,by kernel_rfl,by kernel_rfl,by kernel_rfl,by kernel_rfl,by kernel_rfl,by kernel_rfl,⟨fun _ _ _=>by show _ = _;kernel_rfl,by kernel_rfl⟩,⟨fun _ _ _ _ _ _=>by show _ = _;kernel_rfl,by kernel_rfl⟩,⟨fun _ _=>by show _ = _;kernel_rfl,by kernel_rfl⟩,⟨fun _ _=>by show _ = _;kernel_rfl,by kernel_rfl⟩,⟨fun _=>by show _ = _;kernel_rfl,by kernel_rfl⟩,⟨fun _=>by show _ = _;kernel_rfl,by kernel_rfl⟩,⟨fun _=>by show _ = _;kernel_rfl,by kernel_rfl⟩⟩,
   by decide,⟨⟨fun _=>by show _ = _;kernel_rfl,by kernel_rfl⟩,⟨fun _ _=>by show _ = _;kernel_rfl,by kernel_rfl⟩,⟨fun _ _=>by show _ = _;kernel_rfl,by kernel_rfl⟩,⟨fun _ _ _=>by show _ = _;kernel_rfl,by kernel_rfl⟩,trivial⟩,by kernel_rfl,⟨fun _=>by show _ = _;kernel_rfl,by kernel_rfl⟩,by kernel_rfl,⟨fun _=>by show _ = _;kernel_rfl,by kernel_rfl⟩,by kernel_rfl,fun _=>by show _ = _;kernel_rfl,by kernel_rfl,by decide,by kernel_rfl,fun _=>by show _ = _;kernel_rfl,by kernel_rfl,by kernel_rfl,⟨rfl,rfl,rfl⟩,by decide⟩)
